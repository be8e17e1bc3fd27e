/-
The specification's reading of a part: the walk of spec.tokenOf: what it makes. Condition: a text of bounded length.
-/
import Derived.Test.YthfihamhkhnckaaDoorJ1
import Derived.Test.YthfihamhkhnckaaDoorJ2
import Derived.Deep.CutBlock
import Derived.Laws.Pointers
namespace Go.Proofs.YthfihamhkhnckaaDoor
open Go.RowKit Go.ChangeShapes Go.Proofs.YthfihamhkhnckaaDoorW.PrintWords


abbrev tokV (k a b : Int) (aw : Bool) : Value := .agg #[.int .i64 k, .int .i64 a, .int .i64 b, .bool aw]
abbrev tokO (k a b : Int) (aw : Bool) : Obj := .cells #[.int .i64 k, .int .i64 a, .int .i64 b, .bool aw] 34 (0, 0)
/-- A part with its sign R has the body S, letters. -/
def Sgn (R S : ByteArray) (aw : Bool) : Prop :=
  (R.toList == [101, 118, 101, 110]) = false ∧ (R.toList == [111, 100, 100]) = false ∧
    (R.toList.isEmpty = true ∧ aw = false ∧ R = S ∨
      ∃ hr : 0 < R.size, R.toList.isEmpty = false ∧
        ((((R[0]'hr).toNat : Int) = 33 ∧ aw = true ∧ R.extract 1 R.size = S) ∨ (((R[0]'hr).toNat : Int) = 110 ∧ aw = true ∧ R.extract 1 R.size = S) ∨
          (∃ x : Int, ((R[0]'hr).toNat : Int) = x ∧ (x == 33) = false ∧ (x == 110) = false ∧ aw = false ∧ R = S)))
/-- The two blocks that reading a part makes. -/
structure Fr (w : World) (k a b : Int) (aw : Bool) (wc : World) : Prop where
  res : wc.heap[w.heap.size]? = some (tokO 0 0 0 false)
  tok : wc.heap[w.heap.size + 1]? = some (tokO k a b aw)
  below : Below w.heap.size w wc
theorem Fr.of (w : World) (aw : Bool) : Fr w 0 0 0 aw ((w.alloc (tokO 0 0 0 false)).alloc (tokO 0 0 0 aw)) :=
  ⟨blk_alloc (blk_new w _) _, by have := blk_new (w.alloc (tokO 0 0 0 false)) (tokO 0 0 0 aw); rwa [World.size_alloc] at this, below_alloc (below_alloc (Below.refl _ w) _) _⟩
theorem Fr.step {w w1 w2 : World} {k a b : Int} {aw : Bool} (h : Fr w k a b aw w1) (hB : Below w1.heap.size w1 w2) : Fr w k a b aw w2 :=
  ⟨blk_below h.res hB, blk_below h.tok hB, below_step h.below hB⟩
theorem Fr.facts {w wc : World} {k a b : Int} {aw : Bool} (h : Fr w k a b aw wc) :
    wc.cell? ⟨w.heap.size + 1, 0, none⟩ = some (.int .i64 k) ∧ wc.cell? ⟨w.heap.size + 1, 1, none⟩ = some (.int .i64 a) ∧ wc.cell? ⟨w.heap.size + 1, 2, none⟩ = some (.int .i64 b) ∧ wc.cell? ⟨w.heap.size + 1, 3, none⟩ = some (.bool aw) ∧
    wc.frozen? ⟨w.heap.size + 1, 0, none⟩ = false ∧ wc.frozen? ⟨w.heap.size + 1, 1, none⟩ = false ∧ wc.frozen? ⟨w.heap.size + 1, 2, none⟩ = false ∧ wc.frozen? ⟨w.heap.size + 1, 3, none⟩ = false ∧
    wc.cell? ⟨w.heap.size, 0, none⟩ = some (.int .i64 0) ∧ wc.cell? ⟨w.heap.size, 1, none⟩ = some (.int .i64 0) ∧ wc.cell? ⟨w.heap.size, 2, none⟩ = some (.int .i64 0) ∧ wc.cell? ⟨w.heap.size, 3, none⟩ = some (.bool false) ∧
    wc.frozen? ⟨w.heap.size, 0, none⟩ = false ∧ wc.frozen? ⟨w.heap.size, 1, none⟩ = false ∧ wc.frozen? ⟨w.heap.size, 2, none⟩ = false ∧ wc.frozen? ⟨w.heap.size, 3, none⟩ = false ∧ w.heap.size ≠ w.heap.size + 1 ∧ w.heap.size + 1 ≠ w.heap.size :=
  ⟨(blk_cell h.tok 0).trans rfl, (blk_cell h.tok 1).trans rfl, (blk_cell h.tok 2).trans rfl, (blk_cell h.tok 3).trans rfl, blk_frozen h.tok 0, blk_frozen h.tok 1, blk_frozen h.tok 2, blk_frozen h.tok 3,
    (blk_cell h.res 0).trans rfl, (blk_cell h.res 1).trans rfl, (blk_cell h.res 2).trans rfl, (blk_cell h.res 3).trans rfl, blk_frozen h.res 0, blk_frozen h.res 1, blk_frozen h.res 2, blk_frozen h.res 3, by omega, by omega⟩
theorem Fr.put {w w1 : World} {aw : Bool} (h : Fr w 0 0 0 aw w1) (n : Int) : Fr w 2 n 0 aw ((w1.setCell ⟨w.heap.size + 1, 0, none⟩ (.int .i64 2)).setCell ⟨w.heap.size + 1, 1, none⟩ (.int .i64 n)) :=
  ⟨blk_far (blk_far h.res (by show w.heap.size ≠ w.heap.size + 1; omega) _) (by show w.heap.size ≠ w.heap.size + 1; omega) _,
    blk_put (cs := #[.int .i64 2, .int .i64 0, .int .i64 0, .bool aw]) (blk_put (cs := #[.int .i64 0, .int .i64 0, .int .i64 0, .bool aw]) h.tok 0 _ rfl) 1 _ rfl,
    below_set (below_set h.below (Nat.le_succ _)) (Nat.le_succ _)⟩
/-- Digits that reach a text's end. -/
theorem DigitsOk.whole {a t : List UInt8} {n m : Int} (h : DigitsOk (a ++ t) a n m true) (hm : m = ((a ++ t).length : Nat)) : Num t ∧ n = (val t : Nat) := by
  obtain ⟨e', rfl, h1, h2, h3⟩ := h
  obtain ⟨q, r, h4, h5, h6, h7⟩ := h3 rfl
  have h8 := List.append_cancel_left h4
  have : (a ++ t).length = a.length + (q.length + r.length) := by rw [h4]; simp
  have hr : r = [] := List.eq_nil_of_length_eq_zero (by omega)
  rw [hr, List.append_nil] at h8
  rw [h8]
  exact ⟨h5, h6⟩
theorem bs_self (S : ByteArray) : bs S.toList = S := by rw [ByteArray.toList_eq]; cases S with | mk d => cases d; rfl
/-- Digits read at place j of letters. -/
def Dg (S : ByteArray) (j : Nat) (n m : Int) (is : Bool) : Prop := DigitsOk S.toList (S.toList.take j) n m is
theorem size_toList (S : ByteArray) : S.toList.length = S.size := by rw [ByteArray.toList_eq]; cases S with | mk d => cases d; rfl
theorem Dg.at_place {S : ByteArray} {j : Nat} {n m : Int} (h : Dg S j n m true) : ∃ M : Nat, m = (M : Int) ∧ M ≤ S.size := by
  obtain ⟨e', rfl, _, h2, _⟩ := h
  exact ⟨e', rfl, by rw [← size_toList]; exact h2⟩
theorem digits_at (S : ByteArray) (j : Nat) (hj : j ≤ S.size) (hs : S.size ≤ 2147483647) (w : World) :
    Calls Tryd.prog 25 #[.string S, .int .i64 (j : Int)] w fun e w' => ∃ n m is, e = .returned (.tuple #[.int .i64 n, .int .i64 m, .bool is]) ∧ Dg S j n m is ∧ Below w.heap.size w w' := by
  have h1 := size_toList S
  have h := digits_calls (S.toList.take j) (S.toList.drop j) (by rw [List.take_append_drop]; omega) w
  rwa [List.take_append_drop, bs_self, List.length_take, h1, Nat.min_eq_left hj] at h
end Go.Proofs.YthfihamhkhnckaaDoor
