/-
FnBoxListOf: the law's own function walked. Conditions: numbers that lie in memory.
-/
import Derived.Test.YtppailjlfinafaaDoorZ6
namespace Go.Proofs.YtppailjlfinafaaDoor
open Go.RowKit Go.ChangeShapes Go.Proofs.YtppailjlfinafaaDoorW.PrintWords

theorem bs_append (a b : List UInt8) : bs a ++ bs b = bs (a ++ b) := by
  apply ByteArray.ext
  simp [bs]
/-- The flags of the names so far. -/
structure Want (w : World) (g : Nat) (ns : List Nat) : Prop where
  cell : ∀ j, j < 5 → w.cell? ⟨g, j, none⟩ = some (.bool (ns.contains j))
  open_ : ∀ j, j < 5 → w.frozen? ⟨g, j, none⟩ = false
  lt : g < w.heap.size
theorem Want.below {w w' : World} {g : Nat} {ns : List Nat} (h : Want w g ns) (hb : Below w.heap.size w w') : Want w' g ns :=
  ⟨fun i hi => pw_cell_below hb (h.cell i hi), fun i hi => (World.frozen?_of_block (hb.block g h.lt)).trans (h.open_ i hi), by have := hb.size; have := h.lt; omega⟩
theorem Want.set {w : World} {g n : Nat} {ns : List Nat} (h : Want w g ns) (hn : n < 5) : Want (w.setCell ⟨g, n, none⟩ (.bool true)) g (ns ++ [n]) := by
  refine ⟨fun i hi => ?_, fun i hi => ?_, by simp; exact h.lt⟩
  · by_cases e : i = n
    · subst e
      rw [show (ns ++ [i]).contains i = true by simp]
      exact World.cell?_setCell_same _ _ _ (h.cell i hi)
    · rw [World.cell?_setCell_other _ _ _ _ (by intro h; cases h; exact e rfl), h.cell i hi]
      simp [e]
  · rw [World.frozen?_setCell]
    exact h.open_ i hi
theorem Want.new (w : World) (T : TypeId) : Want (w.alloc (.cells #[.bool false, .bool false, .bool false, .bool false, .bool false] T)) w.heap.size [] := by
  have hblk : (w.alloc (.cells #[.bool false, .bool false, .bool false, .bool false, .bool false] T)).heap[w.heap.size]? = some _ := blk_new w _
  refine ⟨fun i hi => ?_, fun i _ => frozen_of_row _ _ i _ _ hblk, by simp⟩
  rw [blk_cell hblk]
  match i, hi with
  | 0, _ => rfl
  | 1, _ => rfl
  | 2, _ => rfl
  | 3, _ => rfl
  | 4, _ => rfl
abbrev namesRow : Obj := .cells #[.string ⟨#[109, 101, 100, 105, 97]⟩, .string ⟨#[99, 114, 111, 112]⟩, .string ⟨#[116, 114, 105, 109]⟩, .string ⟨#[98, 108, 101, 101, 100]⟩, .string ⟨#[97, 114, 116]⟩] 9
theorem names_cell {w : World} {g j : Nat} (h : w.heap[g]? = some namesRow) (hj : j < 5) : w.cell? ⟨g, j, none⟩ = some (.string (bs (nm j))) := by
  rw [blk_cell h]
  match j, hj with
  | 0, _ => rfl
  | 1, _ => rfl
  | 2, _ => rfl
  | 3, _ => rfl
  | 4, _ => rfl
set_option maxRecDepth 100000 in
set_option maxHeartbeats 4000000 in
theorem law_calls (A : Option Addr) (l : List Int) (c : Nat) (w : World) (hC : Kd.C (Kd.int .i64) w A l.length l) :
    Calls Tryd.prog 3 #[.slice A l.length c] w fun e w' => e = .returned (.bool true) ∧ Below w.heap.size w w' := by
  by_cases hbig : 2147483647 < (l.length : Int)
  · go_enter Tryd.func3, Tryd.ntmps3
    go_wp2_with fail
    go_ret
    exact ⟨rfl, Below.refl _ _⟩
  by_cases hz : l.length = 0
  · have hz' : ((l.length : Int) == 0) = true := by simp [hz]
    clear hz
    go_enter Tryd.func3, Tryd.ntmps3
    go_wp2_with fail
    go_ret
    exact ⟨rfl, below_alloc (Below.refl _ _) _⟩
  have hz' : ((l.length : Int) == 0) = false := beq_eq_false_iff_ne.2 (by omega)
  by_cases h5 : 5 < (l.length : Int)
  · go_enter Tryd.func3, Tryd.ntmps3
    go_wp2_with fail
    go_ret
    exact ⟨rfl, below_alloc (Below.refl _ _) _⟩
  have HAT : Hid (∀ (k : Nat) (hk : k < l.length) (W : World), Below w.heap.size w W → ∃ ad, A = some ad ∧ W.cell? (ad.add k) = some (.int .i64 l[k])) := Lib.hid fun k hk W hb => by
    obtain ⟨ad, h, hc⟩ := Kd.at_int (Kd.C_below hC hb) (k : Int) (by omega) (by omega)
    refine ⟨ad, h, ?_⟩
    rw [show rd l (k : Int) = l[k] from by simp [rd, hk]] at hc
    simpa using hc
  clear hC
  go_enter Tryd.func3, Tryd.ntmps3
  go_wp2_with fail
  have hsz2 : ((w.alloc namesRow).alloc (.cells #[.bool false, .bool false, .bool false, .bool false, .bool false] 24)).heap.size = w.heap.size + 1 + 1 := by simp
  go_loopw [5, 24] (fun s i wr => ∃ ns : List Nat, ns.length ≤ l.length ∧ i = .int .i64 (ns.length : Int) ∧ s = .string (bs (joinN ns)) ∧ Hid (l.take ns.length = ns.map Int.ofNat ∧ ∀ n ∈ ns, n < 5) ∧ Hid (Want wr (w.heap.size + 1) ns) ∧ Hid (wr.heap[w.heap.size]? = some namesRow) ∧ Below w.heap.size w wr) (fun _ i _ => l.length - (intOf i).toNat)
  case atStart =>
    refine ⟨[], Nat.zero_le _, rfl, rfl, Lib.hid ⟨by simp, by simp⟩, Lib.hid ?_, Lib.hid ?_, below_alloc (below_alloc (Below.refl _ _) _) _⟩
    · have := Want.new (w.alloc namesRow) 24
      simpa using this
    · exact (Below.heap_alloc _ _ _ (by simp)).trans (blk_new _ _)
  case round =>
    obtain ⟨ns, hk, rfl, rfl, hl, hW, hN, hB⟩ := hrel
    have hsn := bs_size (joinN ns)
    have hjl := join_len ns
    by_cases hlt : ns.length < l.length
    · obtain ⟨ad, hA, hx⟩ := HAT.out ns.length hlt wr hB
      subst hA
      have hlt' : (ns.length : Int) < (l.length : Int) := by omega
      have hl' : l.take (ns.length + 1) = ns.map Int.ofNat ++ [l[ns.length]] := by rw [List.take_succ_eq_append_getElem hlt, hl.out.1]
      have hL := Lib.hid (⟨hl', hl.out.2⟩ : l.take (ns.length + 1) = ns.map Int.ofNat ++ [l[ns.length]] ∧ ∀ n ∈ ns, n < 5)
      clear hl' hl
      generalize l[ns.length] = x at hx hL
      by_cases x0 : x < 0
      · clear hsn hjl
        go_wp2_with fail
        go_ret
        exact ⟨rfl, hB⟩
      by_cases x5 : 5 ≤ x
      · clear hsn hjl
        go_wp2_with fail
        go_ret
        exact ⟨rfl, hB⟩
      obtain ⟨n, rfl⟩ : ∃ n : Nat, x = n := ⟨x.toNat, by omega⟩
      have hn5 : n < 5 := by omega
      have hw := hW.out.cell n hn5
      have hwf := hW.out.open_ n hn5
      have hnc := names_cell hN.out hn5
      cases hcn : ns.contains n
      · rw [hcn] at hw
        have hS2 := Lib.hid (hW.out.set hn5)
        have hT := bs_size (nm n)
        have hTl := nm_len n
        have HB := Lib.hid hB
        have hN2 : Hid ((wr.setCell ⟨w.heap.size + 1, n, none⟩ (.bool true)).heap[w.heap.size]? = some namesRow) := Lib.hid ((heap_setCell_other _ _ _ _ (by show w.heap.size ≠ w.heap.size + 1; omega)).trans hN.out)
        have hB2 : Hid (Below w.heap.size w (wr.setCell ⟨w.heap.size + 1, n, none⟩ (.bool true))) := Lib.hid (hB.setCell (Nat.le_succ _) _)
        have hnc2 : (wr.setCell ⟨w.heap.size + 1, n, none⟩ (.bool true)).cell? ⟨w.heap.size, n, none⟩ = some (.string (bs (nm n))) := names_cell hN2.out hn5
        have HF : Hid (l.take (ns ++ [n]).length = (ns ++ [n]).map Int.ofNat ∧ ∀ m ∈ ns ++ [n], m < 5) := Lib.hid ⟨by simpa using hL.out.1, fun m hm => by
          rcases List.mem_append.1 hm with h | h
          · exact hL.out.2 m h
          · rw [List.mem_singleton.1 h]; exact hn5⟩
        by_cases hns : ns = []
        · subst hns
          have hx0 : wr.cell? ad = some (.int .i64 (n : Int)) := by
            have e : ad.add 0 = ad := by cases ad; unfold Addr.add; split <;> simp_all
            rw [List.length_nil, e] at hx; exact hx
          clear hcn hL hN hW hB hx
          go_wp2_with fail
          refine ⟨⟨[n], by simp; omega, rfl, ?_, HF, hS2, hN2, hB2.out⟩, by simp [intOf]; omega⟩
          rw [bs_append]; rfl
        · have hpos : 0 < (ns.length : Int) := by
            have := List.length_pos_iff.2 hns
            omega
          have HE : Hid (bs (joinN ns) ++ ⟨#[44]⟩ ++ bs (nm n) = bs (joinN (ns ++ [n]))) := Lib.hid (by
            rw [join_snoc n ns hns, show (⟨#[44]⟩ : ByteArray) = bs [44] from rfl, bs_append, bs_append]; simp)
          clear hcn hL hN hW hB hns
          generalize bs (joinN ns) = S at hsn HE ⊢
          generalize bs (nm n) = T at hT hnc hnc2 HE ⊢
          go_wp2_with fail
          refine ⟨⟨ns ++ [n], by simp; omega, by simp, by rw [HE.out], HF, hS2, hN2, hB2.out⟩, by simp [intOf]; omega⟩
      · rw [hcn] at hw
        clear hsn hjl
        go_wp2_with fail
        go_ret
        exact ⟨rfl, hB⟩
    · have hke : ns.length = l.length := by omega
      have hge : ¬ ((ns.length : Int) < (l.length : Int)) := by omega
      have HI := Lib.hid (fun W => impl_calls ns (by intro e; subst e; simp at hke; omega) (by omega) hl.out.2 W)
      have w0 := hW.out.cell 0 (by decide)
      have w1 := hW.out.cell 1 (by decide)
      have w2 := hW.out.cell 2 (by decide)
      have w3 := hW.out.cell 3 (by decide)
      have w4 := hW.out.cell 4 (by decide)
      have heq : ∀ (W : World), (binOp .eql 24 (.agg #[.bool (ns.contains 0), .bool (ns.contains 1), .bool (ns.contains 2), .bool (ns.contains 3), .bool (ns.contains 4)]) (.agg #[.bool (ns.contains 0), .bool (ns.contains 1), .bool (ns.contains 2), .bool (ns.contains 3), .bool (ns.contains 4)])).run Tryd.prog W = .ok (.bool true) W := fun W => by
        generalize ns.contains 0 = a
        generalize ns.contains 1 = b
        generalize ns.contains 2 = d
        generalize ns.contains 3 = e
        generalize ns.contains 4 = f
        cases a <;> cases b <;> cases d <;> cases e <;> cases f <;> kernel_rfl
      generalize ns.contains 0 = a at HI w0 heq
      generalize ns.contains 1 = b at HI w1 heq
      generalize ns.contains 2 = d at HI w2 heq
      generalize ns.contains 3 = e' at HI w3 heq
      generalize ns.contains 4 = f at HI w4 heq
      generalize bs (joinN ns) = S at HI hsn
      have HB := Lib.hid hB
      have l0 := World.block_lt_of_cell? _ _ w0
      clear hl hW hN hB hjl hsn HAT
      go_wp2_with (go_at_call 4; refine (HI.out _).mono ?_; rintro e wz ⟨rfl, hbz⟩
                   have z0 := fun o => pw_cell_below (below_alloc hbz o) w0
                   have z1 := fun o => pw_cell_below (below_alloc hbz o) w1
                   have z2 := fun o => pw_cell_below (below_alloc hbz o) w2
                   have z3 := fun o => pw_cell_below (below_alloc hbz o) w3
                   have z4 := fun o => pw_cell_below (below_alloc hbz o) w4)
      go_ret
      exact ⟨rfl, below_alloc (HB.out.trans (hbz.mono HB.out.size)) _⟩
end Go.Proofs.YtppailjlfinafaaDoor
