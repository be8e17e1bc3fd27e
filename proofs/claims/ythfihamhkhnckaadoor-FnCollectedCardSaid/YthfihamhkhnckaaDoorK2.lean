/-
FnCollected: a page put to a collection, or taken out of it: the walks. Condition: a collection in memory.
-/
import Derived.Test.YthfihamhkhnckaaDoorK1
namespace Go.Proofs.YthfihamhkhnckaaDoor
open Go.RowKit Go.ChangeShapes Go.Proofs.YthfihamhkhnckaaDoorW.PrintWords

/-- One page put to a collection, or taken out of it. -/
def proc (neg : Bool) (p : Int) (l : List Int) : List Int := if neg then l.filter (· ≠ p) else l ++ [p]
theorem proc_length (neg : Bool) (p : Int) (l : List Int) : (proc neg p l).length ≤ l.length + 1 := by
  cases neg
  · simp [proc]
  · have := List.length_filter_le (· ≠ p) l
    simp [proc] at this ⊢; omega
/-- A cell that holds a collection. -/
def Cp (B c : Nat) (l : List Int) (w : World) : Prop := B ≤ c ∧ ∃ v, w.heap[c]? = some (.cells #[v] 24 (0, 0)) ∧ w.ownsRow B 3 1 v l.length (nums .i64 l)
theorem Cp.put {B c : Nat} {w : World} {x v : Value} {l : List Int} (hc : B ≤ c) (hb : w.heap[c]? = some (.cells #[x] 24 (0, 0))) (ho : w.ownsRow B 3 1 v l.length (nums .i64 l)) : Cp B c l (w.setCell ⟨c, 0, none⟩ v) := by
  refine ⟨hc, v, blk_put hb 0 v rfl, own_setCell ho (fun h => ?_) v⟩
  obtain ⟨cs, h2⟩ := own_typed ho c h.symm
  exact blk_ne hb h2 (by decide) rfl
theorem info_int : (Tryd.prog.info? 3).map (fun i => (i.zero, i.size, i.bytes)) = some (some (.int .i64 0), 1, 8) := by kernel_rfl
set_option maxHeartbeats 4000000 in
set_option maxRecDepth 100000 in
theorem delete_calls (B c : Nat) (l : List Int) (p : Int) (hl : l.length ≤ 1000000) (w : World) (H : Cp B c l w) (hBw : B ≤ w.heap.size) :
    Calls Tryd.prog 78 #[.pointer (some ⟨c, 0, none⟩), .int .i64 p] w fun e w' => e = .returned (.tuple #[]) ∧ Cp B c (l.filter (· ≠ p)) w' ∧ Below B w w' := by
  obtain ⟨hc, v, hb, ho⟩ := H
  have c1 := blk_cell hb 0
  have hlt := blk_lt hb
  obtain ⟨A, cv, rfl⟩ := own_slice ho
  have Ho := Lib.hid ho
  have Hb := Lib.hid hb
  clear ho hb
  go_enter Tryd.func78, Tryd.ntmps78
  go_wp2_with fail
  go_loopw [4, 12] (fun o vi wr => ∃ (k : Nat), vi = .int .i64 k ∧ k ≤ l.length ∧ Hid (wr.ownsRow w.heap.size 3 1 o ((l.take k).filter (· ≠ p)).length (nums .i64 ((l.take k).filter (· ≠ p)))) ∧ Below w.heap.size w wr) (fun _ vi _ => l.length - (intOf vi).toNat)
  case atStart =>
    exact ⟨0, rfl, by omega, Lib.hid (own_lit w w.heap.size 3 .i64 [] (Nat.le_refl _) (by simp)), (Below.refl _ _).alloc (Nat.le_refl _) _⟩
  case round =>
    obtain ⟨k, rfl, hk, ho2, hbl⟩ := hrel
    have hbs := hbl.size
    by_cases hkn : k < l.length
    · have ho1 := pw_own_below Ho.out hbl
      obtain ⟨g, cap, hgA, _, _⟩ := ho1.form (by omega)
      cases hgA
      obtain ⟨ce, _⟩ := own_at ho1 (k : Int) (by omega) (by omega)
      rw [Int.toNat_natCast] at ce
      have hrd : rd l (k : Int) = l[k]'hkn := by simp [rd, List.getD, List.getElem?_eq_getElem hkn]
      rw [hrd] at ce
      have htk : l.take (k + 1) = l.take k ++ [l[k]'hkn] := by rw [List.take_append_getElem]
      generalize l[k]'hkn = x at ce htk
      have hfl : ((l.take k).filter (· ≠ p)).length ≤ 1000000 := Nat.le_trans (List.length_filter_le _ _) (by simp; omega)
      clear ho1 hrd
      by_cases hxp : x = p
      · have hff : (l.take (k + 1)).filter (· ≠ p) = (l.take k).filter (· ≠ p) := by rw [htk, List.filter_append]; simp [hxp]
        clear htk
        subst hxp
        go_wp2_with fail
        exact ⟨⟨k + 1, rfl, by omega, by rw [hff]; exact ho2, hbl⟩, by simp [intOf]; omega⟩
      · have hff : (l.take (k + 1)).filter (· ≠ p) = (l.take k).filter (· ≠ p) ++ [x] := by rw [htk, List.filter_append]; simp [hxp]
        clear htk
        generalize (l.take k).filter (· ≠ p) = L at *
        go_wp2_with (at_builtin; refine print_append_num w.heap.size rfl (.tmp 19) (.tmp 21) 24 3 .i64 8 rfl Tryd.underlying24 info_int (by decide) _ L x rfl rfl ho2.out hbl hbs (by omega) ?_; intro v1 w1 ho3 hb3 _ _)
        exact ⟨⟨k + 1, rfl, by omega, by rw [hff]; exact Lib.hid ho3, hb3⟩, by simp [intOf]; omega⟩
    · obtain rfl : k = l.length := by omega
      rw [List.take_length] at ho2
      have hge : ¬ ((l.length : Int) < (l.length : Int)) := by omega
      have hb2 := (hbl.block c hlt).trans Hb.out
      have c2 := blk_cell hb2 0
      have f2 := blk_frozen hb2 0
      have HF := Lib.hid (Cp.put hc hb2 (own_weaken ho2.out hBw))
      have HB2 := fun u => Lib.hid ((hbl.mono hBw).setCell (p := ⟨c, 0, none⟩) hc u)
      obtain ⟨A2, cv2, rfl⟩ := own_slice ho2.out
      clear hb2 hbl ho2
      go_wp2_with fail
      go_end0
      exact ⟨rfl, by simpa using HF.out, by simpa using (HB2 _).out⟩
set_option maxHeartbeats 4000000 in
set_option maxRecDepth 100000 in
theorem process_calls (B c : Nat) (l : List Int) (neg : Bool) (p : Int) (hl : l.length ≤ 1000000) (w : World) (H : Cp B c l w) (hBw : B ≤ w.heap.size) :
    Calls Tryd.prog 63 #[.pointer (some ⟨c, 0, none⟩), .bool neg, .int .i64 p] w fun e w' => e = .returned (.tuple #[]) ∧ Cp B c (proc neg p l) w' ∧ Below B w w' := by
  cases neg
  · obtain ⟨hc, v, hb, ho⟩ := H
    have c1 := blk_cell hb 0
    have hlt := blk_lt hb
    obtain ⟨A, cv, rfl⟩ := own_slice ho
    have Ho := Lib.hid ho
    have Hb := Lib.hid hb
    clear ho hb
    go_enter Tryd.func63, Tryd.ntmps63
    go_wp2_with (at_builtin; refine print_append_num (w0 := w) B rfl (.tmp 11) (.tmp 13) 24 3 .i64 8 rfl Tryd.underlying24 info_int (by decide) _ l p rfl rfl Ho.out (Below.refl _ _) hBw (by omega) ?_; intro v1 w1 ho3 hb3 hg _
                 have hb2 := blk_grown Hb.out hg (fun h => by obtain ⟨cs, h2⟩ := own_typed Ho.out c h.symm; exact blk_ne Hb.out h2 (by decide) rfl)
                 have c2 := blk_cell hb2 0
                 have f2 := blk_frozen hb2 0
                 have HF := Lib.hid (Cp.put hc hb2 ho3)
                 have HB2 := fun u => Lib.hid (hb3.setCell (p := ⟨c, 0, none⟩) hc u)
                 obtain ⟨A2, cv2, rfl⟩ := own_slice ho3
                 clear hb2 hb3 hg ho3)
    go_end0
    exact ⟨rfl, by simpa [proc] using HF.out, (HB2 _).out⟩
  · have HD := Lib.hid (delete_calls B c l p hl w H hBw)
    clear H
    go_enter Tryd.func63, Tryd.ntmps63
    go_wp2_with (go_at_call 78; refine HD.out.mono ?_; rintro e w1 ⟨rfl, h1, h2⟩)
    go_end0
    exact ⟨rfl, h1, h2⟩
end Go.Proofs.YthfihamhkhnckaaDoor
