/-
The law FnWestern: text of UTF-8 turned into Windows-1252: the walk. Conditions: numbers from 0 to 255, of bounded number.
-/
import Derived.Test.YtmngibfakkfnnaaD2
import Derived.Lib.OthersKept
import Derived.WalkSmall
namespace Go.Proofs.Ytmngibfakkfnnaa
open Go.RowKit Go.ChangeShapes Go.Proofs.YtmngibfakkfnnaaW.PrintWords

theorem iter_keeps {w : World} {k : Nat} {s : ByteArray} {pos pos' : Nat} {base n : Nat} {e : TypeId} {v : Value} {xs : List Value} (hk : w.heap[k]? = some (.stringIter s pos)) (h : w.ownsRow base e 1 v n xs) :
    (w.iterAt k s pos').ownsRow base e 1 v n xs := by
  refine own_move h (fun j hj => ?_)
  obtain ⟨cells, hc⟩ := own_typed h j hj
  have : j ≠ k := fun e => by rw [e, hk] at hc; cases hc
  simp [World.iterAt, this.symm]

set_option maxHeartbeats 1000000 in
theorem utf8_calls (L : List Int) (w : World) (hf : fine L) (hn : L.length ≤ 1000) :
    Calls Try.prog 34 #[.string (strOfNums (encAll L))] w fun e w' => e = .returned (.string (strOfNums L)) ∧ Below w.heap.size w w' := by
  obtain ⟨i0, hi, hz0, hz1, hz2⟩ := info_parts info5
  have hsz := strOfNums_size (encAll L)
  have hdec : ∀ (k : Nat) (hk : k < L.length), Utf8.decode (strOfNums (encAll L)) (encAll (L.take k)).length = (L[k].toNat, (enc1 L[k]).length) := fun k hk => by
    obtain ⟨x0, x1⟩ := hf L[k] (List.getElem_mem hk)
    have := decode_eq (L.take k) L[k] (L.drop (k + 1)) x0 x1
    rwa [← List.drop_eq_getElem_cons hk, List.take_append_drop] at this
  have hlt1 : ∀ k, k < L.length → (encAll (L.take k)).length < (encAll L).length := fun k hk => by
    have h1 := encAll_take_succ L k hk
    have h2 : encAll L = encAll (L.take (k + 1)) ++ encAll (L.drop (k + 1)) := by rw [← encAll_append, List.take_append_drop]
    have h3 := enc1_length L[k]
    rw [h2, h1]
    simp; omega
  generalize hS : strOfNums (encAll L) = S at hsz hdec
  go_enter Try.func34, Try.ntmps34
  go_wp2
  go_loopw [3] (fun v wr => ∃ k : Nat, k ≤ L.length ∧ Hid (wr.ownsRow w.heap.size 5 1 v k (nums .u8 (L.take k))) ∧ Hid (wr.heap[w.heap.size + 1]? = some (.stringIter S (encAll (L.take k)).length)) ∧ Below w.heap.size w wr) (fun _ wr => S.size - wr.iterPos (w.heap.size + 1))
  case atStart =>
    have hown := World.ownsRow_lit (base := w.heap.size) (e := 5) (size := 1) w #[] 0 (Nat.le_refl _) (by decide) rfl
    refine ⟨0, Nat.zero_le _, hid (hown.alloc _), hid ?_, ((Below.refl _ _).alloc (Nat.le_refl _) _).alloc (by simp) _⟩
    have := World.iter_heap (w.alloc (.cells #[] 5)) S 0
    simpa [encAll] using this
  case round =>
    obtain ⟨k, hk, ho, hit, hb⟩ := hrel
    have hpos0 := iterPos_of hit.out
    by_cases hlt : k < L.length
    · obtain ⟨x0, x1⟩ := hf L[k] (List.getElem_mem hlt)
      have hp : (encAll (L.take k)).length < S.size := by rw [hsz]; exact hlt1 k hlt
      have hd := hdec k hlt
      have hts := encAll_take_succ L k hlt
      have htk : L.take (k + 1) = L.take k ++ [L[k]] := by rw [List.take_add_one, List.getElem?_eq_getElem hlt]; rfl
      have hmeas := hlt1 k hlt
      have hpl := enc1_length L[k]
      clear hdec hlt1
      generalize L[k] = x at x0 x1 hd hts htk hpl
      have hnx := Lib.run_next_any_at (P := Try.prog) wr (w.heap.size + 1) S (encAll (L.take k)).length
      replace hnx := fun ty => hnx ty hit.out hp
      rw [hd] at hnx
      have hit2 := Lib.iterAt_heap wr (w.heap.size + 1) S (encAll (L.take k)).length ((encAll (L.take k)).length + (enc1 x).length) hit.out
      have hb2 := Lib.below_iterAt hb (k := w.heap.size + 1) (Nat.le_succ _) S ((encAll (L.take k)).length + (enc1 x).length)
      have ho2 := iter_keeps (pos' := (encAll (L.take k)).length + (enc1 x).length) hit.out ho.out
      rw [← List.length_append, ← hts] at hit2 hb2 ho2 hnx
      generalize wr.iterAt (w.heap.size + 1) S (encAll (L.take (k + 1))).length = W1 at hnx hit2 hb2 ho2
      have hx : ((x.toNat : Nat) : Int) = x := by omega
      simp only [hx] at hnx
      have m1 : x % 256 = x := by omega
      have m2 : IntKind.u8.wrap x = x := by rw [IntKind.wrap_u8]; exact m1
      have hW1 : w.heap.size + 1 < W1.heap.size := lt_of_block hit2
      have HX := hid (⟨hit2, hb2, ho2⟩ : W1.heap[w.heap.size + 1]? = some (.stringIter S (encAll (L.take (k + 1))).length) ∧ Below w.heap.size w W1 ∧ W1.ownsRow w.heap.size 5 1 u3 k (nums .u8 (L.take k)))
      clear hit2 hb2 ho2 ho hit
      go_wp2_with (at_builtin; refine wpList_append_own _ rfl (.tmp 12) (.tmp 15) 35 rfl w.heap.size 5 i0 (.int .u8 0) 1 1 Try.underlying35 hi hz0 hz1 hz2 rfl (by decide) _ _ _ rfl (HX.out.2.2.alloc _) ⟨W1.heap.size, 0, none⟩ 1 1 [.int .u8 x] rfl rfl (cell_one_new _ _ _) (fun u hu => by simp at hu; subst hu; rfl) (by unfold maxLen; omega) (by omega) (by simp; omega) ?_; intro v' w2 ho2 hg2 hnil2)
      obtain ⟨hit2, hb2, ho1⟩ := HX.out
      have hg : (W1.alloc (.cells #[.int .u8 x] 5)).grownBy w2 u3.ownBlock := hg2
      have hne : ¬ (u3.ownBlock = some (w.heap.size + 1)) := fun h => by
        obtain ⟨cells, hc⟩ := own_typed ho1 _ h
        rw [hit2] at hc
        cases hc
      have hit3 : w2.heap[w.heap.size + 1]? = some (.stringIter S (encAll (L.take (k + 1))).length) := by
        rw [hg.block (w.heap.size + 1) (by simp; omega) (fun h => hne h.symm), Below.heap_alloc _ _ _ hW1]; exact hit2
      have hw2 : Below w.heap.size w w2 := pw_below_grown (hb2.alloc (by omega) _) _ (by simp; omega) hg (fun j hj => (ho1.lt j hj).1)
      have ho3 : w2.ownsRow w.heap.size 5 1 v' (k + 1) (nums .u8 (L.take (k + 1))) := by
        have : nums IntKind.u8 (L.take (k + 1)) = nums .u8 (L.take k) ++ [.int .u8 x] := by rw [htk]; simp [nums]
        rw [this]; exact ho2
      have hlast : (encAll (L.take (k + 1))).length = (encAll (L.take k)).length + (enc1 x).length := by rw [hts, List.length_append]
      clear HX hnil2 hg2 hnx
      go_roundw
      case rel => exact ⟨k + 1, hlt, hid ho3, hid hit3, hw2⟩
      case measure => rw [iterPos_of hit3, hpos0, hsz]; omega
    · have hk' : k = L.length := by omega
      have hit1 := hit.out
      rw [hk', List.take_length] at ho hit1
      have hnx := Lib.run_next_end_at (P := Try.prog) wr (w.heap.size + 1) S (encAll L).length
      replace hnx := fun ty => hnx ty hit1 (by omega)
      have hcv := own_string (P := Try.prog) Try.underlying35 Try.underlying5 Try.underlying9 ho.out
      go_wp2
      go_ret
      exact ⟨rfl, hb⟩

theorem toWestern_calls (L : List Int) (w : World) (hf : fine L) (hn : L.length ≤ 1000) :
    Calls Try.prog 19 #[.string (strOfNums (encAll L))] w fun e w' => e = .returned (.string (strOfNums L)) ∧ Below w.heap.size w w' := by
  have H := hid (utf8_calls L w hf hn)
  go_enter Try.func19, Try.ntmps19
  go_wp2_with (go_at_call 34; refine H.out.mono ?_; rintro e w' ⟨rfl, hb⟩)
  go_ret
  exact ⟨rfl, hb⟩
end Go.Proofs.Ytmngibfakkfnnaa
