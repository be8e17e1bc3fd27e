/-
The law FnWestern: text of Windows-1252 turned into UTF-8: the walk. Conditions: numbers from 0 to 255, of bounded number.
-/
import Derived.Test.YtmngibfakkfnnaaD1
import Derived.Laws.AppendOwn
import Derived.Laws.MakeOwn
import Derived.Laws.BitsLemmas
import Derived.Laws.Bits
import Derived.Laws.BitsAll
import Derived.Laws.BitsAllLaws
import Derived.BigQuiet
namespace Go.Proofs.Ytmngibfakkfnnaa
open Go.RowKit Go.ChangeShapes Go.Proofs.YtmngibfakkfnnaaW.PrintWords

/-- A buffer of the call's own: its first two bytes are there and may be written. -/
def Buf (w : World) (B : Nat) : Prop := B < w.heap.size ∧ (∃ a : Int, w.cell? ⟨B, 0, none⟩ = some (.int .u8 a)) ∧ (∃ a : Int, w.cell? ⟨B, 1, none⟩ = some (.int .u8 a)) ∧ w.frozen? ⟨B, 0, none⟩ = false ∧ w.frozen? ⟨B, 1, none⟩ = false

theorem encode_small (B : Nat) (x : Int) (w : World) (h0 : 0 ≤ x) (h1 : x < 128) (hB : w.frozen? ⟨B, 0, none⟩ = false) (a : Int) (hc : w.cell? ⟨B, 0, none⟩ = some (.int .u8 a)) :
    Calls Try.prog 44 #[.slice (some ⟨B, 0, none⟩) 4 4, .int .i32 x] w fun e w' => e = .returned (.int .i64 1) ∧ w' = w.setCell ⟨B, 0, none⟩ (.int .u8 x) := by
  have e1 : x % 4294967296 = x := by omega
  have e2 : x ≤ 127 := by omega
  have e3 : x % 256 = x := by omega
  have m1 : IntKind.u32.wrap x = x := by rw [IntKind.wrap_u32]; exact e1
  have m2 : IntKind.u8.wrap x = x := by rw [IntKind.wrap_u8]; exact e3
  go_enter Try.func44, Try.ntmps44
  go_wp2
  go_ret
  exact ⟨rfl, rfl⟩
theorem encode_two (B : Nat) (x : Int) (w : World) (h0 : 128 ≤ x) (h1 : x < 256) (hB : w.frozen? ⟨B, 0, none⟩ = false) (hB' : w.frozen? ⟨B, 1, none⟩ = false) (a b : Int) (hc : w.cell? ⟨B, 0, none⟩ = some (.int .u8 a)) (hc' : w.cell? ⟨B, 1, none⟩ = some (.int .u8 b)) :
    Calls Try.prog 44 #[.slice (some ⟨B, 0, none⟩) 4 4, .int .i32 x] w fun e w' => e = .returned (.int .i64 2) ∧ w' = (w.setCell ⟨B, 0, none⟩ (.int .u8 (192 + x / 64))).setCell ⟨B, 1, none⟩ (.int .u8 (128 + x % 64)) := by
  obtain ⟨b1, b2⟩ := bits_of h0 h1
  have e1 : x % 4294967296 = x := by omega
  have e2 : ¬ x ≤ 127 := by omega
  have e3 : x % 256 = x := by omega
  have e4 : x ≤ 2047 := by omega
  have m1 : IntKind.u32.wrap x = x := by rw [IntKind.wrap_u32]; exact e1
  have m2 : IntKind.u8.wrap x = x := by rw [IntKind.wrap_u8]; exact e3
  go_enter Try.func44, Try.ntmps44
  go_wp2_with (go_at_call 50; go_in)
  go_ret
  exact ⟨rfl, rfl⟩

theorem info5 : (Try.prog.info? 5).map (fun i => (i.zero, i.size, i.bytes)) = some (some (.int .u8 0), 1, 1) := by kernel_rfl
theorem make_four (w : World) : (Instr.makeSlice 35 (.int .i64 4) (.int .i64 4)).run Try.prog w = .ok (.slice (some ⟨w.heap.size, 0, none⟩) 4 4) (w.alloc (.cells #[.int .u8 0, .int .u8 0, .int .u8 0, .int .u8 0] 5)) := by
  obtain ⟨i0, hi, hz0, hz1, hz2⟩ := info_parts info5
  have := run_make (P := Try.prog) w 35 5 i0 _ Try.underlying35 hi hz0 .i64 .i64 4 4 (by decide) (Int.le_refl _) (by rw [hz2]; decide) (by decide)
  rw [hz1] at this
  rw [this, show madeCells (Value.int .u8 0).cells (Int.toNat 4 * 1) = #[.int .u8 0, .int .u8 0, .int .u8 0, .int .u8 0] by kernel_rfl]
  rfl
theorem buf_new (w : World) (o : Obj) : Buf ((w.alloc (.cells #[.int .u8 0, .int .u8 0, .int .u8 0, .int .u8 0] 5)).alloc o) w.heap.size := by
  refine ⟨by simp; omega, ⟨0, ?_⟩, ⟨0, ?_⟩, ?_, ?_⟩ <;> simp [World.cell?, World.frozen?, World.alloc, -World.alloc_eq, Array.getElem?_push]
theorem buf_below {w W : World} {B : Nat} (h : Buf w B) (hb : Below (B + 1) w W) : Buf W B := by
  obtain ⟨h0, ⟨a, ha⟩, ⟨b, hb'⟩, f, f'⟩ := h
  refine ⟨by have := hb.size; omega, ⟨a, ?_⟩, ⟨b, ?_⟩, ?_, ?_⟩
  · rw [hb.cell (by simp)]; exact ha
  · rw [hb.cell (by simp)]; exact hb'
  · rw [hb.frozen (by simp)]; exact f
  · rw [hb.frozen (by simp)]; exact f'
theorem buf_set {w : World} {B : Nat} (h : Buf w B) (x : Int) : Buf (w.setCell ⟨B, 0, none⟩ (.int .u8 x)) B := by
  obtain ⟨h0, ⟨a, ha⟩, ⟨b, hb'⟩, f, f'⟩ := h
  refine ⟨by simpa using h0, ⟨x, World.cell?_setCell_same _ _ _ ha⟩, ⟨b, ?_⟩, by simpa using f, by simpa using f'⟩
  rw [World.cell?_setCell_other _ _ _ _ (by intro he; cases he)]; exact hb'
theorem buf_set' {w : World} {B : Nat} (h : Buf w B) (x : Int) : Buf (w.setCell ⟨B, 1, none⟩ (.int .u8 x)) B := by
  obtain ⟨h0, ⟨a, ha⟩, ⟨b, hb'⟩, f, f'⟩ := h
  refine ⟨by simpa using h0, ⟨a, ?_⟩, ⟨x, World.cell?_setCell_same _ _ _ hb'⟩, by simpa using f, by simpa using f'⟩
  rw [World.cell?_setCell_other _ _ _ _ (by intro he; cases he)]; exact ha

/-- What EncodeRune does with a byte, as one: the number of bytes, and the bytes at the buffer's begin. -/
theorem encode_calls (B : Nat) (x : Int) (w : World) (h0 : 0 ≤ x) (h1 : x < 256) (hB : Buf w B) :
    Calls Try.prog 44 #[.slice (some ⟨B, 0, none⟩) 4 4, .int .i32 x] w fun e w' => e = .returned (.int .i64 (enc1 x).length) ∧ Buf w' B ∧ Below B w w' ∧ w'.heap.size = w.heap.size ∧ (∀ k, k ≠ B → w'.heap[k]? = w.heap[k]?) ∧ ∀ j u, (nums .u8 (enc1 x))[j]? = some u → w'.cell? ((⟨B, 0, none⟩ : Addr).add j) = some u := by
  have hB0 := hB
  obtain ⟨hs, ⟨a, ha⟩, ⟨b, hb⟩, f, f'⟩ := hB
  by_cases h : x < 128
  · refine (encode_small B x w h0 h f a ha).mono ?_
    rintro e w' ⟨rfl, rfl⟩
    have e1 : enc1 x = [x] := by unfold enc1; rw [if_pos h]
    rw [e1]
    refine ⟨rfl, buf_set hB0 x, Below.setCell (p := ⟨B, 0, none⟩) (Below.refl B w) (Nat.le_refl B) _, by simp, fun k hk => heap_setCell_other _ _ _ _ hk, fun j u hu => ?_⟩
    obtain ⟨hj, hu'⟩ := List.getElem?_eq_some_iff.1 hu
    have hj0 : j = 0 := by simp [nums] at hj; omega
    subst hj0
    simp [nums] at hu'
    rw [← hu']
    exact World.cell?_setCell_same _ _ _ ha
  · refine (encode_two B x w (by omega) h1 f f' a b ha hb).mono ?_
    rintro e w' ⟨rfl, rfl⟩
    have e1 : enc1 x = [192 + x / 64, 128 + x % 64] := by unfold enc1; rw [if_neg h]
    rw [e1]
    have hB1 := buf_set hB0 (192 + x / 64)
    obtain ⟨b', hb''⟩ := hB1.2.2.1
    refine ⟨rfl, buf_set' hB1 _, Below.setCell (p := ⟨B, 1, none⟩) (Below.setCell (p := ⟨B, 0, none⟩) (Below.refl B w) (Nat.le_refl B) _) (Nat.le_refl B) _, by simp, fun k hk => ?_, fun j u hu => ?_⟩
    · rw [heap_setCell_other _ _ _ _ hk, heap_setCell_other _ _ _ _ hk]
    obtain ⟨hj, hu'⟩ := List.getElem?_eq_some_iff.1 hu
    have hj0 : j = 0 ∨ j = 1 := by simp [nums] at hj; omega
    rcases hj0 with rfl | rfl
    · simp [nums] at hu'
      rw [← hu']
      show (World.setCell _ _ _).cell? ⟨B, 0, none⟩ = _
      rw [World.cell?_setCell_other _ _ _ _ (by intro he; cases he)]
      exact World.cell?_setCell_same _ _ _ ha
    · simp [nums] at hu'
      rw [← hu']
      exact World.cell?_setCell_same _ _ _ hb''

set_option maxHeartbeats 1000000 in
theorem cp1252_calls (L : List Int) (w : World) (hf : fine L) (hn : L.length ≤ 1000) :
    Calls Try.prog 33 #[.string (strOfNums L)] w fun e w' => e = .returned (.string (strOfNums (encAll L))) ∧ Below w.heap.size w w' := by
  obtain ⟨i0, hi, hz0, hz1, hz2⟩ := info_parts info5
  have hsz := strOfNums_size L
  have hmk := make_four w
  have hat : ∀ (k : Nat), k < L.length → ∀ hz : k < (strOfNums L).size, (((strOfNums L)[k]'hz).toNat : Int) = L.getD k 0 := fun k hk hz => by
    have := at_str hf hk (by simpa using hz)
    rw [List.getD_eq_getElem?_getD, List.getElem?_eq_getElem hk, Option.getD_some, ← this]; simp
  generalize hS : strOfNums L = S at hsz hat
  go_enter Try.func33, Try.ntmps33
  go_wp2
  go_loopw [4, 5] (fun v i wr => ∃ k : Nat, i = .int .i64 k ∧ k ≤ L.length ∧ Hid (wr.ownsRow (w.heap.size + 1) 5 1 v (encAll (L.take k)).length (nums .u8 (encAll (L.take k)))) ∧ Hid (Buf wr w.heap.size) ∧ Below w.heap.size w wr) (fun _ i _ => L.length - (intOf i).toNat)
  case atStart =>
    refine ⟨0, rfl, Nat.zero_le _, ?_, hid (buf_new _ _), ((Below.refl _ _).alloc (Nat.le_refl _) _).alloc (by simp) _⟩
    have := World.ownsRow_lit (base := w.heap.size + 1) (e := 5) (size := 1) (w.alloc (.cells #[.int .u8 0, .int .u8 0, .int .u8 0, .int .u8 0] 5)) #[] 0 (by simp) (by decide) rfl
    simp only [World.size_alloc] at this
    exact hid this
  case round =>
    obtain ⟨k, rfl, hk, ho, hbuf, hb⟩ := hrel
    by_cases hlt : k < L.length
    · obtain ⟨x0, x1⟩ := hf L[k] (List.getElem_mem hlt)
      have hx := hat k hlt (by omega)
      rw [List.getD_eq_getElem?_getD, List.getElem?_eq_getElem hlt, Option.getD_some] at hx
      have hts := encAll_take_succ L k hlt
      have hbd := encAll_bound (L := L) k hk
      have hbd1 := encAll_bound (L := L) (k + 1) hlt
      clear hat
      generalize L[k] = x at x0 x1 hx hts
      have hlen := enc1_length x
      have m1 : wrap32 x = x := by unfold wrap32; omega
      have hi2 : (k : Int) < (S.size : Int) := by omega
      have hE := hid (encode_calls w.heap.size x wr x0 x1 hbuf.out)
      generalize hN : (enc1 x).length = n at hlen hE
      have hn4 : (n : Int) ≤ 4 := by omega
      have hNn : (nums .u8 (enc1 x)).length = n * 1 := by simp [nums, hN]
      go_wp2_with (first
        | (go_at_call 44; refine hE.out.mono ?_; rintro e w1 ⟨rfl, hb1, hw1, hs1, hh1, hc1⟩
           have ho1 := own_move (w1 := w1) ho.out (fun j hj => hh1 j (by have := (ho.out.lt j hj).1; omega))
           have HX := hid (⟨hb1, hw1, hs1, hc1, ho1⟩ : Buf w1 w.heap.size ∧ Below w.heap.size wr w1 ∧ w1.heap.size = wr.heap.size ∧ _ ∧ _)
           clear hb1 hw1 hs1 hh1 hc1 ho1)
        | (at_builtin; refine wpList_append_own _ rfl (.tmp 21) (.tmp 24) 35 rfl (w.heap.size + 1) 5 i0 (.int .u8 0) 1 1 Try.underlying35 hi hz0 hz1 hz2 rfl (by decide) _ _ _ rfl HX.out.2.2.2.2 ⟨w.heap.size, 0, none⟩ n 4 (nums .u8 (enc1 x)) rfl hNn HX.out.2.2.2.1 (fun u hu => by simp [nums] at hu; obtain ⟨_, _, rfl⟩ := hu; rfl) (by unfold maxLen; omega) (by omega) (by have := HX.out.2.2.1; have := hb.size; have := hbuf.out.1; omega) ?_; intro v' w2 ho2 hg2 hnil2))
      obtain ⟨hb1, hw1, hs1, hc1, ho1⟩ := HX.out
      have hg : w1.grownBy w2 u4.ownBlock := hg2
      clear HX hE hnil2 hg2
      have hB1 : w.heap.size + 1 ≤ w1.heap.size := by have := hbuf.out.1; omega
      have hlow : ∀ j, u4.ownBlock = some j → w.heap.size + 1 ≤ j := fun j hj => (ho1.lt j hj).1
      have hb2 : Buf w2 w.heap.size := buf_below hb1 (pw_below_grown (Below.refl _ w1) _ hB1 hg hlow)
      have hw2 : Below w.heap.size w w2 := pw_below_grown (hb.trans hw1) _ (by omega) hg (fun j hj => by have := hlow j hj; omega)
      have ho3 : w2.ownsRow (w.heap.size + 1) 5 1 v' (encAll (L.take (k + 1))).length (nums .u8 (encAll (L.take (k + 1)))) := by
        rw [hts, List.length_append, hN]
        have : nums IntKind.u8 (encAll (L.take k) ++ enc1 x) = nums .u8 (encAll (L.take k)) ++ nums .u8 (enc1 x) := by simp [nums]
        rw [this]; exact ho2
      go_roundw
      case rel => exact ⟨k + 1, by simp, hlt, hid ho3, hid hb2, hw2⟩
      case measure => simp [intOf]; omega
    · have hi2 : ¬ ((k : Int) < (S.size : Int)) := by omega
      have hk' : k = L.length := by omega
      rw [hk', List.take_length] at ho
      have hcv := own_string (P := Try.prog) Try.underlying35 Try.underlying5 Try.underlying9 ho.out
      go_wp2
      go_ret
      exact ⟨rfl, hb⟩

theorem western_calls (L : List Int) (w : World) (hf : fine L) (hn : L.length ≤ 1000) :
    Calls Try.prog 18 #[.string (strOfNums L)] w fun e w' => e = .returned (.string (strOfNums (encAll L))) ∧ Below w.heap.size w w' := by
  have H := hid (cp1252_calls L w hf hn)
  go_enter Try.func18, Try.ntmps18
  go_wp2_with (go_at_call 33; refine H.out.mono ?_; rintro e w' ⟨rfl, hb⟩)
  go_ret
  exact ⟨rfl, hb⟩
end Go.Proofs.Ytmngibfakkfnnaa
