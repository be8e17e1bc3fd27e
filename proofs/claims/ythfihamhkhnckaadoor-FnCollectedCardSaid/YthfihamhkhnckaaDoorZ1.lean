/-
Texts cut at a sign: the walks of zzIndex and zzSplit. Conditions: a separator of one byte, a text of bounded length.
-/
import Derived.Test.YthfihamhkhnckaaDoorRows
import Derived.Test.YthfihamhkhnckaaDoorWWords
import Derived.WalkKit
import Derived.WalkSpells
import Derived.WalkLawsBesides
import Derived.Lib.Hide
import Derived.OwnWalk
import Derived.LoopTactic
import Derived.Below
import Derived.BigFrame
import Derived.WalkSmall
import Derived.Laws.AppendOwn
namespace Go.Proofs.YthfihamhkhnckaaDoor
open Go.RowKit Go.ChangeShapes Go.Proofs.YthfihamhkhnckaaDoorW.PrintWords

/-- A text of bytes. -/
def bs (l : List UInt8) : ByteArray := ⟨l.toArray⟩
theorem bs_size (l : List UInt8) : (bs l).size = l.length := by simp [bs, ByteArray.size]
theorem bs_extract (l : List UInt8) (i j : Nat) : (bs l).extract i j = bs ((l.take j).drop i) := by
  apply ByteArray.ext
  simp [bs, List.drop_take]
theorem bs_toList (l : List UInt8) : (bs l).toList = l := by rw [ByteArray.toList_eq]; simp [bs]
theorem bs_one (l : List UInt8) {k : Nat} (h : k < l.length) : ((l.take (k + 1)).drop k) = [l[k]] := by
  rw [List.take_succ_eq_append_getElem h, List.drop_append_of_le_length (by simp; omega), List.drop_of_length_le (by simp; omega)]; rfl
set_option maxHeartbeats 1000000 in
theorem index_walk (c : UInt8) (l : List UInt8) (hn : l.length ≤ 1000000) (w : World) :
    Calls Tryd.prog 67 #[.string (bs l), .string ⟨#[c]⟩] w fun e w' => ∃ r : Int, e = .returned (.int .i64 r) ∧ w = w' ∧ ((r = -1 ∧ c ∉ l) ∨ ∃ k : Nat, r = k ∧ k < l.length ∧ l[k]? = some c ∧ c ∉ l.take k) := by
  have hsz := bs_size l
  have hx := fun (k : Nat) (h : k < l.length) => (bs_extract l k (k + 1)).trans (congrArg bs (bs_one l h))
  generalize bs l = S at hsz hx
  go_enter Tryd.func67, Tryd.ntmps67
  go_wp2_with fail
  go_loop [5] (fun i => ∃ k : Nat, k ≤ l.length ∧ i = .int .i64 k ∧ c ∉ l.take k) (fun i => l.length - (intOf i).toNat)
  case atStart => exact ⟨0, Nat.zero_le _, rfl, by simp⟩
  case round =>
    obtain ⟨k, hk, rfl, hc⟩ := hrel
    by_cases hlt : k < l.length
    · have hxk := hx k hlt
      have hle : (k : Int) + 1 ≤ (l.length : Int) := by omega
      clear hx
      by_cases he : l[k] = c
      · have hb : ((bs [c]).toList == [c]) = true := by rw [bs_toList]; simp
        have hg : l[k]? = some c := by rw [List.getElem?_eq_getElem hlt, he]
        rw [he] at hxk
        clear he
        go_wp2_with fail
        go_ret
        exact ⟨(k : Int), rfl, rfl, .inr ⟨k, rfl, hlt, hg, hc⟩⟩
      · have hb : ((bs [l[k]]).toList == [c]) = false := by rw [bs_toList]; simp [he]
        go_wp2_with fail
        go_round
        case rel =>
          refine ⟨k + 1, by omega, by go_num, ?_⟩
          rw [List.take_succ_eq_append_getElem hlt]
          simp only [List.mem_append, List.mem_singleton]
          rintro (h | h)
          · exact hc h
          · exact he h.symm
        case measure => simp [intOf] <;> omega
    · obtain rfl : k = l.length := by omega
      have hle : ¬ ((l.length : Int) + 1 ≤ (l.length : Int)) := by omega
      go_wp2_with fail
      go_ret
      exact ⟨-1, rfl, rfl, .inl ⟨rfl, by simpa using hc⟩⟩

theorem index_hit (c : UInt8) (p q : List UInt8) (hp : c ∉ p) (hn : (p ++ c :: q).length ≤ 1000000) (w : World) :
    Calls Tryd.prog 67 #[.string (bs (p ++ c :: q)), .string ⟨#[c]⟩] w fun e w' => e = .returned (.int .i64 (p.length : Int)) ∧ w = w' := by
  refine (index_walk c _ hn w).mono ?_
  rintro e w' ⟨r, rfl, rfl, h⟩
  rcases h with ⟨_, h⟩ | ⟨k, rfl, hk, hg, ht⟩
  · simp at h
  · rcases Nat.lt_trichotomy k p.length with h | h | h
    · rw [List.getElem?_append_left h] at hg
      exact absurd (List.mem_of_getElem? hg) hp
    · subst h; exact ⟨rfl, rfl⟩
    · refine absurd ?_ ht
      rw [show k = p.length + ((k - p.length - 1) + 1) by omega, List.take_append, List.take_of_length_le (by omega)]
      simp
theorem index_none (c : UInt8) (l : List UInt8) (hl : c ∉ l) (hn : l.length ≤ 1000000) (w : World) :
    Calls Tryd.prog 67 #[.string (bs l), .string ⟨#[c]⟩] w fun e w' => e = .returned (.int .i64 (-1)) ∧ w = w' := by
  refine (index_walk c _ hn w).mono ?_
  rintro e w' ⟨r, rfl, rfl, h⟩
  rcases h with ⟨rfl, _⟩ | ⟨k, rfl, hk, hg, ht⟩
  · exact ⟨rfl, rfl⟩
  · exact absurd (List.mem_of_getElem? hg) hl

/-- The parts of a text between the signs. -/
def splitL (c : UInt8) : List UInt8 → List (List UInt8)
  | [] => [[]]
  | x :: r => if x = c then [] :: splitL c r else match splitL c r with
    | [] => [[x]]
    | p :: ps => (x :: p) :: ps
theorem splitL_ne (c : UInt8) : ∀ l, splitL c l ≠ []
  | [] => by simp [splitL]
  | x :: r => by
    simp only [splitL]
    split
    · simp
    · split <;> simp
theorem splitL_none (c : UInt8) : ∀ l, c ∉ l → splitL c l = [l]
  | [], _ => rfl
  | x :: r, h => by
    simp only [List.mem_cons, not_or] at h
    simp only [splitL]
    rw [if_neg (fun e => h.1 e.symm), splitL_none c r h.2]
theorem splitL_at (c : UInt8) : ∀ (p q : List UInt8), c ∉ p → splitL c (p ++ c :: q) = p :: splitL c q
  | [], q, _ => by simp [splitL]
  | x :: p, q, h => by
    simp only [List.mem_cons, not_or] at h
    simp only [List.cons_append, splitL]
    rw [if_neg (fun e => h.1 e.symm), splitL_at c p q h.2]
theorem splitL_length (c : UInt8) : ∀ l, (splitL c l).length ≤ l.length + 1
  | [] => by simp [splitL]
  | x :: r => by
    have := splitL_length c r
    simp only [splitL, List.length_cons]
    split
    · simp; omega
    · split
      · simp
      · rename_i h; rw [h] at this; simp at this ⊢; omega
theorem info_str : (Tryd.prog.info? 9).map (fun i => (i.zero, i.size, i.bytes)) = some (some (.string ⟨#[]⟩), 1, 16) := by kernel_rfl
def strsV (ps : List (List UInt8)) : List Value := ps.map fun p => .string (bs p)
def strLen : Value → Nat
  | .string b => b.size
  | _ => 0
theorem cell_new_one (w : World) (x : Value) (t : TypeId) : ∀ j u, [x][j]? = some u → (w.alloc (.cells #[x] t)).cell? ((⟨w.heap.size, 0, none⟩ : Addr).add j) = some u := by
  intro j u hu
  rw [add_plain]
  simp [World.cell?, World.alloc, -World.alloc_eq]
  simpa using hu
set_option maxRecDepth 100000 in
set_option maxHeartbeats 2000000 in
theorem split_walk (c : UInt8) (l : List UInt8) (hn : l.length ≤ 1000000) (w : World) :
    Calls Tryd.prog 47 #[.string (bs l), .string ⟨#[c]⟩] w fun e w' => ∃ g cap, e = .returned (.slice (some ⟨g, 0, none⟩) (splitL c l).length cap) ∧ w'.ownsRow w.heap.size 9 1 (.slice (some ⟨g, 0, none⟩) (splitL c l).length cap) (splitL c l).length (strsV (splitL c l)) ∧ Below w.heap.size w w' := by
  obtain ⟨i0, hi, hz0, hz1, hz2⟩ := info_parts info_str
  have hbound := splitL_length c l
  go_enter Tryd.func47, Tryd.ntmps47
  go_wp2_with fail
  go_loopw [0, 5] (fun s o wr => ∃ (rest : List UInt8) (done : List (List UInt8)), s = .string (bs rest) ∧ Hid (splitL c l = done ++ splitL c rest) ∧ done.length + rest.length ≤ l.length ∧ Hid (wr.ownsRow w.heap.size 9 1 o done.length (strsV done)) ∧ Below w.heap.size w wr) (fun s _ _ => strLen s)
  case atStart => exact ⟨l, [], rfl, Lib.hid rfl, by simp, Lib.hid (World.ownsRow_nil _ _ _ _), Below.refl _ _⟩
  case round =>
    obtain ⟨rest, done, rfl, hs, hd, ho, hb⟩ := hrel
    have hr : rest.length ≤ 1000000 := by omega
    have hbs := hb.size
    have hcap : done.length + 1 ≤ 1000002 := by omega
    by_cases hc : c ∈ rest
    · obtain ⟨p, q, rfl, hp⟩ := List.eq_append_cons_of_mem hc
      clear hc
      have HI := Lib.hid (index_hit c p q hp hr)
      rw [splitL_at c p q hp] at hs
      have hsz : (bs (p ++ c :: q)).size = p.length + (q.length + 1) := by rw [bs_size]; simp
      have hx1 : (bs (p ++ c :: q)).extract 0 p.length = bs p := by rw [bs_extract]; simp
      have hx2 : (bs (p ++ c :: q)).extract (p.length + 1) (p.length + (q.length + 1)) = bs q := by
        rw [bs_extract, List.take_of_length_le (by simp), show p.length + 1 = p.length + 1 from rfl, ← List.drop_drop, List.drop_left]; rfl
      have hq : q.length + 1 ≤ 1000000 := by simp at hr; omega
      have hpl : p.length ≤ 1000000 := by simp at hr; omega
      have hd' : done.length + (p.length + (q.length + 1)) ≤ l.length := by simpa using hd
      clear hd
      have hqb := bs_size q
      clear hr hp
      generalize bs (p ++ c :: q) = S at HI hsz hx1 hx2
      go_wp2_with (first
        | (go_at_call 67; refine (HI.out _).mono ?_; rintro e w1 ⟨rfl, rfl⟩)
        | (at_builtin; refine wpList_append_own _ rfl (.tmp 16) (.tmp 20) 22 rfl w.heap.size 9 i0 (.string ⟨#[]⟩) 1 16 Tryd.underlying22 hi hz0 hz1 hz2 rfl (by decide) _ _ _ rfl (ho.out.alloc _) ⟨wr.heap.size, 0, none⟩ 1 1 [.string (bs p)] rfl rfl (cell_new_one _ _ _) (fun u hu => by simp at hu; subst hu; rfl) (by unfold maxLen; omega) (by omega) (by simp; omega) ?_; intro v' w2 ho2 hg2 hnil2))
      refine ⟨⟨q, done ++ [p], rfl, Lib.hid (by rw [hs.out]; simp), by simp; omega, Lib.hid ?_, ?_⟩, by simp only [strLen]; omega⟩
      · rw [List.length_append, show strsV (done ++ [p]) = strsV done ++ [.string (bs p)] by simp [strsV]]; exact ho2
      · exact pw_below_grown (hb.alloc hbs _) _ (by simp; omega) hg2 (fun j hj => (ho.out.lt j hj).1)
    · have HI := Lib.hid (index_none c rest hc hr)
      rw [splitL_none c rest hc] at hs
      have hsz := bs_size rest
      obtain ⟨S, hS⟩ : ∃ S, S = bs rest := ⟨_, rfl⟩
      rw [← hS] at HI hsz
      have HS := Lib.hid hS
      rw [← hS]
      clear hS
      go_wp2_with (first
        | (go_at_call 67; refine (HI.out _).mono ?_; rintro e w1 ⟨rfl, rfl⟩)
        | (at_builtin; refine wpList_append_own _ rfl (.tmp 12) (.tmp 14) 22 rfl w.heap.size 9 i0 (.string ⟨#[]⟩) 1 16 Tryd.underlying22 hi hz0 hz1 hz2 rfl (by decide) _ _ _ rfl (ho.out.alloc _) ⟨wr.heap.size, 0, none⟩ 1 1 [.string S] rfl rfl (cell_new_one _ _ _) (fun u hu => by simp at hu; subst hu; rfl) (by unfold maxLen; omega) (by omega) (by simp; omega) ?_; intro v' w2 ho2 hg2 hnil2))
      have hlen : (splitL c l).length = done.length + 1 := by rw [hs.out]; simp
      have hstr : strsV (splitL c l) = strsV done ++ [.string S] := by rw [hs.out]; simp [strsV, HS.out]
      obtain ⟨g, cap, rfl, _, _⟩ := ho2.form (by omega)
      go_ret
      rw [hlen, hstr]
      exact ⟨g, cap, rfl, ho2, pw_below_grown (hb.alloc hbs _) _ (by simp; omega) hg2 (fun j hj => (ho.out.lt j hj).1)⟩
end Go.Proofs.YthfihamhkhnckaaDoor
