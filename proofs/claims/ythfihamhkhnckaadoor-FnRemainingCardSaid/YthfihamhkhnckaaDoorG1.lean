/-
FnCollected, FnSelected, FnRemaining: pages named by digits; a collection in a cell: walks and plain laws. Conditions: as each theorem says.
-/
import Derived.Test.YthfihamhkhnckaaDoorRows
import Derived.Test.YthfihamhkhnckaaDoorWWords
import Derived.WalkKit
import Derived.WalkSpells
import Derived.WalkLawsBesides
import Derived.Lib.Hide
import Derived.OwnWalk
import Derived.LoopTactic
import Derived.Below
import Derived.BigFrame
import Derived.WalkSmall
import Derived.Laws.AppendOwn
import Derived.Lib.ConvBytes
import Derived.Lib.AtoiErrMem

namespace Go.Proofs.YthfihamhkhnckaaDoor
open Go.RowKit Go.ChangeShapes Go.Proofs.YthfihamhkhnckaaDoorW.PrintWords

/-- A text of bytes. -/
def bs (l : List UInt8) : ByteArray := ⟨l.toArray⟩
theorem bs_size (l : List UInt8) : (bs l).size = l.length := by simp [bs, ByteArray.size]
theorem bs_extract (l : List UInt8) (i j : Nat) : (bs l).extract i j = bs ((l.take j).drop i) := by
  apply ByteArray.ext
  simp [bs, List.drop_take]
theorem bs_toList (l : List UInt8) : (bs l).toList = l := by rw [ByteArray.toList_eq]; simp [bs]
theorem bs_one (l : List UInt8) {k : Nat} (h : k < l.length) : ((l.take (k + 1)).drop k) = [l[k]] := by
  rw [List.take_succ_eq_append_getElem h, List.drop_append_of_le_length (by simp; omega), List.drop_of_length_le (by simp; omega)]; rfl
set_option maxHeartbeats 1000000 in
theorem index_walk (c : UInt8) (l : List UInt8) (hn : l.length ≤ 1000000) (w : World) :
    Calls Tryd.prog 67 #[.string (bs l), .string ⟨#[c]⟩] w fun e w' => ∃ r : Int, e = .returned (.int .i64 r) ∧ w = w' ∧ ((r = -1 ∧ c ∉ l) ∨ ∃ k : Nat, r = k ∧ k < l.length ∧ l[k]? = some c ∧ c ∉ l.take k) := by
  have hsz := bs_size l
  have hx := fun (k : Nat) (h : k < l.length) => (bs_extract l k (k + 1)).trans (congrArg bs (bs_one l h))
  generalize bs l = S at hsz hx
  go_enter Tryd.func67, Tryd.ntmps67
  go_wp2_with fail
  go_loop [5] (fun i => ∃ k : Nat, k ≤ l.length ∧ i = .int .i64 k ∧ c ∉ l.take k) (fun i => l.length - (intOf i).toNat)
  case atStart => exact ⟨0, Nat.zero_le _, rfl, by simp⟩
  case round =>
    obtain ⟨k, hk, rfl, hc⟩ := hrel
    by_cases hlt : k < l.length
    · have hxk := hx k hlt
      have hle : (k : Int) + 1 ≤ (l.length : Int) := by omega
      clear hx
      by_cases he : l[k] = c
      · have hb : ((bs [c]).toList == [c]) = true := by rw [bs_toList]; simp
        have hg : l[k]? = some c := by rw [List.getElem?_eq_getElem hlt, he]
        rw [he] at hxk
        clear he
        go_wp2_with fail
        go_ret
        exact ⟨(k : Int), rfl, rfl, .inr ⟨k, rfl, hlt, hg, hc⟩⟩
      · have hb : ((bs [l[k]]).toList == [c]) = false := by rw [bs_toList]; simp [he]
        go_wp2_with fail
        go_round
        case rel =>
          refine ⟨k + 1, by omega, by go_num, ?_⟩
          rw [List.take_succ_eq_append_getElem hlt]
          simp only [List.mem_append, List.mem_singleton]
          rintro (h | h)
          · exact hc h
          · exact he h.symm
        case measure => simp [intOf] <;> omega
    · obtain rfl : k = l.length := by omega
      have hle : ¬ ((l.length : Int) + 1 ≤ (l.length : Int)) := by omega
      go_wp2_with fail
      go_ret
      exact ⟨-1, rfl, rfl, .inl ⟨rfl, by simpa using hc⟩⟩

theorem index_hit (c : UInt8) (p q : List UInt8) (hp : c ∉ p) (hn : (p ++ c :: q).length ≤ 1000000) (w : World) :
    Calls Tryd.prog 67 #[.string (bs (p ++ c :: q)), .string ⟨#[c]⟩] w fun e w' => e = .returned (.int .i64 (p.length : Int)) ∧ w = w' := by
  refine (index_walk c _ hn w).mono ?_
  rintro e w' ⟨r, rfl, rfl, h⟩
  rcases h with ⟨_, h⟩ | ⟨k, rfl, hk, hg, ht⟩
  · simp at h
  · rcases Nat.lt_trichotomy k p.length with h | h | h
    · rw [List.getElem?_append_left h] at hg
      exact absurd (List.mem_of_getElem? hg) hp
    · subst h; exact ⟨rfl, rfl⟩
    · refine absurd ?_ ht
      rw [show k = p.length + ((k - p.length - 1) + 1) by omega, List.take_append, List.take_of_length_le (by omega)]
      simp
theorem index_none (c : UInt8) (l : List UInt8) (hl : c ∉ l) (hn : l.length ≤ 1000000) (w : World) :
    Calls Tryd.prog 67 #[.string (bs l), .string ⟨#[c]⟩] w fun e w' => e = .returned (.int .i64 (-1)) ∧ w = w' := by
  refine (index_walk c _ hn w).mono ?_
  rintro e w' ⟨r, rfl, rfl, h⟩
  rcases h with ⟨rfl, _⟩ | ⟨k, rfl, hk, hg, ht⟩
  · exact ⟨rfl, rfl⟩
  · exact absurd (List.mem_of_getElem? hg) hl

/-- The parts of a text between the signs. -/
def splitL (c : UInt8) : List UInt8 → List (List UInt8)
  | [] => [[]]
  | x :: r => if x = c then [] :: splitL c r else match splitL c r with
    | [] => [[x]]
    | p :: ps => (x :: p) :: ps
theorem splitL_ne (c : UInt8) : ∀ l, splitL c l ≠ []
  | [] => by simp [splitL]
  | x :: r => by
    simp only [splitL]
    split
    · simp
    · split <;> simp
theorem splitL_none (c : UInt8) : ∀ l, c ∉ l → splitL c l = [l]
  | [], _ => rfl
  | x :: r, h => by
    simp only [List.mem_cons, not_or] at h
    simp only [splitL]
    rw [if_neg (fun e => h.1 e.symm), splitL_none c r h.2]
theorem splitL_at (c : UInt8) : ∀ (p q : List UInt8), c ∉ p → splitL c (p ++ c :: q) = p :: splitL c q
  | [], q, _ => by simp [splitL]
  | x :: p, q, h => by
    simp only [List.mem_cons, not_or] at h
    simp only [List.cons_append, splitL]
    rw [if_neg (fun e => h.1 e.symm), splitL_at c p q h.2]
theorem splitL_length (c : UInt8) : ∀ l, (splitL c l).length ≤ l.length + 1
  | [] => by simp [splitL]
  | x :: r => by
    have := splitL_length c r
    simp only [splitL, List.length_cons]
    split
    · simp; omega
    · split
      · simp
      · rename_i h; rw [h] at this; simp at this ⊢; omega
theorem info_str : (Tryd.prog.info? 9).map (fun i => (i.zero, i.size, i.bytes)) = some (some (.string ⟨#[]⟩), 1, 16) := by kernel_rfl
def strsV (ps : List (List UInt8)) : List Value := ps.map fun p => .string (bs p)
def strLen : Value → Nat
  | .string b => b.size
  | _ => 0
theorem cell_new_one (w : World) (x : Value) (t : TypeId) : ∀ j u, [x][j]? = some u → (w.alloc (.cells #[x] t)).cell? ((⟨w.heap.size, 0, none⟩ : Addr).add j) = some u := by
  intro j u hu
  rw [add_plain]
  simp [World.cell?, World.alloc, -World.alloc_eq]
  simpa using hu
set_option maxRecDepth 100000 in
set_option maxHeartbeats 2000000 in
theorem split_walk (c : UInt8) (l : List UInt8) (hn : l.length ≤ 1000000) (w : World) :
    Calls Tryd.prog 47 #[.string (bs l), .string ⟨#[c]⟩] w fun e w' => ∃ g cap, e = .returned (.slice (some ⟨g, 0, none⟩) (splitL c l).length cap) ∧ w'.ownsRow w.heap.size 9 1 (.slice (some ⟨g, 0, none⟩) (splitL c l).length cap) (splitL c l).length (strsV (splitL c l)) ∧ Below w.heap.size w w' := by
  obtain ⟨i0, hi, hz0, hz1, hz2⟩ := info_parts info_str
  have hbound := splitL_length c l
  go_enter Tryd.func47, Tryd.ntmps47
  go_wp2_with fail
  go_loopw [0, 5] (fun s o wr => ∃ (rest : List UInt8) (done : List (List UInt8)), s = .string (bs rest) ∧ Hid (splitL c l = done ++ splitL c rest) ∧ done.length + rest.length ≤ l.length ∧ Hid (wr.ownsRow w.heap.size 9 1 o done.length (strsV done)) ∧ Below w.heap.size w wr) (fun s _ _ => strLen s)
  case atStart => exact ⟨l, [], rfl, Lib.hid rfl, by simp, Lib.hid (World.ownsRow_nil _ _ _ _), Below.refl _ _⟩
  case round =>
    obtain ⟨rest, done, rfl, hs, hd, ho, hb⟩ := hrel
    have hr : rest.length ≤ 1000000 := by omega
    have hbs := hb.size
    have hcap : done.length + 1 ≤ 1000002 := by omega
    by_cases hc : c ∈ rest
    · obtain ⟨p, q, rfl, hp⟩ := List.eq_append_cons_of_mem hc
      clear hc
      have HI := Lib.hid (index_hit c p q hp hr)
      rw [splitL_at c p q hp] at hs
      have hsz : (bs (p ++ c :: q)).size = p.length + (q.length + 1) := by rw [bs_size]; simp
      have hx1 : (bs (p ++ c :: q)).extract 0 p.length = bs p := by rw [bs_extract]; simp
      have hx2 : (bs (p ++ c :: q)).extract (p.length + 1) (p.length + (q.length + 1)) = bs q := by
        rw [bs_extract, List.take_of_length_le (by simp), show p.length + 1 = p.length + 1 from rfl, ← List.drop_drop, List.drop_left]; rfl
      have hq : q.length + 1 ≤ 1000000 := by simp at hr; omega
      have hpl : p.length ≤ 1000000 := by simp at hr; omega
      have hd' : done.length + (p.length + (q.length + 1)) ≤ l.length := by simpa using hd
      clear hd
      have hqb := bs_size q
      clear hr hp
      generalize bs (p ++ c :: q) = S at HI hsz hx1 hx2
      go_wp2_with (first
        | (go_at_call 67; refine (HI.out _).mono ?_; rintro e w1 ⟨rfl, rfl⟩)
        | (at_builtin; refine wpList_append_own _ rfl (.tmp 16) (.tmp 20) 22 rfl w.heap.size 9 i0 (.string ⟨#[]⟩) 1 16 Tryd.underlying22 hi hz0 hz1 hz2 rfl (by decide) _ _ _ rfl (ho.out.alloc _) ⟨wr.heap.size, 0, none⟩ 1 1 [.string (bs p)] rfl rfl (cell_new_one _ _ _) (fun u hu => by simp at hu; subst hu; rfl) (by unfold maxLen; omega) (by omega) (by simp; omega) ?_; intro v' w2 ho2 hg2 hnil2))
      refine ⟨⟨q, done ++ [p], rfl, Lib.hid (by rw [hs.out]; simp), by simp; omega, Lib.hid ?_, ?_⟩, by simp only [strLen]; omega⟩
      · rw [List.length_append, show strsV (done ++ [p]) = strsV done ++ [.string (bs p)] by simp [strsV]]; exact ho2
      · exact pw_below_grown (hb.alloc hbs _) _ (by simp; omega) hg2 (fun j hj => (ho.out.lt j hj).1)
    · have HI := Lib.hid (index_none c rest hc hr)
      rw [splitL_none c rest hc] at hs
      have hsz := bs_size rest
      obtain ⟨S, hS⟩ : ∃ S, S = bs rest := ⟨_, rfl⟩
      rw [← hS] at HI hsz
      have HS := Lib.hid hS
      rw [← hS]
      clear hS
      go_wp2_with (first
        | (go_at_call 67; refine (HI.out _).mono ?_; rintro e w1 ⟨rfl, rfl⟩)
        | (at_builtin; refine wpList_append_own _ rfl (.tmp 12) (.tmp 14) 22 rfl w.heap.size 9 i0 (.string ⟨#[]⟩) 1 16 Tryd.underlying22 hi hz0 hz1 hz2 rfl (by decide) _ _ _ rfl (ho.out.alloc _) ⟨wr.heap.size, 0, none⟩ 1 1 [.string S] rfl rfl (cell_new_one _ _ _) (fun u hu => by simp at hu; subst hu; rfl) (by unfold maxLen; omega) (by omega) (by simp; omega) ?_; intro v' w2 ho2 hg2 hnil2))
      have hlen : (splitL c l).length = done.length + 1 := by rw [hs.out]; simp
      have hstr : strsV (splitL c l) = strsV done ++ [.string S] := by rw [hs.out]; simp [strsV, HS.out]
      obtain ⟨g, cap, rfl, _, _⟩ := ho2.form (by omega)
      go_ret
      rw [hlen, hstr]
      exact ⟨g, cap, rfl, ho2, pw_below_grown (hb.alloc hbs _) _ (by simp; omega) hg2 (fun j hj => (ho.out.lt j hj).1)⟩
end Go.Proofs.YthfihamhkhnckaaDoor

namespace Go.Proofs.YthfihamhkhnckaaDoor
open Go.RowKit Go.ChangeShapes Go.Proofs.YthfihamhkhnckaaDoorW.PrintWords

/-- A number's digits, from a number on. -/
def valFrom : Nat → List UInt8 → Nat
  | a, [] => a
  | a, c :: r => valFrom (10 * a + (c.toNat - 48)) r
def dig (c : UInt8) : Prop := 48 ≤ c.toNat ∧ c.toNat ≤ 57
/-- One to four digits that do not begin with 0. -/
structure Num (ds : List UInt8) : Prop where
  ne : ds ≠ []
  four : ds.length ≤ 4
  all : ∀ c ∈ ds, dig c
  head : ds.head? ≠ some 48
def val (ds : List UInt8) : Nat := valFrom 0 ds
def Small (k acc : Nat) : Prop := (k = 0 ∧ acc = 0) ∨ (k = 1 ∧ acc ≤ 9) ∨ (k = 2 ∧ acc ≤ 99) ∨ (k = 3 ∧ acc ≤ 999) ∨ (k = 4 ∧ acc ≤ 9999)
theorem Small.le {k acc : Nat} (h : Small k acc) : acc ≤ 9999 := by unfold Small at h; omega
theorem Small.le3 {k acc : Nat} (h : Small k acc) (hk : k < 4) : acc ≤ 999 := by unfold Small at h; omega
theorem Small.next {k acc d : Nat} (h : Small k acc) (hk : k < 4) (hd : d ≤ 9) : Small (k + 1) (10 * acc + d) := by unfold Small at h ⊢; omega
theorem valFrom_small (ds : List UInt8) : ∀ (k acc : Nat), (∀ c ∈ ds, dig c) → k + ds.length ≤ 4 → Small k acc → Small (k + ds.length) (valFrom acc ds) := by
  induction ds with
  | nil => intro k acc _ _ h; exact h
  | cons c r ih =>
    intro k acc hd hl h
    rw [List.length_cons] at hl ⊢
    have hc := (hd c List.mem_cons_self).2
    have hn := h.next (d := c.toNat - 48) (by omega) (by omega)
    have := ih (k + 1) (10 * acc + (c.toNat - 48)) (fun x hx => hd x (List.mem_cons_of_mem _ hx)) (by omega) hn
    rw [show k + (r.length + 1) = k + 1 + r.length by omega]
    exact this
theorem Num.val_le {ds : List UInt8} (h : Num ds) : val ds ≤ 9999 :=
  (valFrom_small ds 0 0 h.all (by have := h.four; omega) (.inl ⟨rfl, rfl⟩)).le
theorem valFrom_ge : ∀ (ds : List UInt8) (acc : Nat), acc ≤ valFrom acc ds
  | [], _ => Nat.le_refl _
  | c :: r, acc => Nat.le_trans (by omega) (valFrom_ge r (10 * acc + (c.toNat - 48)))
theorem Num.val_pos {ds : List UInt8} (h : Num ds) : 1 ≤ val ds := by
  cases ds with
  | nil => exact absurd rfl h.ne
  | cons c r =>
    have h1 := h.head
    have h2 := h.all c (by simp)
    simp only [List.head?_cons, ne_eq, Option.some.injEq] at h1
    have : c.toNat ≠ 48 := fun e => h1 (UInt8.toNat_inj.1 (by rw [e]; rfl))
    refine Nat.le_trans ?_ (valFrom_ge r (10 * 0 + (c.toNat - 48)))
    have := h2.1
    omega
set_option maxHeartbeats 4000000 in
set_option maxRecDepth 100000 in
theorem atoi_in (ds : List UInt8) (h : Num ds) (w : World) :
    Calls Tryd.prog 80 #[.string (bs ds)] w fun e w' => e = .returned (.tuple #[.int .i64 (val ds : Nat), .nilIface]) ∧ Below w.heap.size w w' := by
  have hn1 : 0 < ds.length := List.length_pos_iff.2 h.ne
  have hn4 := h.four
  obtain ⟨S, hS⟩ : ∃ S, S = bs ds := ⟨_, rfl⟩
  obtain ⟨N, hN⟩ : ∃ N, N = ds.length := ⟨_, rfl⟩
  have hsz : S.size = N := by rw [hS, bs_size, hN]
  rw [← hN] at hn1 hn4
  obtain ⟨x0, hx0, g0, g1⟩ : ∃ x0 : Int, ((S[0]'(by omega)).toNat : Int) = x0 ∧ 48 ≤ x0 ∧ x0 ≤ 57 := by
    subst hS
    have := h.all (ds[0]'(by omega)) (List.getElem_mem _)
    exact ⟨(ds[0]'(by omega)).toNat, rfl, by have := this.1; omega, by have := this.2; omega⟩
  obtain ⟨W1, n2, hcv, hB, hBel⟩ : ∃ (W1 : World) (n2 : Nat), (convert 9 105 (.string S)).run Tryd.prog w = .ok (.slice (some ⟨w.heap.size, 0, none⟩) N n2) W1 ∧ (∀ j, j < N → W1.cell? ⟨w.heap.size, j, none⟩ = some (.int .u8 (ds.getD j 0).toNat)) ∧ Below w.heap.size w W1 := by
    have hcv := Lib.run_convert_string_bytes (P := Tryd.prog) w 9 105 5 S (u := .string) Tryd.underlying9 Tryd.underlying105 Tryd.underlying5
    rw [hsz] at hcv
    refine ⟨_, _, hcv, fun j hj => ?_, Lib.bytesWorld_below w 5 S⟩
    have := Lib.bytesWorld_cell w 5 S j (by omega)
    rw [show S.data.toList = ds by rw [hS]; simp [bs]] at this
    exact this
  rw [← hS]
  clear hS
  have e1 : (x0 == 45) = false := beq_eq_false_iff_ne.2 (by omega)
  have e2 : (x0 == 43) = false := beq_eq_false_iff_ne.2 (by omega)
  have HA := Lib.hid h.all
  have HB := Lib.hid hB
  have HBel := Lib.hid hBel
  have HN := Lib.hid hN
  clear h hB hBel
  go_enter Tryd.func80, Tryd.ntmps80
  go_wp2_with fail
  go_loop [6, 49] (fun vn vi => ∃ (k acc : Nat) (a : Int), vn = .int .i64 a ∧ vi = .int .i64 k ∧ k ≤ N ∧ Hid (a = (acc : Int) ∧ Small k acc ∧ valFrom 0 ds = valFrom acc (ds.drop k)))
    (fun _ vi => N - (intOf vi).toNat)
  case atStart => exact ⟨0, 0, 0, rfl, rfl, by omega, rfl, Or.inl ⟨rfl, rfl⟩, rfl⟩
  case round =>
    obtain ⟨k, acc, a, rfl, rfl, hk, hh⟩ := hrel
    obtain ⟨ha, hacc, hdec⟩ := hh.out
    clear hh
    by_cases hkn : k < N
    · have hkd : k < ds.length := by rw [← HN.out]; exact hkn
      have hc := HB.out k hkn
      have hdrop : ds.drop k = ds[k]'hkd :: ds.drop (k + 1) := List.drop_eq_getElem_cons hkd
      have hget : ds.getD k 0 = ds[k]'hkd := by simp [List.getD, List.getElem?_eq_getElem hkd]
      have hcc := HA.out (ds[k]'hkd) (List.getElem_mem _)
      rw [hdrop] at hdec
      rw [hget] at hc
      generalize ds[k]'hkd = c at hc hdec hcc
      have hc256 : c.toNat < 256 := c.toNat_lt
      obtain ⟨hd0, hd1⟩ := hcc
      have h999 := hacc.le3 (by omega)
      have a0 : 0 ≤ a := by omega
      have a1 : a ≤ 999 := by omega
      have HN2 : Hid (a * 10 + ((c.toNat : Int) - 48) = ((10 * acc + (c.toNat - 48) : Nat) : Int) ∧ Small (k + 1) (10 * acc + (c.toNat - 48)) ∧ valFrom 0 ds = valFrom (10 * acc + (c.toNat - 48)) (ds.drop (k + 1))) :=
        Lib.hid ⟨by omega, hacc.next (by omega) (by omega), hdec⟩
      clear hdrop hget hdec ha hacc h999
      go_wp2_with fail
      refine ⟨⟨k + 1, 10 * acc + (c.toNat - 48), a * 10 + ((c.toNat : Int) - 48), rfl, (by first | rfl | (congr 1; omega)), by omega, HN2⟩, by simp [intOf]; omega⟩
    · obtain rfl : k = N := by omega
      rw [List.drop_eq_nil_of_le (by rw [← HN.out]; omega)] at hdec
      have hdec' : valFrom 0 ds = acc := hdec
      have hge : ¬ ((k : Int) < (k : Int)) := by omega
      clear hacc
      go_wp2_with fail
      exact bodyPost_ret (v := .tuple #[.int .i64 (acc : Nat), .nilIface]) (by simp [results, Tryd.results80, go_sem]) rfl ⟨by rw [val, hdec'], HBel.out⟩
set_option maxHeartbeats 4000000 in
set_option maxRecDepth 100000 in
theorem atoi (ds : List UInt8) (h : Num ds) (w : World) :
    Calls Tryd.prog 65 #[.string (bs ds)] w fun e w' => e = .returned (.tuple #[.int .i64 (val ds : Nat), .nilIface]) ∧ Below w.heap.size w w' := by
  have H := Lib.hid (atoi_in ds h w)
  clear h
  generalize bs ds = S at H
  go_enter Tryd.func65, Tryd.ntmps65
  go_wp2_with (first | (go_at_call 80; refine H.out.mono ?_; rintro e w1 ⟨rfl, hB⟩))
  exact bodyPost_ret (v := .tuple #[.int .i64 (val ds : Nat), .nilIface]) (by simp [results, Tryd.results65, go_sem]) rfl ⟨rfl, hB⟩
end Go.Proofs.YthfihamhkhnckaaDoor

namespace Go.Proofs.YthfihamhkhnckaaDoor
open Go.RowKit Go.ChangeShapes Go.Proofs.YthfihamhkhnckaaDoorW.PrintWords

/-- One page put to a collection, or taken out of it. -/
def proc (neg : Bool) (p : Int) (l : List Int) : List Int := if neg then l.filter (· ≠ p) else l ++ [p]
theorem proc_length (neg : Bool) (p : Int) (l : List Int) : (proc neg p l).length ≤ l.length + 1 := by
  cases neg
  · simp [proc]
  · have := List.length_filter_le (· ≠ p) l
    simp [proc] at this ⊢; omega
/-- A cell that holds a collection. -/
def Cp (B c : Nat) (l : List Int) (w : World) : Prop := B ≤ c ∧ ∃ v, w.heap[c]? = some (.cells #[v] 24 (0, 0)) ∧ w.ownsRow B 3 1 v l.length (nums .i64 l)
theorem Cp.put {B c : Nat} {w : World} {x v : Value} {l : List Int} (hc : B ≤ c) (hb : w.heap[c]? = some (.cells #[x] 24 (0, 0))) (ho : w.ownsRow B 3 1 v l.length (nums .i64 l)) : Cp B c l (w.setCell ⟨c, 0, none⟩ v) := by
  refine ⟨hc, v, blk_put hb 0 v rfl, own_setCell ho (fun h => ?_) v⟩
  obtain ⟨cs, h2⟩ := own_typed ho c h.symm
  exact blk_ne hb h2 (by decide) rfl
theorem info_int : (Tryd.prog.info? 3).map (fun i => (i.zero, i.size, i.bytes)) = some (some (.int .i64 0), 1, 8) := by kernel_rfl
set_option maxHeartbeats 4000000 in
set_option maxRecDepth 100000 in
theorem delete_calls (B c : Nat) (l : List Int) (p : Int) (hl : l.length ≤ 1000000) (w : World) (H : Cp B c l w) (hBw : B ≤ w.heap.size) :
    Calls Tryd.prog 78 #[.pointer (some ⟨c, 0, none⟩), .int .i64 p] w fun e w' => e = .returned (.tuple #[]) ∧ Cp B c (l.filter (· ≠ p)) w' ∧ Below B w w' := by
  obtain ⟨hc, v, hb, ho⟩ := H
  have c1 := blk_cell hb 0
  have hlt := blk_lt hb
  obtain ⟨A, cv, rfl⟩ := own_slice ho
  have Ho := Lib.hid ho
  have Hb := Lib.hid hb
  clear ho hb
  go_enter Tryd.func78, Tryd.ntmps78
  go_wp2_with fail
  go_loopw [4, 12] (fun o vi wr => ∃ (k : Nat), vi = .int .i64 k ∧ k ≤ l.length ∧ Hid (wr.ownsRow w.heap.size 3 1 o ((l.take k).filter (· ≠ p)).length (nums .i64 ((l.take k).filter (· ≠ p)))) ∧ Below w.heap.size w wr) (fun _ vi _ => l.length - (intOf vi).toNat)
  case atStart =>
    exact ⟨0, rfl, by omega, Lib.hid (own_lit w w.heap.size 3 .i64 [] (Nat.le_refl _) (by simp)), (Below.refl _ _).alloc (Nat.le_refl _) _⟩
  case round =>
    obtain ⟨k, rfl, hk, ho2, hbl⟩ := hrel
    have hbs := hbl.size
    by_cases hkn : k < l.length
    · have ho1 := pw_own_below Ho.out hbl
      obtain ⟨g, cap, hgA, _, _⟩ := ho1.form (by omega)
      cases hgA
      obtain ⟨ce, _⟩ := own_at ho1 (k : Int) (by omega) (by omega)
      rw [Int.toNat_natCast] at ce
      have hrd : rd l (k : Int) = l[k]'hkn := by simp [rd, List.getD, List.getElem?_eq_getElem hkn]
      rw [hrd] at ce
      have htk : l.take (k + 1) = l.take k ++ [l[k]'hkn] := by rw [List.take_append_getElem]
      generalize l[k]'hkn = x at ce htk
      have hfl : ((l.take k).filter (· ≠ p)).length ≤ 1000000 := Nat.le_trans (List.length_filter_le _ _) (by simp; omega)
      clear ho1 hrd
      by_cases hxp : x = p
      · have hff : (l.take (k + 1)).filter (· ≠ p) = (l.take k).filter (· ≠ p) := by rw [htk, List.filter_append]; simp [hxp]
        clear htk
        subst hxp
        go_wp2_with fail
        exact ⟨⟨k + 1, rfl, by omega, by rw [hff]; exact ho2, hbl⟩, by simp [intOf]; omega⟩
      · have hff : (l.take (k + 1)).filter (· ≠ p) = (l.take k).filter (· ≠ p) ++ [x] := by rw [htk, List.filter_append]; simp [hxp]
        clear htk
        generalize (l.take k).filter (· ≠ p) = L at *
        go_wp2_with (at_builtin; refine print_append_num w.heap.size rfl (.tmp 19) (.tmp 21) 24 3 .i64 8 rfl Tryd.underlying24 info_int (by decide) _ L x rfl rfl ho2.out hbl hbs (by omega) ?_; intro v1 w1 ho3 hb3 _ _)
        exact ⟨⟨k + 1, rfl, by omega, by rw [hff]; exact Lib.hid ho3, hb3⟩, by simp [intOf]; omega⟩
    · obtain rfl : k = l.length := by omega
      rw [List.take_length] at ho2
      have hge : ¬ ((l.length : Int) < (l.length : Int)) := by omega
      have hb2 := (hbl.block c hlt).trans Hb.out
      have c2 := blk_cell hb2 0
      have f2 := blk_frozen hb2 0
      have HF := Lib.hid (Cp.put hc hb2 (own_weaken ho2.out hBw))
      have HB2 := fun u => Lib.hid ((hbl.mono hBw).setCell (p := ⟨c, 0, none⟩) hc u)
      obtain ⟨A2, cv2, rfl⟩ := own_slice ho2.out
      clear hb2 hbl ho2
      go_wp2_with fail
      go_end0
      exact ⟨rfl, by simpa using HF.out, by simpa using (HB2 _).out⟩
set_option maxHeartbeats 4000000 in
set_option maxRecDepth 100000 in
theorem process_calls (B c : Nat) (l : List Int) (neg : Bool) (p : Int) (hl : l.length ≤ 1000000) (w : World) (H : Cp B c l w) (hBw : B ≤ w.heap.size) :
    Calls Tryd.prog 63 #[.pointer (some ⟨c, 0, none⟩), .bool neg, .int .i64 p] w fun e w' => e = .returned (.tuple #[]) ∧ Cp B c (proc neg p l) w' ∧ Below B w w' := by
  cases neg
  · obtain ⟨hc, v, hb, ho⟩ := H
    have c1 := blk_cell hb 0
    have hlt := blk_lt hb
    obtain ⟨A, cv, rfl⟩ := own_slice ho
    have Ho := Lib.hid ho
    have Hb := Lib.hid hb
    clear ho hb
    go_enter Tryd.func63, Tryd.ntmps63
    go_wp2_with (at_builtin; refine print_append_num (w0 := w) B rfl (.tmp 11) (.tmp 13) 24 3 .i64 8 rfl Tryd.underlying24 info_int (by decide) _ l p rfl rfl Ho.out (Below.refl _ _) hBw (by omega) ?_; intro v1 w1 ho3 hb3 hg _
                 have hb2 := blk_grown Hb.out hg (fun h => by obtain ⟨cs, h2⟩ := own_typed Ho.out c h.symm; exact blk_ne Hb.out h2 (by decide) rfl)
                 have c2 := blk_cell hb2 0
                 have f2 := blk_frozen hb2 0
                 have HF := Lib.hid (Cp.put hc hb2 ho3)
                 have HB2 := fun u => Lib.hid (hb3.setCell (p := ⟨c, 0, none⟩) hc u)
                 obtain ⟨A2, cv2, rfl⟩ := own_slice ho3
                 clear hb2 hb3 hg ho3)
    go_end0
    exact ⟨rfl, by simpa [proc] using HF.out, (HB2 _).out⟩
  · have HD := Lib.hid (delete_calls B c l p hl w H hBw)
    clear H
    go_enter Tryd.func63, Tryd.ntmps63
    go_wp2_with (go_at_call 78; refine HD.out.mono ?_; rintro e w1 ⟨rfl, h1, h2⟩)
    go_end0
    exact ⟨rfl, h1, h2⟩
end Go.Proofs.YthfihamhkhnckaaDoor
