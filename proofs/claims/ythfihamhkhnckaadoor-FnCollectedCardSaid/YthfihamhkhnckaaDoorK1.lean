/-
Numbers of one to four digits: the library's reading of them: the walks. Condition: one to four decimal digits.
-/
import Derived.Test.YthfihamhkhnckaaDoorZ1
import Derived.Lib.ConvBytes
import Derived.Lib.AtoiErrMem
namespace Go.Proofs.YthfihamhkhnckaaDoor
open Go.RowKit Go.ChangeShapes Go.Proofs.YthfihamhkhnckaaDoorW.PrintWords

/-- A number's digits, from a number on. -/
def valFrom : Nat → List UInt8 → Nat
  | a, [] => a
  | a, c :: r => valFrom (10 * a + (c.toNat - 48)) r
def dig (c : UInt8) : Prop := 48 ≤ c.toNat ∧ c.toNat ≤ 57
/-- One to four digits that do not begin with 0. -/
structure Num (ds : List UInt8) : Prop where
  ne : ds ≠ []
  four : ds.length ≤ 4
  all : ∀ c ∈ ds, dig c
  head : ds.head? ≠ some 48
def val (ds : List UInt8) : Nat := valFrom 0 ds
def Small (k acc : Nat) : Prop := (k = 0 ∧ acc = 0) ∨ (k = 1 ∧ acc ≤ 9) ∨ (k = 2 ∧ acc ≤ 99) ∨ (k = 3 ∧ acc ≤ 999) ∨ (k = 4 ∧ acc ≤ 9999)
theorem Small.le {k acc : Nat} (h : Small k acc) : acc ≤ 9999 := by unfold Small at h; omega
theorem Small.le3 {k acc : Nat} (h : Small k acc) (hk : k < 4) : acc ≤ 999 := by unfold Small at h; omega
theorem Small.next {k acc d : Nat} (h : Small k acc) (hk : k < 4) (hd : d ≤ 9) : Small (k + 1) (10 * acc + d) := by unfold Small at h ⊢; omega
theorem valFrom_small (ds : List UInt8) : ∀ (k acc : Nat), (∀ c ∈ ds, dig c) → k + ds.length ≤ 4 → Small k acc → Small (k + ds.length) (valFrom acc ds) := by
  induction ds with
  | nil => intro k acc _ _ h; exact h
  | cons c r ih =>
    intro k acc hd hl h
    rw [List.length_cons] at hl ⊢
    have hc := (hd c List.mem_cons_self).2
    have hn := h.next (d := c.toNat - 48) (by omega) (by omega)
    have := ih (k + 1) (10 * acc + (c.toNat - 48)) (fun x hx => hd x (List.mem_cons_of_mem _ hx)) (by omega) hn
    rw [show k + (r.length + 1) = k + 1 + r.length by omega]
    exact this
theorem Num.val_le {ds : List UInt8} (h : Num ds) : val ds ≤ 9999 :=
  (valFrom_small ds 0 0 h.all (by have := h.four; omega) (.inl ⟨rfl, rfl⟩)).le
theorem valFrom_ge : ∀ (ds : List UInt8) (acc : Nat), acc ≤ valFrom acc ds
  | [], _ => Nat.le_refl _
  | c :: r, acc => Nat.le_trans (by omega) (valFrom_ge r (10 * acc + (c.toNat - 48)))
theorem Num.val_pos {ds : List UInt8} (h : Num ds) : 1 ≤ val ds := by
  cases ds with
  | nil => exact absurd rfl h.ne
  | cons c r =>
    have h1 := h.head
    have h2 := h.all c (by simp)
    simp only [List.head?_cons, ne_eq, Option.some.injEq] at h1
    have : c.toNat ≠ 48 := fun e => h1 (UInt8.toNat_inj.1 (by rw [e]; rfl))
    refine Nat.le_trans ?_ (valFrom_ge r (10 * 0 + (c.toNat - 48)))
    have := h2.1
    omega
set_option maxHeartbeats 4000000 in
set_option maxRecDepth 100000 in
theorem atoi_in (ds : List UInt8) (h : Num ds) (w : World) :
    Calls Tryd.prog 80 #[.string (bs ds)] w fun e w' => e = .returned (.tuple #[.int .i64 (val ds : Nat), .nilIface]) ∧ Below w.heap.size w w' := by
  have hn1 : 0 < ds.length := List.length_pos_iff.2 h.ne
  have hn4 := h.four
  obtain ⟨S, hS⟩ : ∃ S, S = bs ds := ⟨_, rfl⟩
  obtain ⟨N, hN⟩ : ∃ N, N = ds.length := ⟨_, rfl⟩
  have hsz : S.size = N := by rw [hS, bs_size, hN]
  rw [← hN] at hn1 hn4
  obtain ⟨x0, hx0, g0, g1⟩ : ∃ x0 : Int, ((S[0]'(by omega)).toNat : Int) = x0 ∧ 48 ≤ x0 ∧ x0 ≤ 57 := by
    subst hS
    have := h.all (ds[0]'(by omega)) (List.getElem_mem _)
    exact ⟨(ds[0]'(by omega)).toNat, rfl, by have := this.1; omega, by have := this.2; omega⟩
  obtain ⟨W1, n2, hcv, hB, hBel⟩ : ∃ (W1 : World) (n2 : Nat), (convert 9 105 (.string S)).run Tryd.prog w = .ok (.slice (some ⟨w.heap.size, 0, none⟩) N n2) W1 ∧ (∀ j, j < N → W1.cell? ⟨w.heap.size, j, none⟩ = some (.int .u8 (ds.getD j 0).toNat)) ∧ Below w.heap.size w W1 := by
    have hcv := Lib.run_convert_string_bytes (P := Tryd.prog) w 9 105 5 S (u := .string) Tryd.underlying9 Tryd.underlying105 Tryd.underlying5
    rw [hsz] at hcv
    refine ⟨_, _, hcv, fun j hj => ?_, Lib.bytesWorld_below w 5 S⟩
    have := Lib.bytesWorld_cell w 5 S j (by omega)
    rw [show S.data.toList = ds by rw [hS]; simp [bs]] at this
    exact this
  rw [← hS]
  clear hS
  have e1 : (x0 == 45) = false := beq_eq_false_iff_ne.2 (by omega)
  have e2 : (x0 == 43) = false := beq_eq_false_iff_ne.2 (by omega)
  have HA := Lib.hid h.all
  have HB := Lib.hid hB
  have HBel := Lib.hid hBel
  have HN := Lib.hid hN
  clear h hB hBel
  go_enter Tryd.func80, Tryd.ntmps80
  go_wp2_with fail
  go_loop [6, 49] (fun vn vi => ∃ (k acc : Nat) (a : Int), vn = .int .i64 a ∧ vi = .int .i64 k ∧ k ≤ N ∧ Hid (a = (acc : Int) ∧ Small k acc ∧ valFrom 0 ds = valFrom acc (ds.drop k)))
    (fun _ vi => N - (intOf vi).toNat)
  case atStart => exact ⟨0, 0, 0, rfl, rfl, by omega, rfl, Or.inl ⟨rfl, rfl⟩, rfl⟩
  case round =>
    obtain ⟨k, acc, a, rfl, rfl, hk, hh⟩ := hrel
    obtain ⟨ha, hacc, hdec⟩ := hh.out
    clear hh
    by_cases hkn : k < N
    · have hkd : k < ds.length := by rw [← HN.out]; exact hkn
      have hc := HB.out k hkn
      have hdrop : ds.drop k = ds[k]'hkd :: ds.drop (k + 1) := List.drop_eq_getElem_cons hkd
      have hget : ds.getD k 0 = ds[k]'hkd := by simp [List.getD, List.getElem?_eq_getElem hkd]
      have hcc := HA.out (ds[k]'hkd) (List.getElem_mem _)
      rw [hdrop] at hdec
      rw [hget] at hc
      generalize ds[k]'hkd = c at hc hdec hcc
      have hc256 : c.toNat < 256 := c.toNat_lt
      obtain ⟨hd0, hd1⟩ := hcc
      have h999 := hacc.le3 (by omega)
      have a0 : 0 ≤ a := by omega
      have a1 : a ≤ 999 := by omega
      have HN2 : Hid (a * 10 + ((c.toNat : Int) - 48) = ((10 * acc + (c.toNat - 48) : Nat) : Int) ∧ Small (k + 1) (10 * acc + (c.toNat - 48)) ∧ valFrom 0 ds = valFrom (10 * acc + (c.toNat - 48)) (ds.drop (k + 1))) :=
        Lib.hid ⟨by omega, hacc.next (by omega) (by omega), hdec⟩
      clear hdrop hget hdec ha hacc h999
      go_wp2_with fail
      refine ⟨⟨k + 1, 10 * acc + (c.toNat - 48), a * 10 + ((c.toNat : Int) - 48), rfl, (by first | rfl | (congr 1; omega)), by omega, HN2⟩, by simp [intOf]; omega⟩
    · obtain rfl : k = N := by omega
      rw [List.drop_eq_nil_of_le (by rw [← HN.out]; omega)] at hdec
      have hdec' : valFrom 0 ds = acc := hdec
      have hge : ¬ ((k : Int) < (k : Int)) := by omega
      clear hacc
      go_wp2_with fail
      exact bodyPost_ret (v := .tuple #[.int .i64 (acc : Nat), .nilIface]) (by simp [results, Tryd.results80, go_sem]) rfl ⟨by rw [val, hdec'], HBel.out⟩
set_option maxHeartbeats 4000000 in
set_option maxRecDepth 100000 in
theorem atoi (ds : List UInt8) (h : Num ds) (w : World) :
    Calls Tryd.prog 65 #[.string (bs ds)] w fun e w' => e = .returned (.tuple #[.int .i64 (val ds : Nat), .nilIface]) ∧ Below w.heap.size w w' := by
  have H := Lib.hid (atoi_in ds h w)
  clear h
  generalize bs ds = S at H
  go_enter Tryd.func65, Tryd.ntmps65
  go_wp2_with (first | (go_at_call 80; refine H.out.mono ?_; rintro e w1 ⟨rfl, hB⟩))
  exact bodyPost_ret (v := .tuple #[.int .i64 (val ds : Nat), .nilIface]) (by simp [results, Tryd.results65, go_sem]) rfl ⟨rfl, hB⟩
end Go.Proofs.YthfihamhkhnckaaDoor
