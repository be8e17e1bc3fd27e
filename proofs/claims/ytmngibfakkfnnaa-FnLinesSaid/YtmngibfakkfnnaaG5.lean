/-
The law FnLines: the law's own function walked. Conditions: bytes that lie in memory.
-/
import Derived.Test.YtmngibfakkfnnaaG3
import Derived.Test.YtmngibfakkfnnaaG4
import Derived.OrdersHeld
import Derived.Deep.RegionHeld3
namespace Go.Proofs.Ytmngibfakkfnnaa
open Go.RowKit Go.ChangeShapes Go.Proofs.Ytmngibfakkfnnaa.PFnLines Go.Proofs.YtmngibfakkfnnaaW.PrintWords

theorem hid3 {p : Prop} (h : p) : Hid p := h
theorem linesF_few : ∀ (k : Nat) (L : List Int), (linesF k L).length ≤ k
  | 0, _ => Nat.le_refl _
  | _ + 1, [] => Nat.zero_le _
  | k + 1, x :: L => by
    have := linesF_few k ((x :: L).drop (nextLine (x :: L)).1.toNat)
    simp only [linesF, List.length_cons]
    omega

theorem byted_of {l : List Int} (h : ∀ n ∈ l, (Lit.int .u8 n).wf = true) : byted l := fun x hx => by
  have := h x hx
  simp [Lit.wf, IntKind.min, IntKind.max, IntKind.signed, IntKind.bits] at this
  omega

set_option maxHeartbeats 2000000 in
theorem fnLines_walk (A : Option Addr) (D : List Int) (c : Nat) (w : World) (hc : D.length ≤ c) (hC : Kd.C (Kd.int .u8) w A D.length D) (hA0 : A = none → c = 0) (hD : byted D) :
    Calls Try.prog 9 #[.slice A D.length c] w fun e w' => e = .returned (.bool true) ∧ Below w.heap.size w w' := by
  by_cases hbig : (D.length : Int) > 2147483647
  · go_enter Try.func9, Try.ntmps9
    go_wp2
    go_ret
    exact ⟨rfl, Below.refl _ _⟩
  by_cases h1000 : (D.length : Int) > 1000
  · go_enter Try.func9, Try.ntmps9
    go_wp2
    go_ret
    exact ⟨rfl, Below.refl _ _⟩
  have hn : D.length ≤ 1000 := by omega
  have H1 := hidg (spec_Lines.calls (2 * D.length + 1) (fun _ => True) A c D (linesF D.length D) w (Kd.V_mk hc (Kd.F_mono (Kd.C_F (Kd.heap_int _) hC) (fun _ _ => trivial))) (spec_lines D hn))
  have H2 := hidg (fun (W : World) (hb : Below w.heap.size w W) => linesOf_calls D A c W hD hn hc (Kd.C_below hC hb) hA0)
  go_enter Try.func9, Try.ntmps9
  go_wp2_with (first
    | (go_at_call 26; refine H1.out.mono ?_; rintro e w1 ⟨v1, rfl, hN, hb1⟩; obtain ⟨A1, c1, rfl⟩ := Kd.N_slice hN)
    | (go_at_call 27; refine (H2.out _ hb1).mono ?_; rintro e w2 ⟨v2, rows, rfl, hov, hrows, hb2⟩; obtain ⟨A2, c2, rfl⟩ := own_slice hov))
  have hfew := linesF_few D.length D
  clear H1 H2
  generalize linesF D.length D = ls at hN hov hrows hfew ⊢
  have hbW : Below w.heap.size w w2 := below_step hb1 hb2
  have hN2 := Kd.N_below hN hb2
  have HX := hid3 (⟨hN2, hov, hrows, hbW⟩ : _ ∧ _ ∧ _ ∧ _)
  clear hN hov hrows hbW hN2
  go_loopw [31] (fun i wr => ∃ k m : Nat, i = .int .i64 (k : Int) ∧ k ≤ ls.length ∧ wr = w2.drewN m) (fun i _ => ls.length - (intOf i).toNat)
  case atStart => exact ⟨0, 0, rfl, Nat.zero_le _, rfl⟩
  case round =>
    obtain ⟨k, m, rfl, hk, rfl⟩ := hrel
    by_cases hlt : k < ls.length
    · have hi2 : (k : Int) < (ls.length : Int) := by omega
      obtain ⟨hN, hov, hrows, hbW⟩ := HX.out
      obtain ⟨g2, c3, he2, _, _⟩ := hov.form (by omega)
      injection he2 with he2 _ hc3
      subst he2 hc3
      obtain ⟨ad1, hA1, _⟩ := (Kd.N_reads' hN).2.2.2.2 (by omega)
      subst hA1
      obtain ⟨cs, hcs, hFK, hcell1⟩ := Kd.V_get (Kd.N_V (base' := 0) hN) [] (k : Int) (by omega) (by omega)
      obtain ⟨Aw, cw, rfl, hcw, hF⟩ := Kd.FK_slice_open hFK
      have hr : ∃ r, rows[k]? = some r := ⟨_, List.getElem?_eq_getElem (by rw [hrows.1]; exact hlt)⟩
      obtain ⟨r, hr⟩ := hr
      have hl : ls[k]? = some ls[k] := List.getElem?_eq_getElem hlt
      have hor := hrows.2 k r _ hr hl
      obtain ⟨Ar, cr, rfl⟩ := own_slice hor
      have hlk : ls.getD (k : Int).toNat [] = ls[k] := by rw [Int.toNat_natCast, List.getD_eq_getElem?_getD, hl]; rfl
      rw [hlk] at hF hcell1 hcw
      have f1 := hcell1 0 _ rfl
      have e1 : ad1.add ((k : Int).toNat * (Kd.slice 5 (Kd.int .u8)).sz + 0) = ad1.add k := by
        rw [Int.toNat_natCast]; show ad1.add (k * 1 + 0) = _; rw [Nat.mul_one, Nat.add_zero]
      rw [e1] at f1
      have f2 : w2.cell? ⟨g2, k, none⟩ = some (.slice Ar ls[k].length cr) := by rw [hov.cellAt k (by omega)]; exact hr
      have g1 : (convert 35 9 (.slice Aw ls[k].length cw)).run Try.prog w2 = .ok (.string (strOfNums ls[k])) w2 := Kd.C_string Try.underlying35 Try.underlying5 Try.underlying9 (Kd.F_now hF)
      have g2' : (convert 35 9 (.slice Ar ls[k].length cr)).run Try.prog w2 = .ok (.string (strOfNums ls[k])) w2 := own_string Try.underlying35 Try.underlying5 Try.underlying9 hor
      have g1m : ∀ q, (convert 35 9 (.slice Aw ls[k].length cw)).run Try.prog (w2.drewN q) = .ok (.string (strOfNums ls[k])) (w2.drewN q) := fun q => Kd.C_string Try.underlying35 Try.underlying5 Try.underlying9 (Kd.C_below (Kd.F_now hF) (pw_below_drewN (Below.refl _ _) q))
      have g2m : ∀ q, (convert 35 9 (.slice Ar ls[k].length cr)).run Try.prog (w2.drewN q) = .ok (.string (strOfNums ls[k])) (w2.drewN q) := fun q => own_string (w := w2.drewN q) Try.underlying35 Try.underlying5 Try.underlying9 hor
      clear hor hF hcell1 hFK hrows hov hN hr hl hlk e1 hcs
      generalize ls[k] = l at f1 f2 g1 g2' g1m g2m
      have hne : (((strOfNums l).toList == (strOfNums l).toList)) = true := by simp
      go_wp2
      have d1 : (w2.drewN m).cell? (ad1.add k) = some (.slice Aw l.length cw) := f1
      have d2 : (w2.drewN m).cell? ⟨g2, k, none⟩ = some (.slice Ar l.length cr) := f2
      go_quiet (fail)
      go_wp2
      go_roundw
      case rel => exact ⟨k + 1, m + nq, by simp, hlt, by simp [World.drewN]⟩
      case measure => simp [intOf]; omega
    · have hi2 : ¬ ((k : Int) < (ls.length : Int)) := by omega
      go_wp2
      go_ret
      exact ⟨rfl, pw_below_drewN HX.out.2.2.2 _⟩
end Go.Proofs.Ytmngibfakkfnnaa
