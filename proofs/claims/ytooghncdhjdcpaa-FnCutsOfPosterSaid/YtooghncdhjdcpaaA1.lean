/-
The contracts of spec.Near and spec.Small. Conditions: finite operands for Near; none for Small.
-/
import Derived.Test.YtooghncdhjdcpaaRows
import Derived.WalkKit
import Derived.WalkSpells
import Derived.WalkLawsBesides
import Derived.Lib.Hide
import Derived.Test.YtooghncdhjdcpaaFl
namespace Go.Proofs.Ytooghncdhjdcpaa
open Go.RowKit Fl

/-- What the walk lacks: the store of a float. -/
@[go_sem] theorem run_store_float {P : Program} (w : World) (a : Addr) (m : Mode) (k : FloatKind) (b : Nat) : (store a (.float k b) m).run P w = stored P w a (.float k b) m := run_store P w a _ m rfl

theorem run_negf (x : Nat) (w : World) : (Op.unary .neg (.float .f64 x)).run Try.prog w = .ok (.float .f64 (Op.negFloat .f64 x)) w := rfl

set_option maxHeartbeats 400000 in
theorem near_any {x y : Nat} {p q : Rat} (w : World) (hx : R x p) (hy : R y q) (hn : Nr p q (9 / 10000000000 * (1 + ab p))) (hb : Nr p 0 1000000000000) :
    Calls Try.prog 24 #[.float .f64 x, .float .f64 y] w fun e w' => e = .returned (.bool true) ∧ w = w' := by
  obtain ⟨d, s, t, v, u, d1, d2, s1, t1, t2, h⟩ := near_road hx hy hn hb
  have o1 := run_bin (P := Try.prog) .sub d1
  have o2 := run_bin (P := Try.prog) .mul t1
  have c1 := f_lss d2 R_zero rfl
  have c2 := f_lss hx R_zero rfl
  have hneg := run_negf
  have hav := R_abs d2
  have c3 := f_leq hav t2 (decide_eq_true h)
  have o3 := run_bin (P := Try.prog) .add s1
  clear d2 hav t2 h hn hb d1 t1 s1 hx hy
  by_cases hp : p < 0 <;> by_cases hv : v < 0 <;> simp only [hp, hv, decide_true, decide_false, if_true, if_false] at c1 c2 c3 o3
  all_goals
    clear hp hv
    go_enter Try.func24, Try.ntmps24
    go_wp2
    go_ret
    exact ⟨rfl, rfl⟩

/-- Near, by exact values: what both words are near to is one number. -/
theorem near_ap {x y : Nat} {v v' M E N F : Rat} (w : World) (hx : Ap x v M E) (hy : Ap y v' N F) (e : v = v') (h : E + F ≤ 9 / 10000000000 ∧ M + E ≤ 1000000000000) :
    Calls Try.prog 24 #[.float .f64 x, .float .f64 y] w fun e w' => e = .returned (.bool true) ∧ w = w' := by
  subst e
  obtain ⟨p, a1, a2, a3⟩ := hx
  obtain ⟨q, b1, b2, b3⟩ := hy
  have := ab_nonneg p
  exact near_any w a1 b1 ((a2.trans b2.symm).mono (by grind)) ((a2.sub0 a3).mono h.2)

/-- Near of a word with itself. -/
theorem near_same {x : Nat} {v M E : Rat} (w : World) (hx : Ap x v M E) (h : M + E ≤ 1000000000000) :
    Calls Try.prog 24 #[.float .f64 x, .float .f64 x] w fun e w' => e = .returned (.bool true) ∧ w = w' := by
  obtain ⟨p, a1, a2, a3⟩ := hx
  have := ab_nonneg p
  exact near_any w a1 a1 (Nr.refl (by grind)) ((a2.sub0 a3).mono h)

/-- The words that Small lets in: those of sixty-fourths, at most 10,000 from 0. -/
def SmallW (x : Nat) : Prop := ∃ n : Int, R x ((n : Rat) / 64) ∧ -640000 ≤ n ∧ n ≤ 640000
open Classical in
noncomputable def smallB (x : Nat) : Bool := decide (SmallW x)
theorem smallB_true {x : Nat} (h : smallB x = true) : SmallW x := by
  classical exact of_decide_eq_true h
theorem smallB_eq {x : Nat} {b : Bool} (h : SmallW x ↔ b = true) : smallB x = b := by
  classical
  unfold smallB
  rw [Bool.eq_iff_iff, ← h]
  exact decide_eq_true_iff

/-- What the tests of Small say of a word: the first that strikes, or none. -/
theorem small_road (x : Nat) :
    (smallB x = false ∧ (FloatKind.f64.format.order x x != some Ordering.eq) = true) ∨
    (smallB x = false ∧ (FloatKind.f64.format.order x x != some Ordering.eq) = false ∧ (FloatKind.f64.format.order x 13890095209322119168 == some Ordering.lt) = true) ∨
    (smallB x = false ∧ (FloatKind.f64.format.order x x != some Ordering.eq) = false ∧ (FloatKind.f64.format.order x 13890095209322119168 == some Ordering.lt) = false ∧ (FloatKind.f64.format.order x 4666723172467343360 == some Ordering.gt) = true) ∨
    ((FloatKind.f64.format.order x x != some Ordering.eq) = false ∧ (FloatKind.f64.format.order x 13890095209322119168 == some Ordering.lt) = false ∧ (FloatKind.f64.format.order x 4666723172467343360 == some Ordering.gt) = false ∧
      ∃ (y z : Nat) (n : Int), floatBits .mul .f64 x 4634204016564240384 = some y ∧ floatToIntVal .f64 y .i64 = some n ∧ floatOfInt .f64 n = z ∧ (FloatKind.f64.format.order y z != some Ordering.eq) = !(smallB x)) := by
  rcases kinds x with ⟨q, hq⟩ | ⟨s, hs⟩ | ⟨s, f, hs⟩
  · have hself : (FloatKind.f64.format.order x x != some Ordering.eq) = false := f_neq hq hq (by simp)
    have hnot : ∀ k : Rat, (q < -10000 ∨ 10000 < q) → smallB x = false := fun _ h => smallB_eq ⟨fun ⟨n, hn, h1, h2⟩ => by
      have e := hq.unique hn
      have a1 := Rat.intCast_le_intCast.2 h1
      have a2 := Rat.intCast_le_intCast.2 h2
      have z1 : ((-640000 : Int) : Rat) = -640000 := rfl
      have z2 : ((640000 : Int) : Rat) = 640000 := rfl
      rw [z1] at a1
      rw [z2] at a2
      rw [e] at h
      exfalso
      grind, fun h => by cases h⟩
    by_cases h1 : q < -10000
    · exact .inr (.inl ⟨hnot 0 (.inl h1), hself, f_lss hq R_m10000 (decide_eq_true h1)⟩)
    by_cases h2 : 10000 < q
    · exact .inr (.inr (.inl ⟨hnot 0 (.inr h2), hself, f_lss hq R_m10000 (decide_eq_false h1), f_gtr hq R_10000 (decide_eq_true h2)⟩))
    refine .inr (.inr (.inr ⟨hself, f_lss hq R_m10000 (decide_eq_false h1), f_gtr hq R_10000 (decide_eq_false h2), ?_⟩))
    obtain ⟨k, e, hk, hk1, hk2, hk3⟩ : ∃ (n : Int) (e : Int), q = (n : Rat) * two e ∧ n.natAbs < 9007199254740992 ∧ -1074 ≤ e ∧ e ≤ 20 := by
      obtain ⟨n, e, e1, e2, e3, e4⟩ := hq.fits
      by_cases h0 : n = 0
      · refine ⟨0, 0, ?_, by omega, by omega, by omega⟩
        rw [e1, h0]
        have z : ((0 : Int) : Rat) = 0 := rfl
        rw [z, Rat.zero_mul, Rat.zero_mul]
      · refine ⟨n, e, e1, e2, e3, ?_⟩
        have hp := two_pos e
        have h3 : two e ≤ 10000 := by
          rcases Int.lt_or_gt_of_ne h0 with h | h
          · have c1 : (n : Rat) ≤ ((-1 : Int) : Rat) := Rat.intCast_le_intCast.2 (by omega)
            have c2 := Rat.mul_le_mul_of_nonneg_right c1 (Rat.le_of_lt hp)
            have z : ((-1 : Int) : Rat) = -1 := rfl
            rw [z] at c2
            grind
          · have c1 : ((1 : Int) : Rat) ≤ (n : Rat) := Rat.intCast_le_intCast.2 (by omega)
            have c2 := Rat.mul_le_mul_of_nonneg_right c1 (Rat.le_of_lt hp)
            have z : ((1 : Int) : Rat) = 1 := rfl
            rw [z] at c2
            grind
        have h4 : (10000 : Rat) ≤ two 20 := by decide +kernel
        exact le_of_two (Rat.le_trans h3 h4)
    have hmul : q * 64 = (k : Rat) * two (e + 6) := by
      rw [hk, two_add]
      have : two 6 = 64 := by decide +kernel
      rw [this]
      grind
    obtain ⟨y, hy, hyR⟩ := R_mul_exact hq R_64 k (e + 6) hmul hk1 (by omega) (by omega)
    obtain ⟨n, hn, hp, hm⟩ := toInt_R hyR (by constructor <;> grind)
    have hbound : n.natAbs < 9007199254740992 := by
      have b1 : (n : Rat) < ((640002 : Int) : Rat) := by
        have z : ((640002 : Int) : Rat) = 640002 := rfl
        rw [z]
        rcases Rat.le_total (a := 0) (b := q * 64) with h | h
        · have := (hp h).1; grind
        · have := (hm h).2; grind
      have b2 : ((-640002 : Int) : Rat) < (n : Rat) := by
        have z : ((-640002 : Int) : Rat) = -640002 := rfl
        rw [z]
        rcases Rat.le_total (a := 0) (b := q * 64) with h | h
        · have := (hp h).2; grind
        · have := (hm h).1; grind
      have := Rat.intCast_lt_intCast.1 b1
      have := Rat.intCast_lt_intCast.1 b2
      omega
    refine ⟨y, _, n, hy, hn, rfl, ?_⟩
    have hz := ofInt_R n hbound
    by_cases hqn : q * 64 = (n : Rat)
    · have hs : smallB x = true := smallB_eq ⟨fun _ => rfl, fun _ => ⟨n, by
        have : q = (n : Rat) / 64 := by grind
        rw [← this]; exact hq, by
        have z : ((-640001 : Int) : Rat) = -640001 := rfl
        have : ((-640001 : Int) : Rat) < (n : Rat) := by rw [z]; grind
        have := Rat.intCast_lt_intCast.1 this
        omega, by
        have z : ((640001 : Int) : Rat) = 640001 := rfl
        have : (n : Rat) < ((640001 : Int) : Rat) := by rw [z]; grind
        have := Rat.intCast_lt_intCast.1 this
        omega⟩⟩
      rw [hs]
      exact f_neq hyR hz (by simp [hqn])
    · have hs : smallB x = false := smallB_eq ⟨fun ⟨j, hj, _, _⟩ => by
        exfalso
        apply hqn
        have e := hq.unique hj
        have e' : q * 64 = (j : Rat) := by rw [e]; grind
        rw [e'] at hp hm ⊢
        congr 1
        rcases Int.le_total 0 j with h | h
        · have h0 : (0 : Rat) ≤ (j : Rat) := Rat.intCast_nonneg.2 h
          obtain ⟨a1, a2⟩ := hp h0
          have one' : ((1 : Int) : Rat) = 1 := rfl
          rw [← one', ← Rat.intCast_add] at a2
          have := Rat.intCast_le_intCast.1 a1
          have := Rat.intCast_lt_intCast.1 a2
          omega
        · have h0 : (j : Rat) ≤ 0 := Rat.intCast_nonpos.2 h
          obtain ⟨a1, a2⟩ := hm h0
          have one' : ((1 : Int) : Rat) = 1 := rfl
          rw [← one', ← Rat.intCast_sub] at a2
          have := Rat.intCast_le_intCast.1 a1
          have := Rat.intCast_lt_intCast.1 a2
          omega, fun h => by cases h⟩
      rw [hs]
      exact f_neq hyR hz (by simp [hqn])
  · have hno : smallB x = false := smallB_eq ⟨fun ⟨n, ⟨s', m, e, h, _⟩, _⟩ => (by rw [hs] at h; cases h), fun h => (by cases h)⟩
    have hself : (FloatKind.f64.format.order x x != some Ordering.eq) = false := by
      show (Ieee.double.order x x != some Ordering.eq) = false
      rw [order_inf_self hs]; rfl
    have a1 : (FloatKind.f64.format.order x 13890095209322119168 == some Ordering.lt) = s := by
      show (Ieee.double.order x 13890095209322119168 == some Ordering.lt) = s
      rw [(order_inf hs R_m10000).1]; cases s <;> rfl
    have a2 : (FloatKind.f64.format.order x 4666723172467343360 == some Ordering.gt) = !s := by
      show (Ieee.double.order x 4666723172467343360 == some Ordering.gt) = !s
      rw [(order_inf hs R_10000).1]; cases s <;> rfl
    cases s
    · exact .inr (.inr (.inl ⟨hno, hself, a1, a2⟩))
    · exact .inr (.inl ⟨hno, hself, a1⟩)
  · have hno : smallB x = false := smallB_eq ⟨fun ⟨n, ⟨s', m, e, h, _⟩, _⟩ => (by rw [hs] at h; cases h), fun h => (by cases h)⟩
    refine .inl ⟨hno, ?_⟩
    show (Ieee.double.order x x != some Ordering.eq) = true
    rw [(order_nan hs x).1]; rfl

theorem all_step (xs : List Nat) (k : Nat) (hk : k < xs.length) : (xs.take (k + 1)).all smallB = ((xs.take k).all smallB && smallB (xs.getD k 0)) := by
  rw [List.take_succ_eq_append_getElem hk, List.all_append]
  have : xs.getD k 0 = xs[k] := by simp [List.getD, hk]
  rw [this]
  simp
theorem all_stop (xs : List Nat) (k : Nat) (hk : k < xs.length) (h : smallB (xs.getD k 0) = false) : xs.all smallB = false := by
  rw [List.all_eq_false]
  have e : xs.getD k 0 = xs[k] := by simp [List.getD, hk]
  rw [e] at h
  exact ⟨xs[k], List.getElem_mem hk, by simp [h]⟩
theorem ret_bool {a b : Bool} (h : a = b) : Ending.returned (.bool a) = .returned (.bool b) := by rw [h]

set_option maxHeartbeats 800000 in
theorem small_list (xs : List Nat) (b off cap : Nat) (w : World) (hlen : xs.length ≤ 1000) (hc : ∀ i, i < xs.length → w.cell? ⟨b, off + i, none⟩ = some (.float .f64 (xs.getD i 0))) :
    Calls Try.prog 22 #[.slice (some ⟨b, off, none⟩) xs.length cap] w fun e w' => e = .returned (.bool (xs.all smallB)) ∧ w = w' := by
  go_enter Try.func22, Try.ntmps22
  go_wp2
  go_loop [7] (fun i => ∃ k : Nat, k ≤ xs.length ∧ i = .int .i64 k ∧ (xs.take k).all smallB = true) (fun i => xs.length - (intOf i).toNat)
  case atStart => exact ⟨0, Nat.zero_le _, rfl, rfl⟩
  case round =>
    obtain ⟨k, hk, rfl, hall⟩ := hrel
    by_cases hlt : k < xs.length
    · have hcell := hc k hlt
      have H1 := Lib.hid (all_step xs k hlt)
      have H2 := Lib.hid (all_stop xs k hlt)
      have H0 := Lib.hid hall
      clear hc hall
      generalize xs.getD k 0 = x at hcell H1 H2
      have hsr := small_road x
      rcases hsr with ⟨s0, c1⟩ | ⟨s0, c1, c2⟩ | ⟨s0, c1, c2, c3⟩ | ⟨c1, c2, c3, y, z, n, o1, o2, rfl, c4⟩
      · have H3 := Lib.hid (H2.out s0)
        clear s0 H1 H2
        go_wp2
        go_ret
        exact ⟨ret_bool H3.out.symm, rfl⟩
      · have H3 := Lib.hid (H2.out s0)
        clear s0 H1 H2
        go_wp2
        go_ret
        exact ⟨ret_bool H3.out.symm, rfl⟩
      · have H3 := Lib.hid (H2.out s0)
        clear s0 H1 H2
        go_wp2
        go_ret
        exact ⟨ret_bool H3.out.symm, rfl⟩
      · have p1 := run_bin (P := Try.prog) .mul o1
        have p2 := f_conv (P := Try.prog) 22 (by rw [Try.underlying22]; rfl) 3 Try.underlying3 o2
        clear o1 o2
        cases hs : smallB x
        · have H3 := Lib.hid (H2.out hs)
          rw [hs] at c4
          clear hs H1 H2
          go_wp2
          go_ret
          exact ⟨ret_bool H3.out.symm, rfl⟩
        · have H3 := Lib.hid (H1.out)
          have H4 := Lib.hid hs
          rw [hs] at c4
          clear hs H1 H2
          go_wp2
          go_round
          case rel => exact ⟨k + 1, by omega, by go_num, by rw [H3.out, H0.out, H4.out]; rfl⟩
          case measure => simp [intOf]; omega
    · have H0 := Lib.hid hall
      clear hall hc
      go_wp2
      go_ret
      have e : k = xs.length := by omega
      refine ⟨ret_bool ?_, rfl⟩
      have := H0.out
      rw [e, List.take_length] at this
      exact this.symm

/-- Small over words that a call has just laid into a new block. -/
theorem small_new (xs : List Nat) (v : Bool) (w : World) (hv : xs.all smallB = v) (hlen : xs.length ≤ 1000) :
    Calls Try.prog 22 #[.slice (some ⟨w.heap.size, 0, none⟩) xs.length xs.length] (w.alloc (.cells (xs.map (Value.float .f64)).toArray 22)) fun e w' => e = .returned (.bool v) ∧ w.alloc (.cells (xs.map (Value.float .f64)).toArray 22) = w' := by
  subst hv
  refine small_list xs _ 0 _ _ hlen (fun i hi => ?_)
  rw [Nat.zero_add]
  simp only [World.cell?, World.alloc, Array.getElem?_push, if_true]
  simp [List.getD, hi]

/-- The same, the block's number a letter. -/
theorem small_at (xs : List Nat) (v : Bool) (n : Nat) (w : World) (hn : n = w.heap.size) (hv : xs.all smallB = v) (hlen : xs.length ≤ 1000) :
    Calls Try.prog 22 #[.slice (some ⟨n, 0, none⟩) xs.length xs.length] (w.alloc (.cells (xs.map (Value.float .f64)).toArray 22)) fun e w' => e = .returned (.bool v) ∧ w.alloc (.cells (xs.map (Value.float .f64)).toArray 22) = w' := by
  subst hn
  exact small_new xs v w hv hlen

theorem below1 (w : World) (o : Obj) : Below w.heap.size w (w.alloc o) := (Below.refl _ _).alloc (Nat.le_refl _) o

end Go.Proofs.Ytooghncdhjdcpaa
