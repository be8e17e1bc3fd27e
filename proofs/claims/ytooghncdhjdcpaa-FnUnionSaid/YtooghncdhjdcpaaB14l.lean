/-
The law FnUnion, walked: it answers true. No condition.
-/
import Derived.Test.YtooghncdhjdcpaaB14
namespace Go.Proofs.Ytooghncdhjdcpaa
open Go.RowKit Fl

/-- The built-in 'min' of two numbers that are whole 64ths. -/
theorem min_run {x y : Nat} {k m : Int} (hx : R x ((k : Rat) / 64)) (hy : R y ((m : Rat) / 64)) :
    ∃ r, (∀ ts t w, (Builtin.min_ ts t #[.float .f64 x, .float .f64 y]).run Try.prog w = .ok (.float .f64 r) w) ∧ R r (((if m < k then m else k : Int) : Rat) / 64) := by
  have ho := order_R hx hy
  by_cases h1 : k < m
  · rw [if_pos (lt64.mpr h1)] at ho
    refine ⟨x, fun ts t w => ?_, by rw [if_neg (by omega)]; exact hx⟩
    simp [Builtin.min_, Builtin.min2, show FloatKind.f64.format.order x y = some .lt from ho]
  rw [if_neg (fun h => h1 (lt64.mp h))] at ho
  by_cases h2 : k = m
  · rw [if_pos (by rw [h2])] at ho
    subst h2
    refine ⟨if (FloatKind.f64.decode x).neg then x else y, fun ts t w => ?_, ?_⟩
    · simp [Builtin.min_, Builtin.min2, show FloatKind.f64.format.order x y = some .eq from ho]
    · simp only [Int.lt_irrefl, ite_false]; split <;> assumption
  rw [if_neg (fun h => h2 (eq64 h))] at ho
  refine ⟨y, fun ts t w => ?_, by rw [if_pos (by omega)]; exact hy⟩
  simp [Builtin.min_, Builtin.min2, show FloatKind.f64.format.order x y = some .gt from ho]

theorem max_run {x y : Nat} {k m : Int} (hx : R x ((k : Rat) / 64)) (hy : R y ((m : Rat) / 64)) :
    ∃ r, (∀ ts t w, (Builtin.max_ ts t #[.float .f64 x, .float .f64 y]).run Try.prog w = .ok (.float .f64 r) w) ∧ R r (((if k < m then m else k : Int) : Rat) / 64) := by
  have ho := order_R hx hy
  by_cases h1 : k < m
  · rw [if_pos (lt64.mpr h1)] at ho
    refine ⟨y, fun ts t w => ?_, by rw [if_pos h1]; exact hy⟩
    simp [Builtin.max_, Builtin.max2, show FloatKind.f64.format.order x y = some .lt from ho]
  rw [if_neg (fun h => h1 (lt64.mp h))] at ho
  by_cases h2 : k = m
  · rw [if_pos (by rw [h2])] at ho
    subst h2
    refine ⟨if (FloatKind.f64.decode x).neg then y else x, fun ts t w => ?_, ?_⟩
    · simp [Builtin.max_, Builtin.max2, show FloatKind.f64.format.order x y = some .eq from ho]
    · simp only [Int.lt_irrefl, ite_false]; split <;> assumption
  rw [if_neg (fun h => h2 (eq64 h))] at ho
  refine ⟨x, fun ts t w => ?_, by rw [if_neg h1]; exact hx⟩
  simp [Builtin.max_, Builtin.max2, show FloatKind.f64.format.order x y = some .gt from ho]

theorem pick_R {b : Bool} {x y : Nat} {k m : Int} (hx : R x ((k : Rat) / 64)) (hy : R y ((m : Rat) / 64)) : R (pick b x y) (((if b = true then k else m : Int) : Rat) / 64) := by
  unfold pick; cases b <;> simpa

theorem run_equalIn_float {P : Program} (w : World) (d : Nat) (t : TypeId) (k k' : FloatKind) (a b : Nat) (h : P.underlying t = some (.float k')) : (Op.equalIn (d + 1) t (.float k a) (.float k b)).run P w = .ok (k.format.order a b == some .eq) w := by
  simp [Op.equalIn, run_underlying h, Op.floatEq]

theorem eql_rect {a b c d A B C D : Nat} (w : World)
    (o1 : (FloatKind.f64.format.order A a == some Ordering.eq) = true) (o2 : (FloatKind.f64.format.order B b == some Ordering.eq) = true)
    (o3 : (FloatKind.f64.format.order C c == some Ordering.eq) = true) (o4 : (FloatKind.f64.format.order D d == some Ordering.eq) = true) :
    (binOp .eql 36 (.agg #[.float .f64 A, .float .f64 B, .float .f64 C, .float .f64 D]) (.agg #[.float .f64 a, .float .f64 b, .float .f64 c, .float .f64 d])).run Try.prog w = .ok (.bool true) w := by
  have hf := fun (d : Nat) (k : FloatKind) (x y : Nat) => run_equalIn_float (P := Try.prog) w d 22 k .f64 x y Try.underlying22
  simp [go_sem, hf, o1, o2, o3, o4]

set_option linter.unusedSimpArgs false in
set_option maxHeartbeats 4000000 in
theorem union_law {a b c d e f p q A B C D A' B' C' D' : Nat} (w : World) (hp : properB a b c d = true) (hq : properB e f p q = true)
    (hu : ∀ W, Calls Try.prog 45 #[.agg #[.float .f64 a, .float .f64 b, .float .f64 c, .float .f64 d], .agg #[.float .f64 e, .float .f64 f, .float .f64 p, .float .f64 q]] W fun e w' => e = .returned (.agg #[.float .f64 A, .float .f64 B, .float .f64 C, .float .f64 D]) ∧ Below W.heap.size W w')
    (m1 : ∀ ts t w, (Builtin.min_ ts t #[.float .f64 a, .float .f64 e]).run Try.prog w = .ok (.float .f64 A') w) (m2 : ∀ ts t w, (Builtin.min_ ts t #[.float .f64 b, .float .f64 f]).run Try.prog w = .ok (.float .f64 B') w)
    (m3 : ∀ ts t w, (Builtin.max_ ts t #[.float .f64 c, .float .f64 p]).run Try.prog w = .ok (.float .f64 C') w) (m4 : ∀ ts t w, (Builtin.max_ ts t #[.float .f64 d, .float .f64 q]).run Try.prog w = .ok (.float .f64 D') w)
    (o1 : (FloatKind.f64.format.order A A' == some Ordering.eq) = true) (o2 : (FloatKind.f64.format.order B B' == some Ordering.eq) = true)
    (o3 : (FloatKind.f64.format.order C C' == some Ordering.eq) = true) (o4 : (FloatKind.f64.format.order D D' == some Ordering.eq) = true) :
    Calls Try.prog 14 #[.agg #[.float .f64 a, .float .f64 b, .float .f64 c, .float .f64 d], .agg #[.float .f64 e, .float .f64 f, .float .f64 p, .float .f64 q]] w fun e w' => e = .returned (.bool true) ∧ Below w.heap.size w w' := by
  have HP := Lib.hid hp
  have HQ := Lib.hid hq
  have HU := Lib.hid hu
  have hE := fun w => eql_rect w o1 o2 o3 o4
  clear hp hq hu
  go_enter Try.func14, Try.ntmps14
  go_wp2_with (first
    | (go_at_call_of 28 (.agg #[.float .f64 a, .float .f64 b, .float .f64 c, .float .f64 d] : Value); refine (proper_any a b c d true _ HP.out).mono ?_; rintro e w' ⟨rfl, rfl⟩)
    | (go_at_call_of 28 (.agg #[.float .f64 e, .float .f64 f, .float .f64 p, .float .f64 q] : Value); refine (proper_any e f p q true _ HQ.out).mono ?_; rintro e w' ⟨rfl, rfl⟩))
  refine wp_region_noPanic ?_
  refine wp_region_held_drew (S := (fun w' => Below w.heap.size w w' ∧ w.heap.size < w'.heap.size ∧ w'.cell? ⟨w.heap.size, 0, none⟩ = some (.float .f64 a) ∧ w'.cell? ⟨w.heap.size, 1, none⟩ = some (.float .f64 b) ∧ w'.cell? ⟨w.heap.size, 2, none⟩ = some (.float .f64 c) ∧ w'.cell? ⟨w.heap.size, 3, none⟩ = some (.float .f64 d) ∧ w.heap.size + 1 < w'.heap.size ∧ w'.cell? ⟨w.heap.size + 1, 0, none⟩ = some (.float .f64 e) ∧ w'.cell? ⟨w.heap.size + 1, 1, none⟩ = some (.float .f64 f) ∧ w'.cell? ⟨w.heap.size + 1, 2, none⟩ = some (.float .f64 p) ∧ w'.cell? ⟨w.heap.size + 1, 3, none⟩ = some (.float .f64 q))) (by kernel_rfl) ?_ (fun hHeld => ?_)
  · (try dsimp only); (first | assumption | exact keep8 (by assumption) (by assumption) | (repeat (first | exact kept8_arg _ (by assumption) | exact kept8_two _ _ | refine kept8_drew ?_ | refine kept8_alloc _ ?_ | refine keep8 ?_ (by assumption))))
  refine wpAnyH_take (i := 0) (v := ?v0) rfl (by kernel_rfl) (by kernel_rfl) (by kernel_rfl) (fun _ _ _ h => h) (Or.inl ⟨by rfl, ?y0⟩) (by assumption) ?r0
  case y0 => (intro w hSw; (try dsimp only at hSw); go_simp; try with_reducible rfl)
  try simp only [List.getElem_toArray, List.getElem_cons_zero, List.getElem_cons_succ, Act.put, List.setIfInBounds_toArray, List.set_cons_zero, List.set_cons_succ]
  refine wpAnyH_take (i := 1) (v := ?v1) rfl (by kernel_rfl) (by kernel_rfl) (by kernel_rfl) (fun _ _ _ h => h) (Or.inl ⟨by rfl, ?y1⟩) (by assumption) ?r1
  case y1 => (intro w hSw; (try dsimp only at hSw); go_simp; try with_reducible rfl)
  try simp only [List.getElem_toArray, List.getElem_cons_zero, List.getElem_cons_succ, Act.put, List.setIfInBounds_toArray, List.set_cons_zero, List.set_cons_succ]
  refine wpAnyH_take (i := 3) (v := ?v3) rfl (by kernel_rfl) (by kernel_rfl) (by kernel_rfl) (fun _ _ _ h => h) (Or.inl ⟨by rfl, ?y3⟩) (by assumption) ?r3
  case y3 => (intro w hSw; (try dsimp only at hSw); go_simp; try with_reducible rfl)
  try simp only [List.getElem_toArray, List.getElem_cons_zero, List.getElem_cons_succ, Act.put, List.setIfInBounds_toArray, List.set_cons_zero, List.set_cons_succ]
  refine wpAnyH_take (i := 4) (v := ?v4) rfl (by kernel_rfl) (by kernel_rfl) (by kernel_rfl) (fun _ _ _ h => h) (Or.inl ⟨by rfl, ?y4⟩) (by assumption) ?r4
  case y4 => (intro w hSw; (try dsimp only at hSw); go_simp; try with_reducible rfl)
  try simp only [List.getElem_toArray, List.getElem_cons_zero, List.getElem_cons_succ, Act.put, List.setIfInBounds_toArray, List.set_cons_zero, List.set_cons_succ]
  refine wpAnyH_take (i := 5) (v := ?v5) rfl (by kernel_rfl) (by kernel_rfl) (by kernel_rfl) (fun _ _ _ h => h) (Or.inl ⟨by rfl, ?y5⟩) (by assumption) ?r5
  case y5 => (intro w hSw; (try dsimp only at hSw); go_simp; try with_reducible rfl)
  try simp only [List.getElem_toArray, List.getElem_cons_zero, List.getElem_cons_succ, Act.put, List.setIfInBounds_toArray, List.set_cons_zero, List.set_cons_succ]
  refine wpAnyH_take (i := 6) (v := ?v6) rfl (by kernel_rfl) (by kernel_rfl) (by kernel_rfl) (fun _ _ _ h => h) (Or.inl ⟨by rfl, ?y6⟩) (by assumption) ?r6
  case y6 => (intro w hSw; (try dsimp only at hSw); go_simp; try with_reducible rfl)
  try simp only [List.getElem_toArray, List.getElem_cons_zero, List.getElem_cons_succ, Act.put, List.setIfInBounds_toArray, List.set_cons_zero, List.set_cons_succ]
  refine wpAnyH_take (i := 7) (v := ?v7) rfl (by kernel_rfl) (by kernel_rfl) (by kernel_rfl) (fun _ _ _ h => h) (Or.inl ⟨by rfl, ?y7⟩) (by assumption) ?r7
  case y7 => (intro w hSw; (try dsimp only at hSw); go_simp; try with_reducible rfl)
  try simp only [List.getElem_toArray, List.getElem_cons_zero, List.getElem_cons_succ, Act.put, List.setIfInBounds_toArray, List.set_cons_zero, List.set_cons_succ]
  refine wpAnyH_take (i := 8) (v := ?v8) rfl (by kernel_rfl) (by kernel_rfl) (by kernel_rfl) (fun _ _ _ h => h) (Or.inl ⟨by rfl, ?y8⟩) (by assumption) ?r8
  case y8 => (intro w hSw; (try dsimp only at hSw); go_simp; try with_reducible rfl)
  try simp only [List.getElem_toArray, List.getElem_cons_zero, List.getElem_cons_succ, Act.put, List.setIfInBounds_toArray, List.set_cons_zero, List.set_cons_succ]
  refine wpAnyH_take (i := 9) (v := ?v9) rfl (by kernel_rfl) (by kernel_rfl) (by kernel_rfl) (fun _ _ _ h => h) (Or.inl ⟨by rfl, ?y9⟩) (by assumption) ?r9
  case y9 => (intro w hSw; (try dsimp only at hSw); go_simp; try with_reducible rfl)
  try simp only [List.getElem_toArray, List.getElem_cons_zero, List.getElem_cons_succ, Act.put, List.setIfInBounds_toArray, List.set_cons_zero, List.set_cons_succ]
  refine wpAnyH_take (i := 10) (v := ?v10) rfl (by kernel_rfl) (by kernel_rfl) (by kernel_rfl) (fun _ _ _ h => h) (Or.inl ⟨by rfl, ?y10⟩) (by assumption) ?r10
  case y10 => (intro w hSw; (try dsimp only at hSw); go_simp; try with_reducible rfl)
  try simp only [List.getElem_toArray, List.getElem_cons_zero, List.getElem_cons_succ, Act.put, List.setIfInBounds_toArray, List.set_cons_zero, List.set_cons_succ]
  refine wpAnyH_take (i := 11) (v := ?v11) rfl (by kernel_rfl) (by kernel_rfl) (by kernel_rfl) (fun _ _ _ h => h) (Or.inl ⟨by rfl, ?y11⟩) (by assumption) ?r11
  case y11 => (intro w hSw; (try dsimp only at hSw); go_simp; try with_reducible rfl)
  try simp only [List.getElem_toArray, List.getElem_cons_zero, List.getElem_cons_succ, Act.put, List.setIfInBounds_toArray, List.set_cons_zero, List.set_cons_succ]
  refine wpAnyH_take (i := 12) (v := ?v12) rfl (by kernel_rfl) (by kernel_rfl) (by kernel_rfl) (fun _ _ _ h => h) (Or.inl ⟨by rfl, ?y12⟩) (by assumption) ?r12
  case y12 => (intro w hSw; (try dsimp only at hSw); go_simp; try with_reducible rfl)
  try simp only [List.getElem_toArray, List.getElem_cons_zero, List.getElem_cons_succ, Act.put, List.setIfInBounds_toArray, List.set_cons_zero, List.set_cons_succ]
  refine wpAnyH_take (i := 13) (v := ?v13) rfl (by kernel_rfl) (by kernel_rfl) (by kernel_rfl) (fun _ _ _ h => h) (Or.inl ⟨by rfl, ?y13⟩) (by assumption) ?r13
  case y13 => (intro w hSw; (try dsimp only at hSw); go_simp; try with_reducible rfl)
  try simp only [List.getElem_toArray, List.getElem_cons_zero, List.getElem_cons_succ, Act.put, List.setIfInBounds_toArray, List.set_cons_zero, List.set_cons_succ]
  refine wpAnyH_take (i := 14) (v := ?v14) rfl (by kernel_rfl) (by kernel_rfl) (by kernel_rfl) (fun _ _ _ h => h) (Or.inl ⟨by rfl, ?y14⟩) (by assumption) ?r14
  case y14 => (intro w hSw; (try dsimp only at hSw); go_simp; try with_reducible rfl)
  try simp only [List.getElem_toArray, List.getElem_cons_zero, List.getElem_cons_succ, Act.put, List.setIfInBounds_toArray, List.set_cons_zero, List.set_cons_succ]
  refine wpAnyH_take (i := 15) (v := ?v15) rfl (by kernel_rfl) (by kernel_rfl) (by kernel_rfl) (fun _ _ _ h => h) (Or.inl ⟨by rfl, ?y15⟩) (by assumption) ?r15
  case y15 => (intro w hSw; (try dsimp only at hSw); go_simp; try with_reducible rfl)
  try simp only [List.getElem_toArray, List.getElem_cons_zero, List.getElem_cons_succ, Act.put, List.setIfInBounds_toArray, List.set_cons_zero, List.set_cons_succ]
  refine wpAnyH_take (i := 16) (v := ?v16) rfl (by kernel_rfl) (by kernel_rfl) (by kernel_rfl) (fun _ _ _ h => h) (Or.inl ⟨by rfl, ?y16⟩) (by assumption) ?r16
  case y16 => (intro w hSw; (try dsimp only at hSw); go_simp; try with_reducible rfl)
  try simp only [List.getElem_toArray, List.getElem_cons_zero, List.getElem_cons_succ, Act.put, List.setIfInBounds_toArray, List.set_cons_zero, List.set_cons_succ]
  refine wpAnyH_take (i := 17) (v := ?v17) rfl (by kernel_rfl) (by kernel_rfl) (by kernel_rfl) (fun _ _ _ h => h) (Or.inl ⟨by rfl, ?y17⟩) (by assumption) ?r17
  case y17 => (intro w hSw; (try dsimp only at hSw); go_simp; try with_reducible rfl)
  try simp only [List.getElem_toArray, List.getElem_cons_zero, List.getElem_cons_succ, Act.put, List.setIfInBounds_toArray, List.set_cons_zero, List.set_cons_succ]
  refine wpAnyH_take (i := 18) (v := ?v18) rfl (by kernel_rfl) (by kernel_rfl) (by kernel_rfl) (fun _ _ _ h => h) (Or.inl ⟨by rfl, ?y18⟩) (by assumption) ?r18
  case y18 => (intro w hSw; (try dsimp only at hSw); go_simp; try with_reducible rfl)
  try simp only [List.getElem_toArray, List.getElem_cons_zero, List.getElem_cons_succ, Act.put, List.setIfInBounds_toArray, List.set_cons_zero, List.set_cons_succ]
  refine wpAnyH_take (i := 19) (v := ?v19) rfl (by kernel_rfl) (by kernel_rfl) (by kernel_rfl) (fun _ _ _ h => h) (Or.inl ⟨by rfl, ?y19⟩) (by assumption) ?r19
  case y19 => (intro w hSw; (try dsimp only at hSw); go_simp; try with_reducible rfl)
  try simp only [List.getElem_toArray, List.getElem_cons_zero, List.getElem_cons_succ, Act.put, List.setIfInBounds_toArray, List.set_cons_zero, List.set_cons_succ]
  refine wpAnyH_take (i := 20) (v := ?v20) rfl (by kernel_rfl) (by kernel_rfl) (by kernel_rfl) (fun _ _ _ h => h) (Or.inl ⟨by rfl, ?y20⟩) (by assumption) ?r20
  case y20 => (intro w hSw; (try dsimp only at hSw); go_simp; try with_reducible rfl)
  try simp only [List.getElem_toArray, List.getElem_cons_zero, List.getElem_cons_succ, Act.put, List.setIfInBounds_toArray, List.set_cons_zero, List.set_cons_succ]
  refine wpAnyH_take (i := 21) (v := ?v21) rfl (by kernel_rfl) (by kernel_rfl) (by kernel_rfl) (fun _ _ _ h => h) (Or.inl ⟨by rfl, ?y21⟩) (by assumption) ?r21
  case y21 => (intro w hSw; (try dsimp only at hSw); go_simp; try with_reducible rfl)
  try simp only [List.getElem_toArray, List.getElem_cons_zero, List.getElem_cons_succ, Act.put, List.setIfInBounds_toArray, List.set_cons_zero, List.set_cons_succ]
  refine wpAnyH_take (i := 22) (v := ?v22) rfl (by kernel_rfl) (by kernel_rfl) (by kernel_rfl) (fun _ _ _ h => h) (Or.inl ⟨by rfl, ?y22⟩) (by assumption) ?r22
  case y22 => (intro w hSw; (try dsimp only at hSw); go_simp; try with_reducible rfl)
  try simp only [List.getElem_toArray, List.getElem_cons_zero, List.getElem_cons_succ, Act.put, List.setIfInBounds_toArray, List.set_cons_zero, List.set_cons_succ]
  refine wpAnyH_take (i := 23) (v := ?v23) rfl (by kernel_rfl) (by kernel_rfl) (by kernel_rfl) (fun _ _ _ h => h) (Or.inl ⟨by rfl, ?y23⟩) (by assumption) ?r23
  case y23 => (intro w hSw; (try dsimp only at hSw); go_simp; try with_reducible rfl)
  try simp only [List.getElem_toArray, List.getElem_cons_zero, List.getElem_cons_succ, Act.put, List.setIfInBounds_toArray, List.set_cons_zero, List.set_cons_succ]
  refine wpAnyH_ready (rs := [2]) (by kernel_rfl) (by simp) (AllReadyH.cons rfl (fun K hK => ?_) AllReadyH.nil)
  go_simp
  (go_at_call 45; refine (HU.out _).mono ?_; rintro e w' ⟨rfl, hb⟩)
  refine hK.out _ _ ?_ (fun hHeld => ?_)
  · (try dsimp only); (first | assumption | exact keep8 (by assumption) (by assumption) | (repeat (first | exact kept8_arg _ (by assumption) | exact kept8_two _ _ | refine kept8_drew ?_ | refine kept8_alloc _ ?_ | refine keep8 ?_ (by assumption))))
  clear hK K
  try simp only [List.getElem_toArray, List.getElem_cons_zero, List.getElem_cons_succ, Act.put, List.setIfInBounds_toArray, List.set_cons_zero, List.set_cons_succ]
  refine wpAnyH_take (i := 24) (v := ?v24) rfl (by kernel_rfl) (by kernel_rfl) (by kernel_rfl) (fun _ _ _ h => h) (Or.inl ⟨by rfl, ?y24⟩) (by assumption) ?r24
  case y24 => (intro w hSw; (try dsimp only at hSw); go_simp; try with_reducible rfl)
  try simp only [List.getElem_toArray, List.getElem_cons_zero, List.getElem_cons_succ, Act.put, List.setIfInBounds_toArray, List.set_cons_zero, List.set_cons_succ]
  refine wpAnyH_take (i := 25) (v := ?v25) rfl (by kernel_rfl) (by kernel_rfl) (by kernel_rfl) (fun _ _ _ h => h) (Or.inl ⟨by rfl, ?y25⟩) (by assumption) ?r25
  case y25 => (intro w hSw; (try dsimp only at hSw); go_simp; try with_reducible rfl)
  try simp only [List.getElem_toArray, List.getElem_cons_zero, List.getElem_cons_succ, Act.put, List.setIfInBounds_toArray, List.set_cons_zero, List.set_cons_succ]
  refine wpAnyH_done (by kernel_rfl) ?_ _
  refine NoPanic.normal ?_
  go_wp2
  go_ret
  exact ⟨rfl, hHeld.1⟩

set_option maxHeartbeats 1000000 in
theorem union_walk (a b c d e f p q : Nat) (w : World) :
    Calls Try.prog 14 #[.agg #[.float .f64 a, .float .f64 b, .float .f64 c, .float .f64 d], .agg #[.float .f64 e, .float .f64 f, .float .f64 p, .float .f64 q]] w fun e w' => e = .returned (.bool true) ∧ Below w.heap.size w w' := by
  cases hp : properB a b c d
  · have HP := Lib.hid hp
    clear hp
    go_enter Try.func14, Try.ntmps14
    go_wp2_with (go_at_call 28; refine (proper_any a b c d false _ HP.out).mono ?_; rintro e w' ⟨rfl, rfl⟩)
    go_ret
    exact ⟨rfl, (by repeat (first | exact Below.refl _ _ | refine bel_drew ?_ | refine bel_alloc _ ?_ | refine bel_drewN _ ?_ | refine bel_trans (by assumption) ?_ | refine bel_set _ _ (by simp) ?_))⟩
  cases hq : properB e f p q
  · have HP := Lib.hid hp
    have HQ := Lib.hid hq
    clear hp hq
    go_enter Try.func14, Try.ntmps14
    go_wp2_with (first
      | (go_at_call_of 28 (.agg #[.float .f64 a, .float .f64 b, .float .f64 c, .float .f64 d] : Value); refine (proper_any a b c d true _ HP.out).mono ?_; rintro e w' ⟨rfl, rfl⟩)
      | (go_at_call_of 28 (.agg #[.float .f64 e, .float .f64 f, .float .f64 p, .float .f64 q] : Value); refine (proper_any e f p q false _ HQ.out).mono ?_; rintro e w' ⟨rfl, rfl⟩))
    go_ret
    exact ⟨rfl, (by repeat (first | exact Below.refl _ _ | refine bel_drew ?_ | refine bel_alloc _ ?_ | refine bel_drewN _ ?_ | refine bel_trans (by assumption) ?_ | refine bel_set _ _ (by simp) ?_))⟩
  obtain ⟨k, l, i, j, ra, rb, rc, rd, -, -, -, -, hki, hlj⟩ := properB_true hp
  obtain ⟨k', l', i', j', re, rf, rp, rq, -, -, -, -, hki', hlj'⟩ := properB_true hq
  obtain ⟨A', m1, s1⟩ := min_run ra re
  obtain ⟨B', m2, s2⟩ := min_run rb rf
  obtain ⟨C', m3, s3⟩ := max_run rc rp
  obtain ⟨D', m4, s4⟩ := max_run rd rq
  -- the first point, then the second
  have t1 := pick_R (b := decide (k' < k)) re ra
  have t2 := pick_R (b := decide (i < k')) re rc
  have t3 := pick_R (b := decide (l' < l)) rf rb
  have t4 := pick_R (b := decide (j < l')) rf rd
  have u1 := fun W g hr => around_point (decide (k' < k)) (decide (i < k')) (decide (l' < l)) (decide (j < l')) (w := W) (g := g) hr (i_lss re ra rfl) (i_gtr re rc rfl) (i_lss rf rb rfl) (i_gtr rf rd rfl) (by simp; omega) (by simp; omega)
  have u2 := fun W g hr => around_point _ _ _ _ (w := W) (g := g) hr (i_lss rp t1 rfl) (i_gtr rp t2 rfl) (i_lss rq t3 rfl) (i_gtr rq t4 rfl) (by simp; split <;> split <;> omega) (by simp; split <;> split <;> omega)
  have hu := fun W => union_any W fun W' g h hg hh => bound_any W' hg hh u1 u2
  refine union_law w hp hq hu m1 m2 m3 m4 (i_eql (pick_R rp t1) s1 ?_) (i_eql (pick_R rq t3) s2 ?_) (i_eql (pick_R rp t2) s3 ?_) (i_eql (pick_R rq t4) s4 ?_)
  all_goals simp only [decide_eq_true_eq]; repeat' split
  all_goals omega

end Go.Proofs.Ytooghncdhjdcpaa
