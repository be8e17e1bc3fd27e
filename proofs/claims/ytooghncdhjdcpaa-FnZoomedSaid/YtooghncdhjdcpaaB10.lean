/-
The law FnZoomed: its functions walked. Conditions: the operations' answers are given.
-/
import Derived.Test.YtooghncdhjdcpaaA6
import Derived.Test.YtooghncdhjdcpaaFx
namespace Go.Proofs.Ytooghncdhjdcpaa
open Go.RowKit Fl

set_option maxHeartbeats 2000000 in
theorem zoomed_0 {v m n p1 p2 p3 q1 q2 q3 : Nat} (w : World) (o0 : (FloatKind.f64.format.order v 0 == some Ordering.gt) = true)
    (e1 : floatBits .mul .f64 m v = some p1) (e2 : floatBits .sub .f64 m p1 = some p2) (e3 : floatBits .quo .f64 p2 4611686018427387904 = some p3) (f1 : floatBits .mul .f64 n v = some q1) (f2 : floatBits .sub .f64 n q1 = some q2) (f3 : floatBits .quo .f64 q2 4611686018427387904 = some q3) :
    Calls Try.prog 40 #[.agg #[.float .f64 v, .float .f64 0, .float .f64 0, .bool false, .slice none 0 0], .float .f64 m, .float .f64 n] w fun e w' => e = .returned (.tuple #[.agg #[.float .f64 v, .float .f64 p3, .float .f64 q3, .bool false, .slice none 0 0], .bool true]) ∧ Below w.heap.size w w' := by
  have re1 := run_bin (P := Try.prog) .mul e1
  have re2 := run_bin (P := Try.prog) .sub e2
  have re3 := run_bin (P := Try.prog) .quo e3
  have rf1 := run_bin (P := Try.prog) .mul f1
  have rf2 := run_bin (P := Try.prog) .sub f2
  have rf3 := run_bin (P := Try.prog) .quo f3
  clear e1 e2 e3 f1 f2 f3
  go_enter Try.func40, Try.ntmps40
  go_wp2_with (go_at_call 74; go_in)
  go_region
  go_wp2
  exact bodyPost_ret (v := .tuple #[.agg #[.float .f64 v, .float .f64 p3, .float .f64 q3, .bool false, .slice none 0 0], .bool true]) (by simp [results, Try.results40, go_sem]) rfl ⟨rfl, (by repeat (first | exact Below.refl _ _ | refine bel_drew ?_ | refine bel_alloc _ ?_ | refine bel_drewN _ ?_ | refine bel_trans (by assumption) ?_ | refine bel_set _ _ (by simp) ?_))⟩

set_option maxHeartbeats 2000000 in
theorem zoomed_1 {v m n v2 t f q1 q2 q3 : Nat} (w : World) (o0 : (FloatKind.f64.format.order 0 0 == some Ordering.gt) = false) (o1 : (FloatKind.f64.format.order v 0 != some Ordering.eq) = true) (o2 : (FloatKind.f64.format.order f 0 == some Ordering.lt || FloatKind.f64.format.order f 0 == some Ordering.eq) = false)
    (g1 : floatBits .mul .f64 4611686018427387904 v = some v2) (g2 : floatBits .sub .f64 m v2 = some t) (g3 : floatBits .quo .f64 t m = some f) (f1 : floatBits .mul .f64 n f = some q1) (f2 : floatBits .sub .f64 n q1 = some q2) (f3 : floatBits .quo .f64 q2 4611686018427387904 = some q3) :
    Calls Try.prog 40 #[.agg #[.float .f64 0, .float .f64 v, .float .f64 0, .bool false, .slice none 0 0], .float .f64 m, .float .f64 n] w fun e w' => e = .returned (.tuple #[.agg #[.float .f64 f, .float .f64 v, .float .f64 q3, .bool false, .slice none 0 0], .bool true]) ∧ Below w.heap.size w w' := by
  have rg1 := run_bin (P := Try.prog) .mul g1
  have rg2 := run_bin (P := Try.prog) .sub g2
  have rg3 := run_bin (P := Try.prog) .quo g3
  have rf1 := run_bin (P := Try.prog) .mul f1
  have rf2 := run_bin (P := Try.prog) .sub f2
  have rf3 := run_bin (P := Try.prog) .quo f3
  clear g1 g2 g3 f1 f2 f3
  go_enter Try.func40, Try.ntmps40
  go_wp2_with (go_at_call 74; go_in)
  go_region
  go_wp2
  exact bodyPost_ret (v := .tuple #[.agg #[.float .f64 f, .float .f64 v, .float .f64 q3, .bool false, .slice none 0 0], .bool true]) (by simp [results, Try.results40, go_sem]) rfl ⟨rfl, (by repeat (first | exact Below.refl _ _ | refine bel_drew ?_ | refine bel_alloc _ ?_ | refine bel_drewN _ ?_ | refine bel_trans (by assumption) ?_ | refine bel_set _ _ (by simp) ?_))⟩

set_option maxHeartbeats 2000000 in
theorem zoomed_2 {v m n v2 t f p1 p2 p3 : Nat} (w : World) (o0 : (FloatKind.f64.format.order 0 0 == some Ordering.gt) = false) (o1 : (FloatKind.f64.format.order 0 0 != some Ordering.eq) = false) (o2 : (FloatKind.f64.format.order f 0 == some Ordering.lt || FloatKind.f64.format.order f 0 == some Ordering.eq) = false)
    (g1 : floatBits .mul .f64 4611686018427387904 v = some v2) (g2 : floatBits .sub .f64 n v2 = some t) (g3 : floatBits .quo .f64 t n = some f) (e1 : floatBits .mul .f64 m f = some p1) (e2 : floatBits .sub .f64 m p1 = some p2) (e3 : floatBits .quo .f64 p2 4611686018427387904 = some p3) :
    Calls Try.prog 40 #[.agg #[.float .f64 0, .float .f64 0, .float .f64 v, .bool false, .slice none 0 0], .float .f64 m, .float .f64 n] w fun e w' => e = .returned (.tuple #[.agg #[.float .f64 f, .float .f64 p3, .float .f64 v, .bool false, .slice none 0 0], .bool true]) ∧ Below w.heap.size w w' := by
  have rg1 := run_bin (P := Try.prog) .mul g1
  have rg2 := run_bin (P := Try.prog) .sub g2
  have rg3 := run_bin (P := Try.prog) .quo g3
  have re1 := run_bin (P := Try.prog) .mul e1
  have re2 := run_bin (P := Try.prog) .sub e2
  have re3 := run_bin (P := Try.prog) .quo e3
  clear g1 g2 g3 e1 e2 e3
  go_enter Try.func40, Try.ntmps40
  go_wp2_with (go_at_call 74; go_in)
  go_region
  go_wp2
  exact bodyPost_ret (v := .tuple #[.agg #[.float .f64 f, .float .f64 p3, .float .f64 v, .bool false, .slice none 0 0], .bool true]) (by simp [results, Try.results40, go_sem]) rfl ⟨rfl, (by repeat (first | exact Below.refl _ _ | refine bel_drew ?_ | refine bel_alloc _ ?_ | refine bel_drewN _ ?_ | refine bel_trans (by assumption) ?_ | refine bel_set _ _ (by simp) ?_))⟩

end Go.Proofs.Ytooghncdhjdcpaa
