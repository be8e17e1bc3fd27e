/-
Contract of math.sin: the word that the plain function gives. Conditions: a word above or below 0 whose eighths of a turn are at most 16; the tables hold what their texts say.
-/
import Derived.Test.YthjbaeipdjoenaaDoorS1
namespace Go.Proofs.YthjbaeipdjoenaaDoor
open Go.RowKit Fl

def Tab (w : World) (g : Nat) (l : List Nat) : Prop := ∀ i, i < 6 → w.cell? ⟨g, i, none⟩ = some (.float .f64 (l.getD i 0))
abbrev sinT : List Nat := [4460209587652500685, 13716528389658582877, 4523617212962785441, 13774824197404483331, 4575957461383575504, 13818544856648471880]
abbrev cosT : List Nat := [13666448263388469915, 4477121864728985349, 13732177093698800582, 4537941361668146421, 13787419979223748497, 4586165620538955083]

section
variable {x y : Nat} {r : Nat}
theorem rm (h : fm x y = some r) : ∀ (t : TypeId) (w : World), (binOp .mul t (.float .f64 x) (.float .f64 y)).run Tryd.prog w = .ok (.float .f64 r) w := run_bin .mul h
theorem ra (h : fa x y = some r) : ∀ (t : TypeId) (w : World), (binOp .add t (.float .f64 x) (.float .f64 y)).run Tryd.prog w = .ok (.float .f64 r) w := run_bin .add h
theorem rs (h : fs x y = some r) : ∀ (t : TypeId) (w : World), (binOp .sub t (.float .f64 x) (.float .f64 y)).run Tryd.prog w = .ok (.float .f64 r) w := run_bin .sub h
end

/-- The choices on the way: what the number of eighths is. -/
theorem and1 (j : Int) (h0 : 0 ≤ j) (h1 : j ≤ 16) : bits .and .u64 j 1 = if j % 2 = 1 then 1 else 0 := by
  obtain ⟨n, rfl⟩ : ∃ n : Nat, j = n := ⟨j.toNat, by omega⟩
  have : n < 17 := by omega
  clear h0 h1
  revert n
  decide +kernel
theorem and7 (j : Int) (h0 : 0 ≤ j) (h1 : j ≤ 17) : bits .and .u64 j 7 = j % 8 := by
  obtain ⟨n, rfl⟩ : ∃ n : Nat, j = n := ⟨j.toNat, by omega⟩
  have : n < 18 := by omega
  clear h0 h1
  revert n
  decide +kernel
end Go.Proofs.YthjbaeipdjoenaaDoor
