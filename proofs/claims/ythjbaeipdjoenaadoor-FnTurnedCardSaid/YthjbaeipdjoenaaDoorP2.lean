/-
The law FnPlaced holds: the row (its listed variable: the unit matrix of the text laid), and its tied card.
-/
import Derived.Test.YthjbaeipdjoenaaDoorM6
import Derived.Test.YthjbaeipdjoenaaDoorP0
import Derived.Test.YthjbaeipdjoenaaDoorCards
import Derived.Test.YthjbaeipdjoenaaDoorTie
import Derived.SevenTiedAt
import Derived.LaidMore
import Derived.OpenShut
import Derived.OpenVars
import Derived.ChangeVars
import Derived.Stop.Joined
import Derived.Laws.Cover2
import Derived.ProofKit
namespace Go.Proofs.YthjbaeipdjoenaaDoor
open Go.ChangeShapes Go.WideShapes Go.ChangeAt Go.WideMaps Go.WideElems Go.RowKit

theorem own : ownKnob Tryd.prog.godebug = none := by kernel_rfl
theorem gIdent : Tryd.prog.globalNamed "given.example/pub-quirewright/pub/pdfcpu/pkg/pdfcpu/matrix.IdentMatrix" = some 0 := by kernel_rfl
theorem tIdent : (Tryd.prog.globals[0]?).map (·.type) = some 43 := by kernel_rfl
theorem cells22 : Tryd.prog.cellsOf 22 = 1 := by kernel_rfl
theorem cells24 : Tryd.prog.cellsOf 24 = 3 := by kernel_rfl

section
variable {H : Type} {enc : TypeId × Value → H} {P : Program} {w : World} {base : Nat} {spare : Nat → Bool} {held : Bool}
/-- An array read: each element by itself. -/
theorem arr {n fuel : Nat} {e t : TypeId} {cs : List Value} {d : DataW H} {ps : List MemPlace} (ht : P.underlying t = some (.array n e)) (h : DataW.trod enc P w base spare held fuel t cs = some (d, ps)) :
    ∃ (ds : List (DataW H)) (m : Nat), d = .agg ds ∧ ds.length = n ∧ ∀ i, i < n → ∃ q, DataW.trod enc P w base spare held m e ((cs.drop (i * P.cellsOf e)).take (P.cellsOf e)) = some (ds.getD i .nil, q) := by
  obtain ⟨xs, m, rfl, hx, hlen, hn, hel⟩ := DataW.trod_array ht h
  simp only [Prod.mk.injEq] at hx
  refine ⟨xs.map (·.1), m, hx.1, by simpa using hn, fun i hi => ?_⟩
  have h1 := hel i hi
  have hl : i < xs.length := by omega
  rw [List.getElem?_eq_getElem hl] at h1
  refine ⟨(xs[i]).2, h1.trans ?_⟩
  simp [hl]
theorem flt {fuel : Nat} {t : TypeId} {k : FloatKind} {cs : List Value} {d : DataW H} {ps : List MemPlace} (ht : P.underlying t = some (.float k)) (h : DataW.trod enc P w base spare held fuel t cs = some (d, ps)) : ∃ b, cs = [.float k b] ∧ d = .lit (.float k b) := by
  cases fuel with
  | zero => simp [DataW.trod] at h
  | succ n =>
    unfold DataW.trod at h
    rw [ht] at h
    split at h <;> simp_all
end

/-- What the listed variable holds. -/
theorem ident_of {W : World} {fuel : Nat} {cs : Array Value} {q : List MemPlace} (hv : W.var? Tryd.prog "given.example/pub-quirewright/pub/pdfcpu/pkg/pdfcpu/matrix.IdentMatrix" = some cs)
    (h : DataW.trod (fun _ => ()) Tryd.prog W 0 (fun _ => true) false fuel 43 cs.toList = some (Rows.laid_given_example_pub_quirewright_pub_pdfcpu_pkg_pdfcpu_matrix_IdentMatrix, q)) : Ident W := by
  obtain ⟨ds, m, hd, hn, hel⟩ := arr Tryd.underlying43 h
  unfold Rows.laid_given_example_pub_quirewright_pub_pdfcpu_pkg_pdfcpu_matrix_IdentMatrix at hd
  simp only [DataW.agg.injEq] at hd
  subst hd
  have key : ∀ i j, i < 3 → j < 3 → ∀ b, (((match ([.agg [.lit (.float .f64 4607182418800017408), .lit (.float .f64 0), .lit (.float .f64 0)], .agg [.lit (.float .f64 0), .lit (.float .f64 4607182418800017408), .lit (.float .f64 0)], .agg [.lit (.float .f64 0), .lit (.float .f64 0), .lit (.float .f64 4607182418800017408)]] : List (DataW Unit)).getD i .nil with | .agg l => l.getD j .nil | _ => .nil) : DataW Unit) = .lit (.float .f64 b)) → cs[i * 3 + j]? = some (.float .f64 b) := by
    intro i j hi hj b hb
    obtain ⟨q1, h1⟩ := hel i hi
    rw [cells24] at h1
    obtain ⟨es, m1, he, hn1, hel1⟩ := arr Tryd.underlying24 h1
    obtain ⟨q2, h2⟩ := hel1 j hj
    rw [cells22] at h2
    obtain ⟨b', hc, hd'⟩ := flt Tryd.underlying22 h2
    rw [he] at hb
    simp only at hb
    rw [hb] at hd'
    simp only [DataW.lit.injEq, Lit.float.injEq, true_and] at hd'
    subst hd'
    have h4 : ((((cs.toList.drop (i * 3)).take 3).drop (j * 1)).take 1)[0]? = some (.float .f64 b) := by rw [hc]; rfl
    rw [List.getElem?_take_of_lt (by omega), List.getElem?_drop, List.getElem?_take_of_lt (by omega), List.getElem?_drop, Array.getElem?_toList] at h4
    rw [← h4]
    congr 1
    omega
  intro o ho
  have at0 : ∀ i j b, i * 3 + j = o → cs[i * 3 + j]? = some (.float .f64 b) → W.cell? ⟨0, o, none⟩ = some (.float .f64 b) := by
    intro i j b e hc
    subst e
    exact (World.var?_cell gIdent hv (i * 3 + j)).trans hc
  rcases nine_lt o ho with rfl | rfl | rfl | rfl | rfl | rfl | rfl | rfl | rfl
  · exact at0 0 0 _ rfl (key 0 0 (by omega) (by omega) _ rfl)
  · exact at0 0 1 _ rfl (key 0 1 (by omega) (by omega) _ rfl)
  · exact at0 0 2 _ rfl (key 0 2 (by omega) (by omega) _ rfl)
  · exact at0 1 0 _ rfl (key 1 0 (by omega) (by omega) _ rfl)
  · exact at0 1 1 _ rfl (key 1 1 (by omega) (by omega) _ rfl)
  · exact at0 1 2 _ rfl (key 1 2 (by omega) (by omega) _ rfl)
  · exact at0 2 0 _ rfl (key 2 0 (by omega) (by omega) _ rfl)
  · exact at0 2 1 _ rfl (key 2 1 (by omega) (by omega) _ rfl)
  · exact at0 2 2 _ rfl (key 2 2 (by omega) (by omega) _ rfl)
end Go.Proofs.YthjbaeipdjoenaaDoor
