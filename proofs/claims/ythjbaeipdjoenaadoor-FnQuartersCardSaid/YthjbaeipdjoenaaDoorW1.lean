/-
The words of a turn, a move and a moved point: they exist, and stand for the exact numbers but for 1e-9. Conditions: a sine and a cosine of at most 1.001; small numbers.
-/
import Derived.Test.YthjbaeipdjoenaaDoorP0
import Derived.Test.YthjbaeipdjoenaaDoorT1
import Derived.Test.YthjbaeipdjoenaaDoorFx
namespace Go.Proofs.YthjbaeipdjoenaaDoor
open Go.RowKit Fl

def bI : Nat → Rat := nine 1 0 0 0 1 0 0 0 1
def bR : Nat → Rat := nine 2 2 0 2 2 0 0 0 1
theorem rot_ap {sin ms cos : Nat} {s c : Rat} (hs : Ap sin s 2 0) (hm : Ap ms (-s) 2 0) (hc : Ap cos c 2 0) : ApM (turnM sin ms cos) (nine c s 0 (-s) c 0 0 0 1) bR noE := by
  intro o ho
  rcases nine_lt o ho with rfl | rfl | rfl | rfl | rfl | rfl | rfl | rfl | rfl
  · exact hc
  · exact hs
  · exact Ap.zero
  · exact hm
  · exact hc
  · exact Ap.zero
  · exact Ap.zero
  · exact Ap.zero
  · exact Ap.one
theorem one_ap : ApM (scaleM one1 one1) (nine 1 0 0 0 1 0 0 0 1) bI noE := by
  intro o ho
  rcases nine_lt o ho with rfl | rfl | rfl | rfl | rfl | rfl | rfl | rfl | rfl
  · exact Ap.one
  · exact Ap.zero
  · exact Ap.zero
  · exact Ap.zero
  · exact Ap.one
  · exact Ap.zero
  · exact Ap.zero
  · exact Ap.zero
  · exact Ap.one
theorem okIR : okB bI bR noE noE = true := by decide +kernel
theorem okIRM : okB (pV bI bR) bM (pE bI bR noE noE) noE = true := by decide +kernel
/-- What a turn and a move make of a matrix. -/
structure RotM (X : Nat → Nat) (a b dx dy : Rat) : Prop where
  m0 : Ap (X 0) b 2 (1 / 100000000000000)
  m1 : Ap (X 1) a 2 (1 / 100000000000000)
  m3 : Ap (X 3) (-a) 2 (1 / 100000000000000)
  m4 : Ap (X 4) b 2 (1 / 100000000000000)
  m6 : Ap (X 6) dx 10000 (1 / 10000000000)
  m7 : Ap (X 7) dy 10000 (1 / 10000000000)
theorem rot_words {s c dx dy : Nat} {a b u v : Rat} (hs : Ap s a 2 0) (hc : Ap c b 2 0) (hx : Ap dx u 10000 0) (hy : Ap dy v 10000 0) :
    ∃ m s1 m2 s2, Mul3 (scaleM one1 one1) (turnM s (Op.negFloat .f64 s) c) m s1 ∧ Mul3 (prodM s1) (moveM dx dy) m2 s2 ∧ RotM (prodM s2) a b u v := by
  have T := rot_ap hs hs.neg hc
  have V := move_ap hx hy
  have P := prod_of one_ap T okIR
  have Q := prod_of P V okIRM
  refine ⟨_, _, _, _, mul3_of one_ap T okIR, mul3_of P V okIRM, ?_⟩
  exact ⟨((Q 0 (by omega)).eq (by simp [pV, dV, nine]; try grind)).mono (by decide +kernel) (by decide +kernel), ((Q 1 (by omega)).eq (by simp [pV, dV, nine]; try grind)).mono (by decide +kernel) (by decide +kernel), ((Q 3 (by omega)).eq (by simp [pV, dV, nine]; try grind)).mono (by decide +kernel) (by decide +kernel), ((Q 4 (by omega)).eq (by simp [pV, dV, nine]; try grind)).mono (by decide +kernel) (by decide +kernel), ((Q 6 (by omega)).eq (by simp [pV, dV, nine]; try grind)).mono (by decide +kernel) (by decide +kernel), ((Q 7 (by omega)).eq (by simp [pV, dV, nine]; try grind)).mono (by decide +kernel) (by decide +kernel)⟩

/-- A point moved by such a matrix. -/
theorem moved_words {X : Nat → Nat} {a b u v x y : Rat} {px py : Nat} (h : RotM X a b u v) (hx : Ap px x 10000 0) (hy : Ap py y 10000 0) :
    ∃ ax ay a1 a2 a3 a4 a5 a6, Tr1 X 0 px py ax a1 a2 a3 ∧ Tr1 X 1 px py ay a4 a5 a6 ∧ Ap ax (x * b - y * a + u) 100000 (1 / 1000000000) ∧ Ap ay (x * a + y * b + v) 100000 (1 / 1000000000) := by
  obtain ⟨a1, e1, f1⟩ := hx.mul h.m0 20000 (1 / 5000000000) (by decide +kernel)
  obtain ⟨a2, e2, f2⟩ := hy.mul h.m3 20000 (1 / 5000000000) (by decide +kernel)
  obtain ⟨a3, e3, f3⟩ := f1.add f2 40000 (5 / 10000000000) (by decide +kernel)
  obtain ⟨ax, e4, f4⟩ := f3.add h.m6 100000 (1 / 1000000000) (by decide +kernel)
  obtain ⟨a4, e5, f5⟩ := hx.mul h.m1 20000 (1 / 5000000000) (by decide +kernel)
  obtain ⟨a5, e6, f6⟩ := hy.mul h.m4 20000 (1 / 5000000000) (by decide +kernel)
  obtain ⟨a6, e7, f7⟩ := f5.add f6 40000 (5 / 10000000000) (by decide +kernel)
  obtain ⟨ay, e8, f8⟩ := f7.add h.m7 100000 (1 / 1000000000) (by decide +kernel)
  exact ⟨ax, ay, a1, a2, a3, a4, a5, a6, ⟨e1, e2, e3, e4⟩, ⟨e5, e6, e7, e8⟩, f4.eq (by grind), f8⟩
end Go.Proofs.YthjbaeipdjoenaaDoor
