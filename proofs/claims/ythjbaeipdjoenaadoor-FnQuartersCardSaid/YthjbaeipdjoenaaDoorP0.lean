/-
A product of two matrices of words that stand for numbers within known errors: the words of its products and sums exist, and stand for the exact sums within a reckoned error. Conditions: the bounds on the way are below 1e24.
-/
import Derived.Test.YthjbaeipdjoenaaDoorM3
import Derived.Test.YthjbaeipdjoenaaDoorM4
namespace Go.Proofs.YthjbaeipdjoenaaDoor
open Go.RowKit Fl

def mE (M N E F : Rat) : Rat := if M = 0 ∧ E = 0 ∨ N = 0 ∧ F = 0 then 0 else E * (N + F) + M * F + ((M + E) * (N + F) + 1) / 4503599627370496
def aE (M N E F : Rat) : Rat := if M = 0 ∧ N = 0 ∧ E = 0 ∧ F = 0 then 0 else E + F + (M + N + E + F + 1) / 4503599627370496
theorem nr_zero {q v : Rat} (h : Nr q v 0) : q = v := by obtain ⟨h1, h2⟩ := h; grind
theorem ap_is0 {x : Nat} {v : Rat} (h : Ap x v 0 0) : R x 0 ∧ v = 0 := by
  obtain ⟨q, h1, h2, h3⟩ := h
  have e1 := nr_zero h2
  have e2 := nr_zero h3
  subst e2
  subst e1
  exact ⟨h1, rfl⟩
theorem ap_mul2 {x y : Nat} {v u M N E F : Rat} (hx : Ap x v M E) (hy : Ap y u N F) (h : (M + E) * (N + F) ≤ 1000000000000000000000000) :
    ∃ r, floatBits .mul .f64 x y = some r ∧ Ap r (v * u) (M * N) (mE M N E F) := by
  unfold mE
  split
  · rename_i hz
    rcases hz with ⟨rfl, rfl⟩ | ⟨rfl, rfl⟩
    · obtain ⟨h1, rfl⟩ := ap_is0 hx
      obtain ⟨q, h2, _⟩ := hy
      obtain ⟨r, e1, e2⟩ := R_mul_exact h1 h2 0 0 (by rw [Rat.zero_mul]; exact (Rat.zero_mul _).symm) (by decide) (by decide) (by decide)
      rw [Rat.zero_mul] at e2
      exact ⟨r, e1, 0, e2, by rw [Rat.zero_mul]; exact Nr.refl Rat.le_refl, by rw [Rat.zero_mul, Rat.zero_mul]; exact Nr.refl Rat.le_refl⟩
    · obtain ⟨h1, rfl⟩ := ap_is0 hy
      obtain ⟨q, h2, _⟩ := hx
      obtain ⟨r, e1, e2⟩ := R_mul_exact h2 h1 0 0 (by rw [Rat.mul_zero]; exact (Rat.zero_mul _).symm) (by decide) (by decide) (by decide)
      rw [Rat.mul_zero] at e2
      exact ⟨r, e1, 0, e2, by rw [Rat.mul_zero]; exact Nr.refl Rat.le_refl, by rw [Rat.mul_zero, Rat.mul_zero]; exact Nr.refl Rat.le_refl⟩
  · exact Ap.mul hx hy _ _ ⟨Rat.le_refl, Rat.le_refl, h⟩
theorem ap_add2 {x y : Nat} {v u M N E F : Rat} (hx : Ap x v M E) (hy : Ap y u N F) (h : M + N + E + F ≤ 1000000000000000000000000) :
    ∃ r, floatBits .add .f64 x y = some r ∧ Ap r (v + u) (M + N) (aE M N E F) := by
  unfold aE
  split
  · rename_i hz
    obtain ⟨rfl, rfl, rfl, rfl⟩ := hz
    obtain ⟨h1, rfl⟩ := ap_is0 hx
    obtain ⟨h2, rfl⟩ := ap_is0 hy
    obtain ⟨r, e1, e2⟩ := R_add_exact h1 h2 0 0 (by rw [Rat.zero_add]; exact (Rat.zero_mul _).symm) (by decide) (by decide) (by decide)
    rw [Rat.zero_add] at e2
    exact ⟨r, e1, 0, e2, by rw [Rat.zero_add]; exact Nr.refl Rat.le_refl, by rw [Rat.zero_add]; exact Nr.refl Rat.le_refl⟩
  · exact Ap.add hx hy _ _ ⟨Rat.le_refl, Rat.le_refl, h⟩
/-- Each entry of a matrix stands for a number, within bounds of its own. -/
def ApM (X : Nat → Nat) (v M E : Nat → Rat) : Prop := ∀ o, o < 9 → Ap (X o) (v o) (M o) (E o)
def dV (a b : Nat → Rat) (i j : Nat) : Nat → Rat
  | 0 => 0
  | k + 1 => dV a b i j k + a (i * 3 + k) * b (k * 3 + j)
def dE (M N E F : Nat → Rat) (i j : Nat) : Nat → Rat
  | 0 => 0
  | k + 1 => aE (dV M N i j k) (M (i * 3 + k) * N (k * 3 + j)) (dE M N E F i j k) (mE (M (i * 3 + k)) (N (k * 3 + j)) (E (i * 3 + k)) (F (k * 3 + j)))
def mW (A B : Nat → Nat) (i j k : Nat) : Nat := (floatBits .mul .f64 (A (i * 3 + k)) (B (k * 3 + j))).getD 0
def sW (A B : Nat → Nat) (i j : Nat) : Nat → Nat
  | 0 => 0
  | k + 1 => (floatBits .add .f64 (sW A B i j k) (mW A B i j k)).getD 0
/-- What the bounds must keep. -/
def okB (M N E F : Nat → Rat) : Bool :=
  (List.range 3).all fun i => (List.range 3).all fun j => (List.range 3).all fun k =>
    decide ((M (i * 3 + k) + E (i * 3 + k)) * (N (k * 3 + j) + F (k * 3 + j)) ≤ 1000000000000000000000000) &&
    decide (dV M N i j k + M (i * 3 + k) * N (k * 3 + j) + dE M N E F i j k + mE (M (i * 3 + k)) (N (k * 3 + j)) (E (i * 3 + k)) (F (k * 3 + j)) ≤ 1000000000000000000000000)
theorem okB_at {M N E F : Nat → Rat} (h : okB M N E F = true) {i j k : Nat} (hi : i < 3) (hj : j < 3) (hk : k < 3) :
    (M (i * 3 + k) + E (i * 3 + k)) * (N (k * 3 + j) + F (k * 3 + j)) ≤ 1000000000000000000000000 ∧
    dV M N i j k + M (i * 3 + k) * N (k * 3 + j) + dE M N E F i j k + mE (M (i * 3 + k)) (N (k * 3 + j)) (E (i * 3 + k)) (F (k * 3 + j)) ≤ 1000000000000000000000000 := by
  unfold okB at h
  have h1 := List.all_eq_true.1 (List.all_eq_true.1 (List.all_eq_true.1 h i (List.mem_range.2 hi)) j (List.mem_range.2 hj)) k (List.mem_range.2 hk)
  rw [Bool.and_eq_true, decide_eq_true_iff, decide_eq_true_iff] at h1
  exact h1

section
variable {A B : Nat → Nat} {a b M N E F : Nat → Rat}
theorem mul_at (hA : ApM A a M E) (hB : ApM B b N F) (ok : okB M N E F = true) {i j k : Nat} (hi : i < 3) (hj : j < 3) (hk : k < 3) :
    floatBits .mul .f64 (A (i * 3 + k)) (B (k * 3 + j)) = some (mW A B i j k) ∧ Ap (mW A B i j k) (a (i * 3 + k) * b (k * 3 + j)) (M (i * 3 + k) * N (k * 3 + j)) (mE (M (i * 3 + k)) (N (k * 3 + j)) (E (i * 3 + k)) (F (k * 3 + j))) := by
  obtain ⟨r, h1, h2⟩ := ap_mul2 (hA (i * 3 + k) (by omega)) (hB (k * 3 + j) (by omega)) (okB_at ok hi hj hk).1
  have e : mW A B i j k = r := by unfold mW; rw [h1]; rfl
  rw [e]
  exact ⟨h1, h2⟩
theorem sum_at (hA : ApM A a M E) (hB : ApM B b N F) (ok : okB M N E F = true) {i j : Nat} (hi : i < 3) (hj : j < 3) : ∀ k, k < 4 →
    Ap (sW A B i j k) (dV a b i j k) (dV M N i j k) (dE M N E F i j k) ∧ (k < 3 → floatBits .add .f64 (sW A B i j k) (mW A B i j k) = some (sW A B i j (k + 1))) := by
  intro k
  have step : ∀ k, k < 3 → Ap (sW A B i j k) (dV a b i j k) (dV M N i j k) (dE M N E F i j k) → floatBits .add .f64 (sW A B i j k) (mW A B i j k) = some (sW A B i j (k + 1)) ∧ Ap (sW A B i j (k + 1)) (dV a b i j (k + 1)) (dV M N i j (k + 1)) (dE M N E F i j (k + 1)) := by
    intro k hk hs
    obtain ⟨r, h1, h2⟩ := ap_add2 hs (mul_at hA hB ok hi hj hk).2 (okB_at ok hi hj hk).2
    have e : sW A B i j (k + 1) = r := by show (floatBits .add .f64 (sW A B i j k) (mW A B i j k)).getD 0 = r; rw [h1]; rfl
    rw [e]
    exact ⟨h1, h2⟩
  have all : ∀ k, k < 4 → Ap (sW A B i j k) (dV a b i j k) (dV M N i j k) (dE M N E F i j k) := by
    intro k
    induction k with
    | zero => intro _; exact Ap.zero
    | succ k ih => intro hk; exact (step k (by omega) (ih (by omega))).2
  exact fun hk => ⟨all k hk, fun h3 => (step k h3 (all k hk)).1⟩
theorem mul3_of (hA : ApM A a M E) (hB : ApM B b N F) (ok : okB M N E F = true) : Mul3 A B (mW A B) (sW A B) :=
  ⟨fun _ _ => rfl, fun _ _ _ hi hj hk => (mul_at hA hB ok hi hj hk).1, fun _ _ k hi hj hk => (sum_at hA hB ok hi hj k (by omega)).2 hk⟩
def pV (a b : Nat → Rat) (o : Nat) : Rat := dV a b (o / 3) (o % 3) 3
def pE (M N E F : Nat → Rat) (o : Nat) : Rat := dE M N E F (o / 3) (o % 3) 3
theorem prod_of (hA : ApM A a M E) (hB : ApM B b N F) (ok : okB M N E F = true) : ApM (prodM (sW A B)) (pV a b) (pV M N) (pE M N E F) :=
  fun o ho => (sum_at hA hB ok (show o / 3 < 3 by omega) (show o % 3 < 3 by omega) 3 (by omega)).1
end

/-- Nine numbers. -/
def nine (a b c d e f g h i : Rat) (o : Nat) : Rat :=
  if o = 0 then a else if o = 1 then b else if o = 2 then c else if o = 3 then d else if o = 4 then e else if o = 5 then f else if o = 6 then g else if o = 7 then h else i
def noE (_ : Nat) : Rat := 0
theorem Ap.zero1 : Ap 0 0 0 0 := Ap.zero
theorem nine_lt (o : Nat) (h : o < 9) : o = 0 ∨ o = 1 ∨ o = 2 ∨ o = 3 ∨ o = 4 ∨ o = 5 ∨ o = 6 ∨ o = 7 ∨ o = 8 := by omega
def bS : Nat → Rat := nine 10000 0 0 0 10000 0 0 0 1
def bT : Nat → Rat := nine 10000 10000 0 10000 10000 0 0 0 1
def bM : Nat → Rat := nine 1 0 0 0 1 0 10000 10000 1

theorem scale_ap {sx sy : Nat} {x y : Rat} (hx : Ap sx x 10000 0) (hy : Ap sy y 10000 0) : ApM (scaleM sx sy) (nine x 0 0 0 y 0 0 0 1) bS noE := by
  intro o ho
  rcases nine_lt o ho with rfl | rfl | rfl | rfl | rfl | rfl | rfl | rfl | rfl
  · exact hx
  · exact Ap.zero
  · exact Ap.zero
  · exact Ap.zero
  · exact hy
  · exact Ap.zero
  · exact Ap.zero
  · exact Ap.zero
  · exact Ap.one
theorem turn_ap {sin ms cos : Nat} {s c : Rat} (hs : Ap sin s 10000 0) (hm : Ap ms (-s) 10000 0) (hc : Ap cos c 10000 0) : ApM (turnM sin ms cos) (nine c s 0 (-s) c 0 0 0 1) bT noE := by
  intro o ho
  rcases nine_lt o ho with rfl | rfl | rfl | rfl | rfl | rfl | rfl | rfl | rfl
  · exact hc
  · exact hs
  · exact Ap.zero
  · exact hm
  · exact hc
  · exact Ap.zero
  · exact Ap.zero
  · exact Ap.zero
  · exact Ap.one
theorem move_ap {dx dy : Nat} {x y : Rat} (hx : Ap dx x 10000 0) (hy : Ap dy y 10000 0) : ApM (moveM dx dy) (nine 1 0 0 0 1 0 x y 1) bM noE := by
  intro o ho
  rcases nine_lt o ho with rfl | rfl | rfl | rfl | rfl | rfl | rfl | rfl | rfl
  · exact Ap.one
  · exact Ap.zero
  · exact Ap.zero
  · exact Ap.zero
  · exact Ap.one
  · exact Ap.zero
  · exact hx
  · exact hy
  · exact Ap.one

theorem okST : okB bS bT noE noE = true := by decide +kernel
theorem okSTM : okB (pV bS bT) bM (pE bS bT noE noE) noE = true := by decide +kernel
theorem fine : ∀ o, o < 9 → pV (pV bS bT) bM o + pE (pV bS bT) bM (pE bS bT noE noE) noE o ≤ 1000000000000 := by decide +kernel

/-- What FnPlaced's walk asks. -/
theorem placed_words {sx sy sin cos dx dy : Nat} (h1 : SmallW sx) (h2 : SmallW sy) (h3 : SmallW sin) (h4 : SmallW cos) (h5 : SmallW dx) (h6 : SmallW dy) :
    ∃ m s m2 s2, Mul3 (scaleM sx sy) (turnM sin (Op.negFloat .f64 sin) cos) m s ∧ Mul3 (prodM s) (moveM dx dy) m2 s2 ∧ ∀ o, o < 9 → NearT (prodM s2 o) (prodM s2 o) := by
  obtain ⟨n1, r1, a1, b1⟩ := h1
  obtain ⟨n2, r2, a2, b2⟩ := h2
  obtain ⟨n3, r3, a3, b3⟩ := h3
  obtain ⟨n4, r4, a4, b4⟩ := h4
  obtain ⟨n5, r5, a5, b5⟩ := h5
  obtain ⟨n6, r6, a6, b6⟩ := h6
  have S := scale_ap (Ap.small r1 a1 b1) (Ap.small r2 a2 b2)
  have T := turn_ap (Ap.small r3 a3 b3) (Ap.small r3 a3 b3).neg (Ap.small r4 a4 b4)
  have V := move_ap (Ap.small r5 a5 b5) (Ap.small r6 a6 b6)
  have P := prod_of S T okST
  have Q := prod_of P V okSTM
  exact ⟨_, _, _, _, mul3_of S T okST, mul3_of P V okSTM, fun o ho => NearT.same (Q o ho) (fine o ho)⟩
end Go.Proofs.YthjbaeipdjoenaaDoor
