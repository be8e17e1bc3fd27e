/-
FnCollected: a token without its sign: the walks. Conditions: the handlers they come to.
-/
import Derived.Test.YthfihamhkhnckaaDoorK5
namespace Go.Proofs.YthfihamhkhnckaaDoor
open Go.RowKit Go.ChangeShapes Go.Proofs.YthfihamhkhnckaaDoorW.PrintWords

set_option maxHeartbeats 1000000

theorem norm_dash (r : List UInt8) (neg : Bool) (n : Nat) (i : Int) (TK : ByteArray) (B c : Nat) (w : World) (_hBw : B ≤ w.heap.size) (L : List Int)
    (HF : Calls Tryd.prog 42 #[.string (bs r), .bool neg, .int .i64 (n : Int), .pointer (some ⟨c, 0, none⟩)] w (Done B c L w)) :
    Calls Tryd.prog 38 #[.int .i64 (n : Int), .int .i64 i, .string TK, .string (bs (45 :: r)), .bool neg, .pointer (some ⟨c, 0, none⟩)] w (Done B c L w) := by
  obtain ⟨S, hS⟩ : ∃ S, S = bs (45 :: r) := ⟨_, rfl⟩
  have hsz : S.size = r.length + 1 := by rw [hS, bs_size]; rfl
  have hx0 : ((S[0]'(by omega)).toNat : Int) = 45 := by subst hS; rfl
  have hx := bs_extract (45 :: r) 1 (r.length + 1)
  rw [List.take_of_length_le (by simp)] at hx
  have hx' : S.extract 1 (r.length + 1) = bs r := by rw [hS]; exact hx
  have HF := Lib.hid HF
  clear hx
  rw [← hS]
  clear hS
  generalize bs r = T at *
  go_enter Tryd.func38, Tryd.ntmps38
  go_wp2_with (go_at_call 42; refine HF.out.mono ?_; rintro e w9 ⟨rfl, h1, h2⟩)
  exact bodyPost_ret (v := .nilIface) (by simp [results, Tryd.results38, go_sem]) rfl ⟨rfl, h1, h2⟩
theorem norm_l (r : List UInt8) (neg : Bool) (n : Nat) (i : Int) (TK : ByteArray) (B c : Nat) (w : World) (_hBw : B ≤ w.heap.size) (L : List Int)
    (HF : Calls Tryd.prog 46 #[.string (bs (108 :: r)), .bool neg, .int .i64 (n : Int), .pointer (some ⟨c, 0, none⟩)] w (Done B c L w)) :
    Calls Tryd.prog 38 #[.int .i64 (n : Int), .int .i64 i, .string TK, .string (bs (108 :: r)), .bool neg, .pointer (some ⟨c, 0, none⟩)] w (Done B c L w) := by
  obtain ⟨S, hS⟩ : ∃ S, S = bs (108 :: r) := ⟨_, rfl⟩
  have hsz : S.size = r.length + 1 := by rw [hS, bs_size]; rfl
  have hx0 : ((S[0]'(by omega)).toNat : Int) = 108 := by subst hS; rfl
  rw [← hS] at HF ⊢
  have HF := Lib.hid HF
  clear hS
  go_enter Tryd.func38, Tryd.ntmps38
  go_wp2_with (go_at_call 46; refine HF.out.mono ?_; rintro e w9 ⟨rfl, h1, h2⟩)
  exact bodyPost_ret (v := .nilIface) (by simp [results, Tryd.results38, go_sem]) rfl ⟨rfl, h1, h2⟩
theorem norm_suffix (ds : List UInt8) (hds : Num ds) (neg : Bool) (n : Nat) (i : Int) (TK : ByteArray) (B c : Nat) (w : World) (_hBw : B ≤ w.heap.size) (L : List Int)
    (HF : Calls Tryd.prog 45 #[.string (bs ds), .bool neg, .int .i64 (n : Int), .pointer (some ⟨c, 0, none⟩)] w (Done B c L w)) :
    Calls Tryd.prog 38 #[.int .i64 (n : Int), .int .i64 i, .string TK, .string (bs (ds ++ [45])), .bool neg, .pointer (some ⟨c, 0, none⟩)] w (Done B c L w) := by
  have h4 := hds.four
  obtain ⟨S, hS⟩ : ∃ S, S = bs (ds ++ [45]) := ⟨_, rfl⟩
  have hsz : S.size = ds.length + 1 := by rw [hS, bs_size]; simp
  obtain ⟨x0, hx0, g0, g1⟩ : ∃ x0 : Int, ((S[0]'(by omega)).toNat : Int) = x0 ∧ 49 ≤ x0 ∧ x0 ≤ 57 := by
    subst hS
    obtain ⟨c, r, rfl, h1, h2⟩ := hds.cons
    exact ⟨c.toNat, rfl, by omega, by omega⟩
  have e1 : (x0 == 45) = false := beq_eq_false_iff_ne.2 (by omega)
  have e2 : (x0 == 108) = false := beq_eq_false_iff_ne.2 (by omega)
  have HSuf := fun W => suffix_calls (ds ++ [45]) (by simp) (by simp; omega) W
  have hsuf : (List.drop ((ds ++ [45]).length - 1) (ds ++ [45]) == [45]) = true := by
    rw [List.drop_left' (by simp)]; rfl
  rw [hsuf, ← hS] at HSuf
  have HSuf := Lib.hid HSuf
  have hx := bs_extract (ds ++ [45]) 0 ds.length
  have hx' : S.extract 0 ds.length = bs ds := by rw [hS, hx, List.take_left' rfl]; rfl
  have HF := Lib.hid HF
  clear hx hsuf hds
  rw [← hS]
  clear hS
  generalize bs ds = T at *
  go_enter Tryd.func38, Tryd.ntmps38
  go_wp2_with (first | (go_at_call 44; refine (HSuf.out _).mono ?_; rintro e w8 ⟨rfl, rfl⟩) | (go_at_call 45; refine HF.out.mono ?_; rintro e w9 ⟨rfl, h1, h2⟩))
  exact bodyPost_ret (v := .nilIface) (by simp [results, Tryd.results38, go_sem]) rfl ⟨rfl, h1, h2⟩

theorem norm_range (v : List UInt8) (hv : v.length ≤ 100) (c0 : UInt8) (r0 : List UInt8) (hv0 : v = c0 :: r0) (hc0 : 49 ≤ c0.toNat ∧ c0.toNat ≤ 57) (hsuf : (List.drop (v.length - 1) v == [45]) = false) (parts : List (List UInt8)) (hp : splitL 45 v = parts) (h2 : 2 ≤ parts.length) (neg : Bool) (n : Nat) (i : Int) (TK : ByteArray) (B c : Nat) (w : World) (hBw : B ≤ w.heap.size) (L : List Int)
    (HF : ∀ g cap W, (∀ i p, parts[i]? = some p → W.cell? ⟨g, i, none⟩ = some (.string (bs p))) → Below w.heap.size w W → Calls Tryd.prog 48 #[.slice (some ⟨g, 0, none⟩) parts.length cap, .int .i64 (n : Int), .bool neg, .pointer (some ⟨c, 0, none⟩)] W (Done B c L W)) :
    Calls Tryd.prog 38 #[.int .i64 (n : Int), .int .i64 i, .string TK, .string (bs v), .bool neg, .pointer (some ⟨c, 0, none⟩)] w (Done B c L w) := by
  have hlen : 0 < v.length := by rw [hv0]; simp
  obtain ⟨S, hS⟩ : ∃ S, S = bs v := ⟨_, rfl⟩
  have hsz : S.size = v.length := by rw [hS, bs_size]
  obtain ⟨x0, hx0, g0, g1⟩ : ∃ x0 : Int, ((S[0]'(by omega)).toNat : Int) = x0 ∧ 49 ≤ x0 ∧ x0 ≤ 57 := by
    subst hS
    subst hv0
    exact ⟨c0.toNat, rfl, by omega, by omega⟩
  have e1 : (x0 == 45) = false := beq_eq_false_iff_ne.2 (by omega)
  have e2 : (x0 == 108) = false := beq_eq_false_iff_ne.2 (by omega)
  have HSuf := fun W => suffix_calls v hlen (by omega) W
  rw [hsuf, ← hS] at HSuf
  have HSuf := Lib.hid HSuf
  have HS := (fun W => split_cells v parts hp (by intro h; rw [h] at h2; simp at h2) (by omega) W)
  rw [← hS] at HS
  have HS := Lib.hid HS
  have HF := Lib.hid HF
  clear hsuf hv0 hp
  rw [← hS]
  clear hS
  generalize hNP : parts.length = NP at *
  go_enter Tryd.func38, Tryd.ntmps38
  go_wp2_with (first | (go_at_call 44; refine (HSuf.out _).mono ?_; rintro e w8 ⟨rfl, rfl⟩) | (go_at_call 47; with_reducible refine (HS.out _).mono ?_; rintro e w2 ⟨g, cap, rfl, hcl, hb2⟩; have hs2 := hb2.size; have HF2 := Lib.hid (HF.out g cap w2 hcl hb2); clear hcl) | (go_at_call 48; refine HF2.out.mono ?_; rintro e w9 ⟨rfl, h1, h2⟩))
  exact bodyPost_ret (v := .nilIface) (by simp [results, Tryd.results38, go_sem]) rfl ⟨rfl, h1, (hb2.mono hBw).trans h2⟩

theorem norm_page (v : List UInt8) (hv : v.length ≤ 100) (c0 : UInt8) (r0 : List UInt8) (hv0 : v = c0 :: r0) (hc0 : 49 ≤ c0.toNat ∧ c0.toNat ≤ 57) (hsuf : (List.drop (v.length - 1) v == [45]) = false) (hp : splitL 45 v = [v]) (neg : Bool) (n : Nat) (i : Int) (TK : ByteArray) (B c : Nat) (w : World) (hBw : B ≤ w.heap.size) (L : List Int)
    (HF : ∀ W, Below w.heap.size w W → Calls Tryd.prog 46 #[.string (bs v), .bool neg, .int .i64 (n : Int), .pointer (some ⟨c, 0, none⟩)] W (Done B c L W)) :
    Calls Tryd.prog 38 #[.int .i64 (n : Int), .int .i64 i, .string TK, .string (bs v), .bool neg, .pointer (some ⟨c, 0, none⟩)] w (Done B c L w) := by
  have hlen : 0 < v.length := by rw [hv0]; simp
  obtain ⟨S, hS⟩ : ∃ S, S = bs v := ⟨_, rfl⟩
  have hsz : S.size = v.length := by rw [hS, bs_size]
  obtain ⟨x0, hx0, g0, g1⟩ : ∃ x0 : Int, ((S[0]'(by omega)).toNat : Int) = x0 ∧ 49 ≤ x0 ∧ x0 ≤ 57 := by
    subst hS
    subst hv0
    exact ⟨c0.toNat, rfl, by omega, by omega⟩
  have e1 : (x0 == 45) = false := beq_eq_false_iff_ne.2 (by omega)
  have e2 : (x0 == 108) = false := beq_eq_false_iff_ne.2 (by omega)
  have HSuf := fun W => suffix_calls v hlen (by omega) W
  rw [hsuf, ← hS] at HSuf
  have HSuf := Lib.hid HSuf
  have HS := (fun W => split_cells v [v] hp (by simp) (by omega) W)
  rw [← hS] at HS
  have HS := Lib.hid HS
  rw [← hS] at HF
  have HF := Lib.hid HF
  have HU := Lib.hid hS.symm
  clear hsuf hv0 hp
  rw [← hS]
  clear hS
  
  go_enter Tryd.func38, Tryd.ntmps38
  go_wp2_with (first | (go_at_call 44; refine (HSuf.out _).mono ?_; rintro e w8 ⟨rfl, rfl⟩) | (go_at_call 47; with_reducible refine (HS.out _).mono ?_; rintro e w2 ⟨g, cap, rfl, hcl, hb2⟩; have hs2 := hb2.size; have k0 := hcl 0 v rfl; have HF2 := Lib.hid (HF.out w2 hb2); rw [HU.out] at k0; clear hcl) | (go_at_call 46; refine HF2.out.mono ?_; rintro e w9 ⟨rfl, h1, h2⟩))
  exact bodyPost_ret (v := .nilIface) (by simp [results, Tryd.results38, go_sem]) rfl ⟨rfl, h1, (hb2.mono hBw).trans h2⟩

end Go.Proofs.YthfihamhkhnckaaDoor
