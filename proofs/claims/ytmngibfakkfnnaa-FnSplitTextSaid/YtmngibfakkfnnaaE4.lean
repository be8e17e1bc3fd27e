/-
The law FnSplitText: the law's own function walked. Conditions: lists that lie in memory.
-/
import Derived.Test.YtmngibfakkfnnaaE3
namespace Go.Proofs.Ytmngibfakkfnnaa
open Go.RowKit Go.ChangeShapes Go.Proofs.Ytmngibfakkfnnaa.PFnSplitText Go.Proofs.YtmngibfakkfnnaaW.PrintWords

theorem str_bytesOf (s : ByteArray) : strOfNums (bytesOf s) = s := by
  apply ByteArray.ext
  unfold strOfNums bytesOf
  have : List.map (fun n : Int => UInt8.ofNat n.toNat) (List.map (fun b : UInt8 => (b.toNat : Int)) s.data.toList) = s.data.toList := by
    rw [List.map_map]
    conv => rhs; rw [← List.map_id s.data.toList]
    refine List.map_congr_left fun b _ => ?_
    simp
  rw [this]

theorem str_app (a b : List Int) : strOfNums a ++ strOfNums b = strOfNums (a ++ b) := by
  apply ByteArray.ext
  simp [strOfNums]

theorem fits_e (l : List ByteArray) (hn : l.length ≤ 140737488351232) (d : Nat) : ∀ i, i + d = l.length → ∃ b, ∀ k, d < k → laws_zzFits1.l0 k l (l.length : Int) (i : Int) = some b := by
  induction d with
  | zero =>
    intro i hi
    refine ⟨true, fun k hk => ?_⟩
    obtain ⟨k, rfl⟩ : ∃ m, k = m + 1 := ⟨k - 1, by omega⟩
    simp only [laws_zzFits1.l0]
    rw [if_neg (by omega)]
  | succ d ih =>
    intro i hi
    obtain ⟨b, hb⟩ := ih (i + 1) (by omega)
    by_cases hs : ((rdOf ByteArray.empty l (i : Int)).size : Int) > 2147483647
    · refine ⟨false, fun k hk => ?_⟩
      obtain ⟨k, rfl⟩ : ∃ m, k = m + 1 := ⟨k - 1, by omega⟩
      simp only [laws_zzFits1.l0]
      rw [if_pos (by omega), if_pos (by omega), if_pos (by omega), if_pos hs]
    · refine ⟨b, fun k hk => ?_⟩
      obtain ⟨k, rfl⟩ : ∃ m, k = m + 1 := ⟨k - 1, by omega⟩
      simp only [laws_zzFits1.l0]
      rw [if_pos (by omega), if_pos (by omega), if_pos (by omega), if_neg hs, show wrap64 ((i : Int) + 1) = ((i + 1 : Nat) : Int) by unfold wrap64; omega]
      exact hb k (by omega)
theorem fits_ef (l : List ByteArray) (hn : l.length ≤ 140737488351232) : ∃ b k, laws_zzFits1.f k l = some b := by
  unfold laws_zzFits1.f
  by_cases h : (l.length : Int) > 2147483647
  · exact ⟨false, 0, by rw [if_pos h]⟩
  · obtain ⟨b, hb⟩ := fits_e l hn l.length 0 (by omega)
    exact ⟨b, l.length + 1, by rw [if_neg h]; exact hb _ (by omega)⟩
theorem same_e (l : List ByteArray) (hn : l.length ≤ 140737488351232) (d : Nat) : ∀ i k, i + d = l.length → d < k → laws_sameTexts.l0 k l l (l.length : Int) (i : Int) = some true := by
  induction d with
  | zero =>
    intro i k hi hk
    obtain ⟨k, rfl⟩ : ∃ m, k = m + 1 := ⟨k - 1, by omega⟩
    simp only [laws_sameTexts.l0]
    rw [if_neg (by omega)]
  | succ d ih =>
    intro i k hi hk
    obtain ⟨k, rfl⟩ : ∃ m, k = m + 1 := ⟨k - 1, by omega⟩
    simp only [laws_sameTexts.l0]
    rw [if_pos (by omega), if_pos (by omega), if_pos (by omega), if_pos (by omega), if_pos trivial, show wrap64 ((i : Int) + 1) = ((i + 1 : Nat) : Int) by unfold wrap64; omega]
    exact ih (i + 1) k (by omega) (by omega)
theorem same_ef (l : List ByteArray) (hn : l.length ≤ 140737488351232) : laws_sameTexts.f (l.length + 1) l l = some true := by
  unfold laws_sameTexts.f
  rw [if_pos rfl]
  exact same_e l hn l.length 0 _ (by omega) (by omega)

/-- The text of the first k parts. -/
def acc (ps : List (List Int)) (es : List Bool) : Nat → List Int
  | 0 => []
  | k + 1 => acc ps es k ++ ps.getD k [] ++ (if k < es.length then sep (es.getD k true) else [])
theorem acc_cons (p : List Int) (ps : List (List Int)) (e : Bool) (es : List Bool) (k : Nat) : acc (p :: ps) (e :: es) (k + 1) = p ++ sep e ++ acc ps es k := by
  induction k with
  | zero => simp [acc]
  | succ k ih =>
    rw [acc, ih]
    simp [acc]
theorem acc_text : ∀ (ps : List (List Int)) (es : List Bool), ps ≠ [] → es.length + 1 = ps.length → acc ps es ps.length = textOf ps es
  | [], _, h, _ => absurd rfl h
  | [p], es, _, he => by
    have : es = [] := by cases es <;> simp_all
    subst this
    simp [acc, textOf]
  | p :: q :: ps, es, _, he => by
    cases es with
    | nil => simp at he
    | cons e es =>
      have ih := acc_text (q :: ps) es (by simp) (by simpa using he)
      rw [List.length_cons, acc_cons, ih]
      simp [textOf]
theorem acc_length (ps : List (List Int)) (es : List Bool) (k : Nat) (h : ∀ j, j < k → (ps.getD j []).length ≤ 50) : (acc ps es k).length ≤ 52 * k := by
  induction k with
  | zero => simp [acc]
  | succ k ih =>
    have h1 := ih (fun j hj => h j (by omega))
    have h2 := h k (by omega)
    have h3 : (if k < es.length then sep (es.getD k true) else []).length ≤ 2 := by
      split
      · unfold sep; split <;> simp
      · simp
    simp only [acc, List.length_append]
    omega

/-- A part that the law lets in. -/
def good (s : ByteArray) : Prop := plain (bytesOf s) ∧ bytesOf s ≠ [] ∧ s.size ≤ 50

set_option maxHeartbeats 2000000 in
theorem split_walk (A : Option Addr) (l : List ByteArray) (c : Nat) (A' : Option Addr) (es : List Bool) (c' : Nat) (w : World) (hc : l.length ≤ c) (hn : l.length ≤ 140737488351232) (hC : Kd.C Kd.string w A l.length l)
    (hn' : es.length ≤ 140737488351232) (hC' : Kd.C Kd.bool w A' es.length es) :
    Calls Try.prog 7 #[.slice A l.length c, .slice A' es.length c'] w fun e w' => e = .returned (.bool true) ∧ Below w.heap.size w w' := by
  obtain ⟨b, kf, hkf⟩ := fits_ef l hn
  have HF := hid (laws_zzFits1.calls kf A c l b w hC hc hkf)
  clear hkf
  cases b with
  | false =>
    go_enter Try.func7, Try.ntmps7
    go_wp2_with (go_at_call 12; refine HF.out.mono ?_; rintro e w1 ⟨rfl, m, rfl⟩)
    go_ret
    exact ⟨rfl, pw_below_drewN (Below.refl _ _) _⟩
  | true =>
    by_cases h1 : (es.length : Int) > 2147483647
    · go_enter Try.func7, Try.ntmps7
      go_wp2_with (go_at_call 12; refine HF.out.mono ?_; rintro e w1 ⟨rfl, m, rfl⟩)
      go_ret
      exact ⟨rfl, pw_below_drewN (Below.refl _ _) _⟩
    by_cases h2 : (l.length : Int) = 0
    · have f2 : ((l.length : Int) == 0) = true := by simpa using h2
      go_enter Try.func7, Try.ntmps7
      go_wp2_with (go_at_call 12; refine HF.out.mono ?_; rintro e w1 ⟨rfl, m, rfl⟩)
      go_ret
      exact ⟨rfl, pw_below_drewN (Below.refl _ _) _⟩
    have f2 : ((l.length : Int) == 0) = false := by simpa using h2
    by_cases h3 : (l.length : Int) > 30
    · go_enter Try.func7, Try.ntmps7
      go_wp2_with (go_at_call 12; refine HF.out.mono ?_; rintro e w1 ⟨rfl, m, rfl⟩)
      go_ret
      exact ⟨rfl, pw_below_drewN (Below.refl _ _) _⟩
    by_cases h4 : (es.length : Int) = (l.length : Int) - 1
    · have h5 : ((es.length : Int) != (l.length : Int) - 1) = false := by simpa using h4
      have HAT : Hid (∀ (k : Nat) (hk : k < l.length) (W : World), Below w.heap.size w W → ∃ ad, A = some ad ∧ W.cell? (ad.add k) = some (.string l[k])) := hid fun k hk W hb => by
        obtain ⟨ad, h, hc⟩ := Kd.at_string (Kd.C_below hC hb) (k : Int) (by omega) (by omega)
        refine ⟨ad, h, ?_⟩
        rw [show rdOf ByteArray.empty l (k : Int) = l[k] from by simp [rdOf, hk]] at hc
        simpa using hc
      have HBT : Hid (∀ (k : Nat) (hk : k < es.length) (W : World), Below w.heap.size w W → ∃ ad, A' = some ad ∧ W.cell? (ad.add k) = some (.bool es[k])) := hid fun k hk W hb => by
        obtain ⟨ad, h, hc⟩ := Kd.at_bool (Kd.C_below hC' hb) (k : Int) (by omega) (by omega)
        refine ⟨ad, h, ?_⟩
        rw [show rdOf false es (k : Int) = es[k] from by simp [rdOf, hk]] at hc
        simpa using hc
      have hes : es.length + 1 = l.length := by omega
      clear h4
      go_enter Try.func7, Try.ntmps7
      go_wp2_with (go_at_call 12; refine HF.out.mono ?_; rintro e w1 ⟨rfl, m, rfl⟩)
      clear HF
      go_loopw [5, 35] (fun t i wr => ∃ k : Nat, i = .int .i64 (k : Int) ∧ k ≤ l.length ∧ t = .string (strOfNums (acc (l.map bytesOf) es k)) ∧ Hid (∀ j (h : j < l.length), j < k → good l[j]) ∧ Below w.heap.size w wr) (fun _ i _ => l.length - (intOf i).toNat)
      case atStart => exact ⟨0, rfl, Nat.zero_le _, rfl, hid (fun j h hj => absurd hj (Nat.not_lt_zero j)), pw_below_drewN (Below.refl _ _) _⟩
      case round =>
        obtain ⟨wo, hwo⟩ : ∃ wo : World, wo = wr := ⟨_, rfl⟩
        rw [← hwo] at hrel ⊢
        clear hwo wr
        obtain ⟨k, rfl, hk, rfl, hg, hbo⟩ := hrel
        by_cases hlt : k < l.length
        · obtain ⟨ad, hA, hx⟩ := HAT.out k hlt wo hbo
          subst hA
          have hi2 : (k : Int) < (l.length : Int) := by omega
          have hgo : Hid (good l[k] → ∀ j (h : j < l.length), j < k + 1 → good l[j]) := hid fun h j hj hjk => by
            rcases Nat.lt_or_ge j k with h' | h'
            · exact hg.out j hj h'
            · obtain rfl : j = k := by omega
              exact h
          have hacc : acc (l.map bytesOf) es (k + 1) = acc (l.map bytesOf) es k ++ bytesOf l[k] ++ (if k < es.length then sep (es.getD k true) else []) := by
            rw [acc]; simp [List.getD_eq_getElem?_getD, List.getElem?_eq_getElem hlt]
          have haccl : (acc (l.map bytesOf) es k).length ≤ 52 * k := acc_length _ _ _ (fun j hj => by
            have hjl : j < l.length := by omega
            have := (hg.out j hjl hj).2.2
            rw [List.getD_eq_getElem?_getD, List.getElem?_map, List.getElem?_eq_getElem hjl]
            simp only [Option.map_some, Option.getD_some, bytesOf_length]
            exact this)
          generalize l[k] = p at hx hgo hacc
          generalize acc (l.map bytesOf) es k = T at hacc haccl ⊢
          go_wp2
          go_loopw [42] (fun q wq => ∃ n : Nat, q = .int .i64 (n : Int) ∧ n ≤ p.size ∧ Hid (∀ j (h : j < p.size), j < n → 32 ≤ (p[j]'h).toNat ∧ (p[j]'h).toNat ≤ 126 ∧ (p[j]'h).toNat ≠ 92) ∧ (0 < n → p.size ≤ 50) ∧ wq = wo) (fun q _ => p.size - (intOf q).toNat)
          case atStart => exact ⟨0, rfl, Nat.zero_le _, hid (fun j h hj => absurd hj (Nat.not_lt_zero j)), fun h => absurd h (Nat.lt_irrefl _), rfl⟩
          case round =>
            obtain ⟨n, rfl, hnp, hbytes, h50, rfl⟩ := hrel
            by_cases hlt2 : n < p.size
            · have hj2 : (n : Int) < (p.size : Int) := by omega
              have hnext : Hid (32 ≤ (p[n]'hlt2).toNat ∧ (p[n]'hlt2).toNat ≤ 126 ∧ (p[n]'hlt2).toNat ≠ 92 → ∀ j (h : j < p.size), j < n + 1 → 32 ≤ (p[j]'h).toNat ∧ (p[j]'h).toNat ≤ 126 ∧ (p[j]'h).toNat ≠ 92) := hid fun h j hj hjn => by
                rcases Nat.lt_or_ge j n with h' | h'
                · exact hbytes.out j hj h'
                · obtain rfl : j = n := by omega
                  exact h
              by_cases b1 : ((p[n]'hlt2).toNat : Int) < 32
              · go_wp2
                go_ret
                exact ⟨rfl, hbo⟩
              by_cases b2 : ((p[n]'hlt2).toNat : Int) > 126
              · go_wp2
                go_ret
                exact ⟨rfl, hbo⟩
              by_cases b3 : ((p[n]'hlt2).toNat : Int) = 92
              · have b4 : (((p[n]'hlt2).toNat : Int) == 92) = true := by simpa using b3
                go_wp2
                go_ret
                exact ⟨rfl, hbo⟩
              have b4 : (((p[n]'hlt2).toNat : Int) == 92) = false := by simpa using b3
              by_cases b5 : (p.size : Int) > 50
              · go_wp2
                go_ret
                exact ⟨rfl, hbo⟩
              go_wp2
              go_roundw
              case rel => exact ⟨n + 1, by simp, hlt2, hid (hnext.out ⟨by omega, by omega, by omega⟩), fun _ => by omega, trivial⟩
              case measure => simp [intOf]; omega
            · have hj2 : ¬ ((n : Int) < (p.size : Int)) := by omega
              obtain rfl : n = p.size := by omega
              have hsz1 : (strOfNums T).size = T.length := strOfNums_size T
              by_cases he : p.size = 0
              · have he2 : p.toList = [] := by
                  rw [ByteArray.toList_eq]
                  have : p.data.toList.length = 0 := by rw [Array.length_toList]; exact he
                  exact List.length_eq_zero_iff.1 this
                have he3 : (p.toList == []) = true := by rw [he2]; rfl
                go_wp2
                go_ret
                exact ⟨rfl, hbo⟩
              · have he2 : ¬ p.toList = [] := fun h => he (by
                  rw [ByteArray.toList_eq] at h
                  have : p.data.toList.length = 0 := by rw [h]; rfl
                  rw [Array.length_toList] at this
                  exact this)
                have he3 : (p.toList == []) = false := by simpa using he2
                have hgood : good p := by
                  refine ⟨fun x hx => ?_, fun h => he (by rw [← bytesOf_length, h]; rfl), h50 (by omega)⟩
                  unfold bytesOf at hx
                  obtain ⟨b, hb, rfl⟩ := List.mem_map.1 hx
                  obtain ⟨j, hj, rfl⟩ := List.mem_iff_getElem.1 hb
                  have hj' : j < p.size := by rw [Array.length_toList] at hj; exact hj
                  have := hbytes.out j hj' hj'
                  have e : p.data.toList[j] = p[j]'hj' := by simp; rfl
                  rw [e]
                  omega
                have hgk := hgo.out hgood
                have hp50 := hgood.2.2
                clear hgo hgood hbytes hg
                have hsum1 : ¬ 9223372036854775807 < (strOfNums T).size + p.size := by omega
                by_cases hk2 : k < es.length
                · obtain ⟨ad2, hA2, hx2⟩ := HBT.out k hk2 wr hbo
                  subst hA2
                  rw [if_pos hk2, show es.getD k true = es[k] by simp [List.getD_eq_getElem?_getD, List.getElem?_eq_getElem hk2]] at hacc
                  have hi3 : (k : Int) < (es.length : Int) := by omega
                  generalize es[k] = e at hx2 hacc
                  cases e with
                  | true =>
                    go_wp2_with (go_at_call 20; go_in)
                    have hfin : strOfNums T ++ p ++ ⟨#[10]⟩ = strOfNums (acc (l.map bytesOf) es (k + 1)) := by
                      rw [hacc, ← str_app, ← str_app, str_bytesOf]; rfl
                    go_roundw
                    case rel => exact ⟨k + 1, by simp, hlt, by rw [hfin], hid hgk, hbo⟩
                    case measure => simp [intOf]; omega
                  | false =>
                    go_wp2_with (go_at_call 20; go_in)
                    have hfin : strOfNums T ++ p ++ ⟨#[92, 110]⟩ = strOfNums (acc (l.map bytesOf) es (k + 1)) := by
                      rw [hacc, ← str_app, ← str_app, str_bytesOf]; rfl
                    go_roundw
                    case rel => exact ⟨k + 1, by simp, hlt, by rw [hfin], hid hgk, hbo⟩
                    case measure => simp [intOf]; omega
                · rw [if_neg hk2] at hacc
                  have hi3 : ¬ ((k : Int) < (es.length : Int)) := by omega
                  rw [List.append_nil] at hacc
                  go_wp2
                  have hfin : strOfNums T ++ p = strOfNums (acc (l.map bytesOf) es (k + 1)) := by
                    rw [hacc, ← str_app, str_bytesOf]
                  go_roundw
                  case rel => exact ⟨k + 1, by simp, hlt, by first | rw [hfin] | rw [hacc], hid hgk, hbo⟩
                  case measure => simp [intOf]; omega
        · have hi2 : ¬ ((k : Int) < (l.length : Int)) := by omega
          obtain rfl : k = l.length := by omega
          have hps : (l.map bytesOf).length = l.length := List.length_map _
          have hne : l.map bytesOf ≠ [] := fun h => by rw [h] at hps; simp at hps; omega
          have htext : acc (l.map bytesOf) es l.length = textOf (l.map bytesOf) es := by
            rw [← hps]; exact acc_text _ _ hne (by rw [hps]; exact hes)
          have hgood : ∀ q ∈ l.map bytesOf, plain q ∧ q ≠ [] := fun q hq => by
            obtain ⟨s, hs, rfl⟩ := List.mem_map.1 hq
            obtain ⟨j, hj, rfl⟩ := List.mem_iff_getElem.1 hs
            obtain ⟨a1, a2, _⟩ := hg.out j hj hj
            exact ⟨a1, a2⟩
          have haccl : (textOf (l.map bytesOf) es).length ≤ 52 * l.length := by
            rw [← htext]
            exact acc_length _ _ _ (fun j hj => by
              have := (hg.out j hj hj).2.2
              rw [List.getD_eq_getElem?_getD, List.getElem?_map, List.getElem?_eq_getElem hj]
              simp only [Option.map_some, Option.getD_some, bytesOf_length]
              exact this)
          have hmap : (l.map bytesOf).map (fun q => Value.string (strOfNums q)) = l.map Value.string := by
            rw [List.map_map]
            exact List.map_congr_left fun s _ => by simp [str_bytesOf]
          have H22 : Hid (∀ W, Calls Try.prog 22 #[.string (strOfNums (textOf (l.map bytesOf) es))] W fun e w' => ∃ g c, e = .returned (.slice (some ⟨g, 0, none⟩) l.length c) ∧ l.length ≤ c ∧ Kd.C Kd.string w' (some ⟨g, 0, none⟩) l.length l ∧ Below W.heap.size W w') := hid fun W => by
            refine (multi_calls (l.map bytesOf) es W hne hgood (by omega) (by rw [hps]; omega)).mono ?_
            rintro e w' ⟨g, c, rfl, hcl, ho, hb⟩
            rw [hps, hmap] at ho
            rw [hps] at hcl
            refine ⟨g, c, by rw [hps], hcl, own_texts ho rfl (by omega), hb⟩
          have H21 : Hid (∀ (W : World) (g c2 : Nat), Kd.C Kd.string W (some ⟨g, 0, none⟩) l.length l → l.length ≤ c2 → Below w.heap.size w W → Calls Try.prog 21 #[.slice (some ⟨g, 0, none⟩) l.length c2, .slice A l.length c] W fun e w' => e = .returned (.bool true) ∧ Drawn0 W w') := hid fun W g c2 hr hc2 hb =>
            laws_sameTexts.calls (l.length + 1) _ _ l _ _ l true W hr hc2 (Kd.C_below hC hb) hc (same_ef l hn)
          have hlen0 : 0 < (textOf (l.map bytesOf) es).length := by
            have := joined_length (l.map bytesOf) es
            cases hl : l.map bytesOf with
            | nil => exact absurd hl hne
            | cons q qs =>
              rw [hl] at this hgood
              have hq := (hgood q (by simp)).2
              have hql : 0 < q.length := List.length_pos_iff.2 hq
              cases qs with
              | nil => simp only [joined] at this; omega
              | cons r qs => simp only [joined, List.length_append] at this; omega
          have hsz : ((strOfNums (textOf (l.map bytesOf) es)).size : Int) ≠ 0 := by rw [strOfNums_size]; omega
          have hsz2 : (((strOfNums (textOf (l.map bytesOf) es)).size : Int) == 0) = false := by simpa using hsz
          rw [htext]
          generalize strOfNums (textOf (l.map bytesOf) es) = S at H22 hsz hsz2 ⊢
          clear HAT HBT hmap hne hgood haccl hlen0 htext hg
          go_wp2_with (first
            | (go_at_call 22; refine (H22.out _).mono ?_; rintro e w2 ⟨g, c2, rfl, hc2, hr2, hb2⟩; have hb3 := below_step hbo hb2)
            | (go_at_call 21; refine (H21.out _ _ _ hr2 hc2 hb3).mono ?_; rintro e w3 ⟨rfl, m3, rfl⟩))
          go_ret
          exact ⟨rfl, pw_below_drewN hb3 _⟩
    · have h5 : ((es.length : Int) != (l.length : Int) - 1) = true := by simpa using h4
      go_enter Try.func7, Try.ntmps7
      go_wp2_with (go_at_call 12; refine HF.out.mono ?_; rintro e w1 ⟨rfl, m, rfl⟩)
      go_ret
      exact ⟨rfl, pw_below_drewN (Below.refl _ _) _⟩
end Go.Proofs.Ytmngibfakkfnnaa
