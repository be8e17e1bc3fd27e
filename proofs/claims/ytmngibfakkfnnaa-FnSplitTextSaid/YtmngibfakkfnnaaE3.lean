/-
The law FnSplitText: a text of parts cut into its parts: plain part and walk. Conditions: parts of one sign at least, without line ends and reverse solidi.
-/
import Derived.Test.YtmngibfakkfnnaaE1
import Derived.Test.YtmngibfakkfnnaaE2
namespace Go.Proofs.Ytmngibfakkfnnaa
open Go.RowKit Go.ChangeShapes Go.Proofs.Ytmngibfakkfnnaa.PFnSplitText Go.Proofs.YtmngibfakkfnnaaW.PrintWords

theorem cut_part (p : List Int) (rest : List Int) (hp : plain p) (h0 : p ≠ []) (pos : Nat) (sp : List (Nat × Nat)) (st : Nat) :
    cutAll (p ++ rest) pos ⟨sp, false, st⟩ = cutAll rest (pos + p.length) ⟨sp, true, pos⟩ := by
  have run : ∀ (q : List Int) (pos' : Nat), plain q → cutAll (q ++ rest) pos' ⟨sp, true, pos⟩ = cutAll rest (pos' + q.length) ⟨sp, true, pos⟩ := by
    intro q
    induction q with
    | nil => intro pos' _; simp
    | cons x q ih =>
      intro pos' hq
      have hx := hq x (by simp)
      rw [List.cons_append, cutAll]
      have : cutStep pos' x ⟨sp, true, pos⟩ = ⟨sp, true, pos⟩ := by unfold cutStep; rw [if_neg (by omega)]; rfl
      rw [this, ih (pos' + 1) (fun y hy => hq y (List.mem_cons_of_mem _ hy)), List.length_cons]
      congr 1; omega
  cases p with
  | nil => exact absurd rfl h0
  | cons x p =>
    have hx := hp x (by simp)
    rw [List.cons_append, cutAll]
    have : cutStep pos x ⟨sp, false, st⟩ = ⟨sp, true, pos⟩ := by unfold cutStep; rw [if_neg (by omega)]; rfl
    rw [this, run p (pos + 1) (fun y hy => hp y (List.mem_cons_of_mem _ hy)), List.length_cons]
    congr 1; omega

def places : Nat → List (List Int) → List (Nat × Nat)
  | _, [] => []
  | pos, [p] => [(pos, pos + p.length)]
  | pos, p :: q :: ps => (pos, pos + p.length) :: places (pos + p.length + 1) (q :: ps)

theorem cut_joined : ∀ (ps : List (List Int)) (pos : Nat) (sp : List (Nat × Nat)) (st : Nat), ps ≠ [] → (∀ p ∈ ps, plain p ∧ p ≠ []) →
    (cutAll (joined ps) pos ⟨sp, false, st⟩).was = true ∧ (cutAll (joined ps) pos ⟨sp, false, st⟩).spans ++ [((cutAll (joined ps) pos ⟨sp, false, st⟩).start, pos + (joined ps).length)] = sp ++ places pos ps
  | [], _, _, _, h, _ => absurd rfl h
  | [p], pos, sp, st, _, hp => by
    obtain ⟨h1, h2⟩ := hp p (by simp)
    have := cut_part p [] h1 h2 pos sp st
    rw [List.append_nil] at this
    simp only [joined, this, cutAll, places]
    exact ⟨trivial, trivial⟩
  | p :: q :: ps, pos, sp, st, _, hp => by
    obtain ⟨h1, h2⟩ := hp p (by simp)
    have ih := cut_joined (q :: ps) (pos + p.length + 1) (sp ++ [(pos, pos + p.length)]) pos (by simp) (fun r hr => hp r (List.mem_cons_of_mem _ hr))
    have e : cutAll (joined (p :: q :: ps)) pos ⟨sp, false, st⟩ = cutAll (joined (q :: ps)) (pos + p.length + 1) ⟨sp ++ [(pos, pos + p.length)], false, pos⟩ := by
      simp only [joined, List.append_assoc]
      rw [cut_part p _ h1 h2, List.cons_append, cutAll, List.nil_append]
      rfl
    have el : pos + (joined (p :: q :: ps)).length = pos + p.length + 1 + (joined (q :: ps)).length := by
      simp only [joined, List.length_append, List.length_cons, List.length_nil]; omega
    rw [e, el]
    refine ⟨ih.1, ?_⟩
    rw [ih.2]
    simp [places]
theorem places_cut : ∀ (ps : List (List Int)) (pre : List Int), ps ≠ [] → (places pre.length ps).map (fun p => ((pre ++ joined ps).take p.2).drop p.1) = ps
  | [], _, h => absurd rfl h
  | [p], pre, _ => by
    simp only [places, joined, List.map_cons, List.map_nil]
    rw [List.take_of_length_le (by simp), List.drop_left]
  | p :: q :: ps, pre, _ => by
    have ih := places_cut (q :: ps) (pre ++ p ++ [10]) (by simp)
    simp only [List.length_append, List.length_cons, List.length_nil, Nat.zero_add] at ih
    simp only [places, joined, List.map_cons]
    have e : pre ++ (p ++ [10] ++ joined (q :: ps)) = pre ++ p ++ [10] ++ joined (q :: ps) := by simp
    rw [e, ih]
    congr 1
    rw [show pre ++ p ++ [10] ++ joined (q :: ps) = (pre ++ p) ++ ([10] ++ joined (q :: ps)) by simp, List.take_append_of_le_length (by simp), List.take_of_length_le (by simp), List.drop_left]
theorem cuts_joined (ps : List (List Int)) (h0 : ps ≠ []) (hp : ∀ p ∈ ps, plain p ∧ p ≠ []) : (cutAll (joined ps) 0 ⟨[], false, 0⟩).was = true ∧ cutsOf (joined ps) = ps := by
  obtain ⟨h1, h2⟩ := cut_joined ps 0 [] 0 h0 hp
  refine ⟨h1, ?_⟩
  unfold cutsOf
  rw [Nat.zero_add, List.nil_append] at h2
  rw [h2]
  have := places_cut ps [] h0
  simpa using this
theorem joined_bytes (ps : List (List Int)) (hp : ∀ p ∈ ps, plain p ∧ p ≠ []) : ∀ x ∈ joined ps, 0 ≤ x ∧ x < 128 := by
  induction ps with
  | nil => intro x hx; simp [joined] at hx
  | cons p ps ih =>
    have h1 := (hp p (by simp)).1
    cases ps with
    | nil =>
      intro x hx
      simp only [joined] at hx
      have := h1 x hx
      omega
    | cons q ps =>
      intro x hx
      simp only [joined, List.append_assoc, List.mem_append, List.mem_singleton] at hx
      rcases hx with h | rfl | h
      · have := h1 x h; omega
      · decide
      · exact ih (fun r hr => hp r (List.mem_cons_of_mem _ hr)) x h
theorem joined_length (ps : List (List Int)) (es : List Bool) : (joined ps).length ≤ (textOf ps es).length := by
  induction ps generalizing es with
  | nil => simp [joined]
  | cons p ps ih =>
    cases ps with
    | nil => simp [joined, textOf]
    | cons q ps =>
      have := ih es.tail
      simp only [joined, textOf, List.length_append]
      have h2 : 1 ≤ (sep (es.headD true)).length := by unfold sep; split <;> simp
      simp only [List.length_cons, List.length_nil]
      omega

set_option maxHeartbeats 1000000 in
theorem multi_calls (ps : List (List Int)) (es : List Bool) (w : World) (h0 : ps ≠ []) (hp : ∀ p ∈ ps, plain p ∧ p ≠ []) (hs : (textOf ps es).length ≤ 10000) (hn : ps.length ≤ 1000) :
    Calls Try.prog 22 #[.string (strOfNums (textOf ps es))] w fun e w' => ∃ g c, e = .returned (.slice (some ⟨g, 0, none⟩) ps.length c) ∧ ps.length ≤ c ∧ w'.ownsRow w.heap.size 9 1 (.slice (some ⟨g, 0, none⟩) ps.length c) ps.length (ps.map fun l => .string (strOfNums l)) ∧ Below w.heap.size w w' := by
  obtain ⟨i9, hi9, hz9, hs9, hb9⟩ := info_parts info9
  have H1 := hid (fun W => model_zzReplaceAll.calls _ _ old new _ W (replace_f ps es h0 (fun p h => (hp p h).1) hs))
  obtain ⟨c1, c2⟩ := cuts_joined ps h0 hp
  have jl := joined_length ps es
  have H2 := hid (fun W => fields_calls (joined ps) W (joined_bytes ps hp) (by omega) c1)
  rw [c2] at H2
  have hpos : 0 < ps.length := by cases ps <;> simp_all
  go_enter Try.func22, Try.ntmps22
  go_wp2_with (first
    | (go_at_call 35; go_in)
    | (go_at_call 45; refine (H1.out _).mono ?_; rintro e w1 ⟨rfl, hb1⟩)
    | (go_at_call 46; refine (H2.out _).mono ?_; rintro e w2 ⟨g, rfl, ho2, hb2⟩)
    | (at_builtin; refine wpList_append_own _ rfl (.tmp 6) (.tmp 8) 22 rfl w2.heap.size 9 i9 (.string ⟨#[]⟩) 1 16 Try.underlying22 hi9 hz9 hs9 hb9 rfl (by decide) _ _ _ rfl (World.ownsRow_nil _ _ _ _) ⟨g, 0, none⟩ ps.length ps.length (ps.map fun l => .string (strOfNums l)) rfl (by simp) (fun j u hu => by
        have hj := (List.getElem?_eq_some_iff.1 hu).1
        rw [List.length_map] at hj
        have e : ((⟨g, 0, none⟩ : Addr).add j) = ⟨g, j, none⟩ := by simp only [Addr.add, Nat.zero_add]; cases j <;> rfl
        rw [e, ho2.cellAt j (by omega)]; exact hu) (fun u hu => by simp at hu; obtain ⟨_, _, rfl⟩ := hu; rfl) (by unfold maxLen; omega) (by omega) (Nat.le_refl _) ?_; intro v' w3 ho3 hg3 hnil3))
  have hg : w2.grownBy w3 none := hg3
  simp only [Nat.zero_add, List.nil_append] at ho3
  obtain ⟨g', c', rfl, hb3, hg4⟩ := ho3.form hpos
  clear hg3 hnil3
  have hw2 : Below w.heap.size w w2 := below_step hb1 hb2
  have hc' : ps.length ≤ c' := by
    rcases ho3.2 with ⟨h, _⟩ | ⟨g5, cap, cur, he, _, _, h, _⟩
    · cases h
    · cases he; exact h
  go_ret
  exact ⟨g', c', rfl, hc', own_weaken ho3 hw2.size, pw_below_grown hw2 _ hw2.size hg (fun k h => by cases h)⟩

/-- What is owned can be read. -/
theorem own_texts {w : World} {base g c n : Nat} {l : List ByteArray} (h : w.ownsRow base 9 1 (.slice (some ⟨g, 0, none⟩) n c) n (l.map Value.string)) (hl : l.length = n) (hn : n ≤ 1000) : Kd.C Kd.string w (some ⟨g, 0, none⟩) l.length l := by
  refine ⟨rfl, by omega, fun _ => ⟨_, rfl, fun j p hj => ⟨[.string p], rfl, rfl, fun i u hu => ?_⟩⟩⟩
  cases i with
  | succ i => simp at hu
  | zero =>
    have hu' : u = .string p := by simpa using hu.symm
    have hjl := (List.getElem?_eq_some_iff.1 hj).1
    have e : ((⟨g, 0, none⟩ : Addr).add (j * Kd.string.sz + 0)) = ⟨g, j, none⟩ := by
      show (⟨g, 0, none⟩ : Addr).add (j * 1 + 0) = _
      rw [Nat.mul_one, Nat.add_zero]; simp only [Addr.add, Nat.zero_add]; cases j <;> rfl
    rw [hu', e, h.cellAt j (by omega), List.getElem?_map, hj]; rfl
end Go.Proofs.Ytmngibfakkfnnaa
