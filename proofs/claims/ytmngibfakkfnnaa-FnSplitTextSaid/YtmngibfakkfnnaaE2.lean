/-
The law FnSplitText: a text cut into its fields: the walk. Conditions: a text of signs below 128, of bounded length.
-/
import Derived.Test.YtmngibfakkfnnaaD3
import Derived.Laws.RangeString
namespace Go.Proofs.Ytmngibfakkfnnaa
open Go.RowKit Go.ChangeShapes Go.Proofs.YtmngibfakkfnnaaW.PrintWords

/-- Where the fields begin and end: the pairs so far, whether a field runs, where it began. -/
structure Cut where
  spans : List (Nat × Nat)
  was : Bool
  start : Nat
def cutStep (pos : Nat) (x : Int) (s : Cut) : Cut :=
  if x = 10 then (if s.was then ⟨s.spans ++ [(s.start, pos)], false, s.start⟩ else ⟨s.spans ++ [(0, 0)], false, s.start⟩)
  else (if s.was then s else ⟨s.spans, true, pos⟩)
def cutAll : List Int → Nat → Cut → Cut
  | [], _, s => s
  | x :: L, pos, s => cutAll L (pos + 1) (cutStep pos x s)
/-- The fields of a text that does not end with an end. -/
def cutsOf (L : List Int) : List (List Int) := ((cutAll L 0 ⟨[], false, 0⟩).spans ++ [((cutAll L 0 ⟨[], false, 0⟩).start, L.length)]).map fun p => (L.take p.2).drop p.1
def flatSpans (l : List (Nat × Nat)) : List Value := l.flatMap fun p => [.int .i64 p.1, .int .i64 p.2]

theorem cell_two_new (w : World) (x y : Value) (t : TypeId) : ∀ j u, [x, y][j]? = some u → (w.alloc (.cells #[x, y] t)).cell? ((⟨w.heap.size, 0, none⟩ : Addr).add j) = some u := by
  intro j u hu
  have e : ((⟨w.heap.size, 0, none⟩ : Addr).add j) = ⟨w.heap.size, j, none⟩ := by simp only [Addr.add, Nat.zero_add]; cases j <;> rfl
  rw [e]
  simp [World.cell?, World.alloc, -World.alloc_eq]
  simpa using hu
theorem info74 : (Try.prog.info? 74).map (fun i => (i.zero, i.size, i.bytes)) = some (some (.agg #[.int .i64 0, .int .i64 0]), 2, 16) := by kernel_rfl
theorem info9 : (Try.prog.info? 9).map (fun i => (i.zero, i.size, i.bytes)) = some (some (.string ⟨#[]⟩), 1, 16) := by kernel_rfl

theorem cutAll_drop {L : List Int} {k : Nat} (h : k < L.length) (s : Cut) : cutAll (L.drop k) k s = cutAll (L.drop (k + 1)) (k + 1) (cutStep k L[k] s) := by
  rw [List.drop_eq_getElem_cons h]; rfl
/-- The state of the first loop. -/
structure Mid (L : List Int) (k : Nat) (s : Cut) : Prop where
  all : cutAll (L.drop k) k s = cutAll L 0 ⟨[], false, 0⟩
  few : s.spans.length ≤ k
  start : s.start ≤ k
  inside : ∀ p ∈ s.spans, p.1 ≤ p.2 ∧ p.2 ≤ L.length
theorem mid_step {L : List Int} {k : Nat} {s : Cut} (h : Mid L k s) (hk : k < L.length) : Mid L (k + 1) (cutStep k L[k] s) := by
  refine ⟨by rw [← cutAll_drop hk]; exact h.all, ?_, ?_, ?_⟩
  · have := h.few
    unfold cutStep
    repeat' split
    all_goals simp; try omega
  · have := h.start
    unfold cutStep
    repeat' split
    all_goals simp; try omega
  · intro p hp
    unfold cutStep at hp
    have hi := h.inside
    have hs := h.start
    split at hp
    · split at hp
      · rcases List.mem_append.1 hp with h' | h'
        · exact hi p h'
        · rw [List.mem_singleton.1 h']; exact ⟨hs, by simp; omega⟩
      · rcases List.mem_append.1 hp with h' | h'
        · exact hi p h'
        · rw [List.mem_singleton.1 h']; exact ⟨Nat.le_refl _, Nat.zero_le _⟩
    · split at hp <;> exact hi p hp

theorem str_extract (L : List Int) (i j : Nat) : (strOfNums L).extract i j = strOfNums ((L.take j).drop i) := by
  apply ByteArray.ext
  simp [strOfNums, List.drop_take]
/-- The row of the fields: the first k are there. -/
def rowAt (S : ByteArray) (F : List (Nat × Nat)) (n k : Nat) : List Value := (F.take k).map (fun p => Value.string (S.extract p.1 p.2)) ++ List.replicate (n - k) (.string ⟨#[]⟩)
theorem rowAt_here {S : ByteArray} {F : List (Nat × Nat)} {n k : Nat} (hk : k < n) (hF : F.length = n) : (rowAt S F n k)[k]? = some (.string ⟨#[]⟩) := by
  unfold rowAt
  have hl : ((F.take k).map fun p => Value.string (S.extract p.1 p.2)).length = k := by simp; omega
  rw [List.getElem?_append_right (by omega), hl, Nat.sub_self, List.getElem?_replicate, if_pos (by omega)]
theorem rowAt_set (S : ByteArray) {F : List (Nat × Nat)} {n k : Nat} (hk : k < F.length) (hF : F.length = n) : (rowAt S F n k).set k (.string (S.extract F[k].1 F[k].2)) = rowAt S F n (k + 1) := by
  unfold rowAt
  have hl : ((F.take k).map fun p => Value.string (S.extract p.1 p.2)).length = k := by simp; omega
  rw [List.set_append_right _ _ (by omega), hl, Nat.sub_self, show n - k = (n - (k + 1)) + 1 by omega, List.replicate_succ, List.set_cons_zero, List.take_add_one, List.getElem?_eq_getElem hk]
  simp only [Option.toList_some, List.map_append, List.map_cons, List.map_nil, List.append_assoc, List.cons_append, List.nil_append]
theorem flat_at {F : List (Nat × Nat)} {k : Nat} (hk : k < F.length) : (flatSpans F)[k * 2]? = some (.int .i64 (F[k].1 : Int)) ∧ (flatSpans F)[k * 2 + 1]? = some (.int .i64 (F[k].2 : Int)) := by
  induction F generalizing k with
  | nil => simp at hk
  | cons p F ih =>
    cases k with
    | zero => simp [flatSpans]
    | succ k =>
      have := ih (k := k) (by simpa using hk)
      simp only [flatSpans, List.flatMap_cons, List.cons_append, List.nil_append] at this ⊢
      rw [show (k + 1) * 2 = k * 2 + 1 + 1 by omega, show k * 2 + 1 + 1 + 1 = (k * 2 + 1) + 1 + 1 by omega]
      simpa using this

set_option maxHeartbeats 1000000 in
theorem fields_calls (L : List Int) (w : World) (hf : ∀ x ∈ L, 0 ≤ x ∧ x < 128) (hn : L.length ≤ 10000) (hw : (cutAll L 0 ⟨[], false, 0⟩).was = true) :
    Calls Try.prog 46 #[.string (strOfNums L), .func (.func 47) #[] #[]] w fun e w' => ∃ g, e = .returned (.slice (some ⟨g, 0, none⟩) (cutsOf L).length (cutsOf L).length) ∧ w'.ownsRow w.heap.size 9 1 (.slice (some ⟨g, 0, none⟩) (cutsOf L).length (cutsOf L).length) (cutsOf L).length ((cutsOf L).map fun l => .string (strOfNums l)) ∧ Below w.heap.size w w' := by
  unfold cutsOf
  generalize hZ : cutAll L 0 ⟨[], false, 0⟩ = Z at hw ⊢
  obtain ⟨i0, hi, hz0, hz1, hz2⟩ := info_parts info74
  have hsz := strOfNums_size L
  have hat : ∀ (k : Nat) (hk : k < L.length) (hz : k < (strOfNums L).size), (((strOfNums L)[k]'hz).toNat : Int) = L[k] := fun k hk hz => by
    have := at_str (L := L) (fun x hx => ⟨(hf x hx).1, by have := (hf x hx).2; omega⟩) hk (by simpa using hz)
    simpa using this
  generalize hS : strOfNums L = S at hsz hat
  go_enter Try.func46, Try.ntmps46
  go_wp2_with (at_make; refine wpList_make_own _ rfl _ _ 72 rfl w.heap.size 74 i0 (.agg #[.int .i64 0, .int .i64 0]) 2 Try.underlying72 hi hz0 hz1 .i64 .i64 _ 32 rfl rfl (by decide) (by rw [hz2]; decide) (by decide) (Nat.le_refl _) ?_; intro w0 hown0 hgrow0)
  go_loopw [5, 6, 7] (fun v b f wr => ∃ (k : Nat) (s : Cut), k ≤ L.length ∧ b = .bool s.was ∧ f = .int .i64 (s.start : Int) ∧ Hid (Mid L k s) ∧ Hid (wr.ownsRow w.heap.size 74 2 v s.spans.length (flatSpans s.spans)) ∧ Hid (wr.heap[w0.heap.size]? = some (.stringIter S k)) ∧ Below w.heap.size w wr) (fun _ _ _ wr => S.size - wr.iterPos w0.heap.size)
  case atStart =>
    refine ⟨0, ⟨[], false, 0⟩, Nat.zero_le _, rfl, rfl, hid ⟨rfl, Nat.le_refl _, Nat.le_refl _, fun p hp => by simp at hp⟩, hid (hown0.alloc _), hid (World.iter_heap w0 S 0), ?_⟩
    exact (pw_below_grown (Below.refl _ w) _ (Nat.le_refl _) hgrow0 (fun k h => by cases h)).alloc (by have := hgrow0.size; omega) _
  case round =>
    obtain ⟨k, s, hk, rfl, rfl, hm, ho, hit, hb⟩ := hrel
    have hpos0 := iterPos_of hit.out
    by_cases hlt : k < L.length
    · obtain ⟨x0, x1⟩ := hf L[k] (List.getElem_mem hlt)
      have hp : k < S.size := by omega
      have hx := hat k hlt hp
      have hms := mid_step hm.out hlt
      have hnx0 := Lib.run_next_ascii_at (P := Try.prog) wr w0.heap.size S k
      have hnx := fun ty => hnx0 ty hit.out hp (by omega)
      clear hnx0 hat
      rw [hx] at hnx
      generalize L[k] = x at x0 x1 hx hms hnx
      have hit2 := Lib.iterAt_heap wr w0.heap.size S k (k + 1) hit.out
      have hb2 := Lib.below_iterAt hb (k := w0.heap.size) hgrow0.size S (k + 1)
      have ho2 : (wr.iterAt w0.heap.size S (k + 1)).ownsRow w.heap.size 74 2 u5 s.spans.length (flatSpans s.spans) := by
        refine own_move ho.out (fun j hj => ?_)
        obtain ⟨cells, hc⟩ := own_typed ho.out j hj
        have : j ≠ w0.heap.size := fun e => by rw [e, hit.out] at hc; cases hc
        exact Lib.iterAt_other wr w0.heap.size j S (k + 1) this
      generalize wr.iterAt w0.heap.size S (k + 1) = W1 at hnx hit2 hb2 ho2
      have hW1 : w0.heap.size < W1.heap.size := lt_of_block hit2
      have hfew := hm.out.few
      have HX := hid (⟨hit2, hb2, ho2⟩ : W1.heap[w0.heap.size]? = some (.stringIter S (k + 1)) ∧ Below w.heap.size w W1 ∧ W1.ownsRow w.heap.size 74 2 u5 s.spans.length (flatSpans s.spans))
      clear hit2 hb2 ho2 ho hit
      have hgs := hgrow0.size
      obtain ⟨spans, was, start⟩ := s
      simp only [cutStep] at hms
      simp only at hfew HX
      have done : ∀ (l : List (Nat × Nat)) (v : Value) (w2 : World) (p q : Nat) (row : Option Nat), Below w.heap.size w W1 → W1.heap[w0.heap.size]? = some (.stringIter S (k + 1)) → W1.ownsRow w.heap.size 74 2 u5 l.length (flatSpans l) → row = u5.ownBlock → w2.ownsRow w.heap.size 74 2 v (l.length + 1) (flatSpans l ++ [.int .i64 (p : Int), .int .i64 (q : Int)]) → (W1.alloc (.cells #[.int .i64 (p : Int), .int .i64 (q : Int)] 74)).grownBy w2 row →
          w2.ownsRow w.heap.size 74 2 v (l ++ [(p, q)]).length (flatSpans (l ++ [(p, q)])) ∧ w2.heap[w0.heap.size]? = some (.stringIter S (k + 1)) ∧ Below w.heap.size w w2 := by
        intro l v w2 p q row hb2 hit2 ho1 hrow ho2 hg
        subst hrow
        have hne : ¬ (u5.ownBlock = some w0.heap.size) := fun h => by
          obtain ⟨cells, hc⟩ := own_typed ho1 _ h
          rw [hit2] at hc
          cases hc
        refine ⟨?_, ?_, pw_below_grown (hb2.alloc (by omega) _) _ (by simp; omega) hg (fun j hj => (ho1.lt j hj).1)⟩
        · have : flatSpans (l ++ [(p, q)]) = flatSpans l ++ [.int .i64 (p : Int), .int .i64 (q : Int)] := by simp [flatSpans]
          rw [this, List.length_append]
          exact ho2
        · rw [hg.block w0.heap.size (by simp; omega) (fun h => hne h.symm), Below.heap_alloc _ _ _ hW1]; exact hit2
      have DN := hid done
      clear done
      by_cases h10 : x = 10
      · subst h10
        cases was with
        | true =>
          go_wp2_with (first
            | (go_at_call 47; go_in)
            | (at_builtin; refine wpList_append_own _ rfl (.tmp 24) (.tmp 28) 72 rfl w.heap.size 74 i0 (.agg #[.int .i64 0, .int .i64 0]) 2 16 Try.underlying72 hi hz0 hz1 hz2 rfl (by decide) _ _ _ rfl (HX.out.2.2.alloc _) ⟨W1.heap.size, 0, none⟩ 1 1 [.int .i64 (start : Int), .int .i64 (k : Int)] rfl rfl (cell_two_new _ _ _ _) (fun u hu => by simp at hu; rcases hu with rfl | rfl <;> rfl) (by unfold maxLen; omega) (by omega) (by simp; omega) ?_; intro v' w2 ho2 hg2 hnil2))
          obtain ⟨a1, a2, a3⟩ := DN.out spans v' w2 start k _ HX.out.2.1 HX.out.1 HX.out.2.2 rfl ho2 hg2
          clear hnil2 ho2 hg2 HX DN hnx
          rw [if_pos rfl, if_pos rfl] at hms
          go_roundw
          case rel => exact ⟨k + 1, _, hlt, rfl, rfl, hid hms, hid a1, hid a2, a3⟩
          case measure => rw [iterPos_of a2, hpos0]; omega
        | false =>
          go_wp2_with (first
            | (go_at_call 47; go_in)
            | (at_builtin; refine wpList_append_own _ rfl (.tmp 30) (.tmp 32) 72 rfl w.heap.size 74 i0 (.agg #[.int .i64 0, .int .i64 0]) 2 16 Try.underlying72 hi hz0 hz1 hz2 rfl (by decide) _ _ _ rfl (HX.out.2.2.alloc _) ⟨W1.heap.size, 0, none⟩ 1 1 [.int .i64 0, .int .i64 0] rfl rfl (cell_two_new _ _ _ _) (fun u hu => by simp at hu; subst hu; rfl) (by unfold maxLen; omega) (by omega) (by simp; omega) ?_; intro v' w2 ho2 hg2 hnil2))
          obtain ⟨a1, a2, a3⟩ := DN.out spans v' w2 0 0 _ HX.out.2.1 HX.out.1 HX.out.2.2 rfl ho2 hg2
          clear hnil2 ho2 hg2 HX DN hnx
          rw [if_pos rfl, if_neg (by decide)] at hms
          go_roundw
          case rel => exact ⟨k + 1, _, hlt, rfl, rfl, hid hms, hid a1, hid a2, a3⟩
          case measure => rw [iterPos_of a2, hpos0]; omega
      · have hc10 : (x == 10) = false := by simpa using h10
        rw [if_neg h10] at hms
        cases was with
        | true =>
          go_wp2_with (go_at_call 47; go_in)
          obtain ⟨a2, a3, a1⟩ := HX.out
          clear HX DN hnx
          rw [if_pos rfl] at hms
          go_roundw
          case rel => exact ⟨k + 1, _, hlt, rfl, rfl, hid hms, hid a1, hid a2, a3⟩
          case measure => rw [iterPos_of a2, hpos0]; omega
        | false =>
          go_wp2_with (go_at_call 47; go_in)
          obtain ⟨a2, a3, a1⟩ := HX.out
          clear HX DN hnx
          rw [if_neg (by decide)] at hms
          go_roundw
          case rel => exact ⟨k + 1, _, hlt, rfl, rfl, hid hms, hid a1, hid a2, a3⟩
          case measure => rw [iterPos_of a2, hpos0]; omega
    · have hk' : k = L.length := by omega
      subst hk'
      have hall := hm.out.all
      rw [List.drop_eq_nil_of_le (Nat.le_refl _)] at hall
      have hall' : s = cutAll L 0 ⟨[], false, 0⟩ := hall
      rw [hZ] at hall'
      subst hall'
      have hinside := hm.out.inside
      have hstart := hm.out.start
      have hfew := hm.out.few
      have hit1 := hit.out
      have hnx0 := Lib.run_next_end_at (P := Try.prog) wr w0.heap.size S L.length
      have hnx := fun ty => hnx0 ty hit1 (by omega)
      clear hnx0 hat hm hall hZ hit hit1 hpos0
      obtain ⟨spans, was, start⟩ := s
      simp only at hw ho hinside hstart hfew
      subst hw
      have hgs := hgrow0.size
      have hbs := hb.size
      have ho1 := ho.out
      clear ho
      obtain ⟨i9, hi9, hz9, hs9, hb9⟩ := info_parts info9
      go_wp2_with (first
        | (at_builtin; refine wpList_append_own _ rfl (.tmp 38) (.tmp 43) 72 rfl w.heap.size 74 i0 (.agg #[.int .i64 0, .int .i64 0]) 2 16 Try.underlying72 hi hz0 hz1 hz2 rfl (by decide) _ _ _ rfl (ho1.alloc _) ⟨wr.heap.size, 0, none⟩ 1 1 [.int .i64 (start : Int), .int .i64 (L.length : Int)] rfl rfl (cell_two_new _ _ _ _) (fun u hu => by simp at hu; rcases hu with rfl | rfl <;> rfl) (by unfold maxLen; omega) (by omega) (by simp; omega) ?_; intro v' w2 ho2 hg2 hnil2
           obtain ⟨gs, cs, rfl, hcs, hgs2⟩ := ho2.form (by omega)
           have hw2 : Below w.heap.size w w2 := pw_below_grown (hb.alloc (by omega) _) _ (by simp; omega) hg2 (fun j hj => (ho1.lt j hj).1)
           have hws := hw2.size
           have HX := hid (⟨ho2, hw2⟩ : w2.ownsRow w.heap.size 74 2 _ _ _ ∧ Below w.heap.size w w2)
           clear hg2 hnil2 ho2 hw2)
        | (at_make; refine wpList_make_full _ rfl _ _ 22 rfl w.heap.size 9 i9 (.string ⟨#[]⟩) 1 Try.underlying22 hi9 hz9 hs9 .i64 .i64 _ _ (spans.length + 1) rfl rfl (by first | rfl | simp | omega) (by first | rfl | simp | omega) (by rw [hb9]; omega) (by unfold maxLen; omega) hws ?_; intro w3 hown3 hgrow3))
      have hF : spans.length + 1 = (spans ++ [(start, L.length)]).length := by simp
      have hFl : flatSpans spans ++ [.int .i64 (start : Int), .int .i64 (L.length : Int)] = flatSpans (spans ++ [(start, L.length)]) := by simp [flatSpans]
      have hFi : ∀ p ∈ spans ++ [(start, L.length)], p.1 ≤ p.2 ∧ p.2 ≤ L.length := fun p hp => by
        rcases List.mem_append.1 hp with h | h
        · exact hinside p h
        · rw [List.mem_singleton.1 h]; exact ⟨hstart, Nat.le_refl _⟩
      obtain ⟨ho2, hw2⟩ := HX.out
      rw [hFl] at ho2
      clear hnx HX hFl hinside hstart
      have hn1 : spans.length + 1 ≤ 10001 := by omega
      have hlen : ((spans.length : Nat) : Int) + 1 = ((spans.length + 1 : Nat) : Int) := by omega
      generalize hFF : spans ++ [(start, L.length)] = F at hF hFi ho2 ⊢
      simp only [hlen]
      generalize hNN : spans.length + 1 = n at hF hn1 ho2 hown3 ⊢
      obtain ⟨G, hG⟩ : ∃ G, w2.heap.size = G := ⟨_, rfl⟩
      rw [hG] at hown3 hgs2 ⊢
      have ho3 : w3.ownsRow w.heap.size 74 2 (.slice (some ⟨gs, 0, none⟩) n cs) n (flatSpans F) := own_move ho2 (fun j hj => hgrow3.block j (by have := (ho2.lt j hj).2; omega) (fun h => by cases h))
      have hw3 : Below w.heap.size w w3 := pw_below_grown hw2 _ (by omega) hgrow3 (fun j h => by cases h)
      have hG3 : G < w3.heap.size := (hown3.lt G rfl).2
      have hrow0 : (madeCells (Value.string ⟨#[]⟩).cells (n * 1)).toList = rowAt S F n 0 := by
        rw [Nat.mul_one, show (Value.string ⟨#[]⟩).cells = #[Value.string ⟨#[]⟩] from rfl, toList_madeCells_one]; simp [rowAt]
      rw [hrow0] at hown3
      go_loopw [50] (fun i wx => ∃ k : Nat, i = .int .i64 (k : Int) ∧ k ≤ n ∧ Hid (wx.ownsRow w.heap.size 74 2 (.slice (some ⟨gs, 0, none⟩) n cs) n (flatSpans F)) ∧ Hid (wx.ownsRow w.heap.size 9 1 (.slice (some ⟨G, 0, none⟩) n n) n (rowAt S F n k)) ∧ G < wx.heap.size ∧ Below w.heap.size w wx) (fun i _ => n - (intOf i).toNat)
      case atStart => exact ⟨0, rfl, Nat.zero_le _, hid ho3, hid hown3, hG3, hw3⟩
      case round =>
        obtain ⟨k, rfl, hk, o1, o2, hGx, hbx⟩ := hrel
        by_cases hlt : k < n
        · have hkF : k < F.length := by omega
          obtain ⟨q1, q2⟩ := hFi F[k] (List.getElem_mem hkF)
          obtain ⟨e1, e2⟩ := flat_at hkF
          have c1 := (o1.out.cellAt (k * 2) (by omega)).trans e1
          have c2 := (o1.out.cellAt (k * 2 + 1) (by omega)).trans e2
          have c3 := (o2.out.cellAt k (by omega)).trans (rowAt_here (S := S) (n := n) hlt (by omega))
          have z3 := o2.out.frozenAt k
          have hrow := rowAt_set S hkF (by omega : F.length = n)
          generalize F[k] = p at q1 q2 c1 c2 hrow
          obtain ⟨a, b⟩ := p
          simp only at q1 q2 c1 c2 hrow
          have i1 : (k : Int) < (n : Int) := by omega
          have i2 : (a : Int) ≤ (b : Int) := by omega
          have i3 : (b : Int) ≤ (S.size : Int) := by omega
          have hgx : gs < wr.heap.size := by omega
          have c74 : Try.prog.cellsOf 74 = 2 := by kernel_rfl
          go_wp2
          have n2 := (o2.out.stored k (.string (S.extract a b))).1
          rw [hrow] at n2
          have n1 : (wr.setCell ⟨G, k, none⟩ (.string (S.extract a b))).ownsRow w.heap.size 74 2 (.slice (some ⟨gs, 0, none⟩) n cs) n (flatSpans F) := own_move o1.out (fun j hj => heap_setCell_other _ _ _ _ (by
            have : gs = j := by simpa [Value.ownBlock] using hj
            show j ≠ G
            omega))
          have n3 : Below w.heap.size w (wr.setCell ⟨G, k, none⟩ (.string (S.extract a b))) := hbx.setCell (p := ⟨G, k, none⟩) (by show w.heap.size ≤ G; omega) _
          have n4 := n3.size
          go_roundw
          case rel => exact ⟨k + 1, by simp, hlt, hid (n1.alloc _), hid (n2.alloc _), by simp; omega, n3.alloc n4 _⟩
          case measure => simp [intOf]; omega
        · have i1 : ¬ ((k : Int) < (n : Int)) := by omega
          have hkn : k = n := by omega
          subst hkn
          go_wp2
          go_ret
          have hfin : rowAt S F k k = List.map (fun l => Value.string (strOfNums l)) (List.map (fun p => List.drop p.1 (List.take p.2 L)) F) := by
            unfold rowAt
            rw [Nat.sub_self, List.take_of_length_le (by omega), List.replicate_zero, List.append_nil, List.map_map]
            refine List.map_congr_left fun p _ => ?_
            rw [← hS]
            simp only [Function.comp]
            rw [str_extract]
          have o2' := o2.out
          rw [hfin] at o2'
          rw [← hF] at *
          rw [List.map_map] at o2'
          exact ⟨G, rfl, o2', hbx⟩
end Go.Proofs.Ytmngibfakkfnnaa
