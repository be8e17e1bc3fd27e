/-
FnCollected, FnSelected, FnRemaining: what is collected; the law FnCollected walked: walks and plain laws. Conditions: as each theorem says.
-/
import Derived.Test.YthfihamhkhnckaaDoorG3
import Derived.Test.YthfihamhkhnckaaDoorPFnCollectedx5
import Derived.Test.YthfihamhkhnckaaDoorG5
import Derived.Test.YthfihamhkhnckaaDoorPFnCollectedx3
import Derived.Test.YthfihamhkhnckaaDoorG4

namespace Go.Proofs.YthfihamhkhnckaaDoor
open Go.RowKit Go.ChangeShapes Go.Proofs.YthfihamhkhnckaaDoorW.PrintWords

set_option maxHeartbeats 4000000
theorem three_blocks (w : World) (o1 o2 o3 : Obj) : (((w.alloc o1).alloc o2).alloc o3).heap[w.heap.size]? = some o1 ∧ (((w.alloc o1).alloc o2).alloc o3).heap[w.heap.size + 1]? = some o2 ∧ (((w.alloc o1).alloc o2).alloc o3).heap[w.heap.size + 1 + 1]? = some o3 := by
  have h3 := blk_new ((w.alloc o1).alloc o2) o3
  have h2 := blk_new (w.alloc o1) o2
  have h1 := blk_new w o1
  simp only [World.size_alloc] at h1 h2 h3
  refine ⟨?_, ?_, h3⟩
  · rw [Below.heap_alloc _ _ _ (by simp only [World.size_alloc]; omega), Below.heap_alloc _ _ _ (by simp only [World.size_alloc]; omega)]; exact h1
  · rw [Below.heap_alloc _ _ _ (by simp only [World.size_alloc]; omega)]; exact h2
theorem drew_size (w : World) (n : Nat) : (w.drewN n).heap.size = w.heap.size := rfl
theorem few_calls (n : Nat) (hn : n ≤ 1000) (l : List ByteArray) (hl : l.length ≤ 100) (A : Option Addr) (cap : Nat) (hcap : l.length ≤ cap) (w : World) (hr : Kd.C Kd.string w A l.length l) :
    Calls Tryd.prog 16 #[.int .i64 (n : Int), .slice A l.length cap] w fun e w' => e = .returned (.bool true) ∧ Below w.heap.size w w' ∧ w'.heap.size = w.heap.size := by
  refine (PFnCollected.impl_few.calls (n : Int) A cap l true w hr hcap ?_).mono ?_
  · unfold PFnCollected.impl_few.f
    rw [if_pos (by omega), if_pos (by omega), decide_eq_true (by omega)]
  · rintro e w' ⟨rfl, hd⟩
    obtain ⟨m, rfl⟩ := hd.out
    exact ⟨rfl, pw_below_drewN (Below.refl _ _) m, drew_size w m⟩
set_option maxRecDepth 100000 in
theorem impl_calls (n : Nat) (hn : n ≤ 1000) (M : Nat → List Int) (ts : List (List UInt8)) (hts : ts.length ≤ 100) (hE : Run n ts M) (hne : M ts.length ≠ []) (A : Option Addr) (cap : Nat) (hcap : ts.length ≤ cap) (w : World) (hT : Toks ts A w)
    (hr : Kd.C Kd.string w A ts.length (ts.map bs)) :
    Calls Tryd.prog 8 #[.int .i64 (n : Int), .slice A ts.length cap] w fun e w' => ∃ v, e = .returned (.tuple #[v, .bool true]) ∧ w'.ownsRow w.heap.size 3 1 v (M ts.length).length (nums .i64 (M ts.length)) ∧ Below w.heap.size w w' := by
  have hmf : ∀ (fn : Fn) (first cap : Array Value) (w : World), (Instr.makeFunc fn first cap).run Tryd.prog w = .ok (.func fn first cap) w := fun _ _ _ _ => rfl
  have HFew : ∀ W, Below w.heap.size w W → Calls Tryd.prog 16 #[.int .i64 (n : Int), .slice A ts.length cap] W fun e w' => e = .returned (.bool true) ∧ Below W.heap.size W w' ∧ w'.heap.size = W.heap.size := fun W hW => by
    have := few_calls n hn (ts.map bs) (by simpa using hts) A cap (by simpa using hcap) W (by rw [List.length_map]; exact Kd.C_below hr hW)
    rwa [List.length_map] at this
  have H := fun (W w1 : World) (hW : W = ((w.alloc (.cells #[.int .i64 (n : Int)] 3)).alloc (.cells #[.slice A ts.length cap] 22)).alloc (.cells #[.slice none 0 0] 24)) (hb1 : Below W.heap.size W w1) (hs1 : w1.heap.size = W.heap.size) => (by
    subst hW
    obtain ⟨t1, t2, t3⟩ := three_blocks w (.cells #[.int .i64 (n : Int)] 3) (.cells #[.slice A ts.length cap] 22) (.cells #[.slice none 0 0] 24)
    have hB3 : Below w.heap.size w (((w.alloc (.cells #[.int .i64 (n : Int)] 3)).alloc (.cells #[.slice A ts.length cap] 22)).alloc (.cells #[.slice none 0 0] 24)) := (((Below.refl _ w).alloc (Nat.le_refl _) _).alloc (by simp only [World.size_alloc]; omega) _).alloc (by simp only [World.size_alloc]; omega) _
    have hb2 := below_alloc hb1 (.cells #[.nilIface] 40)
    have hB4 := hB3.trans (hb2.mono hB3.size)
    have hsz : w1.heap.size = w.heap.size + 1 + 1 + 1 := by rw [hs1]; simp only [World.size_alloc]
    refine (calm_calls n M ts hts hE hne A cap w.heap.size (w.heap.size + 1) (w.heap.size + 1 + 1) w1.heap.size (.slice none 0 0) (w1.alloc (.cells #[.nilIface] 40)) (hT.below hB4) (pw_cell_below hb2 (blk_cell t1 0)) (pw_cell_below hb2 (blk_cell t2 0)) ((hb2.block _ (blk_lt t3)).trans t3) (blk_new _ _) (by omega)).mono ?_
    rintro e w2 ⟨he, A2, cv, q1, q2, q3, hK⟩
    have hs := hK.size
    rw [World.size_alloc] at hs
    refine ⟨he, A2, cv, q1, q2, own_weaken q3 (by rw [World.size_alloc]; omega), ⟨hK.os.trans hB4.os, hK.tape.trans hB4.tape, hK.output.trans hB4.output, by omega, fun j hj => ?_⟩⟩
    exact (hK.block j (by rw [World.size_alloc]; omega) (by omega) (by omega)).trans (hB4.block j hj)
    : Calls Tryd.prog 17 #[.func (.func 18) #[] #[.pointer (some ⟨w.heap.size, 0, none⟩), .pointer (some ⟨w.heap.size + 1, 0, none⟩), .pointer (some ⟨w.heap.size + 1 + 1, 0, none⟩), .pointer (some ⟨w1.heap.size, 0, none⟩)]] (w1.alloc (.cells #[.nilIface] 40)) fun e w2 => e = .returned (.bool true) ∧ ∃ A2 cv, w2.heap[w.heap.size + 1 + 1]? = some (.cells #[.slice A2 (M ts.length).length cv] 24 (0, 0)) ∧ w2.cell? ⟨w1.heap.size, 0, none⟩ = some .nilIface ∧ w2.ownsRow (w.heap.size + 1 + 1 + 1) 3 1 (.slice A2 (M ts.length).length cv) (M ts.length).length (nums .i64 (M ts.length)) ∧ Below w.heap.size w w2)
  have HC := Lib.hid (fun w1 => H _ w1 rfl)
  have HF := Lib.hid (HFew _ ((((Below.refl _ w).alloc (Nat.le_refl _) (.cells #[.int .i64 (n : Int)] 3)).alloc (by simp only [World.size_alloc]; omega) (.cells #[.slice A ts.length cap] 22)).alloc (by simp only [World.size_alloc]; omega) (.cells #[.slice none 0 0] 24)))
  clear H HFew hT hr hE hne
  generalize M ts.length = L at *
  go_enter Tryd.func8, Tryd.ntmps8
  go_wp2_with (first
    | (go_at_call 16; refine HF.out.mono ?_; rintro e w1 ⟨rfl, hb1, hs1⟩; have HC1 := Lib.hid (HC.out w1 hb1 hs1); have HS1 := Lib.hid hs1; clear hb1 hs1)
    | (go_at_call 17; refine HC1.out.mono ?_; rintro e w2 ⟨rfl, A2, cv, q1, q2, q3, hB⟩; have k2 := blk_cell q1 0; have f2 := blk_frozen q1 0; have Q1 := Lib.hid q1; have Q3 := Lib.hid q3; clear q1 q3))
  have r0 : (w2.setCell ⟨w.heap.size + 1 + 1, 0, none⟩ (.slice A2 L.length cv)).cell? ⟨w.heap.size + 1 + 1, 0, none⟩ = some (.slice A2 L.length cv) := World.cell?_setCell_same _ _ _ k2
  refine bodyPost_ret (v := .tuple #[.slice A2 L.length cv, .bool true]) ?_ rfl ⟨_, rfl, own_weaken (own_setCell Q3.out (fun h => ?_) _) (by omega), hB.setCell (p := ⟨w.heap.size + 1 + 1, 0, none⟩) (by show w.heap.size ≤ w.heap.size + 1 + 1; omega) _⟩
  · simp [results, Tryd.results8, go_sem, r0]
  · have := own_base Q3.out _ h.symm
    simp at this
    omega
end Go.Proofs.YthfihamhkhnckaaDoor

namespace Go.Proofs.YthfihamhkhnckaaDoor
open Go.RowKit Go.ChangeShapes Go.Proofs.YthfihamhkhnckaaDoorW.PrintWords Go.Proofs.YthfihamhkhnckaaDoor.PFnCollected

theorem Num.val_small {ds : List UInt8} (h : Num ds) : (val ds : Int) ≤ 9999 := by
  have h4 := h.four
  have := (valFrom_small ds 0 0 h.all (by omega) (.inl ⟨rfl, rfl⟩)).le
  have h2 : val ds ≤ 9999 := this
  omega
theorem Body.bounds {v : List UInt8} {k a b : Int} (h : Body v k a b) : 2 ≤ k ∧ k ≤ 12 ∧ 0 ≤ a ∧ a ≤ 9999 ∧ 0 ≤ b ∧ b ≤ 9999 := by
  cases h with
  | last => decide
  | all => decide
  | toLast ds h => have := h.val_small; omega
  | before ds h => have := h.val_small; omega
  | behind ds h => have := h.val_small; omega
  | upTo ds h => have := h.val_small; omega
  | page ds h => have := h.val_small; omega
  | «from» ds h => have := h.val_small; omega
  | fromLast ds h => have := h.val_small; omega
  | fromTo ds es h g => have := h.val_small; have := g.val_small; omega
  | range ds es h g => have := h.val_small; have := g.val_small; omega
theorem reach_calls {v : List UInt8} {k a b : Int} (h : Body v k a b) (aw : Bool) (n : Nat) (hn : n ≤ 1000) (w : World) :
    Calls Tryd.prog 15 #[tokV k a b aw, .int .i64 (n : Int)] w fun e w' => e = .returned (.tuple #[.int .i64 (reachOf k a b n).1, .int .i64 (reachOf k a b n).2]) ∧ Below w.heap.size w w' := by
  have hb := h.bounds
  have wa : wrap64 ((n : Int) - a) = n - a := by unfold wrap64; omega
  have wb : wrap64 ((n : Int) - b) = n - b := by unfold wrap64; omega
  refine spec_token_reach.calls 1 k a b aw n _ _ w ?_
  cases h <;> simp [spec_token_reach.f, spec_token_reach.j0, reachOf, wa, wb]
/-- A part that claims pages has its effect. -/
theorem Body.norm {v : List UInt8} {k a b : Int} (h : Body v k a b) (n : Nat) (hn : n ≤ 1000) (h1 : 1 ≤ (reachOf k a b n).1) (h2 : 1 ≤ (reachOf k a b n).2) :
    Norm n v (min (reachOf k a b n).2 n + 1 - (reachOf k a b n).1).toNat (reachOf k a b n).1 := by
  obtain ⟨m, hm, rfl⟩ := body_norm h n hn h1 h2
  exact hm
/-- What a part that is read says of its text: no even, no odd. -/
theorem Tok.effect {s : List UInt8} {k a b : Int} {aw : Bool} (h : Tok s k a b aw) (h0 : k ≠ 0) (h1 : k ≠ 1) : ∃ v, Body v k a b ∧ ∀ (n m : Nat) (p : Int), Norm n v m p → Eff n s (procN aw m p) := by
  cases h with
  | even => exact absurd rfl h0
  | odd => exact absurd rfl h1
  | plain h => exact ⟨_, h, fun n m p hN => hN.eff⟩
  | away x hx h => exact ⟨_, h, fun n m p hN => hN.away x hx⟩
theorem Run.snoc {n : Nat} {ts : List (List UInt8)} {M : Nat → List Int} {k : Nat} (h : Run n (ts.take k) M) (hk : k < ts.length) {F : List Int → List Int} (hF : Eff n (ts[k]'hk) F) :
    ∃ M', Run n (ts.take (k + 1)) M' ∧ M' (k + 1) = F (M k) := by
  refine ⟨fun i => if i ≤ k then M i else F (M k), ⟨by simpa using h.zero, fun i hi => ?_⟩, if_neg (by omega)⟩
  rw [List.length_take] at hi
  by_cases hik : i < k
  · obtain ⟨G, hG, he⟩ := h.step i (by rw [List.length_take]; omega)
    refine ⟨G, ?_, ?_⟩
    · rw [List.getElem_take] at hG ⊢
      exact hG
    · show (if i + 1 ≤ k then M (i + 1) else F (M k)) = G (if i ≤ k then M i else F (M k))
      rw [if_pos (by omega), if_pos (by omega), he]
  · obtain rfl : i = k := by omega
    refine ⟨F, ?_, ?_⟩
    · rw [List.getElem_take]
      exact hF
    · show (if i + 1 ≤ i then M (i + 1) else F (M i)) = F (if i ≤ i then M i else F (M i))
      rw [if_neg (by omega), if_pos (Nat.le_refl _)]
end Go.Proofs.YthfihamhkhnckaaDoor

namespace Go.Proofs.YthfihamhkhnckaaDoor
open Go.RowKit Go.ChangeShapes Go.Proofs.YthfihamhkhnckaaDoorW.PrintWords

def CollSaid (n : Nat) (ts : List (List UInt8)) (w : World) (e : Ending) (w' : World) : Prop :=
  ∃ v ok L, e = .returned (.tuple #[v, .bool ok]) ∧ w'.ownsRow w.heap.size 3 1 v L.length (nums .i64 L) ∧ (ok = true → ∃ M, Run n ts M ∧ M ts.length = L) ∧ Below w.heap.size w w'
set_option maxHeartbeats 8000000 in
set_option maxRecDepth 100000 in
theorem spec_collected (n : Nat) (hn : n ≤ 1000) (ts : List (List UInt8)) (hts : ts.length ≤ 100) (hlen : ∀ t ∈ ts, t.length ≤ 2147483647) (A : Option Addr) (cap : Nat) (w : World) (hT : Toks ts A w) :
    Calls Tryd.prog 7 #[.int .i64 (n : Int), .slice A ts.length cap] w (CollSaid n ts w) := by
  go_enter Tryd.func7, Tryd.ntmps7
  go_wp2_with fail
  go_loopw [6, 19] (fun o vi wr => ∃ k : Nat, vi = .int .i64 (k : Int) ∧ k ≤ ts.length ∧ Hid (∃ M, Run n (ts.take k) M ∧ wr.ownsRow w.heap.size 3 1 o (M k).length (nums .i64 (M k))) ∧ Hid (Below w.heap.size w wr)) (fun _ vi _ => ts.length - (intOf vi).toNat)
  case atStart =>
    exact ⟨0, rfl, by omega, Lib.hid ⟨fun _ => [], ⟨rfl, fun i h => absurd h (by simp)⟩, own_nil _ _ _ _⟩, Lib.hid (Below.refl _ _)⟩
  case round =>
    obtain ⟨k, rfl, hk, hP, hb⟩ := hrel
    by_cases hlt : k < ts.length
    · obtain ⟨ad, rfl, hcl⟩ := hT k hlt
      have hcl := (hb.out.cell (World.block_lt_of_cell? w _ hcl)).trans hcl
      have HTok := Lib.hid (fun W => tok_calls (ts[k]'hlt) (hlen _ (List.getElem_mem _)) W)
      have HT := Lib.hid hT
      have HL := Lib.hid hlen
      clear hT hlen
      generalize bs (ts[k]'hlt) = T at *
      go_upto_region 6 with (first | (go_at_call 14; (with_reducible refine (HTok.out _).mono ?_); rintro e w1 ⟨a1, a2, a3, aw, is, rfl, hTk, hB1⟩; have HTk := Lib.hid hTk; have HB1 := Lib.hid (below_step hb.out hB1); have HS1 := Lib.hid hB1; clear hcl hB1 hTk))
      have hge : w.heap.size ≤ w1.heap.size := HB1.out.size
      have HBk := Lib.hid (blk_new w1 (tokO a1 a2 a3 aw))
      have HB := Lib.hid (below_alloc HB1.out (tokO a1 a2 a3 aw))
      obtain ⟨M, hR, ho⟩ := hP.out
      have HO := Lib.hid ((pw_own_below ho HS1.out).alloc (tokO a1 a2 a3 aw))
      have HR := Lib.hid hR
      have hml : (M k).length ≤ 100000 := by
        have h9 := hR.small k (by rw [List.length_take]; omega)
        omega
      clear ho hR hP hb HB1 HS1 HTok
      generalize w1.alloc (.cells #[.int .i64 a1, .int .i64 a2, .int .i64 a3, .bool aw] 34 (0, 0)) = W at *
      generalize w1.heap.size = g at *
      have hc0 : W.cell? ⟨g, 0, none⟩ = some (.int .i64 a1) := (blk_cell HBk.out 0).trans rfl
      have hc1 : W.cell? ⟨g, 1, none⟩ = some (.int .i64 a2) := (blk_cell HBk.out 1).trans rfl
      have hc2 : W.cell? ⟨g, 2, none⟩ = some (.int .i64 a3) := (blk_cell HBk.out 2).trans rfl
      have hc3 : W.cell? ⟨g, 3, none⟩ = some (.bool aw) := (blk_cell HBk.out 3).trans rfl
      cases is with
      | false =>
        go_wp2_with fail
        exact bodyPost_ret (v := .tuple #[.slice none 0 0, .bool false]) (by simp [results, Tryd.results7, go_sem]) rfl ⟨_, false, [], rfl, own_nil _ _ _ _, (fun h => by cases h), HB.out⟩
      | true =>
        by_cases h0 : a1 = 0
        · subst h0
          go_wp2_with fail
          exact bodyPost_ret (v := .tuple #[.slice none 0 0, .bool false]) (by simp [results, Tryd.results7, go_sem]) rfl ⟨_, false, [], rfl, own_nil _ _ _ _, (fun h => by cases h), HB.out⟩
        have e0 : (a1 == 0) = false := beq_eq_false_iff_ne.2 h0
        by_cases h1 : a1 = 1
        · subst h1
          go_wp2_with fail
          exact bodyPost_ret (v := .tuple #[.slice none 0 0, .bool false]) (by simp [results, Tryd.results7, go_sem]) rfl ⟨_, false, [], rfl, own_nil _ _ _ _, (fun h => by cases h), HB.out⟩
        have e1 : (a1 == 1) = false := beq_eq_false_iff_ne.2 h1
        obtain ⟨v, hBo, hEf⟩ := (HTk.out rfl).effect h0 h1
        have HRe := Lib.hid (fun W => reach_calls hBo aw n hn W)
        have HNo := Lib.hid (hBo.norm n hn)
        have HEf := Lib.hid hEf
        clear hBo hEf HTk
        generalize (reachOf a1 a2 a3 n).1 = p at *
        generalize (reachOf a1 a2 a3 n).2 = q at *
        go_upto_region 9 with (first | (go_at_call 15; (with_reducible refine (HRe.out _).mono ?_); rintro e W2 ⟨rfl, hB2⟩; have HB' := Lib.hid (below_step HB.out hB2); have HO' := Lib.hid (pw_own_below HO.out hB2); have HBk' := Lib.hid (blk_below HBk.out hB2); clear hc0 hc1 hc2 hc3 hB2 HB HO HBk; have HB := HB'; have HO := HO'; have HBk := HBk'; clear HB' HO' HBk'))
        by_cases hp : p < 1
        · have z1 : decide (p < 1) = true := decide_eq_true hp
          go_wp2_with fail
          exact bodyPost_ret (v := .tuple #[.slice none 0 0, .bool false]) (by simp [results, Tryd.results7, go_sem]) rfl ⟨_, false, [], rfl, own_nil _ _ _ _, (fun h => by cases h), HB.out⟩
        have z1 : decide (p < 1) = false := decide_eq_false hp
        by_cases hq : q < 1
        · have z2 : decide (q < 1) = true := decide_eq_true hq
          go_wp2_with fail
          exact bodyPost_ret (v := .tuple #[.slice none 0 0, .bool false]) (by simp [results, Tryd.results7, go_sem]) rfl ⟨_, false, [], rfl, own_nil _ _ _ _, (fun h => by cases h), HB.out⟩
        have z2 : decide (q < 1) = false := decide_eq_false hq
        have hF := HEf.out n _ p (HNo.out (by omega) (by omega))
        obtain ⟨M', hR', hM'⟩ := HR.out.snoc hlt hF
        have HR' := Lib.hid hR'
        have HM' := Lib.hid hM'
        obtain ⟨m, hm⟩ : ∃ m, m = (min q n + 1 - p).toNat := ⟨_, rfl⟩
        have hmj : ∀ j : Nat, j < m ↔ p + j ≤ q ∧ p + j ≤ n := fun j => by omega
        have hmm : m ≤ 1000 := by omega
        rw [← hm] at HM'
        have HMJ := Lib.hid hmj
        clear hR' hM' hF HNo HEf HRe HR hm hmj
        generalize M k = L at *
        go_wp2_with fail
        go_loopw [6, 13] (fun o vi wq => ∃ j : Nat, vi = .int .i64 (p + (j : Int)) ∧ j ≤ m ∧ Hid (wq.ownsRow w.heap.size 3 1 o (procN aw j p L).length (nums .i64 (procN aw j p L))) ∧ Hid (Below w.heap.size w wq) ∧ Hid (wq.heap[g]? = some (tokO a1 a2 a3 aw))) (fun _ vi _ => m - (intOf vi - p).toNat)
        case atStart =>
          exact ⟨0, by simp, by omega, HO, HB, HBk⟩
        case round =>
          obtain ⟨j, rfl, hjm, ho, hbq, hbk⟩ := hrel
          rename World => wq
          by_cases hj : j < m
          · obtain ⟨y1, y2⟩ := (HMJ.out j).1 hj
            have z3 : decide (p + (j : Int) ≤ q) = true := decide_eq_true y1
            have z4 : decide (p + (j : Int) ≤ (n : Int)) = true := decide_eq_true y2
            have hc3 : wq.cell? ⟨g, 3, none⟩ = some (.bool aw) := (blk_cell hbk.out 3).trans rfl
            have hpl := procN_length aw j p L
            cases aw with
            | false =>
              have hst : procN false (j + 1) p L = procN false j p L ++ [p + (j : Int)] := rfl
              generalize procN false j p L = X at *
              go_wp2_with (at_builtin; refine print_append_num w.heap.size rfl (.tmp 66) (.tmp 68) 24 3 .i64 8 rfl Tryd.underlying24 info_int (by decide) _ X (p + (j : Int)) rfl rfl ho.out hbq.out hbq.out.size (by omega) ?_; intro v1 w1 ho3 hb3 hg _
                           have HO3 := Lib.hid ho3
                           have HB3 := Lib.hid hb3
                           have HK3 := Lib.hid (blk_grown hbk.out hg (fun h => by obtain ⟨cs, h2⟩ := own_typed ho.out g h.symm; exact blk_ne hbk.out h2 (by decide) rfl))
                           clear ho3 hb3 hg)
              exact ⟨⟨j + 1, congrArg (Value.int IntKind.i64) (by omega), by omega, by rw [hst]; exact HO3, HB3, HK3⟩, by simp [intOf]; omega⟩
            | true =>
              have hst : procN true (j + 1) p L = (procN true j p L).filter (· ≠ p + (j : Int)) := rfl
              generalize procN true j p L = X at *
              obtain ⟨A2, cv, rfl⟩ := own_slice ho.out
              go_wp2_with fail
              go_loopw [14, 72] (fun o2 vi wi => ∃ i : Nat, vi = .int .i64 (i : Int) ∧ i ≤ X.length ∧ Hid (wi.ownsRow wq.heap.size 3 1 o2 ((X.take i).filter (· ≠ p + (j : Int))).length (nums .i64 ((X.take i).filter (· ≠ p + (j : Int))))) ∧ Hid (Below wq.heap.size wq wi)) (fun _ vi _ => X.length - (intOf vi).toNat)
              case atStart =>
                exact ⟨0, rfl, by omega, Lib.hid (own_nil _ _ _ _), Lib.hid (Below.refl _ _)⟩
              case round =>
                obtain ⟨i, rfl, hi, ho2, hbl⟩ := hrel
                by_cases hin : i < X.length
                · have ho1 := pw_own_below ho.out hbl.out
                  obtain ⟨g2, cap2, hgA, _, _⟩ := ho1.form (by omega)
                  cases hgA
                  obtain ⟨ce, _⟩ := own_at ho1 (i : Int) (by omega) (by omega)
                  rw [Int.toNat_natCast] at ce
                  have hrd : rd X (i : Int) = X[i]'hin := by simp [rd, List.getD, List.getElem?_eq_getElem hin]
                  rw [hrd] at ce
                  have htk : X.take (i + 1) = X.take i ++ [X[i]'hin] := by rw [List.take_append_getElem]
                  generalize X[i]'hin = x at ce htk
                  have hfl : ((X.take i).filter (· ≠ p + (j : Int))).length ≤ 1000000 := Nat.le_trans (List.length_filter_le _ _) (by simp; omega)
                  clear ho1 hrd
                  by_cases hxp : x = p + (j : Int)
                  · have hff : (X.take (i + 1)).filter (· ≠ p + (j : Int)) = (X.take i).filter (· ≠ p + (j : Int)) := by rw [htk, List.filter_append]; simp [hxp]
                    clear htk
                    subst hxp
                    go_wp2_with fail
                    exact ⟨⟨i + 1, rfl, by omega, by rw [hff]; exact ho2, hbl⟩, by simp [intOf]; omega⟩
                  · have hff : (X.take (i + 1)).filter (· ≠ p + (j : Int)) = (X.take i).filter (· ≠ p + (j : Int)) ++ [x] := by rw [htk, List.filter_append]; simp [hxp]
                    have hxb : (x != p + (j : Int)) = true := bne_iff_ne.2 hxp
                    clear htk
                    generalize (X.take i).filter (· ≠ p + (j : Int)) = Y at *
                    go_wp2_with (at_builtin; refine print_append_num wq.heap.size rfl (.tmp 79) (.tmp 81) 24 3 .i64 8 rfl Tryd.underlying24 info_int (by decide) _ Y x rfl rfl ho2.out hbl.out hbl.out.size (by omega) ?_; intro v1 w1 ho3 hb3 _ _)
                    exact ⟨⟨i + 1, rfl, by omega, by rw [hff]; exact Lib.hid ho3, Lib.hid hb3⟩, by simp [intOf]; omega⟩
                · obtain rfl : i = X.length := by omega
                  rw [List.take_length] at ho2
                  have hge : ¬ ((X.length : Int) < (X.length : Int)) := by omega
                  have HO3 := Lib.hid (own_weaken ho2.out hbq.out.size)
                  have HB3 := Lib.hid (below_step hbq.out hbl.out)
                  have HK3 := Lib.hid (blk_below hbk.out hbl.out)
                  go_wp2_with fail
                  exact ⟨⟨j + 1, congrArg (Value.int IntKind.i64) (by omega), by omega, by rw [hst]; exact HO3, HB3, HK3⟩, by simp [intOf]; omega⟩
          · obtain rfl : j = m := by omega
            have hz : ¬ (p + (j : Int) ≤ q ∧ p + (j : Int) ≤ n) := fun h => hj ((HMJ.out j).2 h)
            by_cases y1 : p + (j : Int) ≤ q
            · have z3 : decide (p + (j : Int) ≤ q) = true := decide_eq_true y1
              have z4 : decide (p + (j : Int) ≤ (n : Int)) = false := decide_eq_false (fun h => hz ⟨y1, h⟩)
              go_wp2_with fail
              exact ⟨⟨k + 1, rfl, by omega, Lib.hid ⟨M', HR'.out, by rw [HM'.out]; exact ho.out⟩, hbq⟩, by simp [intOf]; omega⟩
            · have z3 : decide (p + (j : Int) ≤ q) = false := decide_eq_false y1
              go_wp2_with fail
              exact ⟨⟨k + 1, rfl, by omega, Lib.hid ⟨M', HR'.out, by rw [HM'.out]; exact ho.out⟩, hbq⟩, by simp [intOf]; omega⟩
    · obtain rfl : k = ts.length := by omega
      rw [List.take_length] at hP
      obtain ⟨M, hR, ho⟩ := hP.out
      have hge : ¬ ((ts.length : Int) < (ts.length : Int)) := by omega
      go_wp2_with fail
      exact bodyPost_ret (v := .tuple #[_, .bool true]) (by simp [results, Tryd.results7, go_sem]) rfl ⟨_, true, _, rfl, ho, fun _ => ⟨M, hR, rfl⟩, hb.out⟩
end Go.Proofs.YthfihamhkhnckaaDoor

namespace Go.Proofs.YthfihamhkhnckaaDoor
open Go.RowKit Go.ChangeShapes Go.Proofs.YthfihamhkhnckaaDoorW.PrintWords Go.Proofs.YthfihamhkhnckaaDoor.PFnCollected

theorem fits_e (l : List ByteArray) (hn : l.length ≤ 140737488351232) (d : Nat) : ∀ i, i + d = l.length → ∃ b, (b = true → ∀ j (h : j < l.length), i ≤ j → (l[j]'h).size ≤ 2147483647) ∧ ∀ k, d < k → laws_zzFits1.l0 k l (l.length : Int) (i : Int) = some b := by
  induction d with
  | zero =>
    intro i hi
    refine ⟨true, fun _ j h hj => by omega, fun k hk => ?_⟩
    obtain ⟨k, rfl⟩ : ∃ m, k = m + 1 := ⟨k - 1, by omega⟩
    simp only [laws_zzFits1.l0]
    rw [if_neg (by omega)]
  | succ d ih =>
    intro i hi
    obtain ⟨b, hs, hb⟩ := ih (i + 1) (by omega)
    have hrd : rdOf ByteArray.empty l (i : Int) = l[i]'(by omega) := by simp [rdOf, show i < l.length by omega]
    by_cases hs2 : ((rdOf ByteArray.empty l (i : Int)).size : Int) > 2147483647
    · refine ⟨false, (fun h => by cases h), fun k hk => ?_⟩
      obtain ⟨k, rfl⟩ : ∃ m, k = m + 1 := ⟨k - 1, by omega⟩
      simp only [laws_zzFits1.l0]
      rw [if_pos (by omega), if_pos (by omega), if_pos (by omega), if_pos hs2]
    · refine ⟨b, fun hb j h hj => ?_, fun k hk => ?_⟩
      · by_cases hji : j = i
        · subst hji
          rw [hrd] at hs2
          omega
        · exact hs hb j h (by omega)
      · obtain ⟨k, rfl⟩ : ∃ m, k = m + 1 := ⟨k - 1, by omega⟩
        simp only [laws_zzFits1.l0]
        rw [if_pos (by omega), if_pos (by omega), if_pos (by omega), if_neg hs2, show wrap64 ((i : Int) + 1) = ((i + 1 : Nat) : Int) by unfold wrap64; omega]
        exact hb k (by omega)
theorem fits_ef (l : List ByteArray) (hn : l.length ≤ 140737488351232) : ∃ b k, laws_zzFits1.f k l = some b ∧ (b = true → ∀ j (h : j < l.length), (l[j]'h).size ≤ 2147483647) := by
  unfold laws_zzFits1.f
  by_cases h : (l.length : Int) > 2147483647
  · exact ⟨false, 0, by rw [if_pos h], fun h => by cases h⟩
  · obtain ⟨b, hs, hb⟩ := fits_e l hn l.length 0 (by omega)
    exact ⟨b, l.length + 1, by rw [if_neg h]; exact hb _ (by omega), fun h j hj => hs h j hj (Nat.zero_le _)⟩
theorem same_e (l : List Int) (hn : l.length ≤ 140737488351232) (d : Nat) : ∀ i k, i + d = l.length → d < k → spec_SameInts.l0 k l l (l.length : Int) (i : Int) = some true := by
  induction d with
  | zero =>
    intro i k hi hk
    obtain ⟨k, rfl⟩ : ∃ m, k = m + 1 := ⟨k - 1, by omega⟩
    simp only [spec_SameInts.l0]
    rw [if_neg (by omega)]
  | succ d ih =>
    intro i k hi hk
    obtain ⟨k, rfl⟩ : ∃ m, k = m + 1 := ⟨k - 1, by omega⟩
    simp only [spec_SameInts.l0]
    rw [if_pos (by omega), if_pos (by omega), if_pos (by omega), if_pos (by omega), if_pos trivial, show wrap64 ((i : Int) + 1) = ((i + 1 : Nat) : Int) by unfold wrap64; omega]
    exact ih (i + 1) k (by omega) (by omega)
theorem same_ef (l : List Int) (hn : l.length ≤ 140737488351232) : spec_SameInts.f (l.length + 1) l l = some true := by
  unfold spec_SameInts.f
  rw [if_pos rfl]
  exact same_e l hn l.length 0 _ (by omega) (by omega)
/-- What is owned can be read. -/
theorem own_ints {w : World} {base n c : Nat} {A : Option Addr} {l : List Int} (h : w.ownsRow base 3 1 (.slice A n c) n (nums .i64 l)) (hl : l.length = n) (hn : n ≤ 1000000) : Kd.C (Kd.int .i64) w A l.length l ∧ l.length ≤ c := by
  have hc : l.length ≤ c := by
    rcases h.2 with ⟨h1, h2⟩ | ⟨g, cap, cur, he, _, _, hh, _⟩
    · cases h1; omega
    · cases he; omega
  refine ⟨⟨rfl, by omega, fun h0 => ?_⟩, hc⟩
  obtain ⟨g, cap, hA, _, _⟩ := h.form (by omega)
  cases hA
  refine ⟨_, rfl, fun j p hj => ⟨[.int .i64 p], rfl, rfl, fun i u hu => ?_⟩⟩
  cases i with
  | succ i => simp at hu
  | zero =>
    have hu' : u = .int .i64 p := by simpa using hu.symm
    have hjl := (List.getElem?_eq_some_iff.1 hj).1
    have e : ((⟨g, 0, none⟩ : Addr).add (j * (Kd.int .i64).sz + 0)) = ⟨g, j, none⟩ := by
      show (⟨g, 0, none⟩ : Addr).add (j * 1 + 0) = _
      rw [Nat.mul_one, Nat.add_zero]; simp only [Addr.add, Nat.zero_add]; cases j <;> rfl
    obtain ⟨h1, _⟩ := own_at h (j : Int) (by omega) (by omega)
    rw [Int.toNat_natCast] at h1
    rw [hu', e, h1]
    have : rd l (j : Int) = p := by simp [rd, List.getD, hj]
    rw [this]
/-- Two lists that hold the same numbers, compared. -/
theorem sameInts_calls {l : List Int} {A A' : Option Addr} {c c' : Nat} {b b' n : Nat} (hn : n ≤ 1000000) (hl : l.length = n) (w : World) (h : w.ownsRow b 3 1 (.slice A n c) n (nums .i64 l)) (h' : w.ownsRow b' 3 1 (.slice A' n c') n (nums .i64 l)) :
    Calls Tryd.prog 9 #[.slice A n c, .slice A' n c'] w fun e w' => e = .returned (.bool true) ∧ Below w.heap.size w w' := by
  obtain ⟨h1, h2⟩ := own_ints h hl hn
  obtain ⟨h3, h4⟩ := own_ints h' hl hn
  have := spec_SameInts.calls (l.length + 1) A c l A' c' l true w h1 h2 h3 h4 (same_ef l (by omega))
  rw [hl] at this
  refine this.mono ?_
  rintro e w' ⟨rfl, hd⟩
  exact ⟨rfl, hd.below⟩
/-- The texts as letters. -/
theorem texts_of (l : List ByteArray) : (l.map ByteArray.toList).map bs = l := by
  rw [List.map_map]
  conv => rhs; rw [← List.map_id l]
  exact List.map_congr_left fun s _ => bs_self s
theorem toks_of {ts : List (List UInt8)} {A : Option Addr} {w : World} (h : Kd.C Kd.string w A ts.length (ts.map bs)) : Toks ts A w := by
  intro i hi
  obtain ⟨ad, h1, h2⟩ := Kd.at_string h (i : Int) (by omega) (by omega)
  refine ⟨ad, h1, ?_⟩
  rw [show rdOf ByteArray.empty (ts.map bs) (i : Int) = bs (ts[i]'hi) from by simp [rdOf, hi]] at h2
  simpa using h2
set_option maxHeartbeats 4000000 in
set_option maxRecDepth 100000 in
theorem law_calls (x : Int) (A : Option Addr) (l : List ByteArray) (c : Nat) (w : World) (hx : (Lit.int .i64 x).wf = true) (hc : l.length ≤ c) (hn : l.length ≤ 140737488351232) (hC : Kd.C Kd.string w A l.length l) :
    Calls Tryd.prog 3 #[.int .i64 x, .slice A l.length c] w fun e w' => e = .returned (.bool true) ∧ Below w.heap.size w w' := by
  obtain ⟨b, kf, hkf, hsz⟩ := fits_ef l hn
  have HF := Lib.hid (laws_zzFits1.calls kf A c l b w hC hc hkf)
  clear hkf
  cases b with
  | false =>
    go_enter Tryd.func3, Tryd.ntmps3
    go_wp2_with (go_at_call 6; refine HF.out.mono ?_; rintro e w1 ⟨rfl, hd⟩; have HB := Lib.hid hd.below)
    go_ret
    exact ⟨rfl, HB.out⟩
  | true =>
    by_cases h1 : x < 1
    · have z1 : decide (x < 1) = true := decide_eq_true h1
      go_enter Tryd.func3, Tryd.ntmps3
      go_wp2_with (go_at_call 6; refine HF.out.mono ?_; rintro e w1 ⟨rfl, hd⟩; have HB := Lib.hid hd.below)
      go_ret
      exact ⟨rfl, HB.out⟩
    have z1 : decide (x < 1) = false := decide_eq_false h1
    by_cases h2 : 500 < x
    · have z2 : decide (500 < x) = true := decide_eq_true h2
      go_enter Tryd.func3, Tryd.ntmps3
      go_wp2_with (go_at_call 6; refine HF.out.mono ?_; rintro e w1 ⟨rfl, hd⟩; have HB := Lib.hid hd.below)
      go_ret
      exact ⟨rfl, HB.out⟩
    have z2 : decide (500 < x) = false := decide_eq_false h2
    by_cases h3 : 30 < l.length
    · have z3 : decide (30 < (l.length : Int)) = true := decide_eq_true (by omega)
      have z3' : decide (30 < l.length) = true := decide_eq_true h3
      go_enter Tryd.func3, Tryd.ntmps3
      go_wp2_with (go_at_call 6; refine HF.out.mono ?_; rintro e w1 ⟨rfl, hd⟩; have HB := Lib.hid hd.below)
      go_ret
      exact ⟨rfl, HB.out⟩
    have z3 : decide (30 < (l.length : Int)) = false := decide_eq_false (by omega)
    have z3' : decide (30 < l.length) = false := decide_eq_false h3
    obtain ⟨n, rfl⟩ : ∃ n : Nat, x = (n : Int) := ⟨x.toNat, by omega⟩
    have hn5 : n ≤ 1000 := by omega
    obtain ⟨ts, rfl⟩ : ∃ ts : List (List UInt8), l = ts.map bs := ⟨_, (texts_of l).symm⟩
    rw [List.length_map] at *
    have hlen : ∀ t ∈ ts, t.length ≤ 2147483647 := fun t ht => by
      obtain ⟨i, hi, rfl⟩ := List.getElem_of_mem ht
      have := hsz rfl i (by simpa using hi)
      rw [List.getElem_map, bs_size] at this
      exact this
    have HS := Lib.hid (fun W (hB : Below w.heap.size w W) => spec_collected n hn5 ts (by omega) hlen A c W (toks_of (Kd.C_below hC hB)))
    have HI := Lib.hid (fun W (hB : Below w.heap.size w W) M (hR : Run n ts M) (hne : M ts.length ≠ []) => impl_calls n hn5 M ts (by omega) hR hne A c hc W (toks_of (Kd.C_below hC hB)) (Kd.C_below hC hB))
    clear hC hlen hsz
    go_enter Tryd.func3, Tryd.ntmps3
    go_upto_region 6 with (first
      | (go_at_call 6; refine HF.out.mono ?_; rintro e w1 ⟨rfl, hd⟩; have HB := Lib.hid hd.below; clear hd)
      | (go_at_call 7; refine (HS.out _ HB.out).mono ?_; rintro e w2 ⟨v, ok, L, rfl, ho, hM, hB2⟩; have HB2 := Lib.hid (below_step HB.out hB2); have HO := Lib.hid ho; have HM := Lib.hid hM; obtain ⟨A2, cv, rfl⟩ := own_slice ho; clear ho hM hB2 HB))
    cases ok with
    | false =>
      go_wp2_with fail
      go_ret
      exact ⟨rfl, HB2.out⟩
    | true =>
      obtain ⟨M, hR, hM⟩ := HM.out rfl
      by_cases h4 : L.length = 0
      · have z4 : ((L.length : Int) == 0) = true := beq_iff_eq.2 (by omega)
        go_wp2_with fail
        go_ret
        exact ⟨rfl, HB2.out⟩
      have z4 : ((L.length : Int) == 0) = false := beq_eq_false_iff_ne.2 (by omega)
      by_cases h5 : 5000 < L.length
      · have z5 : decide (5000 < (L.length : Int)) = true := decide_eq_true (by omega)
        have z5' : decide (5000 < L.length) = true := decide_eq_true h5
        go_wp2_with fail
        go_ret
        exact ⟨rfl, HB2.out⟩
      have z5 : decide (5000 < (L.length : Int)) = false := decide_eq_false (by omega)
      have z5' : decide (5000 < L.length) = false := decide_eq_false h5
      have HJ := Lib.hid (HI.out w2 HB2.out M hR (fun h => h4 (by rw [← hM, h]; rfl)))
      rw [hM] at HJ
      have hml : L.length ≤ 1000000 := by omega
      clear HM HI hR hM HS HF
      go_wp2_with (first
        | (go_at_call 8; refine HJ.out.mono ?_; rintro e w3 ⟨v3, rfl, ho3, hB3⟩; have HB3 := Lib.hid (below_step HB2.out hB3); have HO3 := Lib.hid ho3; have HO2 := Lib.hid (pw_own_below HO.out hB3); obtain ⟨A3, cv3, rfl⟩ := own_slice ho3; clear ho3 hB3; have HQ := Lib.hid (sameInts_calls hml rfl w3 HO3.out HO2.out))
        | (go_at_call 9; refine HQ.out.mono ?_; rintro e w4 ⟨rfl, hB4⟩; have HB4 := Lib.hid (below_step HB3.out hB4); clear hB4))
      go_ret
      exact ⟨rfl, HB4.out⟩
end Go.Proofs.YthfihamhkhnckaaDoor
