/-
The law FnLines: the program's loop over a text: the walk. Conditions: bytes that lie in memory, of bounded number.
-/
import Derived.Test.YtmngibfakkfnnaaG1
import Derived.Laws.AppendOwn
import Derived.OwnWalk
import Derived.LoopTactic
import Derived.BigFrame
import Derived.WalkSmall
import Derived.Laws.Cover3
import Derived.Laws.AppendOwnNone
import Derived.Deep.RegionLaw
namespace Go.Proofs.Ytmngibfakkfnnaa
open Go.RowKit Go.ChangeShapes Go.Proofs.YtmngibfakkfnnaaW.PrintWords

theorem info5g : (Try.prog.info? 5).map (fun i => (i.zero, i.size, i.bytes)) = some (some (.int .u8 0), 1, 1) := by kernel_rfl
theorem info35g : (Try.prog.info? 35).map (fun i => (i.zero, i.size, i.bytes)) = some (some (.slice none 0 0), 1, 24) := by kernel_rfl

/-- Rows of bytes of the call's own, one a line. -/
def RowsAt (w : World) (base : Nat) (rows : List Value) (ls : List (List Int)) : Prop :=
  rows.length = ls.length ∧ ∀ (i : Nat) (r : Value) (l : List Int), rows[i]? = some r → ls[i]? = some l → w.ownsRow base 5 1 r l.length (nums .u8 l)
theorem RowsAt.move {w w1 : World} {base : Nat} {rows : List Value} {ls : List (List Int)} (h : RowsAt w base rows ls) (hm : ∀ j, base ≤ j → j < w.heap.size → (∃ cells, w.heap[j]? = some (.cells cells 5 (0, 0))) → w1.heap[j]? = w.heap[j]?) : RowsAt w1 base rows ls := by
  refine ⟨h.1, fun i r l hr hl => ?_⟩
  have ho := h.2 i r l hr hl
  exact own_move ho (fun j hj => hm j (ho.lt j hj).1 (ho.lt j hj).2 (own_typed ho j hj))
theorem RowsAt.add {w : World} {base : Nat} {rows : List Value} {ls : List (List Int)} {r : Value} {l : List Int} (h : RowsAt w base rows ls) (hr : w.ownsRow base 5 1 r l.length (nums .u8 l)) : RowsAt w base (rows ++ [r]) (ls ++ [l]) := by
  refine ⟨by simp [h.1], fun i r' l' hr' hl' => ?_⟩
  by_cases hi : i < rows.length
  · rw [List.getElem?_append_left hi] at hr'
    rw [List.getElem?_append_left (by rw [← h.1]; exact hi)] at hl'
    exact h.2 i r' l' hr' hl'
  · rw [List.getElem?_append_right (by omega)] at hr'
    rw [List.getElem?_append_right (by rw [← h.1]; omega)] at hl'
    have e1 : i - rows.length = 0 := by
      have := (List.getElem?_eq_some_iff.1 hr').1
      simp at this; omega
    have e2 : i - ls.length = 0 := by rw [← h.1]; exact e1
    rw [e1] at hr'
    rw [e2] at hl'
    simp at hr' hl'
    subst hr' hl'
    exact hr

/-- What a round leaves. -/
theorem round_end {w W1 w2 w3 : World} {b1 b2 g n c0 t cr c2 : Nat} {v : Value} {rows : List Value} {ls : List (List Int)} {Ar A2 : Option Addr} {X D : List Int} (hb1 : b1 < w.heap.size) (hb2 : b2 < w.heap.size) (h01 : b1 ≠ b2)
    (q1 : W1.ownsRow w.heap.size 35 1 v ls.length rows) (q2 : RowsAt W1 w.heap.size rows ls) (q3 : W1.ownsRow w.heap.size 5 1 (.slice (some ⟨g, 0, none⟩) n c0) n (nums .u8 D)) (q4 : w.grownBy W1 (some b2)) (o7 : W1.cell? ⟨b1, 0, none⟩ = some (.bool false))
    (hor : w2.ownsRow w.heap.size 5 1 (.slice Ar t cr) t (nums .u8 (X.take t))) (hgr2 : ((W1.alloc (.cells #[] 5)).drew).grownBy w2 (some W1.heap.size)) (ov2 : w2.ownsRow w.heap.size 35 1 v ls.length rows)
    (hov3 : w3.ownsRow w.heap.size 35 1 (.slice A2 (ls.length + 1) c2) (ls.length + 1) (rows ++ [.slice Ar t cr])) (hgv4 : (w2.alloc (.cells #[.slice Ar t cr] 35)).grownBy w3 v.ownBlock)
    (k3 : w3.cell? ⟨b2, 0, none⟩ = some v) (kf3 : w3.frozen? ⟨b2, 0, none⟩ = false) (hold : ∀ j, j < W1.heap.size → some j ≠ v.ownBlock → w3.heap[j]? = W1.heap[j]?) (hl : (X.take t).length = t) :
    (w3.setCell ⟨b2, 0, none⟩ (.slice A2 (ls.length + 1) c2)).cell? ⟨b2, 0, none⟩ = some (.slice A2 (ls.length + 1) c2) ∧ (w3.setCell ⟨b2, 0, none⟩ (.slice A2 (ls.length + 1) c2)).frozen? ⟨b2, 0, none⟩ = false ∧
    (w3.setCell ⟨b2, 0, none⟩ (.slice A2 (ls.length + 1) c2)).cell? ⟨b1, 0, none⟩ = some (.bool false) ∧ (w3.setCell ⟨b2, 0, none⟩ (.slice A2 (ls.length + 1) c2)).ownsRow w.heap.size 35 1 (.slice A2 (ls.length + 1) c2) (ls.length + 1) (rows ++ [.slice Ar t cr]) ∧
    RowsAt (w3.setCell ⟨b2, 0, none⟩ (.slice A2 (ls.length + 1) c2)) w.heap.size (rows ++ [.slice Ar t cr]) (ls ++ [X.take t]) ∧ (w3.setCell ⟨b2, 0, none⟩ (.slice A2 (ls.length + 1) c2)).ownsRow w.heap.size 5 1 (.slice (some ⟨g, 0, none⟩) n c0) n (nums .u8 D) ∧
    w.grownBy (w3.setCell ⟨b2, 0, none⟩ (.slice A2 (ls.length + 1) c2)) (some b2) := by
  have hs := q4.size
  have hs2 := hgr2.size
  have hs3 := hgv4.size
  have hs2' : W1.heap.size + 1 ≤ w2.heap.size := by simpa using hs2
  have hs3' : w2.heap.size + 1 ≤ w3.heap.size := by simpa using hs3
  have e4 : ∀ j, j ≠ b2 → (w3.setCell ⟨b2, 0, none⟩ (.slice A2 (ls.length + 1) c2)).heap[j]? = w3.heap[j]? := fun j hj => heap_setCell_other _ _ _ _ hj
  have fold : ∀ j, w.heap.size ≤ j → j < W1.heap.size → (∃ cells, W1.heap[j]? = some (.cells cells 5 (0, 0))) → (w3.setCell ⟨b2, 0, none⟩ (.slice A2 (ls.length + 1) c2)).heap[j]? = W1.heap[j]? := fun j hj1 hj2 hne => by
    rw [e4 j (by omega)]
    refine hold j hj2 (fun h => ?_)
    obtain ⟨cells, hc⟩ := own_typed q1 j h.symm
    obtain ⟨cells', hc'⟩ := hne
    rw [hc] at hc'
    cases hc'
  have new : (w3.setCell ⟨b2, 0, none⟩ (.slice A2 (ls.length + 1) c2)).ownsRow w.heap.size 5 1 (.slice Ar t cr) (X.take t).length (nums .u8 (X.take t)) := by
    rw [hl]
    refine own_move hor (fun j hj => ?_)
    have hj1 := hor.lt j hj
    rw [e4 j (by omega), hgv4.block j (by simp; omega) (fun h => ?_), Below.heap_alloc _ _ _ hj1.2]
    obtain ⟨cells, hc⟩ := own_typed ov2 j h.symm
    obtain ⟨cells', hc'⟩ := own_typed hor j hj
    rw [hc] at hc'
    cases hc'
  refine ⟨World.cell?_setCell_same _ _ _ k3, by rw [World.frozen?_setCell]; exact kf3, ?_, own_move hov3 (fun j hj => e4 j (by have := (hov3.lt j hj).1; omega)), (q2.move fold).add new, own_move q3 (fun j hj => fold j (q3.lt j hj).1 (q3.lt j hj).2 (own_typed q3 j hj)), ?_⟩
  · rw [World.cell?_setCell_other _ _ _ _ (by intro h; cases h; exact h01 rfl), World.cell?_of_block (hold b1 (by omega) (fun h => by have := (q1.lt b1 h.symm).1; omega))]
    exact o7
  · refine ⟨?_, ?_, ?_, by simp; omega, fun k hk hne => ?_⟩
    · show w3.os = w.os
      rw [hgv4.os, show (w2.alloc (.cells #[.slice Ar t cr] 35)).os = w2.os from rfl, hgr2.os]; exact q4.os
    · show w3.tape = w.tape
      rw [hgv4.tape, show (w2.alloc (.cells #[.slice Ar t cr] 35)).tape = w2.tape from rfl, hgr2.tape]; exact q4.tape
    · show w3.output = w.output
      rw [hgv4.output, show (w2.alloc (.cells #[.slice Ar t cr] 35)).output = w2.output from rfl, hgr2.output]; exact q4.output
    · rw [e4 k (fun h => hne (by rw [h])), hold k (by omega) (fun h => by have := (q1.lt k h.symm).1; omega)]
      exact q4.block k hk hne

section
variable {P : Program} {w : World}
/-- append to a row of the call's own, as one step of a region that draws. -/
theorem step_append_own {ops : Array Oper} {o : Oper} {a : Act} {K : Act → World → Prop} {Q : Exit → Act → World → Prop} {E : Prop} (hgd : o.guard = none) (s x : Operand) (t : TypeId)
    (ho : o.op = .call { callee := .builtin .append, args := #[s, x], argTypes := #[t, t] })
    (base : Nat) (e : TypeId) (i : TypeInfo) (z : Value) (size bytes : Nat) (ht : P.underlying t = some (.slice e)) (hi : P.info? e = some i) (hz : i.zero = some z)
    (hsize : i.size = size) (hby : i.bytes = bytes) (hzs : z.cells.size = size) (hsz : 0 < size)
    (v : Value) (n : Nat) (xs : List Value) (hs : a.eval s = v) (hown : w.ownsRow base e size v n xs)
    (ad : Addr) (m c : Nat) (news : List Value) (hx : a.eval x = .slice (some ad) m c) (hl : news.length = m * size) (hnews : ∀ j u, news[j]? = some u → w.cell? (ad.add j) = some u) (h1 : ∀ u ∈ news, u.oneCell' = true)
    (h63 : n + m ≤ maxLen) (hbytes : (n + m) * bytes ≤ 140737488355328) (hbase : base ≤ w.heap.size)
    (h : ∀ v' w', w'.ownsRow base e size v' (n + m) (xs ++ news) → w.grownBy w' v.ownBlock → K (a.put o.dst v') w') :
    if Region.wanted o (yielded ops a.tmps) = true then Oper.wp P o a w K Q else E := by
  have hw : Region.wanted o (yielded ops a.tmps) = true := by simp [Region.wanted, hgd]
  rw [if_pos hw]
  exact wp_append_own w s x t ho base e i z size bytes ht hi hz hsize hby hzs hsz v n xs hs hown ad m c news hx hl hnews h1 h63 hbytes hbase (fun v' w' h2 h3 _ => h v' w' h2 h3)
end

set_option maxRecDepth 100000 in
set_option maxHeartbeats 4000000 in
theorem loop_calls (D : List Int) (b0 b1 b2 : Nat) (A : Option Addr) (c : Nat) (w : World) (hD : byted D) (hn : D.length ≤ 1000) (hc : D.length ≤ c) (hC : Kd.C (Kd.int .u8) w A D.length D)
    (h0 : w.cell? ⟨b0, 0, none⟩ = some (.slice A D.length c)) (h1 : w.cell? ⟨b1, 0, none⟩ = some (.bool false)) (h2 : w.cell? ⟨b2, 0, none⟩ = some (.slice none 0 0)) (hf : w.frozen? ⟨b2, 0, none⟩ = false)
    (hb1 : b1 < w.heap.size) (hb2 : b2 < w.heap.size) (h01 : b1 ≠ b2) (hA0 : A = none → c = 0) :
    Calls Try.prog 39 #[.pointer (some ⟨b0, 0, none⟩), .pointer (some ⟨b1, 0, none⟩), .pointer (some ⟨b2, 0, none⟩)] w fun e w' => e = .returned (.tuple #[]) ∧ ∃ v rows, w'.cell? ⟨b2, 0, none⟩ = some v ∧ w'.frozen? ⟨b2, 0, none⟩ = false ∧ w'.ownsRow w.heap.size 35 1 v (linesF D.length D).length rows ∧ RowsAt w' w.heap.size rows (linesF D.length D) ∧ w.grownBy w' (some b2) := by
  obtain ⟨i0, hi, hz0, hz1, hz2⟩ := info_parts info5g
  obtain ⟨i35, hi35, hy0, hy1, hy2⟩ := info_parts info35g
  by_cases hne : D.length = 0
  · have hDe : D = [] := List.length_eq_zero_iff.1 hne
    subst hDe
    have fin : ∀ W, w.grownBy W none → Calls Try.prog 41 #[.slice none 0 0, .bool true] W fun e w' => e = .returned (.tuple #[.int .i64 0, .slice none 0 0, .nilIface]) ∧ w' = W := fun W _ => lines_nil none 0 W
    have H := hidg fin
    clear fin
    cases A with
    | none =>
      obtain rfl := hA0 rfl
      have gr : w.grownBy w none := ⟨rfl, rfl, rfl, Nat.le_refl _, fun _ _ _ => rfl⟩
      go_enter Try.func39, Try.ntmps39
      go_wp2_with (at_builtin; refine wpList_append_own_none rfl _ (.tmp 8) 35 rfl w.heap.size 5 i0 1 Try.underlying35 hi (.slice none 0 0) 0 [] rfl (World.ownsRow_nil _ _ _ _) rfl ?_)
      refine wp_loop_rounds 1 ?_
      rw [rounds_succ]
      go_wp2_with (go_at_call 41; refine (H.out _ gr).mono ?_; rintro e w1 ⟨rfl, rfl⟩)
      refine bodyPost_ret (results_none rfl _ _ _) rfl ?_
      exact ⟨rfl, _, [], h2, hf, World.ownsRow_nil _ _ _ _, ⟨rfl, fun i r l hr => by simp at hr⟩, ⟨rfl, rfl, rfl, Nat.le_refl _, fun _ _ _ => rfl⟩⟩
    | some ad =>
      go_enter Try.func39, Try.ntmps39
      go_wp2_with (at_builtin; refine wpList_append_own _ rfl _ (.tmp 8) 35 rfl w.heap.size 5 i0 (.int .u8 0) 1 1 Try.underlying35 hi hz0 hz1 hz2 rfl (by decide) (.slice none 0 0) 0 [] rfl (World.ownsRow_nil _ _ _ _) ad 0 c [] rfl rfl (fun j u hu => by simp at hu) (fun u hu => by simp at hu) (by decide) (by decide) (Nat.le_refl _) ?_; intro v' w2 ho2 hg2 hnil2; obtain rfl := hnil2.2 ⟨rfl, rfl⟩; have hg3 : w.grownBy w2 none := hg2; clear hg2 hnil2)
      refine wp_loop_rounds 1 ?_
      rw [rounds_succ]
      have k1 : w2.cell? ⟨b1, 0, none⟩ = some (.bool false) := by rw [World.cell?_of_block (hg3.block b1 hb1 (fun h => by cases h))]; exact h1
      go_wp2_with (go_at_call 41; refine (H.out _ hg3).mono ?_; rintro e w1 ⟨rfl, rfl⟩)
      refine bodyPost_ret (results_none rfl _ _ _) rfl ?_
      refine ⟨rfl, _, [], ?_, by rw [World.frozen?_of_block (hg3.block b2 hb2 (fun h => by cases h))]; exact hf, World.ownsRow_nil _ _ _ _, ⟨rfl, fun i r l hr => by simp at hr⟩, ⟨hg3.os, hg3.tape, hg3.output, hg3.size, fun k hk _ => hg3.block k hk (fun h => by cases h)⟩⟩
      rw [World.cell?_of_block (hg3.block b2 hb2 (fun h => by cases h))]; exact h2
  obtain ⟨ad, hA, hcell⟩ := hC.2.2 (by omega)
  subst hA
  have hnews : ∀ j u, (nums .u8 D)[j]? = some u → w.cell? (ad.add j) = some u := fun j u hu => by
    simp only [nums, List.getElem?_map] at hu
    cases hj : D[j]? with
    | none => rw [hj] at hu; simp at hu
    | some p =>
      rw [hj] at hu
      obtain ⟨cs, _, hK, hcs⟩ := hcell j p hj
      have hK' : cs = [.int .u8 p] := hK
      have := hcs 0 (.int .u8 p) (by rw [hK']; rfl)
      have e : j * (Kd.int IntKind.u8).sz + 0 = j := by show j * 1 + 0 = j; omega
      rw [e] at this
      simp at hu
      rw [this, hu]
  clear hcell
  go_enter Try.func39, Try.ntmps39
  go_wp2_with (at_builtin; refine wpList_append_own _ rfl _ (.tmp 8) 35 rfl w.heap.size 5 i0 (.int .u8 0) 1 1 Try.underlying35 hi hz0 hz1 hz2 rfl (by decide) (.slice none 0 0) 0 [] rfl (World.ownsRow_nil _ _ _ _) ad D.length c (nums .u8 D) rfl (by simp [nums]) hnews (fun u hu => by simp [nums] at hu; obtain ⟨_, _, rfl⟩ := hu; rfl) (by unfold maxLen; omega) (by omega) (Nat.le_refl _) ?_; intro v' w2 ho2 hg2 hnil2)
  have hg2' : w.grownBy w2 none := hg2
  simp only [Nat.zero_add, List.nil_append] at ho2
  obtain ⟨g, c0, rfl, hgB, hgS⟩ := ho2.form (by omega)
  have hc0 : D.length ≤ c0 := by
    rcases ho2.2 with ⟨h, _⟩ | ⟨g5, cap, cur, he, _, _, h, _⟩
    · cases h
    · cases he; exact h
  clear hg2 hnil2 hnews h0 hC
  go_loopw [3, 4] (fun rest i wr => ∃ (pos : Nat) (ls : List (List Int)) (v : Value) (rows : List Value), i = .int .i64 (ls.length : Int) ∧ pos ≤ D.length ∧ ls.length ≤ pos ∧
      (pos < D.length → rest = .slice (some ⟨g, pos, none⟩) (D.length - pos) (c0 - pos)) ∧ (pos = D.length → ∃ A' c', rest = .slice A' 0 c') ∧ Hid (ls ++ linesF (D.length - pos) (D.drop pos) = linesF D.length D) ∧
      wr.cell? ⟨b2, 0, none⟩ = some v ∧ wr.frozen? ⟨b2, 0, none⟩ = false ∧ wr.cell? ⟨b1, 0, none⟩ = some (.bool false) ∧ Hid (wr.ownsRow w.heap.size 35 1 v ls.length rows) ∧ Hid (RowsAt wr w.heap.size rows ls) ∧
      Hid (wr.ownsRow w.heap.size 5 1 (.slice (some ⟨g, 0, none⟩) D.length c0) D.length (nums .u8 D)) ∧ Hid (w.grownBy wr (some b2))) (fun _ i _ => D.length + 1 - (intOf i).toNat)
  case atStart =>
    refine ⟨0, [], .slice none 0 0, [], rfl, Nat.zero_le _, Nat.le_refl _, fun _ => rfl, fun h => absurd h.symm hne, hidg (by simp), ?_, ?_, ?_, hidg (World.ownsRow_nil _ _ _ _), hidg ⟨rfl, fun i r l hr => by simp at hr⟩, hidg ho2, hidg ⟨hg2'.os, hg2'.tape, hg2'.output, hg2'.size, fun k hk _ => hg2'.block k hk (fun h => by cases h)⟩⟩
    · rw [World.cell?_of_block (hg2'.block b2 hb2 (fun h => by cases h))]; exact h2
    · rw [World.frozen?_of_block (hg2'.block b2 hb2 (fun h => by cases h))]; exact hf
    · rw [World.cell?_of_block (hg2'.block b1 hb1 (fun h => by cases h))]; exact h1
  case round =>
    obtain ⟨pos, ls, v, rows, rfl, hp, hlp, hr1, hr2, hall, k2, kf, k1, ov, orows, od, og⟩ := hrel
    have i1 : (ls.length : Int) < 65536 := by omega
    by_cases hlt : pos < D.length
    · have hrest := hr1 hlt
      subst hrest
      clear hr1 hr2
      have hlen : (D.drop pos).length = D.length - pos := List.length_drop
      have hrow : RowAt wr g pos (D.drop pos) := fun i hi => by
        have := od.out.cellAt (pos + i) (by omega)
        rw [this, nums, List.getElem?_map, List.getD_eq_getElem?_getD, List.getElem?_drop, List.getElem?_eq_getElem (by omega : pos + i < D.length)]
        rfl
      have H := hidg (lines_calls g pos (c0 - pos) (D.drop pos) wr (fun x hx => hD x (List.mem_of_mem_drop hx)) hrow (by omega) (by omega) (by omega))
      rw [hlen] at H
      obtain ⟨n1, n2, n3, n4⟩ := nextLine_bounds (D.drop pos) (by omega)
      have hstep := linesF_step D pos hlt
      clear hrow
      generalize hX : D.drop pos = X at hlen H n1 n2 n3 n4 hstep hall
      generalize hNX : nextLine X = q at H n1 n2 n3 n4 hstep
      obtain ⟨a, t⟩ := q
      simp only at H n1 n2 n3 n4 hstep
      obtain ⟨a, rfl⟩ : ∃ a' : Nat, a = (a' : Int) := ⟨a.toNat, by omega⟩
      obtain ⟨t, rfl⟩ : ∃ t' : Nat, t = (t' : Int) := ⟨t.toNat, by omega⟩
      simp only [Int.toNat_natCast] at H hstep
      go_wp2_with (go_at_call 41; refine H.out.mono ?_; rintro e w1 ⟨rfl, m, rfl⟩)
      have o1 : (wr.drewN m).ownsRow w.heap.size 35 1 v ls.length rows := ov.out
      have o2 : RowsAt (wr.drewN m) w.heap.size rows ls := orows.out
      have o3 : (wr.drewN m).ownsRow w.heap.size 5 1 (.slice (some ⟨g, 0, none⟩) D.length c0) D.length (nums .u8 D) := od.out
      have o4 : w.grownBy (wr.drewN m) (some b2) := ⟨og.out.os, og.out.tape, og.out.output, og.out.size, og.out.block⟩
      have o5 : (wr.drewN m).cell? ⟨b2, 0, none⟩ = some v := k2
      have o6 : (wr.drewN m).frozen? ⟨b2, 0, none⟩ = false := kf
      have o7 : (wr.drewN m).cell? ⟨b1, 0, none⟩ = some (.bool false) := k1
      generalize wr.drewN m = W1 at o1 o2 o3 o4 o5 o6 o7 ⊢
      clear ov orows od og k2 kf k1 H
      have hnews : ∀ j u, (nums .u8 (X.take t))[j]? = some u → (W1.alloc (.cells #[] 5)).drew.cell? ((⟨g, pos, none⟩ : Addr).add j) = some u := fun j u hu => by
        have hjl : j < (X.take t).length := by
          have := (List.getElem?_eq_some_iff.1 hu).1
          simpa [nums] using this
        rw [List.length_take] at hjl
        have hg3 := (o3.lt g rfl).2
        have e : ((⟨g, pos, none⟩ : Addr).add j) = ⟨g, pos + j, none⟩ := by unfold Addr.add; split <;> simp_all
        have hcell : W1.cell? ⟨g, pos + j, none⟩ = some u := by
          rw [o3.cellAt (pos + j) (by omega), ← hu]
          simp only [nums, List.getElem?_map, List.getElem?_take, if_pos (show j < t by omega), ← hX, List.getElem?_drop]
        rw [e]
        exact (World.cell?_of_block (Below.heap_alloc W1 (.cells #[] 5) g hg3)).trans hcell
      have hs := o4.size
      have HX := hidg (⟨o1, o2, o3, o4, hnews⟩ : _ ∧ _ ∧ _ ∧ _ ∧ _)
      clear o1 o2 o3 o4 hnews
      have hb2W : b2 < W1.heap.size := by omega
      have r1 : pos + a ≤ D.length := by omega
      have r2 : (ls ++ [X.take t]).length ≤ pos + a := by simp; omega
      have r3 : pos + a < D.length → ¬ (c0 - pos = a) := fun h => by omega
      have r4 : D.length - pos - a = D.length - (pos + a) := by omega
      have r6 : c0 - pos - a = c0 - (pos + a) := by omega
      have r5 : D.length + 1 - ((ls.length : Int) + 1).toNat < D.length + 1 - (ls.length : Int).toNat := by omega
      have r7 : (X.take t).length = t := by rw [List.length_take]; omega
      have r8 : pos + a = D.length → D.length - pos - a = 0 := fun h => by omega
      have r9 : Hid ((ls ++ [X.take t]) ++ linesF (D.length - (pos + a)) (D.drop (pos + a)) = linesF D.length D) := hidg (by rw [← hall.out, hstep]; simp)
      obtain ⟨np, hnp⟩ : ∃ np, D.length - pos = np := ⟨_, rfl⟩
      obtain ⟨cp, hcp⟩ : ∃ cp, c0 - pos = cp := ⟨_, rfl⟩
      have i3 : ¬ ((a : Int) > (np : Int)) := by omega
      have i4 : (a : Int) ≤ (np : Int) := by omega
      have i5 : np ≤ cp := by omega
      have i6 : (np : Int) ≤ (cp : Int) := by omega
      have i2 : ¬ ((a : Int) ≤ 0) := by omega
      have htcp : t ≤ np := by omega
      have hls : ls.length ≤ 1000 := by omega
      have hnp1 : np ≤ 1000 := by omega
      rw [hnp] at r4 r8
      rw [hcp] at r3 r6
      have HR := hidg (⟨r1, r2, r3, r4, r5, r6, r7, r8, r9⟩ : _ ∧ _ ∧ _ ∧ _ ∧ _ ∧ _ ∧ _ ∧ _ ∧ _)
      rw [hnp, hcp]
      clear r1 r2 r3 r4 r5 r6 r7 r8 r9 hstep hall i1 hX hNX n2 n4 hp hlp hlt hc0 hcp hnp
      go_region_law (first
        | (refine step_append_own rfl (.tmp 33) (.tmp 34) 35 rfl w.heap.size 5 i0 (.int .u8 0) 1 1 Try.underlying35 hi hz0 hz1 hz2 rfl (by decide) _ 0 [] rfl (own_drew (World.ownsRow_lit W1 #[] 0 hs (by decide) rfl)) ⟨g, pos, none⟩ t cp (nums .u8 (X.take t)) rfl (by rw [nums, List.length_map, HR.out.2.2.2.2.2.2.1, Nat.mul_one]) HX.out.2.2.2.2 (fun u hu => by obtain ⟨_, _, rfl⟩ := List.mem_map.1 hu; rfl) (by unfold maxLen; omega) (by omega) (by simp; omega) ?_; intro r w2 hor hgr
           simp only [Nat.zero_add, List.nil_append] at hor
           obtain ⟨Ar, cr, rfl⟩ := own_slice hor
           have hgr2 : ((W1.alloc (.cells #[] 5)).drew).grownBy w2 (some W1.heap.size) := hgr
           have hsr : W1.heap.size + 1 ≤ w2.heap.size := by have := hgr2.size; simpa using this
           have ov2 : w2.ownsRow w.heap.size 35 1 v ls.length rows := own_move HX.out.1 (fun j hj => by
             have h1 := (HX.out.1.lt j hj).2
             rw [hgr2.block j (by simp; omega) (fun h => by simp at h; omega)]
             exact Below.heap_alloc _ _ _ h1)
           have hold2 : ∀ j, j < W1.heap.size → w2.heap[j]? = W1.heap[j]? := fun j hj => by
             rw [hgr2.block j (by simp; omega) (fun h => by simp at h; omega)]
             exact Below.heap_alloc _ _ _ hj
           have k22 : w2.cell? ⟨b2, 0, none⟩ = some v := by rw [World.cell?_of_block (hold2 b2 hb2W)]; exact o5
           have hb2w2 : b2 < w2.heap.size := by omega
           clear hgr)
        | (refine step_append_own rfl (.tmp 32) (.tmp 36) 44 rfl w.heap.size 35 i35 (.slice none 0 0) 1 24 Try.underlying44 hi35 hy0 hy1 hy2 rfl (by decide) _ _ _ rfl (ov2.alloc _) ⟨w2.heap.size, 0, none⟩ 1 1 [.slice Ar t cr] rfl rfl (cell_one_new _ _ _) (fun u hu => by simp at hu; subst hu; rfl) (by unfold maxLen; omega) (by omega) (by simp; omega) ?_; intro v2 w3 hov3 hgv3
           obtain ⟨A2, c2, rfl⟩ := own_slice hov3
           have hgv4 : (w2.alloc (.cells #[.slice Ar t cr] 35)).grownBy w3 v.ownBlock := hgv3
           have hsv : w2.heap.size + 1 ≤ w3.heap.size := by have := hgv4.size; simpa using this
           have hold : ∀ j, j < W1.heap.size → some j ≠ v.ownBlock → w3.heap[j]? = W1.heap[j]? := fun j hj hne => by
             rw [hgv4.block j (by simp; omega) hne, Below.heap_alloc _ _ _ (by omega), hgr2.block j (by simp; omega) (fun h => by simp at h; omega)]
             exact Below.heap_alloc _ _ _ hj
           have hb2v : some b2 ≠ v.ownBlock := fun h => by have := (HX.out.1.lt b2 h.symm).1; omega
           have k3 : w3.cell? ⟨b2, 0, none⟩ = some v := by rw [World.cell?_of_block (hold b2 (by omega) hb2v)]; exact o5
           have kf3 : w3.frozen? ⟨b2, 0, none⟩ = false := by rw [World.frozen?_of_block (hold b2 (by omega) hb2v)]; exact o6
           clear hgv3))
      all_goals
        have HO := hidg hold
        clear hold hold2
        go_wp2
        obtain ⟨r1, r2, r3, r4, r5, r6, r7, r8, r9⟩ := HR.out
        obtain ⟨q1, q2, q3, q4, _⟩ := HX.out
        obtain ⟨f1, f2, f3, f4, f5, f6, f7⟩ := round_end hb1 hb2 h01 q1 q2 q3 q4 o7 hor hgr2 ov2 hov3 hgv4 k3 kf3 HO.out r7
        have e1 : (ls ++ [X.take t]).length = ls.length + 1 := by simp
        go_roundw
        case rel =>
          refine ⟨pos + a, ls ++ [X.take t], _, _, by rw [e1]; rfl, r1, r2, fun h => ?_, fun h => ⟨_, _, by rw [r8 h]⟩, r9, f1, f2, f3, by rw [e1]; exact hidg f4, hidg f5, hidg f6, hidg f7⟩
          rw [if_neg (r3 h), r4, r6]
        case measure => exact r5
    · have hpe : pos = D.length := by omega
      subst hpe
      obtain ⟨A', c', rfl⟩ := hr2 rfl
      clear hr1 hr2
      have H := hidg (lines_nil A' c' wr)
      go_wp2_with (go_at_call 41; refine H.out.mono ?_; rintro e w1 ⟨rfl, rfl⟩)
      have hfin := hall.out
      rw [Nat.sub_self, List.drop_length, show linesF 0 [] = [] from rfl, List.append_nil] at hfin
      refine bodyPost_ret (results_none rfl _ _ _) rfl ?_
      have hov := ov.out
      have hro := orows.out
      rw [hfin] at hro
      rw [← hfin]
      exact ⟨rfl, v, rows, k2, kf, hov, by rw [hfin]; exact hro, og.out⟩
end Go.Proofs.Ytmngibfakkfnnaa
