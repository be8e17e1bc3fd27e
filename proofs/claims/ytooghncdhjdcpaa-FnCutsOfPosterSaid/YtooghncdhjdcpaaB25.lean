/-
The law FnGridRects: model.NUp.RectsForGrid walked, by its four orders. Conditions: at most ten rows and columns; the operations' words are given.
-/
import Derived.Test.YtooghncdhjdcpaaA6
import Derived.Test.YtooghncdhjdcpaaN2
import Derived.Laws.AppendOwn
import Derived.Laws.OwnMore
import Derived.Deep.Grids
namespace Go.Proofs.Ytooghncdhjdcpaa
open Go.RowKit Fl

abbrev ptrV (g : Nat) : Value := .pointer (some ⟨g, 0, none⟩)
/-- Rectangles that the call has collected: their pointers in a row of its own, the k-th with the words A k .. D k. -/
def Coll (w : World) (n : Nat) (A B C D : Nat → Nat) (v : Value) (wr : World) : Prop :=
  Below w.heap.size w wr ∧ ∃ gs : List Nat, gs.length = n ∧ wr.ownsRow w.heap.size 101 1 v n (gs.map ptrV) ∧ ∀ k g, gs[k]? = some g → RectAt wr g (A k) (B k) (C k) (D k)
theorem info101 : (Try.prog.info? 101).map (fun i => (i.zero, i.size, i.bytes)) = some (some (.pointer none), 1, 8) := by kernel_rfl
theorem new_at (W : World) (n : Nat) (hn : n = W.heap.size) (l : List Value) (t : TypeId) : ∀ (j : Nat) (u : Value), l[j]? = some u → (W.alloc (.cells l.toArray t)).cell? ((⟨n, 0, none⟩ : Addr).add j) = some u := by
  intro j u hu
  subst hn
  have e : ((⟨W.heap.size, 0, none⟩ : Addr).add j) = ⟨W.heap.size, j, none⟩ := by simp only [Addr.add, Nat.zero_add]; cases j <;> rfl
  rw [e, cell_alloc_at]
  simpa using hu
/-- A block of a row of pointers is none of the rectangles'. -/
theorem own_ne {W : World} {base n : Nat} {v : Value} {gs : List Nat} {g a b c d : Nat} (h : W.ownsRow base 101 1 v n (gs.map ptrV)) (hr : RectAt W g a b c d) (hn : 0 < n) : v.ownBlock ≠ some g := by
  intro e
  rcases h.2 with ⟨_, h0⟩ | ⟨g', c', cur, rfl, hb, hg, hnc, hcm, hcs, ht⟩
  · omega
  · obtain rfl : g' = g := by simpa [Value.ownBlock] using e
    have h1 : (gs.map ptrV).length = n * 1 := h.1
    have h2 : (cur.toList.take (n * 1))[0]? = some (ptrV (gs.getD 0 0)) := by
      rw [ht, List.getElem?_map]
      cases gs with
      | nil => simp at h1; omega
      | cons x xs => rfl
    rw [List.getElem?_take_of_lt (by omega), Array.getElem?_toList] at h2
    have h3 := hr.2.1
    simp only [World.cell?, hg] at h3
    have h4 : cur[0]? = some (.float .f64 a) := by simpa using h3
    rw [h2] at h4
    cases h4
theorem coll_nil (w : World) (A B C D : Nat → Nat) (W : World) (hb : Below w.heap.size w W) (o : Obj) (he : o = .cells #[] 101) : Coll w 0 A B C D (.slice (some ⟨W.heap.size, 0, none⟩) 0 0) (W.alloc o) := by
  subst he
  exact ⟨bel_alloc _ hb, [], rfl, World.ownsRow_lit W #[] 0 hb.size (by decide) rfl, fun k g h => by simp at h⟩
theorem Coll.step {w wr w' : World} {n : Nat} {A B C D : Nat → Nat} {v v' : Value} {gs : List Nat} (hB : Below w.heap.size w wr) (hl : gs.length = n) (ho : wr.ownsRow w.heap.size 101 1 v n (gs.map ptrV)) (hr : ∀ k g, gs[k]? = some g → RectAt wr g (A k) (B k) (C k) (D k))
    {a b c d : Nat} (ha : A n = a) (hb : B n = b) (hc : C n = c) (hd : D n = d) (ho' : w'.ownsRow w.heap.size 101 1 v' (n + 1) (gs.map ptrV ++ [ptrV wr.heap.size]))
    (hg : ((wr.alloc (.cells #[.float .f64 a, .float .f64 b, .float .f64 c, .float .f64 d] 157)).alloc (.cells #[ptrV wr.heap.size] 101)).grownBy w' v.ownBlock) : Coll w (n + 1) A B C D v' w' := by
  have hb2 : Below w.heap.size w ((wr.alloc (.cells #[.float .f64 a, .float .f64 b, .float .f64 c, .float .f64 d] 157)).alloc (.cells #[ptrV wr.heap.size] 101)) := bel_alloc _ (bel_alloc _ hB)
  refine ⟨hb2.grown hg (by have := hB.size; simp; omega) (fun k hk => (ho.lt k hk).1), gs ++ [wr.heap.size], by simp [hl], ?_, ?_⟩
  · rw [List.map_append]; exact ho'
  · intro k g hk
    have hs := hg.size
    simp at hs
    have old : ∀ g x y z u, RectAt ((wr.alloc (.cells #[.float .f64 a, .float .f64 b, .float .f64 c, .float .f64 d] 157)).alloc (.cells #[ptrV wr.heap.size] 101)) g x y z u → v.ownBlock ≠ some g → RectAt w' g x y z u := by
      intro g x y z u ⟨r0, r1, r2, r3, r4⟩ hne
      have e : ∀ j, w'.cell? ⟨g, j, none⟩ = ((wr.alloc (.cells #[.float .f64 a, .float .f64 b, .float .f64 c, .float .f64 d] 157)).alloc (.cells #[ptrV wr.heap.size] 101)).cell? ⟨g, j, none⟩ := fun j => World.cell?_of_block (a := ⟨g, j, none⟩) (hg.block g r0 (fun h => hne h.symm))
      exact ⟨by have := hg.size; omega, by rw [e]; exact r1, by rw [e]; exact r2, by rw [e]; exact r3, by rw [e]; exact r4⟩
    rcases Nat.lt_or_ge k n with hlt | hge
    · rw [List.getElem?_append_left (by omega)] at hk
      have h1 := hr k g hk
      exact old _ _ _ _ _ ((h1.below (below1 _ _)).below (below1 _ _)) (own_ne ho h1 (by omega))
    · have hkn : k = n := by
        have := (List.getElem?_eq_some_iff.1 hk).1
        simp at this
        omega
      subst hkn
      rw [List.getElem?_append_right (by omega), hl, Nat.sub_self] at hk
      obtain rfl : wr.heap.size = g := by simpa using hk
      rw [ha, hb, hc, hd]
      refine old _ _ _ _ _ ((rectAt_new wr wr.heap.size a b c d 157 rfl).below (below1 _ _)) ?_
      intro h
      have := (ho.lt _ h).2
      omega

/-- What NUp holds. -/
abbrev nupV (p g : Nat) (o : Int) : Value := .agg #[ptrV p, .string ⟨#[65, 52]⟩, .bool false, .int .i64 o, .bool true, ptrV g, .bool false, .bool false, .float .f64 4613937818241073152, .bool true, .pointer none, .bool false, .bool false, .int .i64 0, .int .i64 0, .int .i64 0, .int .i64 0, .pointer none]
/-- The words of a grid: the cell's sides; each column's left and right, each row's lower and upper edge. -/
structure GridW (X Y cols rows gw gh : Nat) (lx ux ly uy : Nat → Nat) : Prop where
  hgw : floatBits .quo .f64 X (floatOfInt .f64 (cols : Int)) = some gw
  hgh : floatBits .quo .f64 Y (floatOfInt .f64 (rows : Int)) = some gh
  hlx : ∀ c, c < cols → floatBits .mul .f64 (floatOfInt .f64 (c : Int)) gw = some (lx c)
  hux : ∀ c, c < cols → floatBits .add .f64 (lx c) gw = some (ux c)
  hly : ∀ r, r < rows → floatBits .mul .f64 (floatOfInt .f64 (r : Int)) gh = some (ly r)
  huy : ∀ r, r < rows → floatBits .add .f64 (ly r) gh = some (uy r)
theorem toInt_small : ∀ n, n < 11 → floatToIntVal .f64 (floatOfInt .f64 ((n : Nat) : Int)) .i64 = some ((n : Nat) : Int) := by decide +kernel
theorem div_row {a b m : Nat} (h : b < m) : (a * m + b) / m = a ∧ (a * m + b) % m = b := by
  have hm : 0 < m := by omega
  exact ⟨by rw [Nat.mul_comm, Nat.mul_add_div hm, Nat.div_eq_of_lt h, Nat.add_zero], by rw [Nat.mul_comm, Nat.mul_add_mod, Nat.mod_eq_of_lt h]⟩

set_option maxRecDepth 100000 in
set_option maxHeartbeats 8000000 in
theorem grid_0 {X Y cols rows gw gh : Nat} {lx ux ly uy : Nat → Nat} (hG : GridW X Y cols rows gw gh lx ux ly uy) (hc : cols < 11) (hr : rows < 11) (pd gd : Nat) (w : World) (hp : PtAt w pd X Y) (hg : PtAt w gd (floatOfInt .f64 (cols : Int)) (floatOfInt .f64 (rows : Int))) (hpl : pd < w.heap.size) (hgl : gd < w.heap.size) :
    Calls Try.prog 94 #[nupV pd gd 0] w fun e w' => ∃ v, e = .returned v ∧ Coll w (rows * cols) (fun k => lx (k % cols)) (fun k => ly (rows - 1 - k / cols)) (fun k => ux (k % cols)) (fun k => uy (rows - 1 - k / cols)) v w' := by
  obtain ⟨i0, hi, hz0, hz1, hz2⟩ := info_parts info101
  have hpn : pd ≠ w.heap.size := by omega
  have hgn : gd ≠ w.heap.size := by omega
  obtain ⟨p0, p1, _, _⟩ := hp
  obtain ⟨g0, g1, _, _⟩ := hg
  have t1 := fun w => run_convert_float_int (P := Try.prog) w 22 3 .f64 .i64 _ _ (by kernel_rfl) Try.underlying3 (toInt_small cols hc)
  have t2 := fun w => run_convert_float_int (P := Try.prog) w 22 3 .f64 .i64 _ _ (by kernel_rfl) Try.underlying3 (toInt_small rows hr)
  have u1 := run_bin (P := Try.prog) .quo hG.hgw
  have u2 := run_bin (P := Try.prog) .quo hG.hgh
  have HG := Lib.hid hG
  clear hG
  have H0 : Hid (Coll w 0 (fun k => lx (k % cols)) (fun k => ly (rows - 1 - k / cols)) (fun k => ux (k % cols)) (fun k => uy (rows - 1 - k / cols)) (.slice (some ⟨w.heap.size + 1, 0, none⟩) 0 0) ((w.alloc (.cells (nupV pd gd 0).cells 151)).alloc (.cells #[] 101))) := Lib.hid (by
    have := coll_nil w (fun k => lx (k % cols)) (fun k => ly (rows - 1 - k / cols)) (fun k => ux (k % cols)) (fun k => uy (rows - 1 - k / cols)) (w.alloc (.cells (nupV pd gd 0).cells 151)) (below1 _ _) _ rfl
    simpa using this)
  go_enter Try.func94, Try.ntmps94
  go_wp2_with fail

  go_loopw [11, 12] (fun v i wr => ∃ (n1 : Nat) (z : Int), n1 ≤ rows ∧ i = .int .i64 z ∧ z = ((n1 : Nat) : Int) - 1 ∧ Hid (Coll w ((rows - n1) * cols) (fun k => lx (k % cols)) (fun k => ly (rows - 1 - k / cols)) (fun k => ux (k % cols)) (fun k => uy (rows - 1 - k / cols)) v wr)) (fun _ i _ => (intOf i + 1).toNat)
  case atStart => exact ⟨rows, _, Nat.le_refl _, rfl, by omega, Lib.hid (by rw [Nat.sub_self, Nat.zero_mul]; exact H0.out)⟩
  case round =>
    clear H0 p0 p1 g0 g1 t1 t2 u1 u2
    obtain ⟨n1, z, hn1, rfl, hz, hC⟩ := hrel
    cases n1 with
    | zero =>
      have hC' : Hid (Coll w (rows * cols) (fun k => lx (k % cols)) (fun k => ly (rows - 1 - k / cols)) (fun k => ux (k % cols)) (fun k => uy (rows - 1 - k / cols)) u11 wr) := hC
      clear hC
      go_wp2_with fail
      go_ret
      exact ⟨_, rfl, hC'.out⟩
    | succ m =>
      obtain ⟨x, hx, rfl⟩ : ∃ x : Nat, x < rows ∧ z = (x : Int) := ⟨m, by omega, by omega⟩
      have hxe : x = m := by omega
      have HXE := Lib.hid hxe
      have HZ := Lib.hid hz
      clear hxe hz
      go_wp2_with fail
      go_loopw [11, 13] (fun v j wr => ∃ (n2 : Nat) (y : Int), n2 ≤ cols ∧ j = .int .i64 y ∧ y = ((cols : Nat) : Int) - ((n2 : Nat) : Int) ∧ Hid (Coll w ((rows - (m + 1)) * cols + (cols - n2)) (fun k => lx (k % cols)) (fun k => ly (rows - 1 - k / cols)) (fun k => ux (k % cols)) (fun k => uy (rows - 1 - k / cols)) v wr)) (fun _ j _ => cols - (intOf j).toNat)
      case atStart => exact ⟨cols, _, Nat.le_refl _, rfl, by omega, Lib.hid (by rw [Nat.sub_self, Nat.add_zero]; exact hC.out)⟩
      case round =>
        clear hC
        obtain ⟨n2, y, hn2, rfl, hy, hC⟩ := hrel
        cases n2 with
        | zero =>
          have HY := Lib.hid hy
          have hyv : (cols : Int) ≤ y := by omega
          clear hy
          go_wp2_with fail
          go_roundw
          case rel => exact ⟨m, _, by omega, rfl, by have := HZ.out; omega, Lib.hid (by rw [show rows - m = (rows - (m + 1)) + 1 by omega, Nat.succ_mul]; exact hC.out)⟩
          case measure => have := HZ.out; simp [intOf] <;> omega
        | succ s =>
          obtain ⟨yy, hyy, rfl⟩ : ∃ yy : Nat, yy < cols ∧ y = (yy : Int) := ⟨cols - (s + 1), by omega, by omega⟩
          have hye : yy = cols - (s + 1) := by omega
          have HYE := Lib.hid hye
          have HY := Lib.hid hy
          clear hye hy
          obtain ⟨hB, gs, hl, ho, hr2⟩ := hC.out
          have hN : (rows - (m + 1)) * cols + (cols - (s + 1)) < 1000 := by
            have := Nat.mul_le_mul (show rows - (m + 1) ≤ 10 by omega) (show cols ≤ 10 by omega)
            omega
          have HB := Lib.hid hB
          have HL := Lib.hid hl
          have HO := Lib.hid ho
          have HR := Lib.hid hr2
          have HS := Lib.hid hB.size
          obtain ⟨n, hn⟩ : ∃ n, n = (rows - (m + 1)) * cols + (cols - (s + 1)) := ⟨_, rfl⟩
          rw [← hn] at hN HL HO
          have HNE := Lib.hid hn
          clear hn hC hB hl ho hr2
          have w1 := run_bin (P := Try.prog) .mul (HG.out.hlx yy (by omega))
          have w2 := run_bin (P := Try.prog) .add (HG.out.hux yy (by omega))
          have w3 := run_bin (P := Try.prog) .mul (HG.out.hly x (by omega))
          have w4 := run_bin (P := Try.prog) .add (HG.out.huy x (by omega))
          go_wp2_with (first | (go_at_call 98; go_in) | (at_builtin; refine wpList_append_own _ rfl (.tmp 74) (.tmp 84) 152 rfl w.heap.size 101 i0 (.pointer none) 1 8 Try.underlying152 hi hz0 hz1 hz2 rfl (by decide) _ n _ rfl ((HO.out.alloc _).alloc _) ⟨wr.heap.size + 1, 0, none⟩ 1 1 [ptrV wr.heap.size] rfl rfl (new_at _ _ (by simp) _ _) (fun u hu => by simp at hu; subst hu; rfl) (by unfold maxLen; omega) (by omega) (by have := HS.out; simp; omega) ?_; intro v' w' ho' hg' _))
          have hD := div_row (a := rows - (m + 1)) (b := cols - (s + 1)) (m := cols) (by omega)
          rw [← HNE.out] at hD
          have hst : Coll w (n + 1) (fun k => lx (k % cols)) (fun k => ly (rows - 1 - k / cols)) (fun k => ux (k % cols)) (fun k => uy (rows - 1 - k / cols)) v' w' := Coll.step HB.out HL.out HO.out HR.out (a := lx yy) (b := ly x) (c := ux yy) (d := uy x) (congrArg lx (by have := HXE.out; have := HYE.out; omega)) (congrArg ly (by have := HXE.out; have := HYE.out; omega)) (congrArg ux (by have := HXE.out; have := HYE.out; omega)) (congrArg uy (by have := HXE.out; have := HYE.out; omega)) ho' hg'
          have HST := Lib.hid hst
          clear ho' hg' hD hst w1 w2 w3 w4
          go_wp2_with fail
          go_roundw
          case rel => exact ⟨s, _, by omega, rfl, by have := HY.out; omega, Lib.hid (by rw [show (rows - (m + 1)) * cols + (cols - s) = n + 1 by have := HNE.out; omega]; exact HST.out)⟩
          case measure => have := HY.out; simp [intOf] <;> omega

set_option maxRecDepth 100000 in
set_option maxHeartbeats 8000000 in
theorem grid_1 {X Y cols rows gw gh : Nat} {lx ux ly uy : Nat → Nat} (hG : GridW X Y cols rows gw gh lx ux ly uy) (hc : cols < 11) (hr : rows < 11) (pd gd : Nat) (w : World) (hp : PtAt w pd X Y) (hg : PtAt w gd (floatOfInt .f64 (cols : Int)) (floatOfInt .f64 (rows : Int))) (hpl : pd < w.heap.size) (hgl : gd < w.heap.size) :
    Calls Try.prog 94 #[nupV pd gd 1] w fun e w' => ∃ v, e = .returned v ∧ Coll w (cols * rows) (fun k => lx (k / rows)) (fun k => ly (rows - 1 - k % rows)) (fun k => ux (k / rows)) (fun k => uy (rows - 1 - k % rows)) v w' := by
  obtain ⟨i0, hi, hz0, hz1, hz2⟩ := info_parts info101
  have hpn : pd ≠ w.heap.size := by omega
  have hgn : gd ≠ w.heap.size := by omega
  obtain ⟨p0, p1, _, _⟩ := hp
  obtain ⟨g0, g1, _, _⟩ := hg
  have t1 := fun w => run_convert_float_int (P := Try.prog) w 22 3 .f64 .i64 _ _ (by kernel_rfl) Try.underlying3 (toInt_small cols hc)
  have t2 := fun w => run_convert_float_int (P := Try.prog) w 22 3 .f64 .i64 _ _ (by kernel_rfl) Try.underlying3 (toInt_small rows hr)
  have u1 := run_bin (P := Try.prog) .quo hG.hgw
  have u2 := run_bin (P := Try.prog) .quo hG.hgh
  have HG := Lib.hid hG
  clear hG
  have H0 : Hid (Coll w 0 (fun k => lx (k / rows)) (fun k => ly (rows - 1 - k % rows)) (fun k => ux (k / rows)) (fun k => uy (rows - 1 - k % rows)) (.slice (some ⟨w.heap.size + 1, 0, none⟩) 0 0) ((w.alloc (.cells (nupV pd gd 1).cells 151)).alloc (.cells #[] 101))) := Lib.hid (by
    have := coll_nil w (fun k => lx (k / rows)) (fun k => ly (rows - 1 - k % rows)) (fun k => ux (k / rows)) (fun k => uy (rows - 1 - k % rows)) (w.alloc (.cells (nupV pd gd 1).cells 151)) (below1 _ _) _ rfl
    simpa using this)
  go_enter Try.func94, Try.ntmps94
  go_wp2_with fail

  go_loopw [11, 14] (fun v i wr => ∃ (n1 : Nat) (z : Int), n1 ≤ cols ∧ i = .int .i64 z ∧ z = ((cols : Nat) : Int) - ((n1 : Nat) : Int) ∧ Hid (Coll w ((cols - n1) * rows) (fun k => lx (k / rows)) (fun k => ly (rows - 1 - k % rows)) (fun k => ux (k / rows)) (fun k => uy (rows - 1 - k % rows)) v wr)) (fun _ i _ => cols - (intOf i).toNat)
  case atStart => exact ⟨cols, _, Nat.le_refl _, rfl, by omega, Lib.hid (by rw [Nat.sub_self, Nat.zero_mul]; exact H0.out)⟩
  case round =>
    clear H0 p0 p1 g0 g1 t1 t2 u1 u2
    obtain ⟨n1, z, hn1, rfl, hz, hC⟩ := hrel
    cases n1 with
    | zero =>
      have hC' : Hid (Coll w (cols * rows) (fun k => lx (k / rows)) (fun k => ly (rows - 1 - k % rows)) (fun k => ux (k / rows)) (fun k => uy (rows - 1 - k % rows)) u11 wr) := hC
      clear hC
      go_wp2_with fail
      go_ret
      exact ⟨_, rfl, hC'.out⟩
    | succ m =>
      obtain ⟨x, hx, rfl⟩ : ∃ x : Nat, x < cols ∧ z = (x : Int) := ⟨cols - (m + 1), by omega, by omega⟩
      have hxe : x = cols - (m + 1) := by omega
      have HXE := Lib.hid hxe
      have HZ := Lib.hid hz
      clear hxe hz
      go_wp2_with fail
      go_loopw [11, 15] (fun v j wr => ∃ (n2 : Nat) (y : Int), n2 ≤ rows ∧ j = .int .i64 y ∧ y = ((n2 : Nat) : Int) - 1 ∧ Hid (Coll w ((cols - (m + 1)) * rows + (rows - n2)) (fun k => lx (k / rows)) (fun k => ly (rows - 1 - k % rows)) (fun k => ux (k / rows)) (fun k => uy (rows - 1 - k % rows)) v wr)) (fun _ j _ => (intOf j + 1).toNat)
      case atStart => exact ⟨rows, _, Nat.le_refl _, rfl, by omega, Lib.hid (by rw [Nat.sub_self, Nat.add_zero]; exact hC.out)⟩
      case round =>
        clear hC
        obtain ⟨n2, y, hn2, rfl, hy, hC⟩ := hrel
        cases n2 with
        | zero =>
          have HY := Lib.hid hy
          have hyv : y < 0 := by omega
          clear hy
          go_wp2_with fail
          go_roundw
          case rel => exact ⟨m, _, by omega, rfl, by have := HZ.out; omega, Lib.hid (by rw [show cols - m = (cols - (m + 1)) + 1 by omega, Nat.succ_mul]; exact hC.out)⟩
          case measure => have := HZ.out; simp [intOf] <;> omega
        | succ s =>
          obtain ⟨yy, hyy, rfl⟩ : ∃ yy : Nat, yy < rows ∧ y = (yy : Int) := ⟨s, by omega, by omega⟩
          have hye : yy = s := by omega
          have HYE := Lib.hid hye
          have HY := Lib.hid hy
          clear hye hy
          obtain ⟨hB, gs, hl, ho, hr2⟩ := hC.out
          have hN : (cols - (m + 1)) * rows + (rows - (s + 1)) < 1000 := by
            have := Nat.mul_le_mul (show cols - (m + 1) ≤ 10 by omega) (show rows ≤ 10 by omega)
            omega
          have HB := Lib.hid hB
          have HL := Lib.hid hl
          have HO := Lib.hid ho
          have HR := Lib.hid hr2
          have HS := Lib.hid hB.size
          obtain ⟨n, hn⟩ : ∃ n, n = (cols - (m + 1)) * rows + (rows - (s + 1)) := ⟨_, rfl⟩
          rw [← hn] at hN HL HO
          have HNE := Lib.hid hn
          clear hn hC hB hl ho hr2
          have w1 := run_bin (P := Try.prog) .mul (HG.out.hlx x (by omega))
          have w2 := run_bin (P := Try.prog) .add (HG.out.hux x (by omega))
          have w3 := run_bin (P := Try.prog) .mul (HG.out.hly yy (by omega))
          have w4 := run_bin (P := Try.prog) .add (HG.out.huy yy (by omega))
          go_wp2_with (first | (go_at_call 98; go_in) | (at_builtin; refine wpList_append_own _ rfl (.tmp 107) (.tmp 117) 152 rfl w.heap.size 101 i0 (.pointer none) 1 8 Try.underlying152 hi hz0 hz1 hz2 rfl (by decide) _ n _ rfl ((HO.out.alloc _).alloc _) ⟨wr.heap.size + 1, 0, none⟩ 1 1 [ptrV wr.heap.size] rfl rfl (new_at _ _ (by simp) _ _) (fun u hu => by simp at hu; subst hu; rfl) (by unfold maxLen; omega) (by omega) (by have := HS.out; simp; omega) ?_; intro v' w' ho' hg' _))
          have hD := div_row (a := cols - (m + 1)) (b := rows - (s + 1)) (m := rows) (by omega)
          rw [← HNE.out] at hD
          have hst : Coll w (n + 1) (fun k => lx (k / rows)) (fun k => ly (rows - 1 - k % rows)) (fun k => ux (k / rows)) (fun k => uy (rows - 1 - k % rows)) v' w' := Coll.step HB.out HL.out HO.out HR.out (a := lx x) (b := ly yy) (c := ux x) (d := uy yy) (congrArg lx (by have := HXE.out; have := HYE.out; omega)) (congrArg ly (by have := HXE.out; have := HYE.out; omega)) (congrArg ux (by have := HXE.out; have := HYE.out; omega)) (congrArg uy (by have := HXE.out; have := HYE.out; omega)) ho' hg'
          have HST := Lib.hid hst
          clear ho' hg' hD hst w1 w2 w3 w4
          go_wp2_with fail
          go_roundw
          case rel => exact ⟨s, _, by omega, rfl, by have := HY.out; omega, Lib.hid (by rw [show (cols - (m + 1)) * rows + (rows - s) = n + 1 by have := HNE.out; omega]; exact HST.out)⟩
          case measure => have := HY.out; simp [intOf] <;> omega

set_option maxRecDepth 100000 in
set_option maxHeartbeats 8000000 in
theorem grid_2 {X Y cols rows gw gh : Nat} {lx ux ly uy : Nat → Nat} (hG : GridW X Y cols rows gw gh lx ux ly uy) (hc : cols < 11) (hr : rows < 11) (pd gd : Nat) (w : World) (hp : PtAt w pd X Y) (hg : PtAt w gd (floatOfInt .f64 (cols : Int)) (floatOfInt .f64 (rows : Int))) (hpl : pd < w.heap.size) (hgl : gd < w.heap.size) :
    Calls Try.prog 94 #[nupV pd gd 2] w fun e w' => ∃ v, e = .returned v ∧ Coll w (rows * cols) (fun k => lx (cols - 1 - k % cols)) (fun k => ly (rows - 1 - k / cols)) (fun k => ux (cols - 1 - k % cols)) (fun k => uy (rows - 1 - k / cols)) v w' := by
  obtain ⟨i0, hi, hz0, hz1, hz2⟩ := info_parts info101
  have hpn : pd ≠ w.heap.size := by omega
  have hgn : gd ≠ w.heap.size := by omega
  obtain ⟨p0, p1, _, _⟩ := hp
  obtain ⟨g0, g1, _, _⟩ := hg
  have t1 := fun w => run_convert_float_int (P := Try.prog) w 22 3 .f64 .i64 _ _ (by kernel_rfl) Try.underlying3 (toInt_small cols hc)
  have t2 := fun w => run_convert_float_int (P := Try.prog) w 22 3 .f64 .i64 _ _ (by kernel_rfl) Try.underlying3 (toInt_small rows hr)
  have u1 := run_bin (P := Try.prog) .quo hG.hgw
  have u2 := run_bin (P := Try.prog) .quo hG.hgh
  have HG := Lib.hid hG
  clear hG
  have H0 : Hid (Coll w 0 (fun k => lx (cols - 1 - k % cols)) (fun k => ly (rows - 1 - k / cols)) (fun k => ux (cols - 1 - k % cols)) (fun k => uy (rows - 1 - k / cols)) (.slice (some ⟨w.heap.size + 1, 0, none⟩) 0 0) ((w.alloc (.cells (nupV pd gd 2).cells 151)).alloc (.cells #[] 101))) := Lib.hid (by
    have := coll_nil w (fun k => lx (cols - 1 - k % cols)) (fun k => ly (rows - 1 - k / cols)) (fun k => ux (cols - 1 - k % cols)) (fun k => uy (rows - 1 - k / cols)) (w.alloc (.cells (nupV pd gd 2).cells 151)) (below1 _ _) _ rfl
    simpa using this)
  go_enter Try.func94, Try.ntmps94
  go_wp2_with fail

  go_loopw [11, 16] (fun v i wr => ∃ (n1 : Nat) (z : Int), n1 ≤ rows ∧ i = .int .i64 z ∧ z = ((n1 : Nat) : Int) - 1 ∧ Hid (Coll w ((rows - n1) * cols) (fun k => lx (cols - 1 - k % cols)) (fun k => ly (rows - 1 - k / cols)) (fun k => ux (cols - 1 - k % cols)) (fun k => uy (rows - 1 - k / cols)) v wr)) (fun _ i _ => (intOf i + 1).toNat)
  case atStart => exact ⟨rows, _, Nat.le_refl _, rfl, by omega, Lib.hid (by rw [Nat.sub_self, Nat.zero_mul]; exact H0.out)⟩
  case round =>
    clear H0 p0 p1 g0 g1 t1 t2 u1 u2
    obtain ⟨n1, z, hn1, rfl, hz, hC⟩ := hrel
    cases n1 with
    | zero =>
      have hC' : Hid (Coll w (rows * cols) (fun k => lx (cols - 1 - k % cols)) (fun k => ly (rows - 1 - k / cols)) (fun k => ux (cols - 1 - k % cols)) (fun k => uy (rows - 1 - k / cols)) u11 wr) := hC
      clear hC
      go_wp2_with fail
      go_ret
      exact ⟨_, rfl, hC'.out⟩
    | succ m =>
      obtain ⟨x, hx, rfl⟩ : ∃ x : Nat, x < rows ∧ z = (x : Int) := ⟨m, by omega, by omega⟩
      have hxe : x = m := by omega
      have HXE := Lib.hid hxe
      have HZ := Lib.hid hz
      clear hxe hz
      go_wp2_with fail
      go_loopw [11, 17] (fun v j wr => ∃ (n2 : Nat) (y : Int), n2 ≤ cols ∧ j = .int .i64 y ∧ y = ((n2 : Nat) : Int) - 1 ∧ Hid (Coll w ((rows - (m + 1)) * cols + (cols - n2)) (fun k => lx (cols - 1 - k % cols)) (fun k => ly (rows - 1 - k / cols)) (fun k => ux (cols - 1 - k % cols)) (fun k => uy (rows - 1 - k / cols)) v wr)) (fun _ j _ => (intOf j + 1).toNat)
      case atStart => exact ⟨cols, _, Nat.le_refl _, rfl, by omega, Lib.hid (by rw [Nat.sub_self, Nat.add_zero]; exact hC.out)⟩
      case round =>
        clear hC
        obtain ⟨n2, y, hn2, rfl, hy, hC⟩ := hrel
        cases n2 with
        | zero =>
          have HY := Lib.hid hy
          have hyv : y < 0 := by omega
          clear hy
          go_wp2_with fail
          go_roundw
          case rel => exact ⟨m, _, by omega, rfl, by have := HZ.out; omega, Lib.hid (by rw [show rows - m = (rows - (m + 1)) + 1 by omega, Nat.succ_mul]; exact hC.out)⟩
          case measure => have := HZ.out; simp [intOf] <;> omega
        | succ s =>
          obtain ⟨yy, hyy, rfl⟩ : ∃ yy : Nat, yy < cols ∧ y = (yy : Int) := ⟨s, by omega, by omega⟩
          have hye : yy = s := by omega
          have HYE := Lib.hid hye
          have HY := Lib.hid hy
          clear hye hy
          obtain ⟨hB, gs, hl, ho, hr2⟩ := hC.out
          have hN : (rows - (m + 1)) * cols + (cols - (s + 1)) < 1000 := by
            have := Nat.mul_le_mul (show rows - (m + 1) ≤ 10 by omega) (show cols ≤ 10 by omega)
            omega
          have HB := Lib.hid hB
          have HL := Lib.hid hl
          have HO := Lib.hid ho
          have HR := Lib.hid hr2
          have HS := Lib.hid hB.size
          obtain ⟨n, hn⟩ : ∃ n, n = (rows - (m + 1)) * cols + (cols - (s + 1)) := ⟨_, rfl⟩
          rw [← hn] at hN HL HO
          have HNE := Lib.hid hn
          clear hn hC hB hl ho hr2
          have w1 := run_bin (P := Try.prog) .mul (HG.out.hlx yy (by omega))
          have w2 := run_bin (P := Try.prog) .add (HG.out.hux yy (by omega))
          have w3 := run_bin (P := Try.prog) .mul (HG.out.hly x (by omega))
          have w4 := run_bin (P := Try.prog) .add (HG.out.huy x (by omega))
          go_wp2_with (first | (go_at_call 98; go_in) | (at_builtin; refine wpList_append_own _ rfl (.tmp 141) (.tmp 151) 152 rfl w.heap.size 101 i0 (.pointer none) 1 8 Try.underlying152 hi hz0 hz1 hz2 rfl (by decide) _ n _ rfl ((HO.out.alloc _).alloc _) ⟨wr.heap.size + 1, 0, none⟩ 1 1 [ptrV wr.heap.size] rfl rfl (new_at _ _ (by simp) _ _) (fun u hu => by simp at hu; subst hu; rfl) (by unfold maxLen; omega) (by omega) (by have := HS.out; simp; omega) ?_; intro v' w' ho' hg' _))
          have hD := div_row (a := rows - (m + 1)) (b := cols - (s + 1)) (m := cols) (by omega)
          rw [← HNE.out] at hD
          have hst : Coll w (n + 1) (fun k => lx (cols - 1 - k % cols)) (fun k => ly (rows - 1 - k / cols)) (fun k => ux (cols - 1 - k % cols)) (fun k => uy (rows - 1 - k / cols)) v' w' := Coll.step HB.out HL.out HO.out HR.out (a := lx yy) (b := ly x) (c := ux yy) (d := uy x) (congrArg lx (by have := HXE.out; have := HYE.out; omega)) (congrArg ly (by have := HXE.out; have := HYE.out; omega)) (congrArg ux (by have := HXE.out; have := HYE.out; omega)) (congrArg uy (by have := HXE.out; have := HYE.out; omega)) ho' hg'
          have HST := Lib.hid hst
          clear ho' hg' hD hst w1 w2 w3 w4
          go_wp2_with fail
          go_roundw
          case rel => exact ⟨s, _, by omega, rfl, by have := HY.out; omega, Lib.hid (by rw [show (rows - (m + 1)) * cols + (cols - s) = n + 1 by have := HNE.out; omega]; exact HST.out)⟩
          case measure => have := HY.out; simp [intOf] <;> omega

set_option maxRecDepth 100000 in
set_option maxHeartbeats 8000000 in
theorem grid_3 {X Y cols rows gw gh : Nat} {lx ux ly uy : Nat → Nat} (hG : GridW X Y cols rows gw gh lx ux ly uy) (hc : cols < 11) (hr : rows < 11) (pd gd : Nat) (w : World) (hp : PtAt w pd X Y) (hg : PtAt w gd (floatOfInt .f64 (cols : Int)) (floatOfInt .f64 (rows : Int))) (hpl : pd < w.heap.size) (hgl : gd < w.heap.size) :
    Calls Try.prog 94 #[nupV pd gd 3] w fun e w' => ∃ v, e = .returned v ∧ Coll w (cols * rows) (fun k => lx (cols - 1 - k / rows)) (fun k => ly (rows - 1 - k % rows)) (fun k => ux (cols - 1 - k / rows)) (fun k => uy (rows - 1 - k % rows)) v w' := by
  obtain ⟨i0, hi, hz0, hz1, hz2⟩ := info_parts info101
  have hpn : pd ≠ w.heap.size := by omega
  have hgn : gd ≠ w.heap.size := by omega
  obtain ⟨p0, p1, _, _⟩ := hp
  obtain ⟨g0, g1, _, _⟩ := hg
  have t1 := fun w => run_convert_float_int (P := Try.prog) w 22 3 .f64 .i64 _ _ (by kernel_rfl) Try.underlying3 (toInt_small cols hc)
  have t2 := fun w => run_convert_float_int (P := Try.prog) w 22 3 .f64 .i64 _ _ (by kernel_rfl) Try.underlying3 (toInt_small rows hr)
  have u1 := run_bin (P := Try.prog) .quo hG.hgw
  have u2 := run_bin (P := Try.prog) .quo hG.hgh
  have HG := Lib.hid hG
  clear hG
  have H0 : Hid (Coll w 0 (fun k => lx (cols - 1 - k / rows)) (fun k => ly (rows - 1 - k % rows)) (fun k => ux (cols - 1 - k / rows)) (fun k => uy (rows - 1 - k % rows)) (.slice (some ⟨w.heap.size + 1, 0, none⟩) 0 0) ((w.alloc (.cells (nupV pd gd 3).cells 151)).alloc (.cells #[] 101))) := Lib.hid (by
    have := coll_nil w (fun k => lx (cols - 1 - k / rows)) (fun k => ly (rows - 1 - k % rows)) (fun k => ux (cols - 1 - k / rows)) (fun k => uy (rows - 1 - k % rows)) (w.alloc (.cells (nupV pd gd 3).cells 151)) (below1 _ _) _ rfl
    simpa using this)
  go_enter Try.func94, Try.ntmps94
  go_wp2_with fail

  go_loopw [11, 18] (fun v i wr => ∃ (n1 : Nat) (z : Int), n1 ≤ cols ∧ i = .int .i64 z ∧ z = ((n1 : Nat) : Int) - 1 ∧ Hid (Coll w ((cols - n1) * rows) (fun k => lx (cols - 1 - k / rows)) (fun k => ly (rows - 1 - k % rows)) (fun k => ux (cols - 1 - k / rows)) (fun k => uy (rows - 1 - k % rows)) v wr)) (fun _ i _ => (intOf i + 1).toNat)
  case atStart => exact ⟨cols, _, Nat.le_refl _, rfl, by omega, Lib.hid (by rw [Nat.sub_self, Nat.zero_mul]; exact H0.out)⟩
  case round =>
    clear H0 p0 p1 g0 g1 t1 t2 u1 u2
    obtain ⟨n1, z, hn1, rfl, hz, hC⟩ := hrel
    cases n1 with
    | zero =>
      have hC' : Hid (Coll w (cols * rows) (fun k => lx (cols - 1 - k / rows)) (fun k => ly (rows - 1 - k % rows)) (fun k => ux (cols - 1 - k / rows)) (fun k => uy (rows - 1 - k % rows)) u11 wr) := hC
      clear hC
      go_wp2_with fail
      go_ret
      exact ⟨_, rfl, hC'.out⟩
    | succ m =>
      obtain ⟨x, hx, rfl⟩ : ∃ x : Nat, x < cols ∧ z = (x : Int) := ⟨m, by omega, by omega⟩
      have hxe : x = m := by omega
      have HXE := Lib.hid hxe
      have HZ := Lib.hid hz
      clear hxe hz
      go_wp2_with fail
      go_loopw [11, 19] (fun v j wr => ∃ (n2 : Nat) (y : Int), n2 ≤ rows ∧ j = .int .i64 y ∧ y = ((n2 : Nat) : Int) - 1 ∧ Hid (Coll w ((cols - (m + 1)) * rows + (rows - n2)) (fun k => lx (cols - 1 - k / rows)) (fun k => ly (rows - 1 - k % rows)) (fun k => ux (cols - 1 - k / rows)) (fun k => uy (rows - 1 - k % rows)) v wr)) (fun _ j _ => (intOf j + 1).toNat)
      case atStart => exact ⟨rows, _, Nat.le_refl _, rfl, by omega, Lib.hid (by rw [Nat.sub_self, Nat.add_zero]; exact hC.out)⟩
      case round =>
        clear hC
        obtain ⟨n2, y, hn2, rfl, hy, hC⟩ := hrel
        cases n2 with
        | zero =>
          have HY := Lib.hid hy
          have hyv : y < 0 := by omega
          clear hy
          go_wp2_with fail
          go_roundw
          case rel => exact ⟨m, _, by omega, rfl, by have := HZ.out; omega, Lib.hid (by rw [show cols - m = (cols - (m + 1)) + 1 by omega, Nat.succ_mul]; exact hC.out)⟩
          case measure => have := HZ.out; simp [intOf] <;> omega
        | succ s =>
          obtain ⟨yy, hyy, rfl⟩ : ∃ yy : Nat, yy < rows ∧ y = (yy : Int) := ⟨s, by omega, by omega⟩
          have hye : yy = s := by omega
          have HYE := Lib.hid hye
          have HY := Lib.hid hy
          clear hye hy
          obtain ⟨hB, gs, hl, ho, hr2⟩ := hC.out
          have hN : (cols - (m + 1)) * rows + (rows - (s + 1)) < 1000 := by
            have := Nat.mul_le_mul (show cols - (m + 1) ≤ 10 by omega) (show rows ≤ 10 by omega)
            omega
          have HB := Lib.hid hB
          have HL := Lib.hid hl
          have HO := Lib.hid ho
          have HR := Lib.hid hr2
          have HS := Lib.hid hB.size
          obtain ⟨n, hn⟩ : ∃ n, n = (cols - (m + 1)) * rows + (rows - (s + 1)) := ⟨_, rfl⟩
          rw [← hn] at hN HL HO
          have HNE := Lib.hid hn
          clear hn hC hB hl ho hr2
          have w1 := run_bin (P := Try.prog) .mul (HG.out.hlx x (by omega))
          have w2 := run_bin (P := Try.prog) .add (HG.out.hux x (by omega))
          have w3 := run_bin (P := Try.prog) .mul (HG.out.hly yy (by omega))
          have w4 := run_bin (P := Try.prog) .add (HG.out.huy yy (by omega))
          go_wp2_with (first | (go_at_call 98; go_in) | (at_builtin; refine wpList_append_own _ rfl (.tmp 175) (.tmp 185) 152 rfl w.heap.size 101 i0 (.pointer none) 1 8 Try.underlying152 hi hz0 hz1 hz2 rfl (by decide) _ n _ rfl ((HO.out.alloc _).alloc _) ⟨wr.heap.size + 1, 0, none⟩ 1 1 [ptrV wr.heap.size] rfl rfl (new_at _ _ (by simp) _ _) (fun u hu => by simp at hu; subst hu; rfl) (by unfold maxLen; omega) (by omega) (by have := HS.out; simp; omega) ?_; intro v' w' ho' hg' _))
          have hD := div_row (a := cols - (m + 1)) (b := rows - (s + 1)) (m := rows) (by omega)
          rw [← HNE.out] at hD
          have hst : Coll w (n + 1) (fun k => lx (cols - 1 - k / rows)) (fun k => ly (rows - 1 - k % rows)) (fun k => ux (cols - 1 - k / rows)) (fun k => uy (rows - 1 - k % rows)) v' w' := Coll.step HB.out HL.out HO.out HR.out (a := lx x) (b := ly yy) (c := ux x) (d := uy yy) (congrArg lx (by have := HXE.out; have := HYE.out; omega)) (congrArg ly (by have := HXE.out; have := HYE.out; omega)) (congrArg ux (by have := HXE.out; have := HYE.out; omega)) (congrArg uy (by have := HXE.out; have := HYE.out; omega)) ho' hg'
          have HST := Lib.hid hst
          clear ho' hg' hD hst w1 w2 w3 w4
          go_wp2_with fail
          go_roundw
          case rel => exact ⟨s, _, by omega, rfl, by have := HY.out; omega, Lib.hid (by rw [show (cols - (m + 1)) * rows + (rows - s) = n + 1 by have := HNE.out; omega]; exact HST.out)⟩
          case measure => have := HY.out; simp [intOf] <;> omega

end Go.Proofs.Ytooghncdhjdcpaa
