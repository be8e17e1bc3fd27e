/-
FnBoxListOf: a list of boxes' names read: the walk. Condition: some names, with commas between.
-/
import Derived.Test.YtppailjlfinafaaDoorZ3
namespace Go.Proofs.YtppailjlfinafaaDoor
open Go.RowKit Go.ChangeShapes Go.Proofs.YtppailjlfinafaaDoorW.PrintWords

/-- The five names. -/
def nm : Nat → List UInt8
  | 0 => [109, 101, 100, 105, 97]
  | 1 => [99, 114, 111, 112]
  | 2 => [116, 114, 105, 109]
  | 3 => [98, 108, 101, 101, 100]
  | _ => [97, 114, 116]
/-- Names with commas between. -/
def joinN : List Nat → List UInt8
  | [] => []
  | [a] => nm a
  | a :: b :: r => nm a ++ 44 :: joinN (b :: r)
theorem nm_ends (k : Nat) : ∃ x y n, (nm k).length = n + 1 ∧ (nm k)[0]? = some x ∧ (nm k)[n]? = some y ∧ letter x ∧ letter y ∧ n ≤ 4 ∧ (44 : UInt8) ∉ nm k := by
  match k with
  | 0 => exact ⟨109, 97, 4, by decide, by decide, by decide, by unfold letter; decide, by unfold letter; decide, by decide, by decide⟩
  | 1 => exact ⟨99, 112, 3, by decide, by decide, by decide, by unfold letter; decide, by unfold letter; decide, by decide, by decide⟩
  | 2 => exact ⟨116, 109, 3, by decide, by decide, by decide, by unfold letter; decide, by unfold letter; decide, by decide, by decide⟩
  | 3 => exact ⟨98, 100, 4, by decide, by decide, by decide, by unfold letter; decide, by unfold letter; decide, by decide, by decide⟩
  | k + 4 => exact ⟨97, 116, 2, by show ([97, 114, 116] : List UInt8).length = _; decide, by show ([97, 114, 116] : List UInt8)[0]? = _; decide, by show ([97, 114, 116] : List UInt8)[2]? = _; decide, by unfold letter; decide, by unfold letter; decide, by decide, by show (44 : UInt8) ∉ [97, 114, 116]; decide⟩
theorem nm_len (k : Nat) : (nm k).length ≤ 5 := by
  obtain ⟨_, _, n, h, _, _, _, _, h', _⟩ := nm_ends k
  omega
theorem join_cons (a : Nat) {r : List Nat} (h : r ≠ []) : joinN (a :: r) = nm a ++ 44 :: joinN r := by
  cases r with
  | nil => exact absurd rfl h
  | cons b r => rfl
theorem join_snoc (n : Nat) : ∀ l : List Nat, l ≠ [] → joinN (l ++ [n]) = joinN l ++ 44 :: nm n
  | [], h => absurd rfl h
  | [a], _ => rfl
  | a :: b :: r, _ => by
    have := join_snoc n (b :: r) (by simp)
    rw [List.cons_append, join_cons a (by simp), this, join_cons a (by simp)]
    simp
theorem join_len : ∀ l : List Nat, (joinN l).length ≤ 6 * l.length
  | [] => by simp [joinN]
  | [a] => by have := nm_len a; simp [joinN]; omega
  | a :: b :: r => by
    have := join_len (b :: r)
    have := nm_len a
    rw [join_cons a (by simp)]
    simp only [List.length_append, List.length_cons] at *
    omega
theorem join_split : ∀ l : List Nat, l ≠ [] → splitL 44 (joinN l) = l.map nm
  | [], h => absurd rfl h
  | [a], _ => by
    obtain ⟨_, _, _, _, _, _, _, _, _, h⟩ := nm_ends a
    simp only [joinN, List.map]
    exact splitL_none _ _ h
  | a :: b :: r, _ => by
    obtain ⟨_, _, _, _, _, _, _, _, _, h⟩ := nm_ends a
    rw [join_cons a (by simp), splitL_at _ _ _ h, join_split (b :: r) (by simp)]
    rfl
theorem join_ends : ∀ l : List Nat, l ≠ [] → ∃ x y n, (joinN l).length = n + 1 ∧ (joinN l)[0]? = some x ∧ (joinN l)[n]? = some y ∧ letter x ∧ letter y
  | [], h => absurd rfl h
  | [a], _ => by
    obtain ⟨x, y, n, h1, h2, h3, h4, h5, _⟩ := nm_ends a
    exact ⟨x, y, n, h1, h2, h3, h4, h5⟩
  | a :: b :: r, _ => by
    obtain ⟨x, _, n, h1, h2, _, h4, _⟩ := nm_ends a
    obtain ⟨_, y, m, k1, _, k3, _, k5⟩ := join_ends (b :: r) (by simp)
    refine ⟨x, y, n + 1 + 1 + m, ?_, ?_, ?_, h4, k5⟩
    · rw [join_cons a (by simp)]; simp only [List.length_append, List.length_cons]; omega
    · rw [join_cons a (by simp), List.getElem?_append_left (by omega)]; exact h2
    · rw [join_cons a (by simp), List.getElem?_append_right (by omega), h1, show n + 1 + 1 + m - (n + 1) = m + 1 by omega, List.getElem?_cons_succ]; exact k3
theorem resolve (k : Nat) (hk : k < 5) (g : Nat) (ps : Nat → Option Addr) (w : World) (h : PB w g ps) : Calls Tryd.prog 11 #[.pointer (some ⟨g, 0, none⟩), .string (bs (nm k))] w fun e w' => e = .returned .nilIface ∧ ∃ b, PB w' g (upd ps k (some ⟨b, 0, none⟩)) ∧ w.grownBy w' (some g) := by
  match k, hk with
  | 0, _ => exact resolve_0 g ps w h
  | 1, _ => exact resolve_1 g ps w h
  | 2, _ => exact resolve_2 g ps w h
  | 3, _ => exact resolve_3 g ps w h
  | 4, _ => exact resolve_4 g ps w h
theorem trim_nm (k : Nat) (w : World) : Calls Tryd.prog 9 #[.string (bs (nm k))] w fun e w' => e = .returned (.string (bs (nm k))) ∧ Below w.heap.size w w' := by
  obtain ⟨x, y, n, h1, h2, h3, h4, h5, h6, _⟩ := nm_ends k
  exact trim_calls (nm k) x y n h1 h2 h3 h4 h5 (by omega) w
theorem PB.below {w w' : World} {g : Nat} {ps : Nat → Option Addr} (h : PB w g ps) (hb : Below w.heap.size w w') : PB w' g ps :=
  ⟨fun i hi => pw_cell_below hb (h.cell i hi), fun i hi => (World.frozen?_of_block (hb.block g h.lt)).trans (h.open_ i hi), by have := hb.size; have := h.lt; omega⟩
theorem PB.new (w : World) (T : TypeId) : PB (w.alloc (.cells #[.pointer none, .pointer none, .pointer none, .pointer none, .pointer none, .int .i64 0, .string ⟨#[]⟩] T)) w.heap.size (fun _ => none) := by
  have hblk : (w.alloc (.cells #[.pointer none, .pointer none, .pointer none, .pointer none, .pointer none, .int .i64 0, .string ⟨#[]⟩] T)).heap[w.heap.size]? = some _ := blk_new w _
  refine ⟨fun i hi => ?_, fun i _ => frozen_of_row _ _ i _ _ hblk, by simp⟩
  rw [blk_cell hblk]
  match i, hi with
  | 0, _ => rfl
  | 1, _ => rfl
  | 2, _ => rfl
  | 3, _ => rfl
  | 4, _ => rfl
theorem upd_some {ps : Nat → Option Addr} {l : List Nat} (h : ∀ i, (ps i).isSome = l.contains i) (n b : Nat) : ∀ i, (upd ps n (some ⟨b, 0, none⟩) i).isSome = (l ++ [n]).contains i := by
  intro i
  have := h i
  unfold upd
  by_cases e : i = n
  · subst e
    rw [if_pos rfl]
    simp
  · rw [if_neg e, this]
    simp [e]
set_option maxRecDepth 100000 in
set_option maxHeartbeats 4000000 in
theorem parse_calls (ns : List Nat) (h0 : ns ≠ []) (h5 : ns.length ≤ 5) (hns : ∀ n ∈ ns, n < 5) (w : World) :
    Calls Tryd.prog 7 #[.string (bs (joinN ns))] w fun e w' => ∃ g ps, e = .returned (.tuple #[.pointer (some ⟨g, 0, none⟩), .nilIface]) ∧ PB w' g ps ∧ (∀ i, (ps i).isSome = ns.contains i) ∧ w.heap.size ≤ g ∧ Below w.heap.size w w' := by
  have hjl := join_len ns
  have HT := Lib.hid (by
    obtain ⟨x, y, n, h1, h2, h3, h4, h5'⟩ := join_ends ns h0
    exact trim_calls (joinN ns) x y n h1 h2 h3 h4 h5' (by omega) w)
  have HS := Lib.hid (fun W => split_walk 44 (joinN ns) (by omega) W)
  rw [join_split ns h0] at HS
  have hsz : (bs (joinN ns)).size = (joinN ns).length := bs_size _
  have hpos : 0 < (joinN ns).length := by
    obtain ⟨x, y, n, h1, _⟩ := join_ends ns h0
    omega
  generalize bs (joinN ns) = S at HT HS hsz
  generalize (joinN ns).length = J at hsz hpos hjl
  go_enter Tryd.func7, Tryd.ntmps7
  go_wp2_with (first | (go_at_call 9; refine HT.out.mono ?_; rintro e w1 ⟨rfl, hb1⟩) | (go_at_call 10; refine (HS.out _).mono ?_; rintro e w2 ⟨sg, cap, rfl, hO, hb2⟩))
  have hs1 := hb1.size
  have hs2 := hb2.size
  have hsz1 : (w1.alloc (.cells #[.pointer none, .pointer none, .pointer none, .pointer none, .pointer none, .int .i64 0, .string ⟨#[]⟩] 36)).heap.size = w1.heap.size + 1 := by simp
  have hP0 := (PB.new w1 36).below hb2
  have hB0 : Below w.heap.size w w2 := (hb1.alloc hs1 _).trans (hb2.mono (by rw [hsz1]; omega))
  rw [hsz1] at hO hs2
  clear hb1 hb2 hsz1 HS HT
  have hlen : (ns.map nm).length = ns.length := by simp
  rw [hlen] at hO
  generalize hg : w1.heap.size = g at *
  go_loopw [18] (fun i wr => ∃ k : Nat, k ≤ ns.length ∧ i = .int .i64 k ∧ Hid (∃ ps, PB wr g ps ∧ ∀ i, (ps i).isSome = (ns.take k).contains i) ∧ Hid (wr.ownsRow (g + 1) 9 1 (.slice (some ⟨sg, 0, none⟩) ns.length cap) ns.length (strsV (ns.map nm))) ∧ Hid (Below w.heap.size w wr)) (fun i _ => ns.length - (intOf i).toNat)
  case atStart => exact ⟨0, Nat.zero_le _, rfl, Lib.hid ⟨_, hP0, fun i => by simp⟩, Lib.hid hO, Lib.hid hB0⟩
  case round =>
    obtain ⟨k, hk, rfl, hP, hO1, hB⟩ := hrel
    clear hP0 hO hB0
    by_cases hlt : k < ns.length
    · obtain ⟨ps, hPB, hsome⟩ := hP.out
      have hc := hO1.out.cellAt k (by omega)
      rw [show (strsV (ns.map nm))[k]? = some (.string (bs (nm ns[k]))) by simp [strsV, hlt]] at hc
      have hn5 := hns ns[k] (List.getElem_mem hlt)
      have HS := Lib.hid (show ∀ b, ∀ i, (upd ps ns[k] (some ⟨b, 0, none⟩) i).isSome = (ns.take (k + 1)).contains i from fun b => by
        rw [List.take_succ_eq_append_getElem hlt]; exact upd_some hsome _ _)
      generalize ns[k] = n at hc hn5 HS
      have HT := Lib.hid (fun W => trim_nm n W)
      have HR := Lib.hid (fun W h => resolve n hn5 g ps W h)
      have HP := Lib.hid hPB
      clear hP hPB hsome
      generalize bs (nm n) = T at hc HT HR
      go_wp2_with (first | (go_at_call 9; refine (HT.out _).mono ?_; rintro e w3 ⟨rfl, hb3⟩) | (go_at_call 11; refine (HR.out _ (HP.out.below hb3)).mono ?_; rintro e w4 ⟨rfl, b, hP4, hg4⟩))
      have hs3 := hb3.size
      have hs4 := hB.out.size
      have hs5 := hg4.size
      go_roundw
      case rel =>
        refine ⟨k + 1, by omega, by go_num, Lib.hid ⟨_, hP4, HS.out b⟩, Lib.hid ?_, Lib.hid ?_⟩
        · refine own_move hO1.out (fun j hj => ?_)
          have hj1 := hO1.out.lt j hj
          rw [hg4.block j (by omega) (by simp; omega), hb3.block j hj1.2]
        · exact pw_below_grown (hB.out.trans (hb3.mono hs4)) _ (by omega) hg4 (fun j hj => by cases hj; omega)
      case measure => simp [intOf] <;> omega
    · obtain rfl : k = ns.length := by omega
      have hge : ¬ ((ns.length : Int) < (ns.length : Int)) := by omega
      go_wp2_with fail
      go_ret2
      obtain ⟨ps, hPB, hsome⟩ := hP.out
      exact ⟨g, rfl, ps, hPB, fun i => (hsome i).trans (by simp), hs1, hB.out⟩
end Go.Proofs.YtppailjlfinafaaDoor
