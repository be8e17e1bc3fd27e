/-
The law FnOriginOf and its kin: letters made small and great, byte by byte. Conditions: none but a text that lies in memory.
-/
import Derived.Test.YtmngibfakkfnnaaFm
import Derived.Laws.IdiomStrings
import Derived.LoopTactic
import Derived.KernelRfl
import Derived.Tactics
import Derived.Laws.Rows
import Derived.Laws.Append
import Derived.Laws.Slices
import Derived.IntWalk
import Derived.WalkKit
namespace Go.Proofs.Ytmngibfakkfnnaa
open Go.RowKit Go.ChangeShapes

theorem hid {p : Prop} (h : p) : Hid p := h
def small (b : UInt8) : UInt8 := if 65 ≤ b.toNat ∧ b.toNat ≤ 90 then UInt8.ofNat (b.toNat + 32) else b
def great (b : UInt8) : UInt8 := if 97 ≤ b.toNat ∧ b.toNat ≤ 122 then UInt8.ofNat (b.toNat - 32) else b

/-- Block B holds the bytes of s, those ahead of k mapped. -/
def Mapped (f : UInt8 → UInt8) (s : ByteArray) (B k : Nat) (w : World) : Prop :=
  B < w.heap.size ∧ (∀ j (h : j < s.data.size), w.cell? ⟨B, j, none⟩ = some (.int .u8 ((if j < k then f s.data[j] else s.data[j]).toNat : Int))) ∧ ∀ j, j < s.data.size → w.frozen? ⟨B, j, none⟩ = false

theorem mapped_start (f : UInt8 → UInt8) (s : ByteArray) (w : World) (cap : Nat) (e : Nat) : Mapped f s w.heap.size 0 (w.alloc (.cells (bytesRow s cap) e ((bytesRow s cap).size, (bytesRow s cap).size + 1))) := by
  refine ⟨by simp, fun j h => ?_, fun j h => ?_⟩
  · rw [World.cell?_alloc_mark, bytesRow_at s cap j h, if_neg (Nat.not_lt_zero j)]
  · rw [World.frozen?_alloc_mark]
    have : j < (bytesRow s cap).size := by unfold bytesRow; rw [Array.size_append, Array.size_map]; omega
    rw [decide_eq_false (by omega)]; rfl
theorem mapped_keep {f : UInt8 → UInt8} {s : ByteArray} {B k : Nat} {w : World} (h : Mapped f s B k w) (hk : k < s.data.size) (he : f s.data[k] = s.data[k]) : Mapped f s B (k + 1) w := by
  refine ⟨h.1, fun j hj => ?_, h.2.2⟩
  rw [h.2.1 j hj]
  by_cases e : j = k
  · subst e; rw [if_neg (Nat.lt_irrefl j), if_pos (Nat.lt_succ_self j), he]
  · by_cases l : j < k
    · rw [if_pos l, if_pos (by omega)]
    · rw [if_neg l, if_neg (by omega)]
theorem mapped_set {f : UInt8 → UInt8} {s : ByteArray} {B k : Nat} {w : World} (h : Mapped f s B k w) (hk : k < s.data.size) {v : Int} (hv : v = (f s.data[k]).toNat) : Mapped f s B (k + 1) (w.setCell ⟨B, k, none⟩ (.int .u8 v)) := by
  refine ⟨by simpa using h.1, fun j hj => ?_, fun j hj => by rw [World.frozen?_setCell]; exact h.2.2 j hj⟩
  by_cases e : j = k
  · subst e; rw [World.cell?_setCell_same _ _ _ (h.2.1 j hj), if_pos (Nat.lt_succ_self j), hv]
  · rw [World.cell?_setCell_other _ _ _ _ (by intro he; cases he; exact e rfl), h.2.1 j hj]
    by_cases l : j < k
    · rw [if_pos l, if_pos (by omega)]
    · rw [if_neg l, if_neg (by omega)]
theorem mapped_at {f : UInt8 → UInt8} {s : ByteArray} {B k : Nat} {w : World} (h : Mapped f s B k w) (hk : k < s.data.size) : w.cell? ⟨B, k, none⟩ = some (.int .u8 (s.data[k].toNat : Int)) := by
  rw [h.2.1 k hk, if_neg (Nat.lt_irrefl k)]

theorem mapped_back {f : UInt8 → UInt8} {s : ByteArray} {B : Nat} {w : World} (cap : Nat) (h : Mapped f s B s.size w) :
    (convert 35 9 (.slice (some ⟨B, 0, none⟩) s.size cap)).run Try.prog w = .ok (.string ⟨(s.data.toList.map f).toArray⟩) w := by
  have hl : (s.data.toList.map f).length = s.size := by simp
  have := run_convert_bytes_back (P := Try.prog) w 35 9 5 ⟨B, 0, none⟩ cap (s.data.toList.map f) Try.underlying35 Try.underlying5 Try.underlying9 (fun j hj => by
    have hj' : j < s.data.size := by rw [hl] at hj; exact hj
    have e : (⟨B, 0, none⟩ : Addr).add j = ⟨B, j, none⟩ := by simp only [Addr.add, Nat.zero_add]; cases j <;> rfl
    rw [e, h.2.1 j hj', if_pos (show j < s.size from hj')]
    simp)
  rw [hl] at this
  exact this

theorem lower_calls (s : ByteArray) (w : World) (hn : s.size ≤ 140737488351232) :
    Calls Try.prog 42 #[.string s] w fun e w' => e = .returned (.string ⟨(s.data.toList.map small).toArray⟩) ∧ Below w.heap.size w w' := by
  have hconv := run_bytes_of_string (P := Try.prog) w 9 35 5 s Try.underlying9 Try.underlying35 Try.underlying5
  generalize grownCap w s.size 0 5 = cap at hconv
  have hst := mapped_start small s w cap 5
  generalize bytesRow s cap = C at hconv hst
  have HS := hid hst
  clear hst
  go_enter Try.func42, Try.ntmps42
  go_wp2
  go_loopw [10] (fun i wr => ∃ k : Nat, i = .int .i64 k ∧ k ≤ s.size ∧ Hid (Mapped small s w.heap.size k wr) ∧ Below w.heap.size w wr) (fun i _ => s.size - (intOf i).toNat)
  case atStart => exact ⟨0, rfl, Nat.zero_le _, HS, (((Below.refl _ _).alloc (Nat.le_refl _) _).drew)⟩
  case round =>
    obtain ⟨k, rfl, hk, hm, hb⟩ := hrel
    by_cases hlt : k < s.size
    · have hi : (k : Int) < (s.size : Int) := by omega
      have hc := mapped_at hm.out hlt
      have hf := hm.out.2.2 k hlt
      by_cases h1 : 65 ≤ s.data[k].toNat
      · by_cases h2 : s.data[k].toNat ≤ 90
        · have e1 : (65 : Int) ≤ (s.data[k].toNat : Int) := by omega
          have e2 : (s.data[k].toNat : Int) ≤ 90 := by omega
          have hset := hid (fun v hv => mapped_set (v := v) hm.out hlt hv)
          go_wp2
          go_roundw
          case rel =>
            refine ⟨k + 1, by simp, hlt, hid (hset.out _ ?_), hb.setCell (Nat.le_refl _) _⟩
            unfold small
            rw [if_pos ⟨h1, h2⟩, UInt8.toNat_ofNat']
            omega
          case measure => simp [intOf]; omega
        · have e1 : (65 : Int) ≤ (s.data[k].toNat : Int) := by omega
          have e2 : ¬ ((s.data[k].toNat : Int) ≤ 90) := by omega
          have hkeep := hid (mapped_keep hm.out hlt (by unfold small; rw [if_neg (fun h => h2 h.2)]))
          go_wp2
          go_roundw
          case rel => exact ⟨k + 1, by simp, hlt, hkeep, hb⟩
          case measure => simp [intOf]; omega
      · have e1 : ¬ ((65 : Int) ≤ (s.data[k].toNat : Int)) := by omega
        have hkeep := hid (mapped_keep hm.out hlt (by unfold small; rw [if_neg (fun h => h1 h.1)]))
        go_wp2
        go_roundw
        case rel => exact ⟨k + 1, by simp, hlt, hkeep, hb⟩
        case measure => simp [intOf]; omega
    · have hi : ¬ ((k : Int) < (s.size : Int)) := by omega
      obtain rfl : k = s.size := by omega
      have hback := mapped_back cap hm.out
      go_wp2
      go_ret
      exact ⟨rfl, hb⟩

theorem upper_calls (s : ByteArray) (w : World) (hn : s.size ≤ 140737488351232) :
    Calls Try.prog 10 #[.string s] w fun e w' => e = .returned (.string ⟨(s.data.toList.map great).toArray⟩) ∧ Below w.heap.size w w' := by
  have hconv := run_bytes_of_string (P := Try.prog) w 9 35 5 s Try.underlying9 Try.underlying35 Try.underlying5
  generalize grownCap w s.size 0 5 = cap at hconv
  have hst := mapped_start great s w cap 5
  generalize bytesRow s cap = C at hconv hst
  have HS := hid hst
  clear hst
  go_enter Try.func10, Try.ntmps10
  go_wp2
  go_loopw [10] (fun i wr => ∃ k : Nat, i = .int .i64 k ∧ k ≤ s.size ∧ Hid (Mapped great s w.heap.size k wr) ∧ Below w.heap.size w wr) (fun i _ => s.size - (intOf i).toNat)
  case atStart => exact ⟨0, rfl, Nat.zero_le _, HS, (((Below.refl _ _).alloc (Nat.le_refl _) _).drew)⟩
  case round =>
    obtain ⟨k, rfl, hk, hm, hb⟩ := hrel
    by_cases hlt : k < s.size
    · have hi : (k : Int) < (s.size : Int) := by omega
      have hc := mapped_at hm.out hlt
      have hf := hm.out.2.2 k hlt
      by_cases h1 : 97 ≤ s.data[k].toNat
      · by_cases h2 : s.data[k].toNat ≤ 122
        · have e1 : (97 : Int) ≤ (s.data[k].toNat : Int) := by omega
          have e2 : (s.data[k].toNat : Int) ≤ 122 := by omega
          have hset := hid (fun v hv => mapped_set (v := v) hm.out hlt hv)
          go_wp2
          go_roundw
          case rel =>
            refine ⟨k + 1, by simp, hlt, hid (hset.out _ ?_), hb.setCell (Nat.le_refl _) _⟩
            unfold great
            rw [if_pos ⟨h1, h2⟩, UInt8.toNat_ofNat']
            omega
          case measure => simp [intOf]; omega
        · have e1 : (97 : Int) ≤ (s.data[k].toNat : Int) := by omega
          have e2 : ¬ ((s.data[k].toNat : Int) ≤ 122) := by omega
          have hkeep := hid (mapped_keep hm.out hlt (by unfold great; rw [if_neg (fun h => h2 h.2)]))
          go_wp2
          go_roundw
          case rel => exact ⟨k + 1, by simp, hlt, hkeep, hb⟩
          case measure => simp [intOf]; omega
      · have e1 : ¬ ((97 : Int) ≤ (s.data[k].toNat : Int)) := by omega
        have hkeep := hid (mapped_keep hm.out hlt (by unfold great; rw [if_neg (fun h => h1 h.1)]))
        go_wp2
        go_roundw
        case rel => exact ⟨k + 1, by simp, hlt, hkeep, hb⟩
        case measure => simp [intOf]; omega
    · have hi : ¬ ((k : Int) < (s.size : Int)) := by omega
      obtain rfl : k = s.size := by omega
      have hback := mapped_back cap hm.out
      go_wp2
      go_ret
      exact ⟨rfl, hb⟩

end Go.Proofs.Ytmngibfakkfnnaa
