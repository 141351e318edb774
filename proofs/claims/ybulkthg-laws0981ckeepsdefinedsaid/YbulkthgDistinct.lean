import Derived.Test.YbulkthgRows
import Derived.WalkKit
import Derived.WalkSpells
import Derived.WalkLawsBesides
import Derived.Deep.QuietTactic
import Derived.BigQuiet
namespace Go.Proofs.Ybulkthg
open Go.RowKit

/-- a slice of strings that came in, by the index -/
def SeenS (w : World) (a : Option Addr) (n : Nat) (ns : Nat → ByteArray) : Prop :=
  ∀ i, i < n → ∃ b off, a = some ⟨b, off, none⟩ ∧ w.cell? ⟨b, off + i, none⟩ = some (.string (ns i))

def key (ns : Nat → ByteArray) (i : Nat) : List UInt8 := (ns i).data.toList
/-- is name i among the first j? -/
def dup (ns : Nat → ByteArray) (i j : Nat) : Bool := (List.range j).any fun k => key ns k == key ns i
/-- how many different names the first k are -/
def dist (ns : Nat → ByteArray) : Nat → Nat
  | 0 => 0
  | k + 1 => if dup ns k k then dist ns k else dist ns k + 1

theorem dist_le (ns : Nat → ByteArray) : ∀ k, dist ns k ≤ k
  | 0 => Nat.le_refl _
  | k + 1 => by
    have := dist_le ns k
    simp only [dist]
    split <;> omega

theorem key_eq {ns : Nat → ByteArray} {i j : Nat} (h : ((ns i).toList == (ns j).toList) = true) : key ns i = key ns j := by
  rw [ByteArray.toList_eq, ByteArray.toList_eq] at h
  simpa [key] using h
theorem key_ne {ns : Nat → ByteArray} {i j : Nat} (h : ((ns i).toList == (ns j).toList) = false) : key ns i ≠ key ns j := by
  rw [ByteArray.toList_eq, ByteArray.toList_eq] at h
  simpa [key] using h
theorem dup_succ {ns : Nat → ByteArray} {i j : Nat} (h : dup ns i j = false) (hne : key ns j ≠ key ns i) : dup ns i (j + 1) = false := by
  unfold dup at h ⊢
  rw [List.range_succ, List.any_append, h]
  simp [hne]
theorem dup_hit {ns : Nat → ByteArray} {i j k : Nat} (hj : j < k) (h : key ns j = key ns i) : dup ns i k = true := by
  unfold dup
  rw [List.any_eq_true]
  exact ⟨j, by simpa using hj, by simp [h]⟩

set_option maxHeartbeats 400000 in
theorem distinct_any (a : Option Addr) (n c : Nat) (ns : Nat → ByteArray) (w : World) (hn : n ≤ 256) (ha : SeenS w a n ns) :
    Calls Yba.prog 11 #[.slice a n c] w fun e w' => e = .returned (.int .i64 (dist ns n)) ∧ ∃ q, w' = w.drewN q := by
  go_enter Yba.func11, Yba.ntmps11
  go_wp2
  go_loopw [3, 9] (fun t i wr => ∃ k : Nat, k ≤ n ∧ i = .int .i64 (k : Nat) ∧ t = .int .i64 (dist ns k) ∧ ∃ q, wr = w.drewN q) (fun _ i _ => n - (intOf i).toNat)
  case atStart => exact ⟨0, Nat.zero_le _, rfl, rfl, 0, rfl⟩
  case round =>
    obtain ⟨k, hk, rfl, rfl, q, rfl⟩ := hrel
    have hdl := dist_le ns k
    by_cases hlt : k < n
    · go_wp2
      go_loopw [5, 6] (fun b j wr => ∃ m : Nat, m ≤ k ∧ j = .int .i64 (m : Nat) ∧ b = .bool false ∧ dup ns k m = false ∧ ∃ q, wr = w.drewN q) (fun _ j _ => k - (intOf j).toNat)
      case atStart => exact ⟨0, Nat.zero_le _, rfl, rfl, rfl, q, rfl⟩
      case round =>
        obtain ⟨m, hm, rfl, rfl, hd, q', rfl⟩ := hrel
        by_cases hmk : m < k
        · obtain ⟨b, off, rfl, h1⟩ := ha m (by omega)
          obtain ⟨b', off', he, h2⟩ := ha k hlt
          simp at he
          obtain ⟨rfl, rfl⟩ := he
          have hli : (k : Int) < (n : Int) := by omega
          have hl0 : (0 : Int) ≤ (k : Int) := by omega
          have hmi : (m : Int) < (n : Int) := by omega
          have hm0 : (0 : Int) ≤ (m : Int) := by omega
          cases heq : ((ns m).toList == (ns k).toList) with
          | true =>
            have S : Hid (dist ns (k + 1) = dist ns k) := by simp only [dist, dup_hit hmk (key_eq heq), Hid]; rfl
            go_wp2
            go_quiet (fail)
            go_wp2
            go_roundw
            case rel => exact ⟨k + 1, by omega, by go_num, by rw [S.out], _, rfl⟩
            case measure => simp [intOf]; omega
          | false =>
            have S := dup_succ hd (key_ne heq)
            go_wp2
            go_quiet (fail)
            go_wp2
            go_roundw
            case rel => exact ⟨m + 1, by omega, by go_num, rfl, S, _, rfl⟩
            case measure => simp [intOf]; omega
        · obtain rfl : m = k := by omega
          have S : Hid (dist ns (m + 1) = dist ns m + 1) := by simp only [dist, hd, Hid]; rfl
          clear hd
          go_wp2
          go_roundw
          case rel => exact ⟨m + 1, by omega, by go_num, by rw [S.out]; go_num, _, rfl⟩
          case measure => simp [intOf]; omega
    · obtain rfl : k = n := by omega
      go_wp2
      go_ret
      exact ⟨rfl, q, rfl⟩
end Go.Proofs.Ybulkthg
