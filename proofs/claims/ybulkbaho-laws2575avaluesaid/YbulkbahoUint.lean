/-
  uintOf: the walk.
-/
import Derived.Test.YbulkbahoRows
import Derived.WalkKit
import Derived.ProofKit
import Derived.Below
import Derived.Laws.Bits64b
namespace Go.Proofs.Ybulkbaho
open Go.RowKit

theorem add_block (a : Addr) (i : Nat) : (a.add i).block = a.block := by unfold Addr.add; split <;> rfl

/-- A row of octets. -/
def URow (w : World) (a : Option Addr) (len : Nat) (z : Nat → Nat) : Prop :=
  len = 0 ∨ ∃ x, a = some x ∧ x.block < w.heap.size ∧ ∀ i, i < len → w.cell? (x.add i) = some (.int .u8 (z i : Nat)) ∧ z i < 256

/-- The number that the first k octets are. -/
def num (z : Nat → Nat) : Nat → Nat
  | 0 => 0
  | k + 1 => num z k * 256 % 18446744073709551616 + z k

theorem num_lt {z : Nat → Nat} : ∀ k, (∀ i, i < k → z i < 256) → num z k < 18446744073709551616
  | 0, _ => by unfold num; omega
  | k + 1, h => by
    have := h k (by omega)
    unfold num
    omega

theorem or_low (v c : Nat) (hc : c < 256) : (v * 256 % 18446744073709551616) ||| c = v * 256 % 18446744073709551616 + c := by
  have e : v * 256 % 18446744073709551616 = (v % 72057594037927936) <<< 8 := by
    rw [Nat.shiftLeft_eq]
    omega
  rw [e]
  exact (Nat.shiftLeft_add_eq_or_of_lt (by omega) _).symm

theorem bits_step (v c : Nat) (hc : c < 256) : bits .or .u64 (IntKind.u64.wrap ((v : Int) * 256)) (c : Int) = ((v * 256 % 18446744073709551616 + c : Nat) : Int) := by
  have e : IntKind.u64.wrap ((v : Int) * 256) = ((v * 256 % 18446744073709551616 : Nat) : Int) := by
    rw [IntKind.wrap_u64]
    omega
  rw [e, bits_or_u64_nat _ _ (by omega) (by omega), or_low v c hc]

set_option maxHeartbeats 400000 in
theorem uintOf_any (a : Option Addr) (len cap : Nat) (z : Nat → Nat) (w : World) (h : URow w a len z) (hlen : len ≤ 4096) :
    Calls Yba.prog 7 #[.slice a len cap] w fun e w' => e = .returned (.int .u64 (num z len : Nat)) ∧ w' = w := by
  go_enter Yba.func7, Yba.ntmps7
  go_wp2_with fail
  go_loopw [3, 8] (fun v i wr => ∃ k : Nat, i = .int .i64 k ∧ v = .int .u64 (num z k : Nat) ∧ k ≤ len ∧ wr = w) (fun _ i _ => len - (intOf i).toNat)
  case atStart => exact ⟨0, rfl, rfl, Nat.zero_le _, rfl⟩
  case round =>
    obtain ⟨k, rfl, rfl, hk, rfl⟩ := hrel
    by_cases hlt : k < len
    · have hlt' : (k : Int) < (len : Int) := by omega
      rcases h with rfl | ⟨x, rfl, hxb, hx⟩
      · omega
      obtain ⟨hc, hz⟩ := hx k hlt
      clear hx
      go_wp2_with fail
      go_roundw
      case rel => exact ⟨k + 1, by go_num, by rw [bits_step _ _ hz]; rfl, hlt, by trivial⟩
      case measure => simp [intOf]; omega
    · have hkl : k = len := by omega
      subst hkl
      go_wp2_with fail
      go_ret
      exact ⟨rfl, rfl⟩
end Go.Proofs.Ybulkbaho
