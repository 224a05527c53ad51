/-
  binary.BigEndian.Uint64, as this program holds it: the walk.
-/
import Derived.Test.YbulkbahoUint
import Derived.Lib.EndianBits
import Derived.BigQuiet
import Derived.Deep.QuietTactic
namespace Go.Proofs.Ybulkbaho
open Go.RowKit

/-- The number that eight octets spell, the greatest first. -/
def big (b : Nat → Nat) : Nat := b 7 + b 6 * 256 + b 5 * 65536 + b 4 * 16777216 + b 3 * 4294967296 + b 2 * 1099511627776 + b 1 * 281474976710656 + b 0 * 72057594037927936

set_option maxHeartbeats 2000000 in
set_option maxRecDepth 100000 in
theorem big_at (g : Nat) (b0 b1 b2 b3 b4 b5 b6 b7 : Nat) (w : World) (hg : g < w.heap.size)
    (c0 : w.cell? ⟨g, 0, none⟩ = some (.int .u8 (b0 : Int))) (c1 : w.cell? ⟨g, 1, none⟩ = some (.int .u8 (b1 : Int))) (c2 : w.cell? ⟨g, 2, none⟩ = some (.int .u8 (b2 : Int))) (c3 : w.cell? ⟨g, 3, none⟩ = some (.int .u8 (b3 : Int)))
    (c4 : w.cell? ⟨g, 4, none⟩ = some (.int .u8 (b4 : Int))) (c5 : w.cell? ⟨g, 5, none⟩ = some (.int .u8 (b5 : Int))) (c6 : w.cell? ⟨g, 6, none⟩ = some (.int .u8 (b6 : Int))) (c7 : w.cell? ⟨g, 7, none⟩ = some (.int .u8 (b7 : Int)))
    (h0 : b0 < 256) (h1 : b1 < 256) (h2 : b2 < 256) (h3 : b3 < 256) (h4 : b4 < 256) (h5 : b5 < 256) (h6 : b6 < 256) (h7 : b7 < 256) :
    Calls Yba.prog 6 #[.agg #[], .slice (some ⟨g, 0, none⟩) 8 8] w fun e w' => e = .returned (.int .u64 ((b7 + b6 * 256 + b5 * 65536 + b4 * 16777216 + b3 * 4294967296 + b2 * 1099511627776 + b1 * 281474976710656 + b0 * 72057594037927936 : Nat) : Int)) ∧ Below w.heap.size w w' := by
  have al : ∀ j v, w.cell? ⟨g, j, none⟩ = some v → (w.alloc (.cells #[] 26)).cell? ⟨g, j, none⟩ = some v := fun j v h => by
    rw [World.cell?_alloc_past _ _ _ hg]; exact h
  have d0 := al _ _ c0
  have d1 := al _ _ c1
  have d2 := al _ _ c2
  have d3 := al _ _ c3
  have d4 := al _ _ c4
  have d5 := al _ _ c5
  have d6 := al _ _ c6
  have d7 := al _ _ c7
  clear al
  have hv : ((b7 + b6 * 256 + b5 * 65536 + b4 * 16777216 + b3 * 4294967296 + b2 * 1099511627776 + b1 * 281474976710656 + b0 * 72057594037927936 : Nat) : Int) = (b7 : Int) + (b6 : Int) * 256 + (b5 : Int) * 65536 + (b4 : Int) * 16777216 + (b3 : Int) * 4294967296 + (b2 : Int) * 1099511627776 + (b1 : Int) * 281474976710656 + (b0 : Int) * 72057594037927936 := by omega
  have HV : Hid _ := hv
  clear hv
  go_enter Yba.func6, Yba.ntmps6
  go_wp2_with fail
  go_quiet (fail)
  go_wp2_with fail
  go_ret
  refine ⟨?_, ((Below.refl _ w).alloc (Nat.le_refl _) _).trans ⟨rfl, rfl, rfl, Nat.le_refl _, fun _ _ => rfl⟩⟩
  simp (disch := omega) only [u64_or8, u64_or16, u64_or24, u64_or32, u64_or40, u64_or48, u64_or56]
  rw [HV.out]
  rfl

/-- .. the octets by their index. -/
theorem big_any (g : Nat) (b : Nat → Nat) (w : World) (hg : g < w.heap.size) (hc : ∀ j, j < 8 → w.cell? ⟨g, j, none⟩ = some (.int .u8 (b j : Int))) (hb : ∀ j, j < 8 → b j < 256) :
    Calls Yba.prog 6 #[.agg #[], .slice (some ⟨g, 0, none⟩) 8 8] w fun e w' => e = .returned (.int .u64 (big b : Nat)) ∧ Below w.heap.size w w' :=
  big_at g (b 0) (b 1) (b 2) (b 3) (b 4) (b 5) (b 6) (b 7) w hg (hc 0 (by omega)) (hc 1 (by omega)) (hc 2 (by omega)) (hc 3 (by omega)) (hc 4 (by omega)) (hc 5 (by omega)) (hc 6 (by omega)) (hc 7 (by omega))
    (hb 0 (by omega)) (hb 1 (by omega)) (hb 2 (by omega)) (hb 3 (by omega)) (hb 4 (by omega)) (hb 5 (by omega)) (hb 6 (by omega)) (hb 7 (by omega))

/-! ### the plain law -/
/-- The number of k octets, not held to 64 bits. -/
def val (z : Nat → Nat) : Nat → Nat
  | 0 => 0
  | k + 1 => val z k * 256 + z k

theorem num_val {z : Nat → Nat} : ∀ k, (∀ i, i < k → z i < 256) → num z k = val z k % 18446744073709551616
  | 0, _ => rfl
  | k + 1, h => by
    have h1 := num_val k (fun i hi => h i (by omega))
    have h2 := h k (by omega)
    unfold num val
    rw [h1]
    omega

/-- The law's eight octets: the last octets, right-aligned. -/
def buf (z : Nat → Nat) (n : Nat) (j : Nat) : Nat := if 8 ≤ n + j then z (n + j - 8) else 0

theorem buf_lt {z : Nat → Nat} {n : Nat} (h : ∀ i, i < n → z i < 256) (j : Nat) (hj : j < 8) : buf z n j < 256 := by
  unfold buf
  split
  · exact h _ (by omega)
  · omega

theorem val_congr {f g : Nat → Nat} : ∀ k, (∀ i, i < k → f i = g i) → val f k = val g k
  | 0, _ => rfl
  | k + 1, h => by
    unfold val
    rw [val_congr k (fun i hi => h i (by omega)), h k (by omega)]

theorem val_none {f : Nat → Nat} : ∀ k, (∀ i, i < k → f i = 0) → val f k = 0
  | 0, _ => rfl
  | k + 1, h => by
    unfold val
    rw [val_none k (fun i hi => h i (by omega)), h k (by omega)]

/-- m zeros ahead count nothing. -/
theorem val_pad {f z : Nat → Nat} {m : Nat} (h0 : ∀ i, i < m → f i = 0) : ∀ k, (∀ i, i < k → f (m + i) = z i) → val f (m + k) = val z k
  | 0, _ => val_none m h0
  | k + 1, h => by
    show val f (m + k) * 256 + f (m + k) = val z k * 256 + z k
    rw [val_pad h0 k (fun i hi => h i (by omega)), h k (by omega)]

theorem val_big (b : Nat → Nat) : val b 8 = big b := by
  unfold big
  simp only [val]
  omega

theorem big_lt {b : Nat → Nat} (h : ∀ j, j < 8 → b j < 256) : big b < 18446744073709551616 := by
  have h0 := h 0 (by omega)
  have h1 := h 1 (by omega)
  have h2 := h 2 (by omega)
  have h3 := h 3 (by omega)
  have h4 := h 4 (by omega)
  have h5 := h 5 (by omega)
  have h6 := h 6 (by omega)
  have h7 := h 7 (by omega)
  unfold big
  omega

/-- What stands ahead of the last eight is a multiple of 2^64. -/
theorem val_last (z : Nat → Nat) (m : Nat) : val z (m + 8) = 18446744073709551616 * val z m + val (fun i => z (m + i)) 8 := by
  simp only [val, Nat.add_zero]
  omega

theorem num_big {z : Nat → Nat} {n : Nat} (h : ∀ i, i < n → z i < 256) : num z n = big (buf z n) := by
  have hlt := big_lt (buf_lt h)
  rw [num_val n h]
  by_cases h8 : 8 ≤ n
  · obtain ⟨m, rfl⟩ : ∃ m, n = m + 8 := ⟨n - 8, by omega⟩
    have e : val (fun i => z (m + i)) 8 = big (buf z (m + 8)) := by
      rw [← val_big]
      refine val_congr 8 (fun i hi => ?_)
      unfold buf
      rw [if_pos (by omega)]
      congr 1
      omega
    rw [val_last, e, Nat.mul_add_mod]
    exact Nat.mod_eq_of_lt hlt
  · have e : val z n = big (buf z n) := by
      rw [← val_big, ← val_pad (f := buf z n) (z := z) (m := 8 - n) (fun i hi => ?_) n (fun i hi => ?_)]
      · congr 1
        omega
      · unfold buf
        rw [if_neg (by omega)]
      · unfold buf
        rw [if_pos (by omega)]
        congr 1
        omega
    rw [e]
    exact Nat.mod_eq_of_lt hlt

end Go.Proofs.Ybulkbaho
