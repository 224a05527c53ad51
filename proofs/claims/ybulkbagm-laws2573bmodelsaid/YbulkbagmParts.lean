/-
  zzs2573bname, zzs2573bask: the walks.
-/
import Derived.Test.YbulkbagmReq
namespace Go.Proofs.Ybulkbagm
open Go.RowKit Go.Maps

/-- A container of the law's own kind. -/
structure CV where
  req : Nat → Int
  hasReq : Nat → Bool
  lim : Nat → Int
  hasLim : Nat → Bool
  side : Bool

/-- Its thirteen cells. -/
def CV.cells (c : CV) : Array Value := #[.int .u32 (c.req 0), .int .u32 (c.req 1), .int .u32 (c.req 2), .bool (c.hasReq 0), .bool (c.hasReq 1), .bool (c.hasReq 2), .int .u32 (c.lim 0), .int .u32 (c.lim 1), .int .u32 (c.lim 2), .bool (c.hasLim 0), .bool (c.hasLim 1), .bool (c.hasLim 2), .bool c.side]

/-- Each amount is an uint32. -/
def CV.ok (c : CV) : Prop := (∀ i, i < 3 → 0 ≤ c.req i ∧ c.req i ≤ 4294967295) ∧ ∀ i, i < 3 → 0 ≤ c.lim i ∧ c.lim i ≤ 4294967295

/-- What it asks of the resource i. -/
def CV.ask (c : CV) (i : Nat) : Int := if c.hasReq i = true then c.req i else if c.hasLim i = true then c.lim i else 0

def nmS (i : Nat) : ByteArray := ⟨(nm i).toArray⟩

set_option maxHeartbeats 400000 in
theorem name_any (k : Nat) (hk : k < 3) (w : World) : Calls Yba.prog 7 #[.int .i64 k] w fun e w' => e = .returned (.string (nmS k)) ∧ w' = w := by
  have h : k = 0 ∨ k = 1 ∨ k = 2 := by omega
  rcases h with rfl | rfl | rfl
  all_goals
    go_enter Yba.func7, Yba.ntmps7
    go_wp2
    go_ret
    exact ⟨rfl, rfl⟩

set_option maxHeartbeats 1000000 in
theorem ask_any (c : CV) (hc : c.ok) (k : Nat) (hk : k < 3) (w : World) : Calls Yba.prog 9 #[.agg c.cells, .int .i64 k] w fun e w' => e = .returned (.int .i64 (c.ask k)) ∧ Below w.heap.size w w' := by
  have h : k = 0 ∨ k = 1 ∨ k = 2 := by omega
  unfold CV.cells CV.ask
  have hr := hc.1 k hk
  have hl := hc.2 k hk
  rcases h with rfl | rfl | rfl
  · cases h1 : c.hasReq 0 <;> cases h2 : c.hasLim 0
    all_goals
      go_enter Yba.func9, Yba.ntmps9
      go_wp2
      go_ret
      exact ⟨rfl, (Below.refl _ _).alloc (Nat.le_refl _) _⟩
  · cases h1 : c.hasReq 1 <;> cases h2 : c.hasLim 1
    all_goals
      go_enter Yba.func9, Yba.ntmps9
      go_wp2
      go_ret
      exact ⟨rfl, (Below.refl _ _).alloc (Nat.le_refl _) _⟩
  · cases h1 : c.hasReq 2 <;> cases h2 : c.hasLim 2
    all_goals
      go_enter Yba.func9, Yba.ntmps9
      go_wp2
      go_ret
      exact ⟨rfl, (Below.refl _ _).alloc (Nat.le_refl _) _⟩

end Go.Proofs.Ybulkbagm
