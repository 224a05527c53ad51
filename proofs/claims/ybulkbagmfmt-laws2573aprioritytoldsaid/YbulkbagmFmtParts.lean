/-
  zzs2573aquery, zzs2573alast, fmt.Errorf at this program's one format: the walks.
-/
import Derived.Test.YbulkbagmFmtBuild
import Derived.WalkSpells
import Derived.Stop.CallBack
import Derived.Stop.IfaceNil
import GoSem.ClaimData
namespace Go.Proofs.YbulkbagmFmt
open Go.RowKit Go.Maps Go.Extern.Stop Go.Stop Go.Extern

theorem ret_str {a b : ByteArray} (h : a = b) : Ending.returned (.string a) = .returned (.string b) := by rw [h]
theorem ret_int {k : IntKind} {a b : Int} (h : a = b) : Ending.returned (.int k a) = .returned (.int k b) := by rw [h]

/-- The name that the pod asks for. -/
def queryOf (ns : List ByteArray) (pick : Nat) (pod : ByteArray) : ByteArray :=
  if pick % 3 = 0 then ⟨#[]⟩ else if pick % 3 = 1 then (if 0 < ns.length then ns.getD (pick % ns.length) ByteArray.empty else pod) else pod

set_option maxHeartbeats 400000 in
theorem query_any (a : Option Addr) (cap : Nat) (ns : List ByteArray) (pick : Nat) (pod : ByteArray) (w : World) (hn : ns.length ≤ 1024) (hp : pick < 256) (hs : Strs w a ns) :
    Calls Ybaf.prog 6 #[.slice a ns.length cap, .int .u8 pick, .string pod] w fun e w' => e = .returned (.string (queryOf ns pick pod)) ∧ w' = w := by
  by_cases h0 : pick % 3 = 0
  · have h0' : (pick : Int) % 3 = 0 := by omega
    go_enter Ybaf.func6, Ybaf.ntmps6
    go_wp2
    go_ret
    exact ⟨ret_str (by unfold queryOf; rw [if_pos h0]), rfl⟩
  · by_cases h1 : pick % 3 = 1
    · have h1' : (pick : Int) % 3 = 1 := by omega
      by_cases hl : 0 < ns.length
      · have hlt : pick % ns.length < ns.length := Nat.mod_lt _ hl
        obtain ⟨b, o, ha, hblt, hc, _⟩ := hs (pick % ns.length) hlt
        have hix := fun wx => hidx22 wx b o ns.length cap (pick % ns.length) hlt
        rw [← ha, Int.natCast_emod] at hix
        clear ha
        have hg : ns.getD (pick % ns.length) ByteArray.empty = ns[pick % ns.length] := by simp [hlt]
        have HG : Hid (queryOf ns pick pod = ns[pick % ns.length]) := by
          show queryOf ns pick pod = _
          unfold queryOf
          rw [if_neg h0, if_pos h1, if_pos hl, hg]
        clear hg
        go_enter Ybaf.func6, Ybaf.ntmps6
        go_wp2
        go_ret
        exact ⟨ret_str HG.out.symm, rfl⟩
      · go_enter Ybaf.func6, Ybaf.ntmps6
        go_wp2
        go_ret
        exact ⟨ret_str (by unfold queryOf; rw [if_neg h0, if_pos h1, if_neg (by omega)]), rfl⟩
    · have h0' : ¬ (pick : Int) % 3 = 0 := by omega
      have h1' : ¬ (pick : Int) % 3 = 1 := by omega
      go_enter Ybaf.func6, Ybaf.ntmps6
      go_wp2
      go_ret
      exact ⟨ret_str (by unfold queryOf; rw [if_neg h0, if_neg h1]), rfl⟩

/-- The last place of q, or -1. -/
def lastI (ns : List ByteArray) (q : List UInt8) (k : Nat) : Int := match lastTo ns q k with
  | none => -1
  | some j => j

theorem lastI_step (ns : List ByteArray) (q : List UInt8) (k : Nat) (h : k < ns.length) : lastI ns q (k + 1) = if ns[k].data.toList = q then (k : Int) else lastI ns q k := by
  unfold lastI
  have e : ns.getD k ByteArray.empty = ns[k] := by simp [h]
  simp only [lastTo, e]
  by_cases hq : ns[k].data.toList = q
  · simp [hq]
  · simp [hq]

theorem lastTo_lt (ns : List ByteArray) (q : List UInt8) : ∀ (k j : Nat), lastTo ns q k = some j → j < k
  | 0, j, h => by cases h
  | k + 1, j, h => by
    unfold lastTo at h
    split at h
    · cases h; omega
    · have := lastTo_lt ns q k j h; omega

set_option maxHeartbeats 400000 in
theorem last_any (a : Option Addr) (cap : Nat) (ns : List ByteArray) (q : ByteArray) (w : World) (hn : ns.length ≤ 1024) (hs : Strs w a ns) :
    Calls Ybaf.prog 8 #[.slice a ns.length cap, .string q] w fun e w' => e = .returned (.int .i64 (lastI ns q.data.toList ns.length)) ∧ w' = w := by
  go_enter Ybaf.func8, Ybaf.ntmps8
  go_wp2
  go_loop [5, 9] (fun j i => ∃ k : Nat, k ≤ ns.length ∧ i = .int .i64 k ∧ j = .int .i64 (lastI ns q.data.toList k)) (fun _ i => ns.length - (intOf i).toNat)
  case atStart => exact ⟨0, Nat.zero_le _, rfl, rfl⟩
  case round =>
    obtain ⟨k, hk, rfl, rfl⟩ := hrel
    by_cases hlt : k < ns.length
    · obtain ⟨b, o, ha, hblt, hc, _⟩ := hs k hlt
      have hix := fun wx => hidx22 wx b o ns.length cap k hlt
      rw [← ha] at hix
      clear ha
      have HS : Hid (lastI ns q.data.toList (k + 1) = if ns[k].data.toList = q.data.toList then (k : Int) else lastI ns q.data.toList k) := lastI_step ns _ k hlt
      by_cases he : ns[k].data.toList = q.data.toList
      · have hb : (ns[k].toList == q.toList) = true := by rw [ByteArray.toList_eq, ByteArray.toList_eq, he]; simp
        have HE : Hid (ns[k].data.toList = q.data.toList) := he
        clear he
        go_wp2
        go_round
        case rel => exact ⟨k + 1, by omega, by go_num, by rw [HS.out, if_pos HE.out]⟩
        case measure => simp [intOf]; omega
      · have hb : (ns[k].toList == q.toList) = false := by rw [ByteArray.toList_eq, ByteArray.toList_eq]; simpa using he
        have HE : Hid (¬ ns[k].data.toList = q.data.toList) := he
        clear he
        go_wp2
        go_round
        case rel => exact ⟨k + 1, by omega, by go_num, by rw [HS.out, if_neg HE.out]⟩
        case measure => simp [intOf]; omega
    · have hkl : k = ns.length := by omega
      subst hkl
      go_wp2
      go_ret
      exact ⟨rfl, rfl⟩

end Go.Proofs.YbulkbagmFmt
