/-
  LawS2575AValue: the walk.
-/
import Derived.Test.YbulkbahoBig
import Derived.Deep.DeepCutAuto
import Derived.Deep.CutBlock
import Derived.Deep.RegionWith
import Derived.Deep.OwnRows
namespace Go.Proofs.Ybulkbaho
open Go.RowKit

theorem URow.below {w w' : World} {a : Option Addr} {len : Nat} {z : Nat → Nat} (h : URow w a len z) (hb : Below w.heap.size w w') : URow w' a len z := by
  rcases h with e | ⟨x, e, hx, hc⟩
  · exact Or.inl e
  · exact Or.inr ⟨x, e, Nat.lt_of_lt_of_le hx hb.size, fun i hi => ⟨(hb.cell (p := x.add i) (by rw [add_block]; exact hx)).trans (hc i hi).1, (hc i hi).2⟩⟩

/-- The eight octets' block, the first m of them laid. -/
structure Eight (w wr : World) (z : Nat → Nat) (n m : Nat) : Prop where
  size : wr.heap.size = w.heap.size + 1
  low : Below w.heap.size w wr
  cell : ∀ j, j < 8 → wr.cell? ⟨w.heap.size, j, none⟩ = some (.int .u8 (((if j < m then buf z n j else 0) : Nat) : Int))
  fz : ∀ j, wr.frozen? ⟨w.heap.size, j, none⟩ = false

theorem Eight.set {w wr : World} {z : Nat → Nat} {n m : Nat} (h : Eight w wr z n m) (hm : m < 8) : Eight w (wr.setCell ⟨w.heap.size, m, none⟩ (.int .u8 (buf z n m : Nat))) z n (m + 1) := by
  refine ⟨by simp; exact h.size, h.low.setCell (Nat.le_refl _) _, fun j hj => ?_, fun j => by rw [World.frozen?_setCell]; exact h.fz j⟩
  by_cases e : j = m
  · subst e
    rw [World.cell?_setCell_same _ _ _ (h.cell j hj), if_pos (by omega)]
  · rw [World.cell?_setCell_other _ _ _ _ (fun e1 => e (by cases e1; rfl)), h.cell j hj]
    by_cases e2 : j < m
    · rw [if_pos e2, if_pos (by omega)]
    · rw [if_neg e2, if_neg (by omega)]

theorem eight_zero (j : Nat) (hj : j < 8) : (#[.int .u8 0, .int .u8 0, .int .u8 0, .int .u8 0, .int .u8 0, .int .u8 0, .int .u8 0, .int .u8 0] : Array Value)[j]? = some (.int .u8 0) := by
  have h : j = 0 ∨ j = 1 ∨ j = 2 ∨ j = 3 ∨ j = 4 ∨ j = 5 ∨ j = 6 ∨ j = 7 := by omega
  rcases h with rfl | rfl | rfl | rfl | rfl | rfl | rfl | rfl <;> rfl

theorem Eight.start (w : World) (z : Nat → Nat) (n k : Nat) (h2 : k = n ∨ k = 8) :
    Eight w (w.alloc (.cells #[.int .u8 0, .int .u8 0, .int .u8 0, .int .u8 0, .int .u8 0, .int .u8 0, .int .u8 0, .int .u8 0] 23)) z n (8 - k) := by
  refine ⟨by simp, (Below.refl _ _).alloc (Nat.le_refl _) _, fun j hj => ?_, fun j => (World.rowIs_alloc w _ 23 (fun _ => .int .u8 0) (fun i hi => eight_zero i hi)).frozen j⟩
  rw [World.cell?_alloc_at _ _ _ _ rfl, eight_zero j hj]
  split
  · unfold buf
    rw [if_neg (by omega)]
    rfl
  · rfl

set_option maxHeartbeats 2000000 in
set_option maxRecDepth 100000 in
theorem value_any (a : Option Addr) (n cap : Nat) (z : Nat → Nat) (w : World) (h : URow w a n z) (hn : n ≤ 1024) :
    Calls Yba.prog 3 #[.slice a n cap] w fun e w' => e = .returned (.bool true) ∧ Below w.heap.size w w' := by
  have hn' : (n : Int) ≤ 1024 := by omega
  have hz : ∀ i, i < n → z i < 256 := by
    rcases h with rfl | ⟨x, _, _, hx⟩
    · exact fun i hi => by omega
    · exact fun i hi => (hx i hi).2
  go_enter Yba.func3, Yba.ntmps3
  go_upto_if 15 with fail
  go_cut [5] (fun kv wx => ∃ k : Nat, kv = .int .i64 (k : Int) ∧ k ≤ n ∧ k ≤ 8 ∧ (k = n ∨ k = 8) ∧ Eight w wx z n (8 - k))
  case first =>
    by_cases h8 : 8 < n
    · have h8' : (8 : Int) < (n : Int) := by omega
      go_wp2_with fail
      go_meet
      case rel => exact ⟨8, rfl, by omega, by omega, Or.inr rfl, Eight.start w z n 8 (Or.inr rfl)⟩
    · have h8' : decide ((8 : Int) < (n : Int)) = false := decide_eq_false (by omega)
      go_wp2_with fail
      go_meet
      case rel => exact ⟨n, rfl, by omega, by omega, Or.inl rfl, Eight.start w z n n (Or.inl rfl)⟩
  case rest =>
    obtain ⟨k, rfl, hk1, hk2, hk3, hE⟩ := hcut
    go_wp2_with fail
    go_loopw [6] (fun i wr => ∃ t : Nat, i = .int .i64 (t : Int) ∧ t ≤ k ∧ Eight w wr z n (8 - k + t)) (fun i _ => k - (intOf i).toNat)
    case atStart => exact ⟨0, rfl, by omega, hE⟩
    case round =>
      obtain ⟨t, rfl, ht, hE⟩ := hrel
      by_cases hlt : t < k
      · have hlt' : (t : Int) < (k : Int) := by omega
        rcases h with rfl | ⟨x, rfl, hxb, hx⟩
        · omega
        obtain ⟨p, hp⟩ : ∃ p : Nat, p = 8 - k + t := ⟨_, rfl⟩
        obtain ⟨q, hq⟩ : ∃ q : Nat, q = n - k + t := ⟨_, rfl⟩
        have e1 : (8 : Int) - (k : Int) + (t : Int) = (p : Int) := by omega
        have e2 : (n : Int) - (k : Int) + (t : Int) = (q : Int) := by omega
        have p8 : p < 8 := by omega
        have p8' : (p : Int) < 8 := by omega
        have qn : q < n := by omega
        have qn' : (q : Int) < (n : Int) := by omega
        have hcq : wr.cell? (x.add q) = some (.int .u8 (buf z n p : Nat)) := by
          rw [hE.low.cell (p := x.add q) (by rw [add_block]; exact hxb), (hx q qn).1]
          unfold buf
          rw [if_pos (by omega), show n + p - 8 = q by omega]
        rw [← hp] at hE
        have hcp := hE.cell p p8
        have hfp := hE.fz p
        have hE2 := hE.set p8
        obtain ⟨bv, hbv⟩ : ∃ bv, bv = buf z n p := ⟨_, rfl⟩
        rw [← hbv] at hcq hE2
        have HP : Hid (p = 8 - k + t) := hp
        clear hp hq hbv hx hE
        go_wp2_with fail
        go_roundw
        case rel =>
          refine ⟨t + 1, by go_num, hlt, ?_⟩
          rw [show 8 - k + (t + 1) = p + 1 by rw [HP.out]; omega]
          exact hE2
        case measure => simp [intOf]; omega
      · have htk : t = k := by omega
        have h8 : 8 - k + t = 8 := by omega
        rw [h8] at hE
        have hc8 : ∀ j, j < 8 → wr.cell? ⟨w.heap.size, j, none⟩ = some (.int .u8 (buf z n j : Nat)) := fun j hj => by
          rw [hE.cell j hj, if_pos hj]
        have hlw : w.heap.size < wr.heap.size := by rw [hE.size]; omega
        have hbl := buf_lt hz
        have hnum := num_big hz
        have hlow := hE.low
        have hu := fun wx (hb : Below w.heap.size w wx) => uintOf_any a n cap z wx (h.below hb) (by omega)
        rw [hnum] at hu
        have hbg := fun wx (h1 : w.heap.size < wx.heap.size) (h2 : ∀ j, j < 8 → wx.cell? ⟨w.heap.size, j, none⟩ = some (.int .u8 (buf z n j : Nat))) => big_any w.heap.size (buf z n) wx h1 h2 hbl
        obtain ⟨B, hB⟩ : ∃ B, B = big (buf z n) := ⟨_, rfl⟩
        rw [← hB] at hu hbg
        clear hB hnum hE hbl hz
        subst htk
        have hbd := hbg wr.drew hlw hc8
        clear hbg
        go_wp2_with fail
        go_region_with (go_at_call 6; refine hbd.mono ?_; rintro e w6 ⟨rfl, hb6⟩)
        have hbw : Below w.heap.size w w6 := hlow.drew.trans (hb6.mono (Nat.le_of_lt hlw))
        have hu6 := hu w6 hbw
        clear hu hbd
        go_wp2_with fail
        refine hu6.mono ?_
        rintro e w7 ⟨rfl, rfl⟩
        go_wp2_with fail
        go_ret
        exact ⟨rfl, hbw⟩

set_option maxHeartbeats 400000 in
theorem value_long (a : Option Addr) (len cap : Nat) (w : World) (h : 1024 < len) :
    Calls Yba.prog 3 #[.slice a len cap] w fun e w' => e = .returned (.bool true) ∧ Below w.heap.size w w' := by
  have h1' : (1024 : Int) < (len : Int) := by omega
  go_enter Yba.func3, Yba.ntmps3
  go_wp2
  go_ret
  exact ⟨rfl, Below.refl _ _⟩

theorem u8_bd {n : Int} (h : (Lit.int .u8 n).wf = true) : 0 ≤ n ∧ n ≤ 255 := by
  simp [Lit.wf, IntKind.min, IntKind.max, IntKind.signed, IntKind.bits] at h
  omega

/-- A row of integers that came in, as octets. -/
theorem octets_of {w : World} {x : Addr} {len cap : Nat} {zs : List Int} (hl : len ≤ cap) (hz : zs.length = cap) (hcell : ∀ i, i < zs.length → w.cell? (x.add i) = some (.int .u8 (zs.getD i 0))) (hwz : ∀ n ∈ zs, (Lit.int .u8 n).wf = true) :
    ∀ i, i < len → w.cell? (x.add i) = some (.int .u8 (((fun i => (zs.getD i 0).toNat) i : Nat) : Int)) ∧ (fun i => (zs.getD i 0).toNat) i < 256 := by
  intro i hi
  have hi' : i < zs.length := by omega
  have hb : 0 ≤ zs.getD i 0 ∧ zs.getD i 0 ≤ 255 := u8_bd (hwz _ (by rw [List.getD_eq_getElem?_getD, List.getElem?_eq_getElem hi']; exact List.getElem_mem hi'))
  show w.cell? (x.add i) = some (.int .u8 ((zs.getD i 0).toNat : Int)) ∧ (zs.getD i 0).toNat < 256
  refine ⟨?_, by omega⟩
  rw [hcell i hi', Int.toNat_of_nonneg hb.1]

end Go.Proofs.Ybulkbaho
