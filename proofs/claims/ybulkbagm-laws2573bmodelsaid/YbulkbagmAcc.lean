/-
  add, accumulate: the walks.
-/
import Derived.Test.YbulkbagmRes
import Derived.Outline
namespace Go.Proofs.Ybulkbagm
open Go.RowKit Go.Maps

/-- a+b, held at the greatest int64. -/
def satp (a b : Int) : Int := if top < a + b then top else a + b

theorem satp_le (a b : Int) : satp a b ≤ top := by unfold satp; split <;> omega
theorem satp_nonneg {a b : Int} (ha : 0 ≤ a) (hb : 0 ≤ b) : 0 ≤ satp a b := by unfold satp; split <;> (try unfold top) <;> omega

theorem ret_int {k : IntKind} {a b : Int} (h : a = b) : Ending.returned (.int k a) = .returned (.int k b) := by rw [h]

theorem satp_hi {a b : Int} (h : 9223372036854775807 - b < a) : 9223372036854775807 = satp a b := by
  unfold satp top; rw [if_pos (by omega)]
theorem satp_lo {a b : Int} (h : a ≤ 9223372036854775807 - b) : a + b = satp a b := by
  unfold satp top; rw [if_neg (by omega)]

set_option maxHeartbeats 400000 in
theorem add_any (a b : Int) (w : World) (ha : 0 ≤ a) (ha' : a ≤ top) (hb : 0 ≤ b) (hb' : b ≤ top) :
    Calls Yba.prog 19 #[.int .i64 a, .int .i64 b] w fun e w' => e = .returned (.int .i64 (satp a b)) ∧ w' = w := by
  unfold top at ha' hb'
  go_enter Yba.func19, Yba.ntmps19
  go_wp2
  · go_ret
    exact ⟨ret_int (satp_hi (by assumption)), rfl⟩
  · go_ret
    exact ⟨ret_int (satp_lo (by assumption)), rfl⟩

/-- What 'accumulate' makes of total. -/
def accF (ft fr : Fn) : Fn := fun k => match fr k with
  | none => ft k
  | some v => some (satp ((ft k).getD 0) v)

/-- .. while 'left' is still to come. -/
def accL (ft fr : Fn) (left : List UInt8 → Bool) : Fn := fun k => if left k then ft k else accF ft fr k

theorem accL_start (ft fr : Fn) : accL ft fr (fun s => (fr s).isSome) = ft := by
  funext k
  unfold accL accF
  cases h : fr k <;> simp [h]

theorem accL_end (ft fr : Fn) {left : List UInt8 → Bool} (h : ∀ s, left s = false) : accL ft fr left = accF ft fr := by
  funext k
  unfold accL
  rw [h]
  rfl

theorem accL_step (ft fr : Fn) {left : List UInt8 → Bool} {k : List UInt8} {c : Int} (hl : left k = true) (hc : fr k = some c) :
    fset (accL ft fr left) k (satp ((ft k).getD 0) c) = accL ft fr (fun z => left z && !decide (z = k)) := by
  funext z
  unfold fset accL
  by_cases e : z = k
  · subst e
    simp [hl, accF, hc]
  · simp [e]

theorem accL_at (ft fr : Fn) {left : List UInt8 → Bool} {k : List UInt8} (hl : left k = true) : accL ft fr left k = ft k := by
  unfold accL; rw [hl]; rfl

theorem good_get {f : Fn} (h : Good f) (k : List UInt8) : 0 ≤ (f k).getD 0 ∧ (f k).getD 0 ≤ top := by
  cases e : f k with
  | none => exact ⟨by simp, by simp [top]⟩
  | some v => exact (h k v e).2

set_option maxRecDepth 100000 in
set_option maxHeartbeats 1000000 in
theorem accumulate_any (tb rb : Nat) (ft fr : Fn) (w : World) (ht : Res w tb ft) (hr : Res w rb fr) (hne : tb ≠ rb) :
    Calls Yba.prog 15 #[.map (some tb), .map (some rb)] w fun e w' => e = .returned (.tuple #[]) ∧ Res w' tb (accF ft fr) ∧ w.grownBy w' (some tb) := by
  have htl := ht.lt
  have hrl := hr.lt
  go_enter Yba.func15, Yba.ntmps15
  go_wp2_with (first
    | (at_range; refine wpList_range_res _ rfl _ rfl rb fr rfl hr ?_; intro w0 cnt0 hrg0 hg0 hs0)
    | go_in)
  go_frame
  go_loopw [4] (fun _ wr => ∃ (left : List UInt8 → Bool) (cnt : Nat), Rng wr rb w.heap.size fr left cnt ∧ Res wr tb (accL ft fr left) ∧ w.grownBy wr (some tb))
    (fun _ wr => wr.rangeLeft rb w.heap.size)
  case atStart =>
    exact ⟨_, _, hrg0, by rw [accL_start]; exact ht.kept hg0 (by simp), hg0.but _⟩
  case round =>
    obtain ⟨left, cnt, hrg, hres, hgw⟩ := hrel
    go_wp2_with (first
      | (at_next; refine wpList_next_res _ rfl _ rfl rb w.heap.size fr left cnt rfl hrg ?_ ?_)
      | go_in)
    · intro hl0
      go_wp2
      go_end0
      exact ⟨rfl, by rw [← accL_end ft fr hl0]; exact hres, hgw⟩
    · intro s c w1 cnt1 hsn hls hfs hc0 hc1 hrg1 hlt hg1 hs1 hen
      have hres1 := hres.kept hg1 (fun e => by have := Option.some.inj e; omega)
      have hgt := good_get ht.good s.data.toList
      clear hs1
      go_wp2_with (first
        | (at_lookup; refine wpList_lookup_res _ rfl _ _ rfl tb _ rfl hres1 s rfl hsn ?_; rw [accL_at ft fr hls])
        | (go_at_call 19; refine (add_any _ _ _ hgt.1 hgt.2 hc0 hc1).mono ?_; rintro e w' ⟨rfl, rfl⟩)
        | (at_mapUpdate; refine wpList_update_res _ rfl _ _ _ rfl tb _ rfl hres1 s rfl hsn _ rfl (satp_nonneg hgt.1 hc0) (satp_le _ _) ?_; intro w2 hres2 hg2; go_frame)
        | go_in)
      have hrg2 := hrg1.kept hg2 (fun e => by have := Option.some.inj e; omega) (fun e => by have := Option.some.inj e; omega)
      go_roundw
      case rel =>
        refine ⟨_, cnt1, hrg2, by rw [← accL_step ft fr hls hfs]; exact hres2, ?_⟩
        exact (hgw.andThen hg1 (fun j hj => by cases hj; exact Or.inl (Nat.le_refl _))).andThen hg2 (fun j hj => by cases hj; exact Or.inr rfl)
      case measure => rw [hrg2.left_eq, hrg.left_eq]; exact hlt

set_option maxHeartbeats 400000 in
/-- A nil map: nothing is added. -/
theorem accumulate_nil (tb : Nat) (ft : Fn) (w : World) (ht : Res w tb ft) :
    Calls Yba.prog 15 #[.map (some tb), .map none] w fun e w' => e = .returned (.tuple #[]) ∧ Res w' tb ft ∧ w.grownBy w' (some tb) := by
  have hrg := run_range_nilMap (P := Yba.prog) w 32 9 2 Yba.underlying32
  have hnx : ∀ ty, (Instr.next (.pointer (some ⟨w.heap.size, 0, none⟩)) false ty).run Yba.prog (w.alloc (.mapIter none 0 #[] 0)) = _ := fun ty => run_next_nilMap _ ty 0 0 #[]
  go_enter Yba.func15, Yba.ntmps15
  go_wp2
  refine wp_loop_rounds 1 ?_
  rw [rounds_succ]
  go_wp2
  go_end0
  exact ⟨rfl, ht.alloc _, World.grownBy_alloc _ _ _⟩

theorem accF_none (ft : Fn) : accF ft (fun _ => none) = ft := rfl

theorem accumulate_v (tb : Nat) (m : Option Nat) (ft fr : Fn) (w : World) (ht : Res w tb ft) (hr : ResV w m fr) (hne : m ≠ some tb) :
    Calls Yba.prog 15 #[.map (some tb), .map m] w fun e w' => e = .returned (.tuple #[]) ∧ Res w' tb (accF ft fr) ∧ w.grownBy w' (some tb) := by
  rcases hr with ⟨rfl, rfl⟩ | ⟨b, rfl, hb⟩
  · exact accumulate_nil tb ft w ht
  · exact accumulate_any tb b ft fr w ht hb (fun e => hne (by rw [e]))

end Go.Proofs.Ybulkbagm
