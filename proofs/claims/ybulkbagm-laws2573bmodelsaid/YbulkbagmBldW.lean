/-
  zzs2573bbuild: the walk itself.
-/
import Derived.Test.YbulkbagmBld
namespace Go.Proofs.Ybulkbagm
open Go.RowKit Go.Maps

theorem st_zero (c : CV) (w : World) (b : Bool) : St w (((w.alloc (.cells #[.int .u32 (c.req 0), .int .u32 (c.req 1), .int .u32 (c.req 2), .bool (c.hasReq 0), .bool (c.hasReq 1), .bool (c.hasReq 2), .int .u32 (c.lim 0), .int .u32 (c.lim 1), .int .u32 (c.lim 2), .bool (c.hasLim 0), .bool (c.hasLim 1), .bool (c.hasLim 2), .bool b] 46)).alloc
    (.cells #[.string ⟨#[]⟩, .map none, .map none, .string ⟨#[]⟩] 48)).alloc (.cells #[.string ⟨#[]⟩, .map none, .map none, .string (polOf b)] 48)) c (polOf b) 0 0 none none := by
  refine ⟨ResV.nil _, ResV.nil _, ?_, ?_, ?_, ?_, fun j => ?_, fun j hj => ?_, fun j => ?_, fun j => ?_, fun b h => (by cases h), fun b h => (by cases h), fun b h => (by cases h), ?_, ?_⟩
  · rw [World.cell?_alloc_at _ _ _ _ (by simp)]; rfl
  · rw [World.cell?_alloc_at _ _ _ _ (by simp)]; rfl
  · rw [World.cell?_alloc_at _ _ _ _ (by simp)]; rfl
  · rw [World.cell?_alloc_at _ _ _ _ (by simp)]; rfl
  · exact World.frozen?_alloc_at _ _ _ _ (by simp)
  · rw [World.cell?_alloc_past _ _ _ (by simp; omega), World.cell?_alloc_past _ _ _ (by simp), World.cell?_alloc_at _ _ _ _ rfl]
    have h : j = 0 ∨ j = 1 ∨ j = 2 ∨ j = 3 ∨ j = 4 ∨ j = 5 ∨ j = 6 ∨ j = 7 ∨ j = 8 ∨ j = 9 ∨ j = 10 ∨ j = 11 := by omega
    rcases h with rfl | rfl | rfl | rfl | rfl | rfl | rfl | rfl | rfl | rfl | rfl | rfl <;> rfl
  · rw [World.cell?_alloc_past _ _ _ (by simp), World.cell?_alloc_at _ _ _ _ (by simp)]
  · rw [World.frozen?_alloc_past _ _ _ (by simp)]; exact World.frozen?_alloc_at _ _ _ _ (by simp)
  · exact (((Below.refl _ _).alloc (Nat.le_refl _) _).alloc (by simp) _).alloc (by simp; omega) _
  · simp

theorem wrap_u32 {x : Int} (h0 : 0 ≤ x) (h1 : x ≤ 4294967295) : IntKind.i64.wrap x = x := by
  rw [IntKind.wrap_i64]
  omega

set_option maxRecDepth 100000 in
set_option maxHeartbeats 4000000 in
theorem bld_at (c : CV) (hc : c.ok) (b : Bool) (w : World) :
    Calls Yba.prog 6 #[.agg #[.int .u32 (c.req 0), .int .u32 (c.req 1), .int .u32 (c.req 2), .bool (c.hasReq 0), .bool (c.hasReq 1), .bool (c.hasReq 2), .int .u32 (c.lim 0), .int .u32 (c.lim 1), .int .u32 (c.lim 2), .bool (c.hasLim 0), .bool (c.hasLim 1), .bool (c.hasLim 2), .bool b]] w
      fun e w' => ∃ mq ml, e = .returned (.agg #[.string ⟨#[]⟩, .map mq, .map ml, .string (polOf b)]) ∧ ResV w' mq (part c.hasReq c.req 3) ∧ ResV w' ml (part c.hasLim c.lim 3) ∧ Below w.heap.size w w' := by
  have hmm := @run_makeMap Yba.prog
  have heq := fun wx r => run_eql_map_nil (P := Yba.prog) wx 32 9 2 r Yba.underlying32
  have hst0 := st_zero c w b
  go_enter Yba.func6, Yba.ntmps6
  go_upto_if 7 with fail
  go_cut [] (fun wx => St w wx c (polOf b) 0 0 none none)
  case first =>
    cases b
    · go_wp2_with fail
      go_meet
      case rel => exact hst0
    · go_wp2_with fail
      go_meet
      case rel => exact hst0
  case rest =>
    clear hst0
    go_wp2_with fail
    go_loopw [4] (fun i wr => ∃ (k : Nat) (mq ml : Option Nat), i = .int .i64 k ∧ k ≤ 3 ∧ St w wr c (polOf b) k k mq ml) (fun i _ => 3 - (intOf i).toNat)
    case atStart => exact ⟨0, none, none, rfl, by omega, hcut⟩
    case round =>
      obtain ⟨k, mq, ml, rfl, hk, hst⟩ := hrel
      clear hcut
      by_cases hlt : k < 3
      · have hlt' : (k : Int) < 3 := by omega
        have b1 := (hst.bc (3 + k) (by omega)).trans (cv_hasReq c k hlt)
        go_upto_if 16 with fail
        go_cut [] (fun wx => ∃ mq ml, St w wx c (polOf b) (k + 1) k mq ml)
        case first =>
          have b2 := (hst.bc k (by omega)).trans (cv_req c k hlt)
          have hok := hc.1 k hlt
          cases hh : c.hasReq k
          · go_wp2_with fail
            go_meet
            case rel => exact ⟨mq, ml, hst.skipQ hh⟩
          · have o1 := hst.o1
            have hwr := wrap_u32 hok.1 hok.2
            cases mq with
            | some bq =>
              have hrq := resV_some hst.q
              obtain ⟨w', hrun, hres, hg⟩ := hrq.store k hlt (c.req k) hok.1 (by unfold top; omega)
              go_wp2_with fail
              go_region_with (go_at_call 7; refine (name_any k hlt _).mono ?_; rintro e w' ⟨rfl, rfl⟩)
              all_goals
                go_wp2_with fail
                go_meet
                case rel => exact ⟨_, _, hst.storeQ hh hres hg⟩
            | none =>
              have f1 := hst.fo 1
              have hst1 := hst.make 1 (Or.inl ⟨rfl, rfl, rfl, rfl⟩)
              have hrq := resV_some hst1.q
              obtain ⟨w', hrun, hres, hg⟩ := hrq.store k hlt (c.req k) hok.1 (by unfold top; omega)
              have hz1 : w.heap.size + 1 + 1 < wr.heap.size := by have := hst.sz; omega
              have b2' := (hst1.bc k (by omega)).trans (cv_req c k hlt)
              have o1' := hst1.o1
              go_wp2_with fail
              go_region_with (go_at_call 7; refine (name_any k hlt _).mono ?_; rintro e w' ⟨rfl, rfl⟩)
              all_goals
                go_wp2_with fail
                go_meet
                case rel => exact ⟨_, _, hst1.storeQ hh hres hg⟩
        case rest =>
          obtain ⟨mq', ml', hst'⟩ := hcut
          clear hst b1
          have b3 := (hst'.bc (9 + k) (by omega)).trans (cv_hasLim c k hlt)
          have b4 := (hst'.bc (6 + k) (by omega)).trans (cv_lim c k hlt)
          have hok := hc.2 k hlt
          cases hh : c.hasLim k
          · go_wp2_with fail
            go_roundw
            case rel => exact ⟨k + 1, mq', ml', by go_num, by omega, hst'.skipL hh⟩
            case measure => simp [intOf]; omega
          · have o2 := hst'.o2
            have hwr := wrap_u32 hok.1 hok.2
            cases ml' with
            | some bl =>
              have hrl := resV_some hst'.l
              obtain ⟨w', hrun, hres, hg⟩ := hrl.store k hlt (c.lim k) hok.1 (by unfold top; omega)
              go_wp2_with fail
              go_region_with (go_at_call 7; refine (name_any k hlt _).mono ?_; rintro e w' ⟨rfl, rfl⟩)
              all_goals
                go_wp2_with fail
                go_roundw
                case rel => exact ⟨k + 1, _, _, by go_num, by omega, hst'.storeL hh hres hg⟩
                case measure => simp [intOf]; omega
            | none =>
              have f2 := hst'.fo 2
              have hst1 := hst'.make 2 (Or.inr ⟨rfl, rfl, rfl, rfl⟩)
              have hrl := resV_some hst1.l
              obtain ⟨w', hrun, hres, hg⟩ := hrl.store k hlt (c.lim k) hok.1 (by unfold top; omega)
              have hz1 : w.heap.size + 1 + 1 < wc.heap.size := by have := hst'.sz; omega
              have b4' := (hst1.bc (6 + k) (by omega)).trans (cv_lim c k hlt)
              have o2' := hst1.o2
              go_wp2_with fail
              go_region_with (go_at_call 7; refine (name_any k hlt _).mono ?_; rintro e w' ⟨rfl, rfl⟩)
              all_goals
                go_wp2_with fail
                go_roundw
                case rel => exact ⟨k + 1, _, _, by go_num, by omega, hst1.storeL hh hres hg⟩
                case measure => simp [intOf]; omega
      · have hkl : k = 3 := by omega
        subst hkl
        have o0 := hst.o0
        have o1 := hst.o1
        have o2 := hst.o2
        have o3 := hst.o3
        have r0 := hst.br 0
        have r1 := hst.br 1
        have r2 := hst.br 2
        have r3 := hst.br 3
        have f0 := hst.fr 0
        have f1 := hst.fr 1
        have f2 := hst.fr 2
        have f3 := hst.fr 3
        have hnlt : ¬ ((3 : Nat) : Int) < 3 := by omega
        have nq : ∀ x, mq = some x → x ≠ w.heap.size + 1 := fun x e => by have := hst.loq x e; omega
        have nl : ∀ x, ml = some x → x ≠ w.heap.size + 1 := fun x e => by have := hst.lol x e; omega
        go_wp2_with fail
        refine bodyPost_ret (v := .agg #[.string ⟨#[]⟩, .map mq, .map ml, .string (polOf b)]) (by simp [results, Yba.results6, go_sem, r0, r1, r2, r3]) rfl ⟨mq, ml, rfl, ?_, ?_, ?_⟩
        · exact (((hst.q.setCell nq _).setCell nq _).setCell nq _).setCell nq _
        · exact (((hst.l.setCell nl _).setCell nl _).setCell nl _).setCell nl _
        · exact (((hst.bel.setCell (by simp) _).setCell (by simp) _).setCell (by simp) _).setCell (by simp) _

theorem bld_any (c : CV) (hc : c.ok) (w : World) :
    Calls Yba.prog 6 #[.agg c.cells] w fun e w' => ∃ mq ml, e = .returned (.agg #[.string ⟨#[]⟩, .map mq, .map ml, .string (polOf c.side)]) ∧ ResV w' mq (part c.hasReq c.req 3) ∧ ResV w' ml (part c.hasLim c.lim 3) ∧ Below w.heap.size w w' :=
  bld_at c hc c.side w

end Go.Proofs.Ybulkbagm
