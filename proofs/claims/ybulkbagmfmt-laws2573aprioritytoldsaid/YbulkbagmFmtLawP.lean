/-
  LawS2573APriority: the walks.
-/
import Derived.Test.YbulkbagmFmtLawA
namespace Go.Proofs.YbulkbagmFmt
open Go.RowKit Go.Maps

theorem prio_none (sb pb : Nat) (q : ByteArray) (w : World) (h11 : w.cell? ⟨sb, 11, none⟩ = some (.pointer none)) (h13 : w.cell? ⟨pb, 13, none⟩ = some (.string q)) (hq : q.toList.isEmpty = true) :
    Calls Ybaf.prog 9 #[.pointer (some ⟨sb, 0, none⟩), .pointer (some ⟨pb, 0, none⟩)] w fun e w' => e = .returned (.tuple #[.int .i32 0, .nilIface]) ∧ w' = w := by
  go_enter Ybaf.func9, Ybaf.ntmps9
  go_wp2_with fail
  refine (class_empty sb pb none q w h11 h13 hq).mono ?_
  rintro e w1 ⟨rfl, rfl⟩
  go_wp2_with fail
  go_ret2
  exact ⟨rfl, rfl⟩

theorem prio_some (sb pb G : Nat) (dv : Int) (q : ByteArray) (w : World) (h11 : w.cell? ⟨sb, 11, none⟩ = some (.pointer (some ⟨G, 0, none⟩))) (h13 : w.cell? ⟨pb, 13, none⟩ = some (.string q)) (hq : q.toList.isEmpty = true)
    (hG : w.cell? ⟨G, 1, none⟩ = some (.int .i32 dv)) :
    Calls Ybaf.prog 9 #[.pointer (some ⟨sb, 0, none⟩), .pointer (some ⟨pb, 0, none⟩)] w fun e w' => e = .returned (.tuple #[.int .i32 dv, .nilIface]) ∧ w' = w := by
  go_enter Ybaf.func9, Ybaf.ntmps9
  go_wp2_with fail
  refine (class_empty sb pb _ q w h11 h13 hq).mono ?_
  rintro e w1 ⟨rfl, rfl⟩
  go_wp2_with fail
  go_ret2
  exact ⟨rfl, rfl⟩

theorem prio_found (sb pb B n b : Nat) (v : Int) (f : Fn) (q : ByteArray) (w : World) (h10 : w.cell? ⟨sb, 10, none⟩ = some (.map (some B))) (h13 : w.cell? ⟨pb, 13, none⟩ = some (.string q)) (hq : q.toList.isEmpty = false)
    (hm : Mp w B n f) (hlen : q.size ≤ maxLen) (hf : f q.data.toList = some b) (hbl : b < w.heap.size) (hb : w.cell? ⟨b, 1, none⟩ = some (.int .i32 v)) :
    Calls Ybaf.prog 9 #[.pointer (some ⟨sb, 0, none⟩), .pointer (some ⟨pb, 0, none⟩)] w fun e w' => e = .returned (.tuple #[.int .i32 v, .nilIface]) ∧ Below w.heap.size w w' := by
  have HF : Hid (f q.data.toList = some b) := hf
  clear hf
  go_enter Ybaf.func9, Ybaf.ntmps9
  go_wp2_with fail
  refine (class_found sb pb B n b f q w h10 h13 hq hm hlen HF.out).mono ?_
  rintro e w1 ⟨rfl, hbel⟩
  have hb1 : w1.cell? ⟨b, 1, none⟩ = some (.int .i32 v) := (hbel.cell (p := ⟨b, 1, none⟩) hbl).trans hb
  go_wp2_with fail
  go_ret2
  exact ⟨rfl, hbel⟩

theorem prio_miss (sb pb B n : Nat) (f : Fn) (q : ByteArray) (w : World) (h10 : w.cell? ⟨sb, 10, none⟩ = some (.map (some B))) (h13 : w.cell? ⟨pb, 13, none⟩ = some (.string q)) (hq : q.toList.isEmpty = false)
    (hm : Mp w B n f) (hlen : q.size ≤ maxLen) (hf : f q.data.toList = none) :
    Calls Ybaf.prog 9 #[.pointer (some ⟨sb, 0, none⟩), .pointer (some ⟨pb, 0, none⟩)] w fun e w' => (∃ v, e = .returned (.tuple #[.int .i32 0, .iface 78 v])) ∧ Below w.heap.size w w' := by
  have HF : Hid (f q.data.toList = none) := hf
  clear hf
  go_enter Ybaf.func9, Ybaf.ntmps9
  go_wp2_with fail
  refine (class_miss sb pb B n f q w h10 h13 hq hm hlen HF.out).mono ?_
  rintro e w1 ⟨⟨v, rfl⟩, hbel⟩
  go_wp2_with fail
  go_ret2
  exact ⟨⟨_, rfl⟩, hbel⟩

set_option maxRecDepth 100000 in
set_option maxHeartbeats 1000000 in
theorem prioLaw_none (a : Option Addr) (cap : Nat) (ns : List ByteArray) (dv : Int) (pick : Nat) (pod q : ByteArray) (w : World) (hp : pick < 256) (hs : Strs w a ns) (hn : ns.length ≤ 1024) (HQ : Hid (q = queryOf ns pick pod))
    (hq : q.toList.isEmpty = true) :
    Calls Ybaf.prog 4 #[.slice a ns.length cap, .bool false, .int .i32 dv, .int .u8 pick, .string pod] w fun e w' => e = .returned (.bool true) ∧ Below w.heap.size w w' := by
  go_enter Ybaf.func4, Ybaf.ntmps4
  go_wp2_with fail
  refine (build_any a cap ns false dv w hn hs).mono ?_
  rintro e w1 ⟨sb, rfl, h10, h11, hsb, hG, hD⟩
  have hs1 := hs.below hD.bel
  have hbel := hD.bel
  simp only [ptrOf, Bool.false_eq_true, if_false] at h11 ⊢
  go_wp2_with fail
  refine (query_any a cap ns pick pod _ hn hp hs1).mono ?_
  rw [← HQ.out]
  rintro e w2 ⟨rfl, rfl⟩
  go_wp2_with fail
  refine (prio_none sb _ q _ (by go_simp) (by go_simp) hq).mono ?_
  rintro e w3 ⟨rfl, rfl⟩
  go_wp2_with fail
  go_ret
  exact ⟨rfl, hbel.alloc (by have := hbel.size; omega) _⟩

set_option maxRecDepth 100000 in
set_option maxHeartbeats 1000000 in
theorem prioLaw_some (a : Option Addr) (cap : Nat) (ns : List ByteArray) (dv : Int) (pick : Nat) (pod q : ByteArray) (w : World) (hp : pick < 256) (hs : Strs w a ns) (hn : ns.length ≤ 1024) (HQ : Hid (q = queryOf ns pick pod))
    (hq : q.toList.isEmpty = true) :
    Calls Ybaf.prog 4 #[.slice a ns.length cap, .bool true, .int .i32 dv, .int .u8 pick, .string pod] w fun e w' => e = .returned (.bool true) ∧ Below w.heap.size w w' := by
  go_enter Ybaf.func4, Ybaf.ntmps4
  go_wp2_with fail
  refine (build_any a cap ns true dv w hn hs).mono ?_
  rintro e w1 ⟨sb, rfl, h10, h11, hsb, hG, hD⟩
  have hs1 := hs.below hD.bel
  have hbel := hD.bel
  have hds := hD.size
  have hG1 := hG rfl
  simp only [ptrOf, if_true] at h11 ⊢
  go_wp2_with fail
  refine (query_any a cap ns pick pod _ hn hp hs1).mono ?_
  rw [← HQ.out]
  rintro e w2 ⟨rfl, rfl⟩
  go_wp2_with fail
  refine (prio_some sb _ _ dv q _ (by go_simp) (by go_simp) hq ((World.cell?_alloc_past _ _ _ hds).trans hG1)).mono ?_
  rintro e w3 ⟨rfl, rfl⟩
  go_wp2_with fail
  go_ret
  exact ⟨rfl, hbel.alloc (by have := hbel.size; omega) _⟩

set_option maxRecDepth 100000 in
set_option maxHeartbeats 1000000 in
theorem prioLaw_miss (a : Option Addr) (cap : Nat) (ns : List ByteArray) (hd : Bool) (dv : Int) (pick : Nat) (pod q : ByteArray) (w : World) (hp : pick < 256) (hs : Strs w a ns) (hn : ns.length ≤ 1024) (HQ : Hid (q = queryOf ns pick pod))
    (hq : q.toList.isEmpty = false) (hqs : q.size ≤ maxLen) (HL : Hid (lastTo ns q.data.toList ns.length = none)) :
    Calls Ybaf.prog 4 #[.slice a ns.length cap, .bool hd, .int .i32 dv, .int .u8 pick, .string pod] w fun e w' => e = .returned (.bool true) ∧ Below w.heap.size w w' := by
  go_enter Ybaf.func4, Ybaf.ntmps4
  go_wp2_with fail
  refine (build_gp a cap ns hd dv w hn hs).mono ?_
  rintro e w1 ⟨sb, gp, rfl, h10, h11, hsb, hG, hD, hs1⟩
  go_wp2_with fail
  refine (query_any a cap ns pick pod _ hn hp hs1).mono ?_
  rw [← HQ.out]
  rintro e w2 ⟨rfl, rfl⟩
  have hbel := hD.bel
  have hmp := hD.mp
  have hI : lastI ns q.data.toList ns.length = -1 := by unfold lastI; rw [HL.out]
  have HI : Hid (lastI ns q.data.toList ns.length = -1) := hI
  clear hI
  go_wp2_with fail
  refine (prio_miss sb _ w.heap.size ns.length (fK w.heap.size ns ns.length) q _ (by go_simp) (by go_simp) hq (hmp.alloc _) hqs (by unfold fK; rw [HL.out]; rfl)).mono ?_
  rintro e w3 ⟨⟨v, rfl⟩, hb3⟩
  have hs3 : Strs w3 a ns := (hs1.alloc _).below hb3
  go_wp2_with fail
  refine (last_any a cap ns q _ hn hs3).mono ?_
  rw [HI.out]
  rintro e w4 ⟨rfl, rfl⟩
  go_wp2_with fail
  go_ret
  exact ⟨rfl, (hbel.alloc (by have := hbel.size; omega) _).trans (hb3.mono (by have := hbel.size; simp; omega))⟩

set_option maxRecDepth 100000 in
set_option maxHeartbeats 1000000 in
theorem prioLaw_found (a : Option Addr) (cap : Nat) (ns : List ByteArray) (hd : Bool) (dv : Int) (pick j : Nat) (pod q : ByteArray) (w : World) (hp : pick < 256) (hs : Strs w a ns) (hn : ns.length ≤ 1024) (HQ : Hid (q = queryOf ns pick pod))
    (hq : q.toList.isEmpty = false) (hqs : q.size ≤ maxLen) (HL : Hid (lastTo ns q.data.toList ns.length = some j)) :
    Calls Ybaf.prog 4 #[.slice a ns.length cap, .bool hd, .int .i32 dv, .int .u8 pick, .string pod] w fun e w' => e = .returned (.bool true) ∧ Below w.heap.size w w' := by
  have hj := lastTo_lt ns q.data.toList ns.length j HL.out
  go_enter Ybaf.func4, Ybaf.ntmps4
  go_wp2_with fail
  refine (build_gp a cap ns hd dv w hn hs).mono ?_
  rintro e w1 ⟨sb, gp, rfl, h10, h11, hsb, hG, hD, hs1⟩
  go_wp2_with fail
  refine (query_any a cap ns pick pod _ hn hp hs1).mono ?_
  rw [← HQ.out]
  rintro e w2 ⟨rfl, rfl⟩
  have hbel := hD.bel
  have hmp := hD.mp
  have hcls := hD.cls j hj
  have hds := hD.size
  have hI : lastI ns q.data.toList ns.length = (j : Int) := by unfold lastI; rw [HL.out]
  have HI : Hid (lastI ns q.data.toList ns.length = (j : Int)) := hI
  clear hI
  unfold val at hcls
  go_wp2_with fail
  refine (prio_found sb _ w.heap.size ns.length (w.heap.size + 2 + j) ((j : Int) * 7 - 3) (fK w.heap.size ns ns.length) q _ (by go_simp) (by go_simp) hq (hmp.alloc _) hqs (by unfold fK; rw [HL.out]; rfl) (by simp; omega) ((World.cell?_alloc_past _ _ _ (by omega)).trans hcls)).mono ?_
  rintro e w3 ⟨rfl, hb3⟩
  have hs3 : Strs w3 a ns := (hs1.alloc _).below hb3
  go_wp2_with fail
  refine (last_any a cap ns q _ hn hs3).mono ?_
  rw [HI.out]
  rintro e w4 ⟨rfl, rfl⟩
  go_wp2_with fail
  go_ret
  exact ⟨rfl, (hbel.alloc (by have := hbel.size; omega) _).trans (hb3.mono (by have := hbel.size; simp; omega))⟩

set_option maxHeartbeats 400000 in
theorem prioLaw_long (a : Option Addr) (len cap : Nat) (hd : Bool) (dv : Int) (pick : Int) (pod : ByteArray) (w : World) (hn : 1024 < len) :
    Calls Ybaf.prog 4 #[.slice a len cap, .bool hd, .int .i32 dv, .int .u8 pick, .string pod] w fun e w' => e = .returned (.bool true) ∧ Below w.heap.size w w' := by
  have h' : (1024 : Int) < (len : Int) := by omega
  go_enter Ybaf.func4, Ybaf.ntmps4
  go_wp2
  go_ret
  exact ⟨rfl, Below.refl _ _⟩

theorem prioLaw_any (a : Option Addr) (cap : Nat) (ns : List ByteArray) (hd : Bool) (dv : Int) (pick : Nat) (pod : ByteArray) (w : World) (hp : pick < 256) (hpod : pod.size ≤ maxLen) (hs : Strs w a ns) :
    Calls Ybaf.prog 4 #[.slice a ns.length cap, .bool hd, .int .i32 dv, .int .u8 pick, .string pod] w fun e w' => e = .returned (.bool true) ∧ Below w.heap.size w w' := by
  by_cases hn : ns.length ≤ 1024
  · have hqs := queryOf_size ns pick pod a w hs hpod
    cases hq : (queryOf ns pick pod).toList.isEmpty with
    | true =>
      cases hd
      · exact prioLaw_none a cap ns dv pick pod _ w hp hs hn rfl hq
      · exact prioLaw_some a cap ns dv pick pod _ w hp hs hn rfl hq
    | false =>
      cases hl : lastTo ns (queryOf ns pick pod).data.toList ns.length with
      | none => exact prioLaw_miss a cap ns hd dv pick pod _ w hp hs hn rfl hq hqs hl
      | some j => exact prioLaw_found a cap ns hd dv pick j pod _ w hp hs hn rfl hq hqs hl
  · exact prioLaw_long a _ cap hd dv _ pod w (by omega)

end Go.Proofs.YbulkbagmFmt
