/-
  LawS2573AClass: the walk.
-/
import Derived.Test.YbulkbagmFmtClass
import Derived.LaidEqlPtr
namespace Go.Proofs.YbulkbagmFmt
open Go.RowKit Go.Maps

theorem queryOf_size (ns : List ByteArray) (pick : Nat) (pod : ByteArray) (a : Option Addr) (w : World) (hs : Strs w a ns) (hp : pod.size ≤ maxLen) : (queryOf ns pick pod).size ≤ maxLen := by
  unfold queryOf
  split
  · decide
  · split
    · split
      · rename_i h
        have hlt := Nat.mod_lt pick h
        obtain ⟨_, _, _, _, _, hl⟩ := hs _ hlt
        simpa [hlt] using hl
      · exact hp
    · exact hp

theorem has56 : ∃ j, Ybaf.prog.info? 56 = some j := by
  have h : (Ybaf.prog.info? 56).isSome = true := by kernel_rfl
  exact Option.isSome_iff_exists.1 h

/-- A pointer to a priority entry is itself. -/
theorem eqp (gp : Option Addr) (w : World) : (binOp .eql 25 (.pointer gp) (.pointer gp)).run Ybaf.prog w = .ok (.bool true) w := by
  cases gp with
  | none =>
    have h : Ybaf.prog.pointee 25 = 56 := by kernel_rfl
    rw [run_eql_pointer_nil (h := by rw [h]; exact Ybaf.underlying25)]
    rfl
  | some x =>
    obtain ⟨j, hj⟩ := has56
    exact run_eql_ptr_same w x Ybaf.underlying25 hj

/-- The address of the global default; G: its block. -/
def GP (hd : Bool) (dv : Int) (G : Nat) (w' : World) (gp : Option Addr) : Prop :=
  (hd = true ∧ gp = some ⟨G, 0, none⟩ ∧ w'.cell? ⟨G, 1, none⟩ = some (.int .i32 dv)) ∨ (hd = false ∧ gp = none)

theorem build_gp (a : Option Addr) (cap : Nat) (ns : List ByteArray) (hd : Bool) (dv : Int) (w : World) (hn : ns.length ≤ 1024) (hs : Strs w a ns) :
    Calls Ybaf.prog 5 #[.slice a ns.length cap, .bool hd, .int .i32 dv] w fun e w' => ∃ (sb : Nat) (gp : Option Addr), e = .returned (.tuple #[.pointer (some ⟨sb, 0, none⟩), .slice (some ⟨w.heap.size + 1, 0, none⟩) ns.length ns.length, .pointer gp]) ∧
      w'.cell? ⟨sb, 10, none⟩ = some (.map (some w.heap.size)) ∧ w'.cell? ⟨sb, 11, none⟩ = some (.pointer gp) ∧ sb < w'.heap.size ∧ GP hd dv (w.heap.size + 2 + ns.length) w' gp ∧ Done w w' ns ∧ Strs w' a ns := by
  refine (build_any a cap ns hd dv w hn hs).mono ?_
  rintro e w' ⟨sb, rfl, h10, h11, hsb, hdv, hD⟩
  have hs1 : Strs w' a ns := fun i h => by
    obtain ⟨b, o, e1, e2, e3, e4⟩ := hs i h
    exact ⟨b, o, e1, Nat.lt_of_lt_of_le e2 hD.bel.size, (hD.bel.cell e2).trans e3, e4⟩
  cases hd
  · exact ⟨sb, none, rfl, h10, h11, hsb, Or.inr ⟨rfl, rfl⟩, hD, hs1⟩
  · exact ⟨sb, some ⟨w.heap.size + 2 + ns.length, 0, none⟩, rfl, h10, h11, hsb, Or.inl ⟨rfl, rfl, hdv rfl⟩, hD, hs1⟩

theorem Strs.alloc {w : World} {a : Option Addr} {ns : List ByteArray} (hs : Strs w a ns) (o : Obj) : Strs (w.alloc o) a ns := fun i h => by
  obtain ⟨b, f, e1, e2, e3, e4⟩ := hs i h
  exact ⟨b, f, e1, by simp; omega, (World.cell?_alloc_past _ _ _ e2).trans e3, e4⟩

theorem Strs.below {w w' : World} {a : Option Addr} {ns : List ByteArray} (hs : Strs w a ns) (hb : Below w.heap.size w w') : Strs w' a ns := fun i h => by
  obtain ⟨b, f, e1, e2, e3, e4⟩ := hs i h
  exact ⟨b, f, e1, Nat.lt_of_lt_of_le e2 hb.size, (hb.cell e2).trans e3, e4⟩

set_option maxRecDepth 100000 in
set_option maxHeartbeats 1000000 in
theorem classLaw_empty (a : Option Addr) (cap : Nat) (ns : List ByteArray) (hd : Bool) (dv : Int) (pick : Nat) (pod q : ByteArray) (w : World) (hp : pick < 256) (hs : Strs w a ns) (hn : ns.length ≤ 1024) (HQ : Hid (q = queryOf ns pick pod))
    (hq : q.toList.isEmpty = true) :
    Calls Ybaf.prog 3 #[.slice a ns.length cap, .bool hd, .int .i32 dv, .int .u8 pick, .string pod] w fun e w' => e = .returned (.bool true) ∧ Below w.heap.size w w' := by
  have heq := eqp
  go_enter Ybaf.func3, Ybaf.ntmps3
  go_wp2_with fail
  refine (build_gp a cap ns hd dv w hn hs).mono ?_
  rintro e w1 ⟨sb, gp, rfl, h10, h11, hsb, hG, hD, hs1⟩
  go_wp2_with fail
  refine (query_any a cap ns pick pod _ hn hp hs1).mono ?_
  rw [← HQ.out]
  rintro e w2 ⟨rfl, rfl⟩
  have hbel := hD.bel
  go_wp2_with fail
  refine (class_empty sb _ gp q _ (by go_simp) (by go_simp) hq).mono ?_
  rintro e w3 ⟨rfl, rfl⟩
  go_wp2_with fail
  go_ret
  exact ⟨rfl, hbel.alloc (by have := hbel.size; omega) _⟩

set_option maxRecDepth 100000 in
set_option maxHeartbeats 1000000 in
theorem classLaw_miss (a : Option Addr) (cap : Nat) (ns : List ByteArray) (hd : Bool) (dv : Int) (pick : Nat) (pod q : ByteArray) (w : World) (hp : pick < 256) (hs : Strs w a ns) (hn : ns.length ≤ 1024) (HQ : Hid (q = queryOf ns pick pod))
    (hq : q.toList.isEmpty = false) (hqs : q.size ≤ maxLen) (HL : Hid (lastTo ns q.data.toList ns.length = none)) :
    Calls Ybaf.prog 3 #[.slice a ns.length cap, .bool hd, .int .i32 dv, .int .u8 pick, .string pod] w fun e w' => e = .returned (.bool true) ∧ Below w.heap.size w w' := by
  go_enter Ybaf.func3, Ybaf.ntmps3
  go_wp2_with fail
  refine (build_gp a cap ns hd dv w hn hs).mono ?_
  rintro e w1 ⟨sb, gp, rfl, h10, h11, hsb, hG, hD, hs1⟩
  go_wp2_with fail
  refine (query_any a cap ns pick pod _ hn hp hs1).mono ?_
  rw [← HQ.out]
  rintro e w2 ⟨rfl, rfl⟩
  have hbel := hD.bel
  have hmp := hD.mp
  go_wp2_with fail
  refine (class_miss sb _ w.heap.size ns.length (fK w.heap.size ns ns.length) q _ (by go_simp) (by go_simp) hq (hmp.alloc _) hqs (by unfold fK; rw [HL.out]; rfl)).mono ?_
  rintro e w3 ⟨⟨v, rfl⟩, hb3⟩
  have hs3 : Strs w3 a ns := (hs1.alloc _).below hb3
  have hI : lastI ns q.data.toList ns.length = -1 := by unfold lastI; rw [HL.out]
  have HI : Hid (lastI ns q.data.toList ns.length = -1) := hI
  clear hI
  go_wp2_with fail
  refine (last_any a cap ns q _ hn hs3).mono ?_
  rw [HI.out]
  rintro e w4 ⟨rfl, rfl⟩
  go_wp2_with fail
  go_ret
  exact ⟨rfl, (hbel.alloc (by have := hbel.size; omega) _).trans (hb3.mono (by have := hbel.size; simp; omega))⟩

set_option maxRecDepth 100000 in
set_option maxHeartbeats 1000000 in
theorem classLaw_found (a : Option Addr) (cap : Nat) (ns : List ByteArray) (hd : Bool) (dv : Int) (pick j : Nat) (pod q : ByteArray) (w : World) (hp : pick < 256) (hs : Strs w a ns) (hn : ns.length ≤ 1024) (HQ : Hid (q = queryOf ns pick pod))
    (hq : q.toList.isEmpty = false) (hqs : q.size ≤ maxLen) (HL : Hid (lastTo ns q.data.toList ns.length = some j)) :
    Calls Ybaf.prog 3 #[.slice a ns.length cap, .bool hd, .int .i32 dv, .int .u8 pick, .string pod] w fun e w' => e = .returned (.bool true) ∧ Below w.heap.size w w' := by
  have heq := eqp
  have hj := lastTo_lt ns q.data.toList ns.length j HL.out
  go_enter Ybaf.func3, Ybaf.ntmps3
  go_wp2_with fail
  refine (build_gp a cap ns hd dv w hn hs).mono ?_
  rintro e w1 ⟨sb, gp, rfl, h10, h11, hsb, hG, hD, hs1⟩
  go_wp2_with fail
  refine (query_any a cap ns pick pod _ hn hp hs1).mono ?_
  rw [← HQ.out]
  rintro e w2 ⟨rfl, rfl⟩
  have hbel := hD.bel
  have hmp := hD.mp
  have hrow := hD.row j hj
  have hds := hD.size
  go_wp2_with fail
  refine (class_found sb _ w.heap.size ns.length (w.heap.size + 2 + j) (fK w.heap.size ns ns.length) q _ (by go_simp) (by go_simp) hq (hmp.alloc _) hqs (by unfold fK; rw [HL.out]; rfl)).mono ?_
  rintro e w3 ⟨rfl, hb3⟩
  have hs3 : Strs w3 a ns := (hs1.alloc _).below hb3
  have hI : lastI ns q.data.toList ns.length = (j : Int) := by unfold lastI; rw [HL.out]
  have HI : Hid (lastI ns q.data.toList ns.length = (j : Int)) := hI
  have hr3 : w3.cell? ⟨w.heap.size + 1, j, none⟩ = some (.pointer (some ⟨w.heap.size + 2 + j, 0, none⟩)) := by
    rw [hb3.cell (by simp; omega), World.cell?_alloc_past _ _ _ (by omega)]
    exact hrow
  clear hI
  go_wp2_with fail
  refine (last_any a cap ns q _ hn hs3).mono ?_
  rw [HI.out]
  rintro e w4 ⟨rfl, rfl⟩
  go_wp2_with fail
  go_ret
  exact ⟨rfl, (hbel.alloc (by have := hbel.size; omega) _).trans (hb3.mono (by have := hbel.size; simp; omega))⟩

set_option maxHeartbeats 400000 in
theorem classLaw_long (a : Option Addr) (len cap : Nat) (hd : Bool) (dv : Int) (pick : Int) (pod : ByteArray) (w : World) (hn : 1024 < len) :
    Calls Ybaf.prog 3 #[.slice a len cap, .bool hd, .int .i32 dv, .int .u8 pick, .string pod] w fun e w' => e = .returned (.bool true) ∧ Below w.heap.size w w' := by
  have h' : (1024 : Int) < (len : Int) := by omega
  go_enter Ybaf.func3, Ybaf.ntmps3
  go_wp2
  go_ret
  exact ⟨rfl, Below.refl _ _⟩

theorem classLaw_any (a : Option Addr) (cap : Nat) (ns : List ByteArray) (hd : Bool) (dv : Int) (pick : Nat) (pod : ByteArray) (w : World) (hp : pick < 256) (hpod : pod.size ≤ maxLen) (hs : Strs w a ns) :
    Calls Ybaf.prog 3 #[.slice a ns.length cap, .bool hd, .int .i32 dv, .int .u8 pick, .string pod] w fun e w' => e = .returned (.bool true) ∧ Below w.heap.size w w' := by
  by_cases hn : ns.length ≤ 1024
  · have hqs := queryOf_size ns pick pod a w hs hpod
    cases hq : (queryOf ns pick pod).toList.isEmpty with
    | true => exact classLaw_empty a cap ns hd dv pick pod _ w hp hs hn rfl hq
    | false =>
      cases hl : lastTo ns (queryOf ns pick pod).data.toList ns.length with
      | none => exact classLaw_miss a cap ns hd dv pick pod _ w hp hs hn rfl hq hqs hl
      | some j => exact classLaw_found a cap ns hd dv pick j pod _ w hp hs hn rfl hq hqs hl
  · exact classLaw_long a _ cap hd dv _ pod w (by omega)

end Go.Proofs.YbulkbagmFmt
