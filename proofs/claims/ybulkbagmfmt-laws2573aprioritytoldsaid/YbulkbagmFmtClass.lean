/-
  The look-up of the State: the walk, one theorem a way.
-/
import Derived.Test.YbulkbagmFmtParts
import Derived.BigQuiet
import Derived.Deep.QuietTactic
namespace Go.Proofs.YbulkbagmFmt
open Go.RowKit Go.Maps Go.Extern.Stop Go.Stop Go.Extern

/-- The pod names none: the global default. -/
theorem class_empty (sb pb : Nat) (gp : Option Addr) (q : ByteArray) (w : World) (h11 : w.cell? ⟨sb, 11, none⟩ = some (.pointer gp)) (h13 : w.cell? ⟨pb, 13, none⟩ = some (.string q)) (hq : q.toList.isEmpty = true) :
    Calls Ybaf.prog 7 #[.pointer (some ⟨sb, 0, none⟩), .pointer (some ⟨pb, 0, none⟩)] w fun e w' => e = .returned (.tuple #[.pointer gp, .nilIface]) ∧ w' = w := by
  go_enter Ybaf.func7, Ybaf.ntmps7
  go_wp2
  go_ret2
  exact ⟨rfl, rfl⟩

theorem Mp.drewN {w : World} {b n : Nat} {f : Fn} (h : Mp w b n f) (k : Nat) : Mp (w.drewN k) b n f := by
  refine h.heap ?_
  simp

theorem bel_drewN (w : World) (k : Nat) : Below w.heap.size w (w.drewN k) := ⟨rfl, rfl, rfl, Nat.le_refl _, fun _ _ => rfl⟩

/-- The name is filed. -/
theorem class_found (sb pb B n b : Nat) (f : Fn) (q : ByteArray) (w : World) (h10 : w.cell? ⟨sb, 10, none⟩ = some (.map (some B))) (h13 : w.cell? ⟨pb, 13, none⟩ = some (.string q)) (hq : q.toList.isEmpty = false)
    (hm : Mp w B n f) (hlen : q.size ≤ maxLen) (hf : f q.data.toList = some b) :
    Calls Ybaf.prog 7 #[.pointer (some ⟨sb, 0, none⟩), .pointer (some ⟨pb, 0, none⟩)] w fun e w' => e = .returned (.tuple #[.pointer (some ⟨b, 0, none⟩), .nilIface]) ∧ Below w.heap.size w w' := by
  have hlk : ∀ k, (Instr.lookup 54 (.map (some B)) (.string q) false).run Ybaf.prog (w.drewN k) = .ok (.pointer (some ⟨b, 0, none⟩)) (w.drewN k) := fun k => by
    rw [(hm.drewN k).look hlen, hf]; rfl
  go_enter Ybaf.func7, Ybaf.ntmps7
  go_wp2
  go_quiet (fail)
  go_wp2
  go_ret2
  exact ⟨rfl, bel_drewN _ _⟩

/-! ### fmt's stop at this program's one format -/
theorem call11 (args : Array Value) (w : World) : (callFunc 11 args).run Ybaf.prog w = ((FmtStop.errorf #[9, 75] #[47] args).run Ybaf.prog w).andThen fun v w' => .ok (.value v) w' :=
  run_callFunc_extern Ybaf.func11 (by kernel_rfl) (by kernel_rfl) (by kernel_rfl) (by kernel_rfl) args w
theorem fguard (name : String) (w : World) : (FmtStop.guard name).run Ybaf.prog w = .ok () w := by kernel_rfl
theorem fmt0 : FmtStop.printed? ⟨#[117, 110, 107, 110, 111, 119, 110, 32, 80, 114, 105, 111, 114, 105, 116, 121, 67, 108, 97, 115, 115, 32, 37, 115]⟩ 1 = some [(0, 115, false)] := by kernel_rfl
theorem fmt0r (w : World) : (FmtDoors.printed ⟨#[117, 110, 107, 110, 111, 119, 110, 32, 80, 114, 105, 111, 114, 105, 116, 121, 67, 108, 97, 115, 115, 32, 37, 115]⟩ 1).run Ybaf.prog w = .ok [(0, 115, false)] w := by kernel_rfl
def shape9 : List UInt8 := [12, 6, 0, 0, 0, 0, 0, 0, 0, 115, 116, 114, 105, 110, 103]
theorem op9 (name : String) (x : ByteArray) (w : World) : (FmtStop.operand name false 115 false (.iface 9 (.string x))).run Ybaf.prog w = .ok (shape9, FmtStop.pack x.data.toList) w := by kernel_rfl
theorem op9w (name : String) (x : ByteArray) (w : World) : (FmtStop.operand name true 115 false (.iface 9 (.string x))).run Ybaf.prog w = .ok (shape9, FmtStop.pack x.data.toList) w := by kernel_rfl
theorem strict9 (name : String) (x : ByteArray) (w : World) : (FmtStop.strict name (.iface 9 (.string x))).run Ybaf.prog w = .ok (shape9, FmtStop.pack x.data.toList) w := by kernel_rfl
theorem ptr78 (w : World) : (FmtStop.ptrTo "errors.errorString").run Ybaf.prog w = .ok 78 w := by kernel_rfl
theorem elem78 (w : World) : (elemOf 78).run Ybaf.prog w = .ok 80 w := by kernel_rfl
theorem isError78 (w : World) : (FmtDoors.textMethod 78 "Error").run Ybaf.prog w = .ok true w := by kernel_rfl

set_option maxHeartbeats 400000 in
/-- No such name: nil, and an error. -/
theorem class_miss (sb pb B n : Nat) (f : Fn) (q : ByteArray) (w : World) (h10 : w.cell? ⟨sb, 10, none⟩ = some (.map (some B))) (h13 : w.cell? ⟨pb, 13, none⟩ = some (.string q)) (hq : q.toList.isEmpty = false)
    (hm : Mp w B n f) (hlen : q.size ≤ maxLen) (hf : f q.data.toList = none) :
    Calls Ybaf.prog 7 #[.pointer (some ⟨sb, 0, none⟩), .pointer (some ⟨pb, 0, none⟩)] w fun e w' => (∃ v, e = .returned (.tuple #[.pointer none, .iface 78 v])) ∧ Below w.heap.size w w' := by
  have hlk : ∀ k, (Instr.lookup 54 (.map (some B)) (.string q) false).run Ybaf.prog (w.drewN k) = .ok (.pointer none) (w.drewN k) := fun k => by
    rw [(hm.drewN k).look hlen, hf]; rfl
  have hcell : ∀ k, ((w.drewN k).alloc (.cells #[.iface 9 (.string q)] 20)).cell? ⟨w.heap.size, 0, none⟩ = some (.iface 9 (.string q)) := fun k => by
    rw [World.cell?_alloc_at _ _ _ _ (by simp)]
    rfl
  have h1 := call11
  have h2 := fguard
  have h3 := fmt0
  have h3r := fmt0r
  have h4 := op9
  have h4w := op9w
  have h4s := strict9
  have h5 := ptr78
  have h6 := elem78
  have h7 := isError78
  go_enter Ybaf.func7, Ybaf.ntmps7
  go_wp2
  go_quiet (fail)
  go_wp2
  go_ret2
  refine ⟨⟨_, rfl⟩, ?_⟩
  exact (((bel_drewN w nq).alloc (by simp) _).alloc (by simp) _).drew

end Go.Proofs.YbulkbagmFmt
