/-
  LawS2573BModel: from the arguments as data to what the walk is told.
-/
import Derived.Test.YbulkbagmModel
import Derived.OpenShut
import Derived.Deep.Slices
namespace Go.Proofs.Ybulkbagm
open Go.RowKit

theorem cells24 : Yba.prog.cellsOf 24 = 3 := by kernel_rfl
theorem cells25 : Yba.prog.cellsOf 25 = 3 := by kernel_rfl
theorem cells23 : Yba.prog.cellsOf 23 = 1 := by kernel_rfl
theorem cells4 : Yba.prog.cellsOf 4 = 1 := by kernel_rfl
theorem cells46 : Yba.prog.cellsOf 46 = 13 := by kernel_rfl
theorem cells27 : Yba.prog.cellsOf 27 = 6 := by kernel_rfl

section
variable {H : Type} {enc : TypeId × Value → H} {w : World} {base : Nat} {spare : Nat → Bool} {held : Bool} {fuel : Nat} {cs : List Value} {x : DataW H × List MemPlace}

theorem u32_bd {n : Int} (h : (Lit.int .u32 n).wf = true) : 0 ≤ n ∧ n ≤ 4294967295 := by
  have := bounds_u32 h
  omega

/-- Three numbers by their index. -/
def three {α : Type} (a b c : α) : Nat → α
  | 0 => a
  | 1 => b
  | _ => c

theorem arr_ints (h : DataW.trod enc Yba.prog w base spare held fuel 24 cs = some x) : ∃ f : Nat → Int, cs = [.int .u32 (f 0), .int .u32 (f 1), .int .u32 (f 2)] ∧ ∀ i, i < 3 → 0 ≤ f i ∧ f i ≤ 4294967295 := by
  obtain ⟨xs, m, _, _, hl, hx, he⟩ := DataW.trod_array Yba.underlying24 h
  rw [cells24] at hl
  rw [cells23] at he
  match cs, hl with
  | [c0, c1, c2], _ =>
    match xs, hx with
    | [y0, y1, y2], _ =>
      have h0 := he 0 (by omega)
      have h1 := he 1 (by omega)
      have h2 := he 2 (by omega)
      simp only [List.drop, List.take, List.getElem?_cons_zero, List.getElem?_cons_succ] at h0 h1 h2
      obtain ⟨a, e0, _, w0⟩ := DataW.trod_int Yba.underlying23 h0
      obtain ⟨b, e1, _, w1⟩ := DataW.trod_int Yba.underlying23 h1
      obtain ⟨c, e2, _, w2⟩ := DataW.trod_int Yba.underlying23 h2
      simp only [List.cons.injEq, and_true] at e0 e1 e2
      subst e0 e1 e2
      refine ⟨three a b c, rfl, fun i hi => ?_⟩
      have hc : i = 0 ∨ i = 1 ∨ i = 2 := by omega
      rcases hc with rfl | rfl | rfl
      · exact u32_bd w0
      · exact u32_bd w1
      · exact u32_bd w2

theorem arr_bools (h : DataW.trod enc Yba.prog w base spare held fuel 25 cs = some x) : ∃ f : Nat → Bool, cs = [.bool (f 0), .bool (f 1), .bool (f 2)] := by
  obtain ⟨xs, m, _, _, hl, hx, he⟩ := DataW.trod_array Yba.underlying25 h
  rw [cells25] at hl
  rw [cells4] at he
  match cs, hl with
  | [c0, c1, c2], _ =>
    match xs, hx with
    | [y0, y1, y2], _ =>
      have h0 := he 0 (by omega)
      have h1 := he 1 (by omega)
      have h2 := he 2 (by omega)
      simp only [List.drop, List.take, List.getElem?_cons_zero, List.getElem?_cons_succ] at h0 h1 h2
      obtain ⟨a, e0, _⟩ := DataW.trod_bool Yba.underlying4 h0
      obtain ⟨b, e1, _⟩ := DataW.trod_bool Yba.underlying4 h1
      obtain ⟨c, e2, _⟩ := DataW.trod_bool Yba.underlying4 h2
      simp only [List.cons.injEq, and_true] at e0 e1 e2
      subst e0 e1 e2
      exact ⟨three a b c, rfl⟩

theorem len2 {α : Type} {l : List α} (h : l.length = 2) : ∃ a b, l = [a, b] := by
  match l, h with
  | [a, b], _ => exact ⟨a, b, rfl⟩
theorem len5 {α : Type} {l : List α} (h : l.length = 5) : ∃ a b c d e, l = [a, b, c, d, e] := by
  match l, h with
  | [a, b, c, d, e], _ => exact ⟨a, b, c, d, e, rfl⟩
theorem len6 {α : Type} {l : List α} (h : l.length = 6) : ∃ a b c d e f, l = [a, b, c, d, e, f] := by
  match l, h with
  | [a, b, c, d, e, f], _ => exact ⟨a, b, c, d, e, f, rfl⟩
theorem len13 {α : Type} {l : List α} (h : l.length = 13) : ∃ a b c d e f g h i j k m n, l = [a, b, c, d, e, f, g, h, i, j, k, m, n] := by
  match l, h with
  | [a, b, c, d, e, f, g, h, i, j, k, m, n], _ => exact ⟨a, b, c, d, e, f, g, h, i, j, k, m, n, rfl⟩

theorem open_over (h : DataW.trod enc Yba.prog w base spare held fuel 27 cs = some x) : ∃ o : OV, cs = o.cells.toList ∧ o.ok := by
  obtain ⟨xs, n, _, _, hl, hx, he⟩ := DataW.trod_struct Yba.underlying27 h
  rw [cells27] at hl
  obtain ⟨c0, c1, c2, c3, c4, c5, rfl⟩ := len6 hl
  obtain ⟨y0, y1, rfl⟩ := len2 hx
  have h0 : DataW.trod enc Yba.prog w base spare held n 24 [c0, c1, c2] = some y0 := by simpa [cells24] using he 0 _ rfl
  have h1 : DataW.trod enc Yba.prog w base spare held n 25 [c3, c4, c5] = some y1 := by simpa [cells25] using he 1 _ rfl
  obtain ⟨f, e0, hb⟩ := arr_ints h0
  obtain ⟨g, e1⟩ := arr_bools h1
  simp only [List.cons.injEq, and_true] at e0 e1
  obtain ⟨rfl, rfl, rfl⟩ := e0
  obtain ⟨rfl, rfl, rfl⟩ := e1
  exact ⟨⟨f, g⟩, rfl, hb⟩

theorem open_cv (h : DataW.trod enc Yba.prog w base spare held fuel 46 cs = some x) : ∃ c : CV, cs = c.cells.toList ∧ c.ok := by
  obtain ⟨xs, n, _, _, hl, hx, he⟩ := DataW.trod_struct Yba.underlying46 h
  rw [cells46] at hl
  obtain ⟨c0, c1, c2, c3, c4, c5, c6, c7, c8, c9, c10, c11, c12, rfl⟩ := len13 hl
  obtain ⟨y0, y1, y2, y3, y4, rfl⟩ := len5 hx
  have h0 : DataW.trod enc Yba.prog w base spare held n 24 [c0, c1, c2] = some y0 := by simpa [cells24] using he 0 _ rfl
  have h1 : DataW.trod enc Yba.prog w base spare held n 25 [c3, c4, c5] = some y1 := by simpa [cells25] using he 1 _ rfl
  have h2 : DataW.trod enc Yba.prog w base spare held n 24 [c6, c7, c8] = some y2 := by simpa [cells24] using he 2 _ rfl
  have h3 : DataW.trod enc Yba.prog w base spare held n 25 [c9, c10, c11] = some y3 := by simpa [cells25] using he 3 _ rfl
  have h4 : DataW.trod enc Yba.prog w base spare held n 4 [c12] = some y4 := by simpa [cells4] using he 4 _ rfl
  obtain ⟨f, e0, hb⟩ := arr_ints h0
  obtain ⟨g, e1⟩ := arr_bools h1
  obtain ⟨f', e2, hb'⟩ := arr_ints h2
  obtain ⟨g', e3⟩ := arr_bools h3
  obtain ⟨s, e4, _⟩ := DataW.trod_bool Yba.underlying4 h4
  simp only [List.cons.injEq, and_true] at e0 e1 e2 e3 e4
  obtain ⟨rfl, rfl, rfl⟩ := e0
  obtain ⟨rfl, rfl, rfl⟩ := e1
  obtain ⟨rfl, rfl, rfl⟩ := e2
  obtain ⟨rfl, rfl, rfl⟩ := e3
  subst e4
  exact ⟨⟨f, g, f', g', s⟩, rfl, hb, hb'⟩
end

theorem elem22 : Yba.prog.elem 22 = 46 := by kernel_rfl
theorem hidx22 (w : World) (b off n cap i : Nat) (h : i < n) : (Instr.indexAt 22 (.slice (some ⟨b, off, none⟩) n cap) (.int .i64 i)).run Yba.prog w = .ok (.pointer (some ⟨b, off + i * 13, none⟩)) w := by
  rw [run_indexAt_slice (h := by rw [elem22]; exact Yba.underlying22), if_pos (by omega), elem22]
  have hs : (sizeOf 46).run Yba.prog w = .ok 13 w := by kernel_rfl
  rw [hs]
  simp only [Result.andThen, Go.WideShapes.add_plain]
  rfl

theorem rows_of {H : Type} {enc : TypeId × Value → H} {w : World} {base : Nat} {spare : Nat → Bool} {held : Bool} {n : Nat} {a : Addr} {len m : Nat} (hlm : len ≤ m)
    (h : ∀ i, i < m → ∃ (cs : List Value) (x : DataW H × List MemPlace), w.cells? base (a.add (i * Yba.prog.cellsOf 46)) (Yba.prog.cellsOf 46) = some cs ∧ DataW.trod enc Yba.prog w base spare held n 46 cs = some x) :
    ∃ cv : List CV, cv.length = len ∧ RowsCV w (some a) cv := by
  rw [cells46] at h
  have hc : ∀ i, i < len → ∃ c : CV, w.cells? base (a.add (i * 13)) 13 = some c.cells.toList ∧ c.ok := fun i hi => by
    obtain ⟨cs, x, h1, h2⟩ := h i (by omega)
    obtain ⟨c, rfl, hok⟩ := open_cv h2
    exact ⟨c, h1, hok⟩
  have hex : ∃ f : Nat → CV, ∀ i, i < len → w.cells? base (a.add (i * 13)) 13 = some (f i).cells.toList ∧ (f i).ok := by
    have hinh : Nonempty CV := ⟨⟨fun _ => 0, fun _ => false, fun _ => 0, fun _ => false, false⟩⟩
    haveI : Inhabited CV := ⟨Classical.choice hinh⟩
    exact Deep.choose_lt hc
  obtain ⟨f, hf⟩ := hex
  refine ⟨(List.range len).map f, by simp, fun i hi => ?_⟩
  have hi' : i < len := by simpa using hi
  obtain ⟨h1, hok⟩ := hf i hi'
  obtain ⟨_, _, hcell⟩ := World.cells?_some h1
  have hfst : ∃ b off, a = ⟨b, off, none⟩ := by
    obtain ⟨h10, _⟩ := hf 0 (by omega)
    obtain ⟨_, _, hc0⟩ := World.cells?_some h10
    have := World.cell?_spot ((hc0 0 (by omega)).trans (cv_req (f 0) 0 (by omega)))
    obtain ⟨b, off, spot⟩ := a
    have hspot : spot = none := by simpa [Addr.add] using this
    exact ⟨b, off, by rw [hspot]⟩
  obtain ⟨b, off, rfl⟩ := hfst
  rw [Go.WideShapes.add_plain] at hcell
  have hcl : ∀ j, j < 13 → w.cell? ⟨b, off + i * 13 + j, none⟩ = (f i).cells.toList[j]? := fun j hj => by
    have := hcell j hj
    rw [Go.WideShapes.add_plain] at this
    exact this
  have e0 : ((List.range len).map f)[i] = f i := by simp
  rw [e0]
  have hlen : ((List.range len).map f).length = len := by simp
  rw [hlen]
  exact ⟨b, off + i * 13, fun cap wx => hidx22 wx b off len cap i hi', World.block_lt_of_cell? w ⟨b, off + i * 13 + 0, none⟩ (hcl 0 (by omega)), hcl 0 (by omega), hcl 1 (by omega), hcl 2 (by omega), hcl 3 (by omega), hcl 4 (by omega), hcl 5 (by omega), hcl 6 (by omega), hcl 7 (by omega), hcl 8 (by omega), hcl 9 (by omega), hcl 10 (by omega), hcl 11 (by omega), hcl 12 (by omega), hok⟩

theorem rows_nil (w : World) (a : Option Addr) : RowsCV w a [] := fun i h => by cases h

end Go.Proofs.Ybulkbagm
