/-
  zzs2573abuild: the walk.
-/
import Derived.Test.YbulkbagmFmtMap
import Derived.Outline
namespace Go.Proofs.YbulkbagmFmt
open Go.RowKit Go.Maps

/-- The slice a leads to the names ns. -/
def Strs (w : World) (a : Option Addr) (ns : List ByteArray) : Prop := ∀ i (h : i < ns.length), ∃ b o, a = some ⟨b, o, none⟩ ∧ b < w.heap.size ∧ w.cell? ⟨b, o + i, none⟩ = some (.string ns[i]) ∧ ns[i].size ≤ maxLen

/-- The last of the first k names that is q. -/
def lastTo (ns : List ByteArray) (q : List UInt8) : Nat → Option Nat
  | 0 => none
  | k + 1 => if (ns.getD k ByteArray.empty).data.toList = q then some k else lastTo ns q k

/-- What the map holds behind k rounds; B: the map's block. -/
def fK (B : Nat) (ns : List ByteArray) (k : Nat) : Fn := fun q => (lastTo ns q k).map (fun j => B + 2 + j)

theorem fK_step (B : Nat) (ns : List ByteArray) (k : Nat) (h : k < ns.length) : fset (fK B ns k) ns[k].data.toList (B + 2 + k) = fK B ns (k + 1) := by
  funext q
  unfold fset fK
  have e : ns.getD k ByteArray.empty = ns[k] := by simp [h]
  by_cases hq : q = ns[k].data.toList
  · simp [lastTo, hq, h]
  · have : ¬ ns[k].data.toList = q := fun e => hq e.symm
    simp [lastTo, hq, this, h]

theorem fK_zero (B : Nat) (ns : List ByteArray) : fK B ns 0 = fun _ => none := rfl

def val (j : Nat) : Int := (j : Int) * 7 - 3

theorem elem22 : Ybaf.prog.elem 22 = 9 := by kernel_rfl
theorem hidx22 (w : World) (b o n cap i : Nat) (h : i < n) : (Instr.indexAt 22 (.slice (some ⟨b, o, none⟩) n cap) (.int .i64 i)).run Ybaf.prog w = .ok (.pointer (some ⟨b, o + i, none⟩)) w := by
  rw [run_indexAt_slice (h := by rw [elem22]; exact Ybaf.underlying22), if_pos (by omega), elem22]
  have hs : (sizeOf 9).run Ybaf.prog w = .ok 1 w := by kernel_rfl
  rw [hs]
  simp only [Result.andThen, Addr.add]
  have e : o + (i : Int).toNat * 1 = o + i := by omega
  rw [e]
  split
  · have : i = 0 := by omega
    rw [this]
    rfl
  · rfl

theorem hmk54 (w : World) (n : Int) : (Instr.makeMap 54 (some (.int .i64 n))).run Ybaf.prog w = .ok (.map (some w.heap.size)) (w.alloc (.map #[] 0)) := by
  simp [Instr.makeMap, run_underlying Ybaf.underlying54, asInt]
  rfl

theorem info25 : (Ybaf.prog.info? 25).map (fun i => (i.zero, i.size, i.bytes)) = some (some (.pointer none), 1, 8) := by kernel_rfl

theorem hmks (w : World) (n : Nat) (h : n ≤ 1024) : (Instr.makeSlice 24 (.int .i64 n) (.int .i64 n)).run Ybaf.prog w = .ok (.slice (some ⟨w.heap.size, 0, none⟩) n n) (w.alloc (.cells (madeCells #[.pointer none] n) 25)) := by
  obtain ⟨i0, hi, hz0, hz1, hz2⟩ := info_parts info25
  have := run_make (P := Ybaf.prog) w 24 25 i0 (.pointer none) Ybaf.underlying24 hi hz0 .i64 .i64 n n (by omega) (by omega) (by rw [hz2]; omega) (by omega)
  rw [this, hz1]
  simp [Value.cells]

theorem made_at (n j : Nat) (h : j < n) : (madeCells #[.pointer none] n)[j]? = some (.pointer none) := by
  simp [madeCells, h, Nat.mod_one]

theorem turned_block {w w' : World} {b i : Nat} (h : w.mapTurned w' b) (hne : i ≠ b) : w'.heap[i]? = w.heap[i]? := by
  obtain ⟨es, clock, es', clock', hb, rfl⟩ := h
  exact ChangeMaps.heap_setBlock_other hb _ hne

theorem turned_cell {w w' : World} {b : Nat} {a : Addr} (h : w.mapTurned w' b) (hne : a.block ≠ b) : w'.cell? a = w.cell? a := World.cell?_of_block (w := w) (turned_block h hne)
theorem turned_frozen {w w' : World} {b : Nat} {a : Addr} (h : w.mapTurned w' b) (hne : a.block ≠ b) : w'.frozen? a = w.frozen? a := World.frozen?_of_block (w := w) (turned_block h hne)

/-- What stands behind k rounds. -/
structure Built (w wr : World) (ns : List ByteArray) (k : Nat) : Prop where
  mp : Mp wr w.heap.size k (fK w.heap.size ns k)
  row : ∀ j, j < ns.length → wr.cell? ⟨w.heap.size + 1, j, none⟩ = some (ptrOf (if j < k then some (w.heap.size + 2 + j) else none))
  frz : ∀ j, wr.frozen? ⟨w.heap.size + 1, j, none⟩ = false
  cls : ∀ j, j < k → wr.cell? ⟨w.heap.size + 2 + j, 1, none⟩ = some (.int .i32 (val j))
  size : wr.heap.size = w.heap.size + 2 + k
  bel : Below w.heap.size w wr

theorem built_zero (w : World) (ns : List ByteArray) : Built w ((w.alloc (.map #[] 0)).alloc (.cells (madeCells #[.pointer none] ns.length) 25)) ns 0 := by
  refine ⟨(Mp.made w).alloc _, fun j hj => ?_, fun j => ?_, fun j hj => by omega, by simp, ((Below.refl _ _).alloc (Nat.le_refl _) _).alloc (by simp) _⟩
  · rw [World.cell?_alloc_at _ _ _ _ (by simp), made_at _ _ hj]
    rfl
  · exact World.frozen?_alloc_at _ _ _ _ (by simp)

theorem built_step {w wr w1 : World} {ns : List ByteArray} {k : Nat} (hB : Built w wr ns k) (hk : k < ns.length) (nm s1 s2 : ByteArray) (d : Bool)
    (hmp : Mp w1 w.heap.size (k + 1) (fset (fK w.heap.size ns k) ns[k].data.toList wr.heap.size))
    (ht : ((wr.setCell ⟨w.heap.size + 1, k, none⟩ (.pointer (some ⟨wr.heap.size, 0, none⟩))).alloc (.cells #[.string nm, .int .i32 ((k : Int) * 7 - 3), .bool d, .string s1, .string s2] 56)).mapTurned w1 w.heap.size) :
    Built w w1 ns (k + 1) := by
  have hsz := hB.size
  have hs1 : (wr.setCell ⟨w.heap.size + 1, k, none⟩ (.pointer (some ⟨wr.heap.size, 0, none⟩))).heap.size = wr.heap.size := by simp [World.setCell]
  refine ⟨?_, fun j hj => ?_, fun j => ?_, fun j hj => ?_, ?_, ?_⟩
  · rw [hsz, fK_step _ _ _ hk] at hmp
    exact hmp
  · rw [turned_cell ht (by simp), World.cell?_alloc_past _ _ _ (by rw [hs1]; omega)]
    by_cases e : j = k
    · subst e
      rw [World.cell?_setCell_same _ _ _ (hB.row j hj), hsz]
      simp [ptrOf]
    · rw [World.cell?_setCell_other _ _ _ _ (fun e1 => e (by cases e1; rfl)), hB.row j hj]
      by_cases h1 : j < k
      · rw [if_pos h1, if_pos (by omega)]
      · rw [if_neg h1, if_neg (by omega)]
  · rw [turned_frozen ht (by simp), World.frozen?_alloc_past _ _ _ (by rw [hs1]; omega), World.frozen?_setCell]
    exact hB.frz j
  · rw [turned_cell ht (by show w.heap.size + 2 + j ≠ _; omega)]
    by_cases e : j = k
    · subst e
      rw [World.cell?_alloc_at _ _ _ _ (by rw [hs1]; omega)]
      rfl
    · rw [World.cell?_alloc_past _ _ _ (by rw [hs1]; omega), World.cell?_setCell_other _ _ _ _ (fun e1 => by simp at e1)]
      exact hB.cls j (by omega)
  · rw [turned_size ht, World.size_alloc, hs1]
    omega
  · have hb1 := (hB.bel.setCell (p := ⟨w.heap.size + 1, k, none⟩) (by simp) (.pointer (some ⟨wr.heap.size, 0, none⟩))).alloc (by rw [hs1]; omega) (.cells #[.string nm, .int .i32 ((k : Int) * 7 - 3), .bool d, .string s1, .string s2] 56)
    exact hb1.grown ht.grown (by simp only [World.size_alloc, hs1]; omega) (fun j hj => by cases hj; exact Nat.le_refl _)

/-- What 'zzs2573abuild' leaves of the map, the row of pointers and the classes. -/
structure Done (w w' : World) (ns : List ByteArray) : Prop where
  mp : Mp w' w.heap.size ns.length (fK w.heap.size ns ns.length)
  row : ∀ j, j < ns.length → w'.cell? ⟨w.heap.size + 1, j, none⟩ = some (.pointer (some ⟨w.heap.size + 2 + j, 0, none⟩))
  cls : ∀ j, j < ns.length → w'.cell? ⟨w.heap.size + 2 + j, 1, none⟩ = some (.int .i32 (val j))
  bel : Below w.heap.size w w'
  size : w.heap.size + 2 + ns.length < w'.heap.size

theorem Built.done {w wr w' : World} {ns : List ByteArray} (hB : Built w wr ns ns.length) (hb : Below wr.heap.size wr w') (hz : wr.heap.size < w'.heap.size) : Done w w' ns := by
  have hsz := hB.size
  refine ⟨hB.mp.heap (hb.block _ (by omega)), fun j hj => ?_, fun j hj => ?_, hB.bel.trans (hb.mono (by omega)), by omega⟩
  · rw [hb.cell (by show w.heap.size + 1 < _; omega), hB.row j hj, if_pos hj]
    rfl
  · rw [hb.cell (by show w.heap.size + 2 + j < _; omega)]
    exact hB.cls j hj

theorem Done.later {w w' w'' : World} {ns : List ByteArray} (hD : Done w w' ns) (hb : Below w'.heap.size w' w'') : Done w w'' ns := by
  have hsz := hD.size
  refine ⟨hD.mp.heap (hb.block _ (by omega)), fun j hj => ?_, fun j hj => ?_, hD.bel.trans (hb.mono (by omega)), by have := hb.size; omega⟩
  · rw [hb.cell (by show w.heap.size + 1 < _; omega)]
    exact hD.row j hj
  · rw [hb.cell (by show w.heap.size + 2 + j < _; omega)]
    exact hD.cls j hj

set_option maxRecDepth 100000 in
set_option maxHeartbeats 1000000 in
theorem build_any (a : Option Addr) (cap : Nat) (ns : List ByteArray) (hd : Bool) (dv : Int) (w : World) (hn : ns.length ≤ 1024) (hs : Strs w a ns) :
    Calls Ybaf.prog 5 #[.slice a ns.length cap, .bool hd, .int .i32 dv] w fun e w' => ∃ sb, e = .returned (.tuple #[.pointer (some ⟨sb, 0, none⟩), .slice (some ⟨w.heap.size + 1, 0, none⟩) ns.length ns.length, ptrOf (if hd = true then some (w.heap.size + 2 + ns.length) else none)]) ∧
      w'.cell? ⟨sb, 10, none⟩ = some (.map (some w.heap.size)) ∧ w'.cell? ⟨sb, 11, none⟩ = some (ptrOf (if hd = true then some (w.heap.size + 2 + ns.length) else none)) ∧ sb < w'.heap.size ∧ (hd = true → w'.cell? ⟨w.heap.size + 2 + ns.length, 1, none⟩ = some (.int .i32 dv)) ∧ Done w w' ns := by
  have hmk := hmk54
  have hms := fun wx => hmks wx ns.length hn
  go_enter Ybaf.func5, Ybaf.ntmps5
  go_wp2
  go_loopw [23] (fun i wr => ∃ k : Nat, i = .int .i64 k ∧ k ≤ ns.length ∧ Built w wr ns k)
    (fun i _ => ns.length - (intOf i).toNat)
  case atStart => exact ⟨0, rfl, Nat.zero_le _, built_zero w ns⟩
  case round =>
    obtain ⟨k, rfl, hk, hB⟩ := hrel
    have hb := hB.bel
    by_cases hlt : k < ns.length
    · obtain ⟨b, o, ha, hblt, hc, hlen⟩ := hs k hlt
      have hix := fun wx => hidx22 wx b o ns.length cap k hlt
      rw [← ha] at hix
      clear ha
      have hcr := (hb.cell (p := ⟨b, o + k, none⟩) hblt).trans hc
      have hz1 : w.heap.size + 1 < wr.heap.size := by have := hB.size; omega
      have hz2 : b < wr.heap.size := by omega
      have hr0 := hB.row k hlt
      simp only [Nat.lt_irrefl, if_false, ptrOf] at hr0
      have hf0 := hB.frz k
      have hne : b ≠ w.heap.size + 1 := by omega
      have hm1 := (hB.mp.setCell (a := ⟨w.heap.size + 1, k, none⟩) (by simp) (.pointer (some ⟨wr.heap.size, 0, none⟩))).alloc (.cells #[.string ns[k], .int .i32 ((k : Int) * 7 - 3), .bool false, .string ⟨#[]⟩, .string ⟨#[]⟩] 56)
      go_wp2_with (first
        | (at_mapUpdate; refine wpList_update_mp _ rfl _ _ _ rfl _ k _ rfl hm1 (by unfold maxLen; omega) ns[k] rfl hlen wr.heap.size rfl ?_; intro w1 hmp1 ht1))
      go_roundw
      case rel => exact ⟨k + 1, by go_num, by omega, built_step hB hlt _ _ _ _ hmp1 ht1⟩
      case measure => simp [intOf]; omega
    · have hkl : k = ns.length := by omega
      subst hkl
      have hsz := hB.size
      have HZ : Hid (wr.heap.size = w.heap.size + 2 + ns.length) := hsz
      clear hsz
      cases hd
      · go_wp2_with fail
        go_ret3
        refine ⟨wr.heap.size, rfl, by go_simp, by go_simp; rfl, by simp, hB.done ((Below.refl _ _).alloc (Nat.le_refl _) _) (by simp)⟩
      · go_wp2_with fail
        go_ret3
        refine ⟨wr.heap.size + 1, ?_, by go_simp, ?_, by simp, ?_, hB.done (((Below.refl _ _).alloc (Nat.le_refl _) _).alloc (by simp) _) (by simp; omega)⟩
        · rw [← HZ.out]; rfl
        · rw [← HZ.out]; go_simp
          try rfl
        · rw [← HZ.out]; go_simp

end Go.Proofs.YbulkbagmFmt
