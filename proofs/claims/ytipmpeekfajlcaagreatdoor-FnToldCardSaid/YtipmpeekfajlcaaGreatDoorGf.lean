/- What is proved: a map of texts, by its entries; contracts of objset's insert. -/
import Derived.MapKept
import Derived.Maps.Own
import Derived.RangeFuncOwn
import Derived.StillTailTactics
import Derived.Test.YtipmpeekfajlcaaGreatDoorGe
namespace Go.Proofs.YtipmpeekfajlcaaGreatDoor
open Go.RowKit Go.Proofs

/-- The map at block m has the texts ids as its keys, in this order. -/
def SetAt (w : World) (m : Nat) (ids : List ByteArray) : Prop := ∃ es clock, w.heap[m]? = some (.map es clock) ∧ es.toList.map (·.key) = ids.map Value.string

theorem SetAt.keys {ids : List ByteArray} {es : Array MapEntry} (h : es.toList.map (·.key) = ids.map Value.string) : ∀ x ∈ es.toList, ∃ s ∈ ids, x.key = .string s := by
  intro x hx
  have : x.key ∈ es.toList.map (·.key) := List.mem_map_of_mem hx
  rw [h] at this
  obtain ⟨s, hs, e⟩ := List.mem_map.1 this
  exact ⟨s, hs, e.symm⟩

theorem SetAt.none_now {ids : List ByteArray} {es : Array MapEntry} (h : es.toList.map (·.key) = ids.map Value.string) {s : ByteArray} (hs : s ∉ ids) : Instr.findNow .string (.string s) es.toList 0 = some none := by
  have hk := SetAt.keys h
  rcases MapKept.findNow_spec (d := .string) (k := .string s) (by simp [MapKept.IsKey]) es.toList 0 (fun x hx => by obtain ⟨t, _, e⟩ := hk x hx; rw [e]; simp [MapKept.IsKey]) with ⟨h1, _⟩ | ⟨j, e, _, h2, h3⟩
  · exact h1
  · obtain ⟨t, ht, e2⟩ := hk e (List.mem_of_getElem? h2)
    rw [e2] at h3
    cases h3
    exact absurd ht hs

theorem SetAt.miss {w : World} {m : Nat} {ids : List ByteArray} (h : SetAt w m ids) {s : ByteArray} (hs : s ∉ ids) {t k e : TypeId} (ht : Tryz.prog.underlying t = some (.map k e)) (hk : Tryz.prog.underlying k = some .string)
    (hz : (zeroValue e).run Tryz.prog w = .ok .nilIface w) : (Instr.lookup t (.map (some m)) (.string s) false).run Tryz.prog w = .ok .nilIface w := by
  obtain ⟨es, clock, hb, hkeys⟩ := h
  have hc : ∀ b, (Instr.checkKey b 10000 k (.string s)).run Tryz.prog w = .ok () w := fun b => MapKept.run_checkKey (k := .string s) hk (by simp [MapKept.IsKey]) b 9999
  simp [Instr.lookup, run_underlying ht, MapKept.run_getObj_map hb, hc, MapKept.run_findKey hk (SetAt.none_now hkeys hs), hz, Result.andThen]

theorem miss_nil (w : World) (s : ByteArray) {t k e : TypeId} (ht : Tryz.prog.underlying t = some (.map k e)) (hk : Tryz.prog.underlying k = some .string)
    (hz : (zeroValue e).run Tryz.prog w = .ok .nilIface w) : (Instr.lookup t (.map none) (.string s) false).run Tryz.prog w = .ok .nilIface w := by
  have hc : ∀ b, (Instr.checkKey b 10000 k (.string s)).run Tryz.prog w = .ok () w := fun b => MapKept.run_checkKey (k := .string s) hk (by simp [MapKept.IsKey]) b 9999
  have hf : Instr.findNow .string (.string s) ([] : List MapEntry) 0 = some none := rfl
  simp [Instr.lookup, run_underlying ht, hc, MapKept.run_findKey hk hf, hz, Result.andThen]

theorem SetAt.put {w : World} {m : Nat} {ids : List ByteArray} (h : SetAt w m ids) {s : ByteArray} (hs : s ∉ ids) {t k e : TypeId} (ht : Tryz.prog.underlying t = some (.map k e)) (hk : Tryz.prog.underlying k = some .string) (v : Value) :
    ∃ o, (Instr.mapUpdate t (.map (some m)) (.string s) v).run Tryz.prog w = .ok () (w.putObj m o) ∧ SetAt (w.putObj m o) m (ids ++ [s]) ∧ ∃ es c, o = .map es c := by
  obtain ⟨es, clock, hb, hkeys⟩ := h
  have hc : ∀ b, (Instr.checkKey b 10000 k (.string s)).run Tryz.prog w = .ok () w := fun b => MapKept.run_checkKey (k := .string s) hk (by simp [MapKept.IsKey]) b 9999
  refine ⟨.map (es.push { key := .string s, val := v, born := clock }) (clock + 1), ?_, ⟨_, _, (MapKept.heap_set hb).1, by simp [hkeys]⟩, _, _, rfl⟩
  simp [Instr.mapUpdate, run_underlying ht, MapKept.run_getObj_map hb, hc, MapKept.run_findKey hk (SetAt.none_now hkeys hs), MapKept.run_setObj_map _ hb, Result.andThen, World.putObj]

theorem SetAt.keep {w w' : World} {m : Nat} {ids : List ByteArray} (h : SetAt w m ids) (he : w'.heap[m]? = w.heap[m]?) : SetAt w' m ids := by
  obtain ⟨es, c, hb, hk⟩ := h
  exact ⟨es, c, he.trans hb, hk⟩
theorem SetAt.made (w : World) : SetAt (w.alloc (.map #[] 0)) w.heap.size [] := ⟨#[], 0, World.alloc_heap_new w _, rfl⟩

theorem u213 : Tryz.prog.underlying 213 = some (.map 9 49) := by kernel_rfl
theorem u162 : Tryz.prog.underlying 162 = some (.map 9 49) := by kernel_rfl
theorem u9 : Tryz.prog.underlying 9 = some .string := by kernel_rfl
@[go_sem] theorem eqn213 (w : World) : (binOp BinOp.eql 213 (.map none) (.map none)).run Tryz.prog w = .ok (.bool true) w := by kernel_rfl
@[go_sem] theorem eqs213 (b : Nat) (w : World) : (binOp BinOp.eql 213 (.map (some b)) (.map none)).run Tryz.prog w = .ok (.bool false) w := by kernel_rfl
@[go_sem] theorem eqn162 (w : World) : (binOp BinOp.eql 162 (.map none) (.map none)).run Tryz.prog w = .ok (.bool true) w := by kernel_rfl
@[go_sem] theorem eqs162 (b : Nat) (w : World) : (binOp BinOp.eql 162 (.map (some b)) (.map none)).run Tryz.prog w = .ok (.bool false) w := by kernel_rfl
theorem zero49 (w : World) : (zeroValue 49).run Tryz.prog w = .ok .nilIface w := by kernel_rfl

theorem wpList_mapUpdate_set (w : World) {ops : Array Oper} {rest : List Oper} {o : Oper} {a : Act} {Q : Exit → Act → World → Prop}
    (hg : o.guard = none) (m x v : Operand) (t : TypeId) (hop : o.op = Op.mapUpdate t m x v) {k e : TypeId} (ht : Tryz.prog.underlying t = some (.map k e)) (hk : Tryz.prog.underlying k = some .string)
    (b : Nat) (ids : List ByteArray) (hm : a.eval m = .map (some b)) (hown : SetAt w b ids) (s : ByteArray) (hx : a.eval x = .string s) (hs : s ∉ ids)
    (hK : ∀ o', SetAt (w.putObj b o') b (ids ++ [s]) → (∃ es c, o' = .map es c) → wpList Tryz.prog ops Q rest (a.put o.dst undef) (w.putObj b o')) :
    wpList Tryz.prog ops Q (o :: rest) a w := by
  refine wpList_plain hg fun K' hK' => ?_
  obtain ⟨o', hrun, r1, r2⟩ := hown.put hs ht hk (a.eval v)
  unfold Oper.wp
  simp [execOp, hop, hm, hx, hrun, Result.andThen]
  exact hK' _ _ (hK o' r1 r2)

attribute [local go_sem] Oper.semAt_some
set_option maxRecDepth 100000 in
set_option maxHeartbeats 1000000 in
theorem objId_any (s : ByteArray) (hs : nameB s = true) (vb : Nat) (w : World) (hp : PropsAt w) (c2 : w.cell? ⟨vb, 2, none⟩ = some (.pointer none)) (c3 : w.cell? ⟨vb, 3, none⟩ = some (.string s)) :
    Calls Tryz.prog 134 #[.pointer (some ⟨vb, 0, none⟩)] w (Gives (.string (idB ⟨#[95]⟩ s)) w) := by
  have hp' : PropsAt w.drew := hp.keep ((Below.refl _ _).drew)
  have cI := idNone_any s hs w.drew hp'
  have CI := Lib.hid cI; clear cI
  go_enter Tryz.func134, Tryz.ntmps134
  go_wp2_with fail
  refine wp_region_still_lit (by kernel_rfl) (by kernel_rfl) ?_
  change wpStill _ _ w.drew _ _ _
  have d2 : w.drew.cell? ⟨vb, 2, none⟩ = some (.pointer none) := c2
  have d3 : w.drew.cell? ⟨vb, 3, none⟩ = some (.string s) := c3
  clear c2 c3 hp hp'
  generalize w.drew = w4 at *
  repeat (first | still_step | still_call ((CI.out).mono fun _ _ h => ⟨h.1, h.2.symm⟩))
  refine wpStill_nil ?_
  go_wp2
  go_ret
  exact ⟨rfl, (Below.refl _ _).drew⟩


/-- What objset's insert leaves behind. -/
def InsGives (B sb : Nat) (ids : List ByteArray) (w : World) (e : Ending) (w' : World) : Prop :=
  e = .returned .nilIface ∧ Below B w w' ∧ ∃ m, w'.cell? ⟨sb, 0, none⟩ = some (.map (some m)) ∧ w'.frozen? ⟨sb, 0, none⟩ = false ∧ SetAt w' m ids ∧ B ≤ m ∧ m ≠ sb

theorem frozen_below {w w' : World} {a : Addr} {v : Value} (hb : Below w.heap.size w w') (h : w.cell? a = some v) : w'.frozen? a = w.frozen? a :=
  World.frozen?_of_block (hb.block _ (World.block_lt_of_cell? _ _ h))
theorem putObj_cell (w : World) (m : Nat) (o : Obj) {a : Addr} (h : a.block ≠ m) : (w.putObj m o).cell? a = w.cell? a := World.cell?_of_block (World.putObj_heap_other h)
theorem putObj_frozen (w : World) (m : Nat) (o : Obj) {a : Addr} (h : a.block ≠ m) : (w.putObj m o).frozen? a = w.frozen? a := World.frozen?_of_block (World.putObj_heap_other h)

theorem setCell_size (w : World) (a : Addr) (v : Value) : (w.setCell a v).heap.size = w.heap.size := by simp [World.setCell]
theorem SetAt.made2 (w : World) (a : Addr) (v : Value) : SetAt ((w.setCell a v).alloc (.map #[] 0)) w.heap.size [] := by
  have h := SetAt.made (w.setCell a v)
  rw [setCell_size] at h
  exact h

set_option maxRecDepth 100000 in
set_option maxHeartbeats 2000000 in
theorem insert_first (B sb vb : Nat) (s : ByteArray) (hs : nameB s = true) (w : World) (hB : B ≤ sb) (hp : PropsAt w) (c0 : w.cell? ⟨sb, 0, none⟩ = some (.map none)) (f0 : w.frozen? ⟨sb, 0, none⟩ = false)
    (c2 : w.cell? ⟨vb, 2, none⟩ = some (.pointer none)) (c3 : w.cell? ⟨vb, 3, none⟩ = some (.string s)) :
    Calls Tryz.prog 91 #[.pointer (some ⟨sb, 0, none⟩), .iface 78 (.pointer (some ⟨vb, 0, none⟩))] w (InsGives B sb [idB ⟨#[95]⟩ s] w) := by
  have cI := objId_any s hs vb w hp c2 c3
  have hbl := World.block_lt_of_cell? _ _ c0
  simp only at hbl
  have CI := Lib.hid cI
  clear cI c2 c3 hp
  generalize idB ⟨#[95]⟩ s = id at *
  have hmm := @run_makeMap Tryz.prog
  go_enter Tryz.func91, Tryz.ntmps91
  go_wp2_with (first
    | (go_at_call 134; refine (CI.out).mono ?_; rintro e w1 ⟨rfl, hb1⟩; have d0 := cell_below hb1 c0; have fz := (frozen_below hb1 c0).trans f0; have hl := miss_nil w1 id u213 u9 (zero49 w1); have hlt1 := Nat.lt_of_lt_of_le hbl hb1.size; have HS1 := Lib.hid (SetAt.made2 w1 ⟨sb, 0, none⟩ (.map (some w1.heap.size))))
    | (at_mapUpdate; refine wpList_mapUpdate_set _ rfl _ _ _ 213 rfl u213 u9 w1.heap.size [] rfl HS1.out id rfl List.not_mem_nil ?_; intro o' hs2 ho))
  go_ret
  go_light
  obtain ⟨es, c, rfl⟩ := ho
  refine ⟨rfl, ?_, w1.heap.size, ?_, ?_, hs2, by have := hb1.size; omega, by omega⟩
  · have h1 : Below B w w1 := hb1.mono (by omega)
    have h2 : Below B w ((w1.setCell ⟨sb, 0, none⟩ (.map (some w1.heap.size))).alloc (.map #[] 0)) := (h1.setCell (p := ⟨sb, 0, none⟩) hB _).alloc (by have := hb1.size; rw [setCell_size]; omega) _
    exact h2.grown (grownBy_putObj' _ _ _) (by have := h2.size; omega) (fun k e => by cases e; have := hb1.size; omega)
  · rw [putObj_cell _ _ _ (by simp; omega)]
    refine cell_below ((Below.refl _ _).alloc (Nat.le_refl _) _) ?_
    exact World.cell?_setCell_same' _ _ _ (by rw [d0]; rfl)
  · rw [putObj_frozen _ _ _ (by simp; omega), frozen_below (v := .map (some w1.heap.size)) ((Below.refl _ _).alloc (Nat.le_refl _) _) (World.cell?_setCell_same' _ _ _ (by rw [d0]; rfl)), World.frozen?_setCell]
    exact fz

set_option maxRecDepth 100000 in
set_option maxHeartbeats 2000000 in
theorem insert_more (B sb vb m : Nat) (ids : List ByteArray) (s : ByteArray) (hs : nameB s = true) (w : World) (hB : B ≤ sb) (hBm : B ≤ m) (hne : m ≠ sb) (hp : PropsAt w) (c0 : w.cell? ⟨sb, 0, none⟩ = some (.map (some m))) (f0 : w.frozen? ⟨sb, 0, none⟩ = false) (hset : SetAt w m ids) (hnew : idB ⟨#[95]⟩ s ∉ ids)
    (c2 : w.cell? ⟨vb, 2, none⟩ = some (.pointer none)) (c3 : w.cell? ⟨vb, 3, none⟩ = some (.string s)) :
    Calls Tryz.prog 91 #[.pointer (some ⟨sb, 0, none⟩), .iface 78 (.pointer (some ⟨vb, 0, none⟩))] w (InsGives B sb (ids ++ [idB ⟨#[95]⟩ s]) w) := by
  have cI := objId_any s hs vb w hp c2 c3
  have hbl := World.block_lt_of_cell? _ _ c0
  simp only at hbl
  have hml : m < w.heap.size := by
    obtain ⟨es, c, hb, _⟩ := hset
    exact (Array.getElem?_eq_some_iff.1 hb).1
  have CI := Lib.hid cI
  clear cI c2 c3 hp
  generalize idB ⟨#[95]⟩ s = id at *
  have HS := Lib.hid hset
  have HN := Lib.hid hnew
  clear hset hnew
  go_enter Tryz.func91, Tryz.ntmps91
  go_wp2_with (first
    | (go_at_call 134; refine (CI.out).mono ?_; rintro e w1 ⟨rfl, hb1⟩; have d0 := cell_below hb1 c0; have fz := (frozen_below hb1 c0).trans f0; have HS1 := Lib.hid (HS.out.keep (hb1.block m hml)); have hl := HS1.out.miss HN.out u213 u9 (zero49 w1); have hlt1 := Nat.lt_of_lt_of_le hbl hb1.size)
    | (at_mapUpdate; refine wpList_mapUpdate_set _ rfl _ _ _ 213 rfl u213 u9 m ids rfl HS1.out id rfl HN.out ?_; intro o' hs2 ho))
  go_ret
  go_light
  obtain ⟨es, c, rfl⟩ := ho
  refine ⟨rfl, ?_, m, ?_, ?_, hs2, hBm, hne⟩
  · have h1 : Below B w w1 := hb1.mono (by omega)
    exact h1.grown (grownBy_putObj' _ _ _) (by have := h1.size; omega) (fun k e => by cases e; omega)
  · rw [putObj_cell _ _ _ (by simp; omega)]
    exact d0
  · rw [putObj_frozen _ _ _ (by simp; omega)]
    exact fz

end Go.Proofs.YtipmpeekfajlcaaGreatDoor
