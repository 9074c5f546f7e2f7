/- What is proved: an argument of the law, opened: it lies in memory as plain data. Conditions: it can be read. -/
import Derived.Test.YtipmpeekfajlcaaGreatDoorKit
import Derived.ProofKit
import Derived.Deep.Slices
import Derived.Lib.SmallJoins
namespace Go.Proofs.YtipmpeekfajlcaaGreatDoor
open Go.RowKit Go.ChangeShapes Go.WideShapes Go.ChangeAt Go.Deep

section
variable {H : Type} {enc : TypeId × Value → H} {w : World} {base : Nat} {spare : Nat → Bool} {held : Bool}

theorem add_none {a : Addr} (h : a.spot = none) (k : Nat) : a.add k = ⟨a.block, a.off + k, none⟩ := by
  obtain ⟨b, o, s⟩ := a
  simp only at h
  subst h
  unfold Addr.add
  split <;> simp_all

/-- The cells of an element of a row: where they lie. -/
theorem elem_cells {a : Addr} {i s j : Nat} {cs : List Value} (h : w.cells? base (a.add (i * s)) s = some cs) (h0 : a.spot = none) (hj : j < s) : w.cell? ⟨a.block, a.off + i * s + j, none⟩ = cs[j]? := by
  have := (World.cells?_some h).2.2 j hj
  rw [add_none h0, add_none rfl] at this
  exact this

theorem trod_str {fuel : Nat} {cs : List Value} {x : DataW H × List MemPlace} (h : DataW.trod enc Tryz.prog w base spare held fuel 9 cs = some x) : ∃ s : ByteArray, cs = [.string s] ∧ s.size ≤ 9223372036854775807 := by
  obtain ⟨s, h1, _, h2⟩ := DataW.trod_string Tryz.underlying9 h
  exact ⟨s, h1, h2⟩
theorem trod_i64 {fuel : Nat} {cs : List Value} {x : DataW H × List MemPlace} (h : DataW.trod enc Tryz.prog w base spare held fuel 2 cs = some x) : ∃ n : Int, cs = [.int .i64 n] ∧ -9223372036854775808 ≤ n ∧ n ≤ 9223372036854775807 := by
  obtain ⟨n, h1, _, h2⟩ := DataW.trod_int Tryz.underlying2 h
  have h3 : -9223372036854775808 ≤ n ∧ n ≤ 9223372036854775807 := by simpa [Lit.wf, IntKind.min, IntKind.max, IntKind.signed, IntKind.bits] using h2
  exact ⟨n, h1, h3.1, h3.2⟩

theorem co9 : Tryz.prog.cellsOf 9 = 1 := by kernel_rfl
theorem co2 : Tryz.prog.cellsOf 2 = 1 := by kernel_rfl
theorem co4 : Tryz.prog.cellsOf 4 = 1 := by kernel_rfl
theorem co26 : Tryz.prog.cellsOf 26 = 1 := by kernel_rfl
theorem co22 : Tryz.prog.cellsOf 22 = 1 := by kernel_rfl
theorem co23 : Tryz.prog.cellsOf 23 = 1 := by kernel_rfl
theorem co28 : Tryz.prog.cellsOf 28 = 5 := by kernel_rfl
theorem co39 : Tryz.prog.cellsOf 39 = 2 := by kernel_rfl
theorem co42 : Tryz.prog.cellsOf 42 = 8 := by kernel_rfl
theorem co30 : Tryz.prog.cellsOf 30 = 10 := by kernel_rfl
theorem co25 : Tryz.prog.cellsOf 25 = 2 := by kernel_rfl

set_option maxRecDepth 100000 in
/-- A type's cells. -/
theorem type_of {fuel : Nat} {cs : List Value} {x : DataW H × List MemPlace} (h : DataW.trod enc Tryz.prog w base spare held fuel 28 cs = some x) :
    ∃ (n : Nat) (kd nm tg : ByteArray) (sz : Int) (c4 : Value) (y : DataW H × List MemPlace), fuel = n + 1 ∧ cs = [.string kd, .string nm, .string tg, .int .i64 sz, c4] ∧ kd.size ≤ 9223372036854775807 ∧ nm.size ≤ 9223372036854775807 ∧ tg.size ≤ 9223372036854775807 ∧
      -9223372036854775808 ≤ sz ∧ sz ≤ 9223372036854775807 ∧ DataW.trod enc Tryz.prog w base spare held n 26 [c4] = some y := by
  obtain ⟨xs, n, rfl, _, hl, hlen, hf⟩ := DataW.trod_struct Tryz.underlying28 h
  rw [co28] at hl
  match cs, hl with
  | [c0, c1, c2, c3, c4], _ =>
    match xs, hlen with
    | [y0, y1, y2, y3, y4], _ =>
      have f0 : DataW.trod enc Tryz.prog w base spare held n 9 (List.take (Tryz.prog.cellsOf 9) (List.drop 0 [c0, c1, c2, c3, c4])) = some y0 := hf 0 _ rfl
      have f1 : DataW.trod enc Tryz.prog w base spare held n 9 (List.take (Tryz.prog.cellsOf 9) (List.drop 1 [c0, c1, c2, c3, c4])) = some y1 := hf 1 _ rfl
      have f2 : DataW.trod enc Tryz.prog w base spare held n 9 (List.take (Tryz.prog.cellsOf 9) (List.drop 2 [c0, c1, c2, c3, c4])) = some y2 := hf 2 _ rfl
      have f3 : DataW.trod enc Tryz.prog w base spare held n 2 (List.take (Tryz.prog.cellsOf 2) (List.drop 3 [c0, c1, c2, c3, c4])) = some y3 := hf 3 _ rfl
      have f4 : DataW.trod enc Tryz.prog w base spare held n 26 (List.take (Tryz.prog.cellsOf 26) (List.drop 4 [c0, c1, c2, c3, c4])) = some y4 := hf 4 _ rfl
      rw [co9] at f0 f1 f2
      rw [co2] at f3
      rw [co26] at f4
      obtain ⟨kd, e0, l0⟩ := trod_str (show DataW.trod enc Tryz.prog w base spare held n 9 [c0] = some y0 from f0)
      obtain ⟨nm, e1, l1⟩ := trod_str (show DataW.trod enc Tryz.prog w base spare held n 9 [c1] = some y1 from f1)
      obtain ⟨tg, e2, l2⟩ := trod_str (show DataW.trod enc Tryz.prog w base spare held n 9 [c2] = some y2 from f2)
      obtain ⟨sz, e3, l3, l4⟩ := trod_i64 (show DataW.trod enc Tryz.prog w base spare held n 2 [c3] = some y3 from f3)
      simp only [List.cons.injEq, and_true] at e0 e1 e2 e3
      subst e0 e1 e2 e3
      exact ⟨n, kd, nm, tg, sz, c4, y4, rfl, rfl, l0, l1, l2, l3, l4, f4⟩

/-- What a part's cells say of it. -/
structure PartIn (w : World) (b off : Nat) (t : Ty) (a : Option Addr) (c : Nat) : Prop where
  h0 : w.cell? ⟨b, off, none⟩ = some (.string t.kd)
  h1 : w.cell? ⟨b, off + 1, none⟩ = some (.string t.nm)
  h2 : w.cell? ⟨b, off + 2, none⟩ = some (.string t.tg)
  h3 : w.cell? ⟨b, off + 3, none⟩ = some (.int .i64 t.sz)
  h4 : w.cell? ⟨b, off + 4, none⟩ = some (.slice a t.kids.length c)
  fits : t.Fits
  kids : KidsV w a c t.kids

theorem kids_of : ∀ (fuel : Nat) {cs : List Value} {x : DataW H × List MemPlace}, DataW.trod enc Tryz.prog w base spare held fuel 26 cs = some x → ∃ a cap kids, cs = [.slice a kids.length cap] ∧ KidsV w a cap kids := by
  intro fuel
  induction fuel using Nat.strongRecOn with
  | ind fuel ih =>
    intro cs x h
    rcases DataW.trod_slice Tryz.underlying26 h with ⟨rfl, _⟩ | ⟨a, len, cap, elems, rest, n, hn, rfl, rfl, hb, hl, hm, hlen, hel, _⟩
    · exact ⟨none, 0, [], rfl, .nil none 0 (by omega)⟩
    have hm' : cap ≤ 9223372036854775807 := hm
    by_cases h0 : len = 0
    · subst h0
      exact ⟨some a, cap, [], rfl, .nil _ _ hm'⟩
    have key : ∀ i, i < len → ∃ cs', w.cells? base (a.add (i * 5)) 5 = some cs' ∧ ∃ y, DataW.trod enc Tryz.prog w base spare held n 28 cs' = some y := fun i hi => by
      have := hel i hi
      rw [co28, List.getElem?_eq_getElem (by omega)] at this
      obtain ⟨cs', h1, h2⟩ := Option.bind_eq_some_iff.1 this
      exact ⟨cs', h1, _, h2⟩
    have hsp : a.spot = none := by
      obtain ⟨cs', h1, y, h2⟩ := key 0 (by omega)
      obtain ⟨_, _, _, _, _, _, _, _, rfl, _⟩ := type_of h2
      have := (World.cells?_some h1).2.2 0 (by omega)
      rw [Nat.zero_mul] at this
      have e : (a.add 0).add 0 = a := by simp [Addr.add]
      rw [e] at this
      exact World.cell?_spot this
    have each : ∀ i, i < len → ∃ p : Ty × Option Addr × Nat, PartIn w a.block (a.off + i * 5) p.1 p.2.1 p.2.2 := fun i hi => by
      obtain ⟨cs', h1, y, h2⟩ := key i hi
      obtain ⟨n', kd, nm, tg, sz, c4, y4, hn', rfl, l0, l1, l2, l3, l4, h4⟩ := type_of h2
      obtain ⟨a', c', kids, e4, hk⟩ := ih n' (by omega) h4
      simp only [List.cons.injEq, and_true] at e4
      subst e4
      refine ⟨(.mk kd nm tg sz kids, a', c'), elem_cells h1 hsp (j := 0) (by omega), elem_cells h1 hsp (j := 1) (by omega), elem_cells h1 hsp (j := 2) (by omega), elem_cells h1 hsp (j := 3) (by omega), elem_cells h1 hsp (j := 4) (by omega), ⟨l0, l1, l2, l3, l4, ?_⟩, hk⟩
      exact Nat.le_trans hk.len.1 hk.len.2
    obtain ⟨f, hf⟩ := choose_lt each
    have hget : ∀ (i : Nat) (t : Ty), ((List.range len).map fun i => (f i).1)[i]? = some t → i < len ∧ t = (f i).1 := fun i t e => by
      have hi : i < len := by
        have := (List.getElem?_eq_some_iff.1 e).1
        simpa using this
      simp [hi] at e
      exact ⟨hi, e.symm⟩
    have ha : a = ⟨a.block, a.off, none⟩ := by rw [← hsp]
    refine ⟨some a, cap, (List.range len).map fun i => (f i).1, by simp, ?_⟩
    rw [ha]
    refine .mk a.block a.off cap _ (by simpa using hl) hm' (fun i => (f i).2.1) (fun i => (f i).2.2) ?_ ?_ ?_ ?_ ?_ ?_ ?_
    all_goals
      intro i t e
      obtain ⟨hi, rfl⟩ := hget i t e
      have := hf i hi
    · exact this.h0
    · exact this.h1
    · exact this.h2
    · exact this.h3
    · exact this.h4
    · exact this.fits
    · exact this.kids

set_option maxRecDepth 100000 in
theorem pkgs_of {fuel : Nat} {cs : List Value} {x : DataW H × List MemPlace} (h : DataW.trod enc Tryz.prog w base spare held fuel 22 cs = some x) : ∃ a cap pkgs, cs = [.slice a pkgs.length cap] ∧ PkgsV w a cap pkgs := by
  rcases DataW.trod_slice Tryz.underlying22 h with ⟨rfl, _⟩ | ⟨a, len, cap, elems, rest, n, hn, rfl, rfl, hb, hl, hm, hlen, hel, _⟩
  · exact ⟨none, 0, [], rfl, ⟨Nat.le_refl _, by omega, fun i p e => by simp at e⟩⟩
  have hm' : cap ≤ 9223372036854775807 := hm
  have key : ∀ i, i < len → ∃ cs', w.cells? base (a.add (i * 2)) 2 = some cs' ∧ ∃ p q : ByteArray, cs' = [.string p, .string q] ∧ p.size ≤ 9223372036854775807 ∧ q.size ≤ 9223372036854775807 := fun i hi => by
    have := hel i hi
    rw [co39, List.getElem?_eq_getElem (by omega)] at this
    obtain ⟨cs', h1, h2⟩ := Option.bind_eq_some_iff.1 this
    obtain ⟨xs, n', _, _, hl2, hlen2, hf⟩ := DataW.trod_struct Tryz.underlying39 h2
    rw [co39] at hl2
    match cs', hl2 with
    | [c0, c1], _ =>
      match xs, hlen2 with
      | [y0, y1], _ =>
        have f0 : DataW.trod enc Tryz.prog w base spare held n' 9 (List.take (Tryz.prog.cellsOf 9) (List.drop 0 [c0, c1])) = some y0 := hf 0 _ rfl
        have f1 : DataW.trod enc Tryz.prog w base spare held n' 9 (List.take (Tryz.prog.cellsOf 9) (List.drop 1 [c0, c1])) = some y1 := hf 1 _ rfl
        rw [co9] at f0 f1
        obtain ⟨p, e0, l0⟩ := trod_str (show DataW.trod enc Tryz.prog w base spare held n' 9 [c0] = some y0 from f0)
        obtain ⟨q, e1, l1⟩ := trod_str (show DataW.trod enc Tryz.prog w base spare held n' 9 [c1] = some y1 from f1)
        simp only [List.cons.injEq, and_true] at e0 e1
        subst e0 e1
        exact ⟨_, h1, p, q, rfl, l0, l1⟩
  have each : ∀ i, i < len → ∃ p : PkgD, a.spot = none ∧ w.cell? ⟨a.block, a.off + i * 2, none⟩ = some (.string p.path) ∧ w.cell? ⟨a.block, a.off + i * 2 + 1, none⟩ = some (.string p.name) ∧ p.Fits := fun i hi => by
    have hsp : a.spot = none := by
      obtain ⟨cs', h1, p, q, rfl, _⟩ := key 0 (by omega)
      have := (World.cells?_some h1).2.2 0 (by omega)
      rw [Nat.zero_mul] at this
      have e : (a.add 0).add 0 = a := by simp [Addr.add]
      rw [e] at this
      exact World.cell?_spot this
    obtain ⟨cs', h1, p, q, rfl, l0, l1⟩ := key i hi
    exact ⟨⟨p, q⟩, hsp, elem_cells h1 hsp (j := 0) (by omega), elem_cells h1 hsp (j := 1) (by omega), ⟨l0, l1⟩⟩
  obtain ⟨f, hf⟩ := choose_lt each
  refine ⟨some a, cap, (List.range len).map f, by simp, ⟨by simpa using hl, hm', fun i p e => ?_⟩⟩
  have hi : i < len := by
    have := (List.getElem?_eq_some_iff.1 e).1
    simpa using this
  simp [hi] at e
  subst e
  obtain ⟨hsp, h1, h2, h3⟩ := hf i hi
  exact ⟨a.block, a.off, by rw [← hsp], h1, h2, h3⟩

set_option maxRecDepth 100000 in
theorem decls_of {fuel : Nat} {cs : List Value} {x : DataW H × List MemPlace} (h : DataW.trod enc Tryz.prog w base spare held fuel 23 cs = some x) : ∃ a cap decls, cs = [.slice a decls.length cap] ∧ DeclsV w a cap decls := by
  rcases DataW.trod_slice Tryz.underlying23 h with ⟨rfl, _⟩ | ⟨a, len, cap, elems, rest, n, hn, rfl, rfl, hb, hl, hm, hlen, hel, _⟩
  · exact ⟨none, 0, [], rfl, ⟨Nat.le_refl _, by omega, fun i p e => by simp at e⟩⟩
  have hm' : cap ≤ 9223372036854775807 := hm
  have key : ∀ i, i < len → ∃ cs', w.cells? base (a.add (i * 8)) 8 = some cs' ∧ ∃ (pk : Int) (nm : ByteArray) (al : Bool) (n3 : Nat) (cs3 : List Value) (y : DataW H × List MemPlace), cs' = .int .i64 pk :: .string nm :: .bool al :: cs3 ∧
      -9223372036854775808 ≤ pk ∧ pk ≤ 9223372036854775807 ∧ nm.size ≤ 9223372036854775807 ∧ DataW.trod enc Tryz.prog w base spare held n3 28 cs3 = some y := fun i hi => by
    have := hel i hi
    rw [co42, List.getElem?_eq_getElem (by omega)] at this
    obtain ⟨cs', h1, h2⟩ := Option.bind_eq_some_iff.1 this
    obtain ⟨xs, n', _, _, hl2, hlen2, hf⟩ := DataW.trod_struct Tryz.underlying42 h2
    rw [co42] at hl2
    match cs', hl2 with
    | [c0, c1, c2, c3, c4, c5, c6, c7], _ =>
      match xs, hlen2 with
      | [y0, y1, y2, y3], _ =>
        have f0 : DataW.trod enc Tryz.prog w base spare held n' 2 (List.take (Tryz.prog.cellsOf 2) (List.drop 0 [c0, c1, c2, c3, c4, c5, c6, c7])) = some y0 := hf 0 _ rfl
        have f1 : DataW.trod enc Tryz.prog w base spare held n' 9 (List.take (Tryz.prog.cellsOf 9) (List.drop 1 [c0, c1, c2, c3, c4, c5, c6, c7])) = some y1 := hf 1 _ rfl
        have f2 : DataW.trod enc Tryz.prog w base spare held n' 4 (List.take (Tryz.prog.cellsOf 4) (List.drop 2 [c0, c1, c2, c3, c4, c5, c6, c7])) = some y2 := hf 2 _ rfl
        have f3 : DataW.trod enc Tryz.prog w base spare held n' 28 (List.take (Tryz.prog.cellsOf 28) (List.drop 3 [c0, c1, c2, c3, c4, c5, c6, c7])) = some y3 := hf 3 _ rfl
        rw [co2] at f0
        rw [co9] at f1
        rw [co4] at f2
        rw [co28] at f3
        obtain ⟨pk, e0, l0, l1⟩ := trod_i64 (show DataW.trod enc Tryz.prog w base spare held n' 2 [c0] = some y0 from f0)
        obtain ⟨nm, e1, l2⟩ := trod_str (show DataW.trod enc Tryz.prog w base spare held n' 9 [c1] = some y1 from f1)
        obtain ⟨al, e2, _⟩ := DataW.trod_bool Tryz.underlying4 (show DataW.trod enc Tryz.prog w base spare held n' 4 [c2] = some y2 from f2)
        simp only [List.cons.injEq, and_true] at e0 e1 e2
        subst e0 e1 e2
        exact ⟨_, h1, pk, nm, al, n', _, y3, rfl, l0, l1, l2, f3⟩
  have each : ∀ i, i < len → ∃ p : DeclD × Option Addr × Nat, a.spot = none ∧ w.cell? ⟨a.block, a.off + i * 8, none⟩ = some (.int .i64 p.1.pkg) ∧ w.cell? ⟨a.block, a.off + i * 8 + 1, none⟩ = some (.string p.1.name) ∧ w.cell? ⟨a.block, a.off + i * 8 + 2, none⟩ = some (.bool p.1.ali) ∧
      w.cell? ⟨a.block, a.off + i * 8 + 3, none⟩ = some (.string p.1.ty.kd) ∧ w.cell? ⟨a.block, a.off + i * 8 + 4, none⟩ = some (.string p.1.ty.nm) ∧ w.cell? ⟨a.block, a.off + i * 8 + 5, none⟩ = some (.string p.1.ty.tg) ∧ w.cell? ⟨a.block, a.off + i * 8 + 6, none⟩ = some (.int .i64 p.1.ty.sz) ∧
      w.cell? ⟨a.block, a.off + i * 8 + 7, none⟩ = some (.slice p.2.1 p.1.ty.kids.length p.2.2) ∧ p.1.Fits ∧ KidsV w p.2.1 p.2.2 p.1.ty.kids := fun i hi => by
    have hsp : a.spot = none := by
      obtain ⟨cs', h1, _, _, _, _, _, _, rfl, _⟩ := key 0 (by omega)
      have := (World.cells?_some h1).2.2 0 (by omega)
      rw [Nat.zero_mul] at this
      have e : (a.add 0).add 0 = a := by simp [Addr.add]
      rw [e] at this
      exact World.cell?_spot this
    obtain ⟨cs', h1, pk, nm, al, n3, cs3, y, rfl, l0, l1, l2, h3⟩ := key i hi
    obtain ⟨n', kd, tn, tg, sz, c4, y4, hn', rfl, m0, m1, m2, m3, m4, h4⟩ := type_of h3
    obtain ⟨a', c', kids, e4, hk⟩ := kids_of n' h4
    simp only [List.cons.injEq, and_true] at e4
    subst e4
    exact ⟨(⟨pk, nm, al, .mk kd tn tg sz kids⟩, a', c'), hsp, elem_cells h1 hsp (j := 0) (by omega), elem_cells h1 hsp (j := 1) (by omega), elem_cells h1 hsp (j := 2) (by omega), elem_cells h1 hsp (j := 3) (by omega), elem_cells h1 hsp (j := 4) (by omega), elem_cells h1 hsp (j := 5) (by omega),
      elem_cells h1 hsp (j := 6) (by omega), elem_cells h1 hsp (j := 7) (by omega), ⟨l0, l1, l2, ⟨m0, m1, m2, m3, m4, Nat.le_trans hk.len.1 hk.len.2⟩⟩, hk⟩
  obtain ⟨f, hf⟩ := choose_lt each
  refine ⟨some a, cap, (List.range len).map fun i => (f i).1, by simp, ⟨by simpa using hl, hm', fun i p e => ?_⟩⟩
  have hi : i < len := by
    have := (List.getElem?_eq_some_iff.1 e).1
    simpa using this
  simp [hi] at e
  subst e
  obtain ⟨hsp, h⟩ := hf i hi
  exact ⟨a.block, a.off, _, _, by rw [← hsp], h⟩

end
end Go.Proofs.YtipmpeekfajlcaaGreatDoor
