/- What is proved: the contract of NewSignatureType, variadic. -/
import Derived.RangeFuncFrom
import Derived.RangeFuncBound
import Derived.RangeFuncLeaves
import Derived.Shelf.Abstract
import Derived.OwnWalkIn
import Derived.TacticsInMore
import Derived.Test.YtipmpeekfajlcaaGreatDoorGc
namespace Go.Proofs.YtipmpeekfajlcaaGreatDoor
open Go.RowKit Go.Proofs Go.Shelf

attribute [local go_sem] Oper.semAt_some

theorem yieldDeep {m : Nat} (m' : Nat) {P : Program} {l : Nat} {args : Array Value} {W : World} {R : Ending → World → Prop} (h : YieldAt Fence.wide m P l args W R) : YieldAt Fence.wide m' P l args W R := by
  obtain ⟨fn, tmps, assign, body, hy, hR⟩ := h
  exact ⟨fn, tmps, assign, body, hy, ⟨hR.1, fun c cs _ => hR.2 c cs (fun d h => by cases h)⟩⟩

@[go_sem] theorem mt123 (p : Option Addr) (w : World) : (method 550 123 (.pointer p) "Underlying").run Tryz.prog w = .ok (295, .pointer p) w := by kernel_rfl

set_option maxRecDepth 100000 in
set_option maxHeartbeats 2000000 in
theorem all_in (n l : Nat) (p : Option Addr) (W : World) (A B : World → Prop)
    (hy : ∀ m, YieldAt Fence.wide m Tryz.prog l #[.iface 123 (.pointer p), .iface 123 (.pointer p)] W fun e W' => (e = .returned (.bool true) ∧ A W') ∨ (e = .returned (.bool false) ∧ B W')) :
    CallsIn Fence.wide n Tryz.prog 105 #[.iface 123 (.pointer p), .func (.yield l) #[] #[]] W fun e W' => (e = .returned (.bool true) ∧ A W') ∨ (e = .returned (.bool false) ∧ B W') := by
  have hdd : ∀ k : Nat, (Fence.wide.depth.isSome = true → 1 ≤ k) := fun k h => by cases h
  obtain ⟨f1, t1, a1, b1, hy1, hR1⟩ := hy (n - 1)
  refine callsIn_of_wp Tryz.func105 rfl trivial ?_ rfl
  simp only [Tryz.ntmps105, List.size_toArray, List.length_cons, List.length_nil, Nat.reduceAdd, Nat.reduceSub, Array.replicate_succ, Array.replicate_zero, List.push_toArray, List.append_toArray, List.nil_append, List.cons_append]
  gi_wp2_with ((try refine ⟨trivial, hdd _, ?_⟩); first | (gi_at_call 73; refine (callsIn_wide.2 (unaliasSlice_any _ _)).mono ?_; rintro e w' ⟨rfl, rfl⟩) | (gi_at_call 295; refine (callsIn_wide.2 (sliceUnder_any _ _)).mono ?_; rintro e w' ⟨rfl, rfl⟩))
  refine ⟨hdd _, ?_⟩
  refine hR1.mono ?_
  rintro e W1 (⟨rfl, h⟩ | ⟨rfl, h⟩)
  · gi_wp2
    go_ret
    exact .inl ⟨rfl, h⟩
  · gi_wp2
    go_ret
    exact .inr ⟨rfl, h⟩

set_option maxRecDepth 100000 in
set_option maxHeartbeats 2000000 in
theorem typeset_stops (n bx n₀ : Nat) (p : Option Addr) (w : World) (hc : w.cell? ⟨bx, 0, none⟩ = some (.iface 123 (.pointer p))) :
    SeqStopsK Fence.wide n Tryz.prog 104 #[.pointer (some ⟨bx, 0, none⟩)] (fun _ : Unit => #[.iface 123 (.pointer p), .iface 123 (.pointer p)]) (Below n₀) (fun xs => xs = [()]) (fun xs => xs = [()]) 1 w := fun l J Jx W hW _ _ hY h0 => by
  have hdd : ∀ k : Nat, (Fence.wide.depth.isSome = true → 1 ≤ k) := fun k h => by cases h
  have hcW := cell_below hW hc
  have hp := all_in (n - 1) l p W (fun W' => J [()] W' ∧ Below n₀ W W') (Jx [()]) (fun m => yieldDeep m (hY [] () W h0 (by simp)))
  refine callsIn_of_wp Tryz.func104 rfl trivial ?_ rfl
  simp only [Tryz.ntmps104, List.size_toArray, List.length_cons, List.length_nil, Nat.reduceAdd, Nat.reduceSub, Array.replicate_succ, Array.replicate_zero, List.push_toArray, List.append_toArray, List.nil_append, List.cons_append]
  clear hY
  gi_wp2_with ((try refine ⟨trivial, hdd _, ?_⟩); gi_at_call 105; refine hp.mono ?_; clear hp; rintro e W1 (⟨rfl, hJ1⟩ | ⟨rfl, hx⟩))
  · go_end0
    exact ⟨⟨_, rfl⟩, .inl ⟨_, rfl, hJ1.1⟩⟩
  · go_end0
    exact ⟨⟨_, rfl⟩, .inr ⟨_, rfl, hx⟩⟩

set_option maxRecDepth 100000 in
set_option maxHeartbeats 4000000 in
theorem newSigVar_any (rv : Option Addr) (pb sb so n c vb vo sp : Nat) (rs : Option Addr) (w : World) (hn0 : 0 < n) (hn : n ≤ 1000)
    (h0 : w.cell? ⟨pb, 0, none⟩ = some (.slice (some ⟨sb, so, none⟩) n c)) (h1 : w.cell? ⟨sb, so + (n - 1), none⟩ = some (.pointer (some ⟨vb, vo, none⟩)))
    (h2 : w.cell? ⟨vb, vo + 4, none⟩ = some (.iface 123 (.pointer (some ⟨sp, 0, none⟩)))) :
    Calls Tryz.prog 68 #[.pointer rv, .slice none 0 0, .slice none 0 0, .pointer (some ⟨pb, 0, none⟩), .pointer rs, .bool true] w (SigGives w (.pointer rv)) := by
  refine (callsIn_wide (n := 9)).1 ?_
  have hdd : ∀ k : Nat, (Fence.wide.depth.isSome = true → 1 ≤ k) := fun k h => by cases h
  have cL := tupleLen_any pb sb so n c w h0
  have cA := tupleAt_any pb sb so n c (n - 1) _ w h0 (by omega) h1
  have e1 : ((n - 1 : Nat) : Int) = (n : Int) - 1 := by omega
  rw [e1] at cA
  have hvb := World.block_lt_of_cell? _ _ h2
  simp only at hvb
  refine callsIn_of_wp_marks Tryz.func68 rfl trivial ?_ rfl
  simp only [Tryz.ntmps68, List.size_toArray, List.length_cons, List.length_nil, Nat.reduceAdd, Nat.reduceSub, Array.replicate_succ, Array.replicate_zero, List.push_toArray, List.append_toArray, List.nil_append, List.cons_append]
  gi_wp2_with ((first | refine ⟨trivial, hdd _, ?_⟩ | refine ⟨trivial, ?_⟩ | skip); first | (gi_at_call 83; refine (callsIn_wide.2 cL).mono ?_; rintro e w' ⟨rfl, rfl⟩) | (gi_at_call 84; refine (callsIn_wide.2 cA).mono ?_; rintro e w' ⟨rfl, rfl⟩) | (gi_at_call 85; refine (callsIn_wide.2 (typeset_any _ _)).mono ?_; rintro e w' ⟨rfl, rfl⟩))
  have hbox : ((w.alloc (.cells #[.pointer none] 123)).alloc (.cells #[.iface 123 (.pointer (some ⟨sp, 0, none⟩))] 73)).cell? ⟨w.heap.size + 1, 0, none⟩ = some (.iface 123 (.pointer (some ⟨sp, 0, none⟩))) := by simp
  have hw2 : Below w.heap.size w ((w.alloc (.cells #[.pointer none] 123)).alloc (.cells #[.iface 123 (.pointer (some ⟨sp, 0, none⟩))] 73)) := by go_grown
  have hc0 : ((w.alloc (.cells #[.pointer none] 123)).alloc (.cells #[.iface 123 (.pointer (some ⟨sp, 0, none⟩))] 73)).cell? ⟨w.heap.size, 0, none⟩ = some (.pointer none) := by simp
  have hf0 : ((w.alloc (.cells #[.pointer none] 123)).alloc (.cells #[.iface 123 (.pointer (some ⟨sp, 0, none⟩))] 73)).frozen? ⟨w.heap.size, 0, none⟩ = false := by
    have hq := (Below.heap_alloc (w.alloc (.cells #[.pointer none] 123)) (.cells #[.iface 123 (.pointer (some ⟨sp, 0, none⟩))] 73) w.heap.size (by simp)).trans (World.alloc_heap_new w _)
    simp [World.frozen?, hq]
  have hsz : w.heap.size + 2 = ((w.alloc (.cells #[.pointer none] 123)).alloc (.cells #[.iface 123 (.pointer (some ⟨sp, 0, none⟩))] 73)).heap.size := by simp
  clear h0 h1 h2 cL cA
  generalize hW2 : ((w.alloc (.cells #[.pointer none] 123)).alloc (.cells #[.iface 123 (.pointer (some ⟨sp, 0, none⟩))] 73)) = w2 at *
  refine wpIn_rangeFunc_ownF rfl (by omega) (gf := 104) (lb := #[.pointer (some ⟨w.heap.size + 1, 0, none⟩)]) rfl trivial (enters_of Tryz.func104 (by kernel_rfl) rfl)
    (typeset_stops 8 (w.heap.size + 1) w.heap.size _ w2 hbox) belowK_t (belowK_b (by omega)) (Below.refl _ _) (fun _ => rfl)
    (fun pre W => Below w.heap.size w W ∧ W.cell? ⟨w.heap.size, 0, none⟩ = some (.pointer (if pre = [] then none else some ⟨sp, 0, none⟩)) ∧ W.frozen? ⟨w.heap.size, 0, none⟩ = false)
    (fun _ _ _ => False)
    (fun s A B row hs hg hr => ⟨hs.1.grown hg hs.1.size (fun k e => by have := (hr k e).1; omega), cell_kept hs.2.1 hg (fun r e => (hr r e).2), (frozen_kept hs.2.1 hg (fun r e => (hr r e).2)).trans hs.2.2⟩)
    (fun _ _ _ _ _ hs _ _ => hs)
    ⟨hw2, by simpa using hc0, hf0⟩
    (fun _ => { tmps := #[.pointer rv, .slice none 0 0, .slice none 0 0, .pointer (some ⟨pb, 0, none⟩), .pointer rs, .bool true, undef, undef, undef, undef, undef, undef, .pointer none, .int .i64 n, .iface 123 (.pointer (some ⟨sp, 0, none⟩)), .pointer (some ⟨w.heap.size, 0, none⟩), .iface 123 (.pointer (some ⟨sp, 0, none⟩)), undef, undef, .bool true, .pointer (some ⟨pb, 0, none⟩), .int .i64 n, .int .i64 n, .bool false, undef, .pointer (some ⟨pb, 0, none⟩), .int .i64 n, .int .i64 (n - 1), .pointer (some ⟨vb, vo, none⟩), .pointer (some ⟨vb, vo, none⟩), .pointer (some ⟨vb, vo, none⟩), .pointer (some ⟨vb, vo + 4, none⟩), .iface 123 (.pointer (some ⟨sp, 0, none⟩)), .iface 123 (.pointer (some ⟨sp, 0, none⟩)), .func (.func 104) #[] #[.pointer (some ⟨w.heap.size + 1, 0, none⟩)], .iface 123 (.pointer (some ⟨sp, 0, none⟩)), .iface 123 (.pointer (some ⟨sp, 0, none⟩)), undef, undef, undef, undef, undef, undef, undef, undef, undef, undef, undef, undef, undef, undef, undef, undef, undef, undef, undef, undef, undef, undef, undef, undef, undef, undef, undef, undef, undef, undef, undef, undef, undef, undef, undef, undef, undef, undef, undef, undef, undef, undef, undef, undef, undef, undef, undef, undef, undef, undef, undef, undef, undef, undef, undef], defers := [] }) ?assign ?body ?done ?stop
  case assign =>
    intro l x W K hK
    gi_wp2
    exact hK
  case body =>
    rintro l pre x W ⟨hb, hc, hf⟩ hpl
    obtain rfl : pre = [] := by
      cases pre with
      | nil => rfl
      | cons a b => simp at hpl
    simp only [if_true] at hc
    gi_wp2_with ((first | refine ⟨trivial, hdd _, ?_⟩ | refine ⟨trivial, ?_⟩ | skip); first | (gi_at_call 86; refine (callsIn_wide.2 (isStringSlice_any _ _)).mono ?_; rintro e w' ⟨rfl, rfl⟩) | (gi_at_call 295; refine (callsIn_wide.2 (sliceUnder_any _ _)).mono ?_; rintro e w' ⟨rfl, rfl⟩))
    exact ⟨KeepsOthers.setCell _ _ _, (Below.refl w.heap.size W).setCell (p := ⟨w.heap.size, 0, none⟩) (Nat.le_refl _) _, hb.setCell (p := ⟨w.heap.size, 0, none⟩) (Nat.le_refl _) _, World.cell?_setCell_same' _ _ _ (by rw [hc]; rfl), by rw [World.frozen?_setCell]; exact hf⟩
  case done =>
    rintro D xs W _ rfl ⟨hb, hc, hf⟩ hK
    simp at hc
    gi_wp2
    have hD := (Array.getElem?_eq_some_iff.1 hK).1
    have hK2 := (Below.heap_alloc W (.cells #[.pointer none, .pointer none, .pointer rv, .pointer none, .pointer (some ⟨pb, 0, none⟩), .pointer rs, .bool true] 205) D hD).trans hK
    refine ⟨by simp, .inl ⟨_, _, rfl, run_takeDeferred hK2, ?_⟩⟩
    refine ⟨_, results_tmp rfl _ _ _, ?_⟩
    refine ⟨W.heap.size, rfl, hb.size, ⟨_, (World.putObj_heap_other (by omega)).trans (World.alloc_heap_new W _), rfl, rfl⟩, ?_⟩
    exact (hb.alloc hb.size _).grown (grownBy_putObj' _ D _) (by have := hb.size; simp; omega) (fun k e => by cases e; omega)
  case stop =>
    rintro D c pre W _ _ h _
    exact h.elim

end Go.Proofs.YtipmpeekfajlcaaGreatDoor
