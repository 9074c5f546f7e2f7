/- What is proved: the law FnTold returns true for every input, and its arguments read behind the call as before it; and the card that ties its listed tables to the program's text. Conditions: none. -/
import Derived.Test.YtipmpeekfajlcaaGreatDoorCards
import Derived.Test.YtipmpeekfajlcaaGreatDoorTie
import Derived.Test.YtipmpeekfajlcaaGreatDoorLa
import Derived.Test.YtipmpeekfajlcaaGreatDoorRb
import Derived.Test.YtipmpeekfajlcaaGreatDoorMb
import Derived.WalkKit
import Derived.ProofKit
import Derived.OpenShut
import Derived.Lay
import Derived.LaidMore
import Derived.SevenTiedAt
import Derived.Stop.Joined
namespace Go.Proofs.YtipmpeekfajlcaaGreatDoor.fnTold
open Go.ChangeShapes Go.WideShapes Go.ChangeAt Go.RowKit

theorem own : ownKnob Tryz.prog.godebug = none := by kernel_rfl

theorem propsEq : (Rows.laid_unicode_properties : DataW Unit) = Lib.tabData .u8 Lib.propertiesTab := by kernel_rfl
theorem read25 : Tryz.prog.readableRec 25 = true := by kernel_rfl
theorem read30 : Tryz.prog.readableRec 30 = true := by kernel_rfl
theorem size25 : 25 < Tryz.prog.types.size := of_decide_eq_true (by kernel_rfl)
theorem size30 : 30 < Tryz.prog.types.size := of_decide_eq_true (by kernel_rfl)

/-- The input of the witness: all of it empty. -/
def args0 : Array Value := #[.agg #[.slice none 0 0, .slice none 0 0], .agg #[.string ⟨#[]⟩, .int .i64 0, .bool false, .string ⟨#[]⟩, .string ⟨#[]⟩, .string ⟨#[]⟩, .string ⟨#[]⟩, .int .i64 0, .slice none 0 0, .int .i64 0]]

set_option maxRecDepth 100000 in
/-- What the walk gives, for every input and every world that holds the tables. -/
theorem contract (H : Type) (enc : TypeId × Value → H) (W : World) (base : Nat) (args : Array Value) (ds gs : List (DataW H)) (before : List MemPlace)
    (hval0 : ∀ (j : Nat) t v, Tryz.f3.params[j]? = some t → args[j]? = some v → Value.okWide Tryz.prog W .any base t v)
    (hW : DataW.Whole enc Tryz.prog Tryz.f3.params.toList Rows.fnToldSpec.vars false W args.toList ds gs before) (hL : laidMet Tryz.prog Rows.fnToldRow.laid W) :
    Calls Tryz.prog 3 args W fun e W' => ∃ v, e = .returned v ∧ Rows.fnToldSpec.post enc Tryz.prog Tryz.f3 false true false false W args v W' := by
  have hval := hval0
  have hW' := hW
  obtain ⟨p, q, hA0, hV, rfl, _, _⟩ := hW
  have hA : DataW.TrodAll enc Tryz.prog W 0 (fun _ => true) true Tryz.f3.params.toList args.toList ds p := hA0
  rw [Tryz.params3] at hA hval
  obtain ⟨v0, v1, d0, d1, p0, p1, rfl, rfl, rfl, h0, h1⟩ := trodAll_two hA
  obtain ⟨rfl, rfl⟩ := trodVars_none hV
  clear hA0 hval0
  simp only [List.append_nil] at hW'
  have hlt : ∀ x ∈ p0 ++ p1, x.block < W.heap.size := fun x hx => by simpa using hW'.lt x hx
  obtain ⟨D, pa, da, pc, dc, rfl, hp, hd⟩ := open_world (hval 0 25 v0 rfl rfl) h0
  obtain ⟨o, ka, kc, rfl, hk, ho⟩ := open_obj (hval 1 30 v1 rfl rfl) h1
  have hpr : PropsAt W := props_of (propsEq ▸ Lib.laidMet.reads hL (.tail _ (.head _)))
  refine (fnTold_any D pa da pc dc o ka kc W hp hd hk ho hpr).mono fun e W' ⟨he, hb⟩ => ?_
  subst he
  exact ⟨_, rfl, _, _, _, [], p0 ++ p1, [], hW', trodAll_mk1 (shut_bool Tryz.underlying4 _),
    trodAll_mk2 (Below.trod j2 read25 size25 h0 hb (fun x hx => hlt x (List.mem_append_left _ hx))) (Below.trod j2 read30 size30 h1 hb (fun x hx => hlt x (List.mem_append_right _ hx))), rfl, hb.frame _, fun h => by cases h⟩

/-- A world in which the listed tables lie. -/
theorem laid_met (os : Os) : laidMetH Tryz.prog Rows.fnToldRow.laid ((World.laidAll Tryz.prog os Rows.fnToldRow.laid).forCall (fun _ _ => 0) ⟨#[], args0, []⟩).memory := by
  rw [MakeChecks.laidMetH_plain _ _ _ (by kernel_rfl)]
  exact laidMet_laidAll _ (by kernel_rfl) (by kernel_rfl)

set_option maxRecDepth 100000 in
theorem lifted (os : Os) (started : os.Started) (H : Type) (enc : TypeId × Value → H) :
    ReturnsInHanded {} Tryz.checked os 3 .any (fun w args => (Rows.fnToldSpec.pre enc Tryz.prog Tryz.f3 [] false w args ∧ laidMetH Tryz.prog Rows.fnToldRow.laid w) ∧ sizedMet enc Tryz.prog Tryz.f3 (OpenSpec.ofChange Rows.fnToldSpec) false w args)
      (Rows.fnToldSpec.post enc Tryz.prog Tryz.f3 false true false false) := by
  refine returnsInHanded_of_change_and (C := Tryz.checked) (X := fun w _ => laidMetH Tryz.prog Rows.fnToldRow.laid w) (fun _ _ _ hh h => h.of_heap hh) own started (by kernel_rfl) Tryz.func3
    (ChangeSpec.witness_shaped (enc := enc) (C := Tryz.checked) (os := os) (X := fun w _ => laidMetH Tryz.prog Rows.fnToldRow.laid w) false (World.laidAll Tryz.prog os Rows.fnToldRow.laid) args0 8 (World.laidAll_os _ _ _)
      (World.shaped_of_ZipB (by kernel_rfl) (by kernel_rfl)) (by kernel_rfl) (by kernel_rfl) (by kernel_rfl) (laid_met os)) ?_
  intro W base args ds gs before hval0 hW _ _ hL _
  rw [MakeChecks.laidMetH_plain _ _ _ (by kernel_rfl)] at hL
  exact contract H enc W base args ds gs before hval0 hW hL

theorem said : Rows.FnToldSaid :=
  OpenClaim.holds_of_wide (p := Tryz.pinned) 3 Tryz.f3 rfl rfl rfl rfl rfl rfl rfl ⟨rfl, rfl, rfl, rfl, rfl⟩ rfl rfl rfl rfl rfl funcNamed Tryz.func3 closed instance_of wrapper_of
    (fun os started H enc _ => lifted os started H enc)

/-- No parameter wants a stand-in; the program's own looks are on: what the card asks. -/
theorem plain (f : FuncId) (fn : Func) (hf : Tryz.pinned.checked.prog.funcNamed "loop.example/pub-g01466/laws.FnTold" = some f) (hfn : Tryz.pinned.checked.prog.funcs[f]? = some fn) :
    true = Tryz.pinned.checked.prog.looks [] ∧ ∀ (j : Nat) t, fn.params[j]? = some t → Tryz.pinned.checked.prog.wantsStandIn t = false := by
  obtain rfl : f = 3 := Option.some.inj ((show Tryz.prog.funcNamed "loop.example/pub-g01466/laws.FnTold" = some 3 by kernel_rfl).symm.trans hf) |>.symm
  obtain rfl : fn = Tryz.f3 := (Option.some.inj (Tryz.func3.symm.trans hfn)).symm
  refine ⟨by kernel_rfl, fun j t ht => ?_⟩
  rw [Tryz.params3] at ht
  have hm : t ∈ [25, 30] := by simpa using Array.mem_of_getElem? ht
  have hall : ([25, 30].all fun u => !Tryz.prog.wantsStandIn u) = true := by kernel_rfl
  exact (show Tryz.prog.wantsStandIn t = false by simpa using List.all_eq_true.1 hall t hm)

end Go.Proofs.YtipmpeekfajlcaaGreatDoor.fnTold
namespace Go.Proofs.YtipmpeekfajlcaaGreatDoor

/-- The tied card of FnTold holds. -/
theorem fnTold_holds : Rows.FnToldCardSaid :=
  Claim7.holds_tied_plain_at .later [] _ _ _ _ fnTold.said (fun _ h => by cases h) (by kernel_rfl) (fun _ h => by cases h) fnTold_row_tie rfl ⟨rfl, rfl⟩ (by kernel_rfl) rfl fnTold.plain (by kernel_rfl)

#print axioms fnTold_holds
end Go.Proofs.YtipmpeekfajlcaaGreatDoor
