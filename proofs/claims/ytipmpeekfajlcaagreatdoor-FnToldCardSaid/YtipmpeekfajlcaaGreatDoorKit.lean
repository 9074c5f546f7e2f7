/- What is proved: small words for the walks of the law FnTold. Conditions: none. -/
import Derived.Test.YtipmpeekfajlcaaGreatDoorProg
import Derived.Test.YtipmpeekfajlcaaGreatDoorData
import Derived.Handy
import Derived.Lib.Hide
import Derived.Lib.Strings
import Derived.WalkKit
import Derived.WalkSpells
import Derived.WalkLawsBesides
import Derived.BigQuiet
import Derived.Deep.QuietTactic
import Derived.Lib.QuietBelow
import Derived.Deep.RegionHeld3
import Derived.Deep.RegionWith
import Derived.Deep.Light
namespace Go.Proofs.YtipmpeekfajlcaaGreatDoor
open Go.RowKit Go.Proofs

/-- A call that hands back v; of what was there nothing has turned. -/
def Gives (v : Value) (w : World) (e : Ending) (w' : World) : Prop := e = .returned v ∧ Below w.heap.size w w'

/-- All old cells and marks read as before. -/
theorem bcell {W w1 : World} (hb : Below W.heap.size W w1) : (∀ b o, b < W.heap.size → w1.cell? ⟨b, o, none⟩ = W.cell? ⟨b, o, none⟩) ∧ (∀ b o, b < W.heap.size → w1.frozen? ⟨b, o, none⟩ = W.frozen? ⟨b, o, none⟩) :=
  ⟨fun b o h => hb.cell (p := ⟨b, o, none⟩) h, fun b o h => hb.frozen (p := ⟨b, o, none⟩) h⟩

theorem decB_true {p : Prop} (inst : Decidable p) (h : p) : true = @decide p inst := by simp [h]
theorem decB_false {p : Prop} (inst : Decidable p) (h : ¬ p) : false = @decide p inst := by simp [h]

end Go.Proofs.YtipmpeekfajlcaaGreatDoor
