/- What is proved: the contract of spec.IsObject, whole. Conditions: the input lies in memory as trees. -/
import Derived.Test.YtipmpeekfajlcaaGreatDoorWd
namespace Go.Proofs.YtipmpeekfajlcaaGreatDoor
open Go.RowKit Go.Proofs

theorem isObject_any (W : WorldD) (pa da : Option Addr) (pc dc : Nat) (o : ObjD) (ka : Option Addr) (kc : Nat) (w : World) (hd : DeclsV w da dc W.decls) (hk : KidsV w ka kc o.ty.kids) (hf : o.Fits) :
    Calls Tryz.prog 7 #[.agg #[.slice pa W.pkgs.length pc, .slice da W.decls.length dc], .agg #[.string o.kd, .int .i64 o.pkg, .bool o.top, .string o.name, .string o.ty.kd, .string o.ty.nm, .string o.ty.tg, .int .i64 o.ty.sz, .slice ka o.ty.kids.length kc, .int .i64 o.imp]] w (BoolSuch (ObjOk W o) w) := by
  by_cases hbad : o.pkg < -1 ∨ (W.pkgs.length : Int) ≤ o.pkg ∨ nameB o.name = false ∨ o.name.toList = [95] ∨ (o.top = true ∧ o.pkg < 0)
  · exact isObject_head W pa da pc dc o ka kc w hd hk hf hbad
  have h1 : ¬ o.pkg < -1 := fun h => hbad (.inl h)
  have h2 : o.pkg < W.pkgs.length := by
    by_cases h : o.pkg < W.pkgs.length
    · exact h
    · exact absurd (.inr (.inl (by omega))) hbad
  have h3 : nameB o.name = true := by
    cases h : nameB o.name
    · exact absurd (.inr (.inr (.inl h))) hbad
    · rfl
  have h4 : ¬ o.name.toList = [95] := fun h => hbad (.inr (.inr (.inr (.inl h))))
  have h5 : ¬ (o.top = true ∧ o.pkg < 0) := fun h => hbad (.inr (.inr (.inr (.inr h))))
  by_cases k0 : o.kd.toList = [118, 97, 114]
  · exact isObject_var W pa da pc dc o ka kc w hd hk hf h1 h2 h3 h4 h5 k0
  by_cases k1 : o.kd.toList = [112, 97, 114, 97, 109]
  · exact isObject_param W pa da pc dc o ka kc w hd hk hf h1 h2 h3 h4 h5 k1
  by_cases k2 : o.kd.toList = [102, 105, 101, 108, 100]
  · exact isObject_field W pa da pc dc o ka kc w hd hk hf h1 h2 h3 h4 h5 k2
  by_cases k3 : o.kd.toList = [99, 111, 110, 115, 116]
  · exact isObject_const W pa da pc dc o ka kc w hd hk hf h1 h2 h3 h4 h5 k3
  by_cases k4 : o.kd.toList = [102, 117, 110, 99]
  · exact isObject_func W pa da pc dc o ka kc w hd hk hf h1 h2 h3 h4 h5 k4
  by_cases k5 : o.kd.toList = [116, 121, 112, 101]
  · exact isObject_type W pa da pc dc o ka kc w hd hk hf h1 h2 h3 h4 h5 k5
  by_cases k6 : o.kd.toList = [108, 97, 98, 101, 108]
  · exact isObject_label W pa da pc dc o ka kc w hd hk hf h1 h2 h3 h4 h5 k6
  by_cases k7 : o.kd.toList = [112, 97, 99, 107, 97, 103, 101]
  · exact isObject_package W pa da pc dc o ka kc w hd hk hf h1 h2 h3 h4 h5 k7
  exact isObject_other W pa da pc dc o ka kc w hd hk hf h1 h2 h3 h4 h5 k0 k1 k2 k3 k4 k5 k6 k7

end Go.Proofs.YtipmpeekfajlcaaGreatDoor
