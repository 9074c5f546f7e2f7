/- What is proved: the contract of spec.isType at every depth. Conditions: the input lies in memory as trees. -/
import Derived.Test.YtipmpeekfajlcaaGreatDoorTi
import Derived.Test.YtipmpeekfajlcaaGreatDoorTj
import Derived.Test.YtipmpeekfajlcaaGreatDoorTk
import Derived.Test.YtipmpeekfajlcaaGreatDoorSg
import Derived.Test.YtipmpeekfajlcaaGreatDoorSh
namespace Go.Proofs.YtipmpeekfajlcaaGreatDoor
open Go.RowKit Go.Proofs Go.Sort Go.BigFrame

set_option maxRecDepth 100000 in
set_option maxHeartbeats 8000000 in
theorem type_struct (W : WorldD) (pa da : Option Addr) (pc dc np : Nat) (most : Int) (d : Nat) (hrec : TypeCalls W pa da pc dc np most d) (hd9 : d < 99)
    (t : Ty) (ka : Option Addr) (kc : Nat) (below : Bool) (w : World) (hd : DeclsV w da dc W.decls) (hk : KidsV w ka kc t.kids) (hkd : t.kd.toList = [115, 116, 114, 117, 99, 116]) :
    Calls Tryz.prog 13 #[.agg #[.slice pa np pc, .slice da W.decls.length dc, .int .i64 most], .agg #[.string t.kd, .string t.nm, .string t.tg, .int .i64 t.sz, .slice ka t.kids.length kc], .int .i64 ((d : Int) + 1), .bool below] w (Gives (.bool (isTypeB W most (d + 1) t below)) w) := by
  have hl1 := hk.len.1
  have hl2 := hk.len.2
  have HT : Hid (structB W (fun k => isTypeB W most d k below) t = isTypeB W most (d + 1) t below) := by show _ = _; simp [isTypeB, hkd]
  have HR := Lib.hid hrec; clear hrec
  have HD := Lib.hid hd; clear hd
  have HK := Lib.hid hk; clear hk
  have con : ∀ w', Below w.heap.size w w' → Calls Tryz.prog 24 #[.agg #[.slice pa np pc, .slice da W.decls.length dc, .int .i64 most], .agg #[.string t.kd, .string t.nm, .string t.tg, .int .i64 t.sz, .slice ka t.kids.length kc], .int .i64 ((d : Int) + 1), .bool below] w' (Gives (.bool (structB W (fun k => isTypeB W most d k below) t)) w') := fun w' hw => isStruct_any W pa da pc dc np most d HR.out _ (by omega) (by omega) t ka kc below w' (HD.out.keep hw) (HK.out.keep hw)
  have CON := Lib.hid con; clear con
  go_enter Tryz.func13, Tryz.ntmps13
  go_wp2_with (go_at_call 24; refine (CON.out _ (by go_grown)).mono ?_; rintro e w' ⟨rfl, hb4⟩)
  go_ret
  go_light
  exact ⟨ret_bool HT.out, (show Below w.heap.size w ((w.alloc (.cells #[.slice pa np pc, .slice da W.decls.length dc, .int .i64 most] 44)).alloc (.cells #[.string t.kd, .string t.nm, .string t.tg, .int .i64 t.sz, .slice ka t.kids.length kc] 28)) by go_grown).trans (hb4.mono (by simp; omega))⟩

set_option maxRecDepth 100000 in
set_option maxHeartbeats 8000000 in
theorem type_interface (W : WorldD) (pa da : Option Addr) (pc dc np : Nat) (most : Int) (d : Nat) (hrec : TypeCalls W pa da pc dc np most d) (hd9 : d < 99)
    (t : Ty) (ka : Option Addr) (kc : Nat) (below : Bool) (w : World) (hd : DeclsV w da dc W.decls) (hk : KidsV w ka kc t.kids) (hkd : t.kd.toList = [105, 110, 116, 101, 114, 102, 97, 99, 101]) :
    Calls Tryz.prog 13 #[.agg #[.slice pa np pc, .slice da W.decls.length dc, .int .i64 most], .agg #[.string t.kd, .string t.nm, .string t.tg, .int .i64 t.sz, .slice ka t.kids.length kc], .int .i64 ((d : Int) + 1), .bool below] w (Gives (.bool (isTypeB W most (d + 1) t below)) w) := by
  have hl1 := hk.len.1
  have hl2 := hk.len.2
  have HT : Hid (ifaceB (fun k b => isTypeB W most d k b) t below = isTypeB W most (d + 1) t below) := by show _ = _; simp [isTypeB, hkd]
  have HR := Lib.hid hrec; clear hrec
  have HD := Lib.hid hd; clear hd
  have HK := Lib.hid hk; clear hk
  have con : ∀ w', Below w.heap.size w w' → Calls Tryz.prog 27 #[.agg #[.slice pa np pc, .slice da W.decls.length dc, .int .i64 most], .agg #[.string t.kd, .string t.nm, .string t.tg, .int .i64 t.sz, .slice ka t.kids.length kc], .int .i64 ((d : Int) + 1), .bool below] w' (Gives (.bool (ifaceB (fun k b => isTypeB W most d k b) t below)) w') := fun w' hw => isIface_any W pa da pc dc np most d HR.out _ (by omega) (by omega) t ka kc below w' (HD.out.keep hw) (HK.out.keep hw)
  have CON := Lib.hid con; clear con
  go_enter Tryz.func13, Tryz.ntmps13
  go_wp2_with (go_at_call 27; refine (CON.out _ (by go_grown)).mono ?_; rintro e w' ⟨rfl, hb4⟩)
  go_ret
  go_light
  exact ⟨ret_bool HT.out, (show Below w.heap.size w ((w.alloc (.cells #[.slice pa np pc, .slice da W.decls.length dc, .int .i64 most] 44)).alloc (.cells #[.string t.kd, .string t.nm, .string t.tg, .int .i64 t.sz, .slice ka t.kids.length kc] 28)) by go_grown).trans (hb4.mono (by simp; omega))⟩

set_option maxRecDepth 100000 in
set_option maxRecDepth 100000 in
set_option maxHeartbeats 8000000 in
theorem type_other (W : WorldD) (pa da : Option Addr) (pc dc np : Nat) (most : Int) (d : Nat) 
    (t : Ty) (ka : Option Addr) (kc : Nat) (below : Bool) (w : World) (h0 : ¬ t.kd.toList = [98, 97, 115, 105, 99]) (h1 : ¬ t.kd.toList = [110, 97, 109, 101, 100]) (h2 : ¬ t.kd.toList = [112, 111, 105, 110, 116, 101, 114]) (h3 : ¬ t.kd.toList = [115, 108, 105, 99, 101]) (h4 : ¬ t.kd.toList = [99, 104, 97, 110]) (h5 : ¬ t.kd.toList = [115, 101, 110, 100]) (h6 : ¬ t.kd.toList = [114, 101, 99, 118]) (h7 : ¬ t.kd.toList = [97, 114, 114, 97, 121]) (h8 : ¬ t.kd.toList = [109, 97, 112]) (h9 : ¬ t.kd.toList = [115, 116, 114, 117, 99, 116]) (h10 : ¬ t.kd.toList = [102, 117, 110, 99]) (h11 : ¬ t.kd.toList = [118, 97, 114, 105, 97, 100, 105, 99]) (h12 : ¬ t.kd.toList = [105, 110, 116, 101, 114, 102, 97, 99, 101]) :
    Calls Tryz.prog 13 #[.agg #[.slice pa np pc, .slice da W.decls.length dc, .int .i64 most], .agg #[.string t.kd, .string t.nm, .string t.tg, .int .i64 t.sz, .slice ka t.kids.length kc], .int .i64 ((d : Int) + 1), .bool below] w (Gives (.bool (isTypeB W most (d + 1) t below)) w) := by
  have HT : Hid (false = isTypeB W most (d + 1) t below) := by show _ = _; simp [isTypeB, h0, h1, h2, h3, h4, h5, h6, h7, h8, h9, h10, h11, h12]
  have g0 : (t.kd.toList == [98, 97, 115, 105, 99]) = false := by simp [h0]
  have g1 : (t.kd.toList == [110, 97, 109, 101, 100]) = false := by simp [h1]
  have g2 : (t.kd.toList == [112, 111, 105, 110, 116, 101, 114]) = false := by simp [h2]
  have g3 : (t.kd.toList == [115, 108, 105, 99, 101]) = false := by simp [h3]
  have g4 : (t.kd.toList == [99, 104, 97, 110]) = false := by simp [h4]
  have g5 : (t.kd.toList == [115, 101, 110, 100]) = false := by simp [h5]
  have g6 : (t.kd.toList == [114, 101, 99, 118]) = false := by simp [h6]
  have g7 : (t.kd.toList == [97, 114, 114, 97, 121]) = false := by simp [h7]
  have g8 : (t.kd.toList == [109, 97, 112]) = false := by simp [h8]
  have g9 : (t.kd.toList == [115, 116, 114, 117, 99, 116]) = false := by simp [h9]
  have g10 : (t.kd.toList == [102, 117, 110, 99]) = false := by simp [h10]
  have g11 : (t.kd.toList == [118, 97, 114, 105, 97, 100, 105, 99]) = false := by simp [h11]
  have g12 : (t.kd.toList == [105, 110, 116, 101, 114, 102, 97, 99, 101]) = false := by simp [h12]
  go_enter Tryz.func13, Tryz.ntmps13
  go_wp2
  go_ret
  go_light
  exact ⟨ret_bool HT.out, by go_grown⟩

set_option maxRecDepth 100000 in
set_option maxHeartbeats 4000000 in
theorem type_zero (W : WorldD) (pa da : Option Addr) (pc dc np : Nat) (most : Int) : TypeCalls W pa da pc dc np most 0 := by
  intro t ka kc below w _ _ _
  go_enter Tryz.func13, Tryz.ntmps13
  go_wp2
  go_ret
  exact ⟨ret_bool rfl, by go_grown⟩

/-- isType answers as the plain test does, at every depth that it is called with. -/
theorem isType_calls (W : WorldD) (pa da : Option Addr) (pc dc np : Nat) (most : Int) (d : Nat) (hd : d ≤ 90) : TypeCalls W pa da pc dc np most d := by
  induction d with
  | zero => exact type_zero W pa da pc dc np most
  | succ d ih =>
    have hrec := ih (by omega)
    have hd99 : d < 99 := by omega
    intro t ka kc below w hd hk ht
    rw [show (((d + 1 : Nat)) : Int) = (d : Int) + 1 from by omega]
    by_cases h0 : t.kd.toList = [98, 97, 115, 105, 99]
    · exact type_basic W pa da pc dc np most d hrec hd99 t ka kc below w hd hk ht h0
    by_cases h1 : t.kd.toList = [110, 97, 109, 101, 100]
    · exact type_named W pa da pc dc np most d hrec hd99 t ka kc below w hd hk h1
    by_cases h2 : t.kd.toList = [112, 111, 105, 110, 116, 101, 114]
    · exact type_pointer W pa da pc dc np most d hrec hd99 t ka kc below w hd hk h2
    by_cases h3 : t.kd.toList = [115, 108, 105, 99, 101]
    · exact type_slice W pa da pc dc np most d hrec hd99 t ka kc below w hd hk h3
    by_cases h4 : t.kd.toList = [99, 104, 97, 110]
    · exact type_chan W pa da pc dc np most d hrec hd99 t ka kc below w hd hk h4
    by_cases h5 : t.kd.toList = [115, 101, 110, 100]
    · exact type_send W pa da pc dc np most d hrec hd99 t ka kc below w hd hk h5
    by_cases h6 : t.kd.toList = [114, 101, 99, 118]
    · exact type_recv W pa da pc dc np most d hrec hd99 t ka kc below w hd hk h6
    by_cases h7 : t.kd.toList = [97, 114, 114, 97, 121]
    · exact type_array W pa da pc dc np most d hrec hd99 t ka kc below w hd hk h7
    by_cases h8 : t.kd.toList = [109, 97, 112]
    · exact type_map W pa da pc dc np most d hrec hd99 t ka kc below w hd hk h8
    by_cases h9 : t.kd.toList = [115, 116, 114, 117, 99, 116]
    · exact type_struct W pa da pc dc np most d hrec hd99 t ka kc below w hd hk h9
    by_cases h10 : t.kd.toList = [102, 117, 110, 99]
    · exact type_func W pa da pc dc np most d hrec hd99 t ka kc below w hd hk h10
    by_cases h11 : t.kd.toList = [118, 97, 114, 105, 97, 100, 105, 99]
    · exact type_variadic W pa da pc dc np most d hrec hd99 t ka kc below w hd hk h11
    by_cases h12 : t.kd.toList = [105, 110, 116, 101, 114, 102, 97, 99, 101]
    · exact type_interface W pa da pc dc np most d hrec hd99 t ka kc below w hd hk h12
    exact type_other W pa da pc dc np most d t ka kc below w h0 h1 h2 h3 h4 h5 h6 h7 h8 h9 h10 h11 h12

end Go.Proofs.YtipmpeekfajlcaaGreatDoor
