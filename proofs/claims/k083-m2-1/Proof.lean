import JvmDerived
import JvmDerived.Pilot.@@N@@Statement
import JvmDerived.Pilot.@@N@@Code
set_option linter.unusedVariables false
set_option linter.unusedSimpArgs false
@@BLOCK:NumsL.lean.txt@@
namespace Jvm.RoadKit
open Sem ClassFile Op Lib Jvm.Stand Jvm.Free Jvm.LawKit
section New
variable {p : Program} {l : Launch} {e : Env} {R : Room} {s : State} {m : MethodId} {args : Array Value} {below : List Frame} {meth : Method} {c : Code} {T : State} {locs : List Loc} {cells slots : Nat}
theorem retI (X : Stand p l e R s m args below meth c T locs cells slots) (hx : p.tables.exec = Jvm.exec) {pc : Nat} {Ls : Array Slot} {z : Int32} {rest : List Value} (hret : meth.sig.returnType = some .int) (hd : decode c.code pc = .ok (.ireturn, 1)) {fs : List Frame}
    (hl : ∀ (f : JFrame) (acts : List Action), f.method = m → f.locked = none → f.entered = [] → (doReturn e (T.setTop f) acts (some (.int z))).1 = T.setFrames fs) : Steps p.tables e below (T.setTop (mkF m pc Ls (.int z :: rest))) (T.setFrames fs) := by
  have hm' : T.vm.method? m = some meth := X.method'
  have hn : narrow .int (.int z) = .int z := rfl
  show Steps p.tables e below (T.setTop { method := m, pc := pc, locals := Ls, stack := _ :: rest, locked := none }) _
  jvm_step X.here [X.here.top, hx, hd, hm', hret, hn]
  first | (intro acts; rw [hl _ acts rfl rfl rfl]) | rw [hl _ _ rfl rfl rfl]
  exact Steps.refl _
end New
end Jvm.RoadKit
namespace Jvm.Pilot.@@N@@
open Jvm Jvm.ClassFile Sem Op Lib Jvm.Free Jvm.Stand Jvm.LawKit Jvm.RoadKit Bundle Jvm.Pilot.@@N@@.Jvm.D
theorem d1_0 : decode prog_65_method_4_code 0 = .ok (.iload_n 0, 1) := by decide +kernel
theorem d1_1 : decode prog_65_method_4_code 1 = .ok (.sipush 255, 3) := by decide +kernel
theorem d1_4 : decode prog_65_method_4_code 4 = .ok (.iand, 1) := by decide +kernel
theorem d1_5 : decode prog_65_method_4_code 5 = .ok (.istore_n 1, 1) := by decide +kernel
theorem d1_6 : decode prog_65_method_4_code 6 = .ok (.iload_n 1, 1) := by decide +kernel
theorem d1_7 : decode prog_65_method_4_code 7 = .ok (.sipush 194, 3) := by decide +kernel
theorem d1_10 : decode prog_65_method_4_code 10 = .ok (.if_icmp .ge 8, 3) := by decide +kernel
theorem d1_13 : decode prog_65_method_4_code 13 = .ok (.iconst 1, 1) := by decide +kernel
theorem d1_14 : decode prog_65_method_4_code 14 = .ok (.istore_n 2, 1) := by decide +kernel
theorem d1_15 : decode prog_65_method_4_code 15 = .ok (.goto 41, 3) := by decide +kernel
theorem d1_18 : decode prog_65_method_4_code 18 = .ok (.iload_n 1, 1) := by decide +kernel
theorem d1_19 : decode prog_65_method_4_code 19 = .ok (.sipush 224, 3) := by decide +kernel
theorem d1_22 : decode prog_65_method_4_code 22 = .ok (.if_icmp .ge 8, 3) := by decide +kernel
theorem d1_25 : decode prog_65_method_4_code 25 = .ok (.iconst 2, 1) := by decide +kernel
theorem d1_26 : decode prog_65_method_4_code 26 = .ok (.istore_n 2, 1) := by decide +kernel
theorem d1_27 : decode prog_65_method_4_code 27 = .ok (.goto 29, 3) := by decide +kernel
theorem d1_30 : decode prog_65_method_4_code 30 = .ok (.iload_n 1, 1) := by decide +kernel
theorem d1_31 : decode prog_65_method_4_code 31 = .ok (.sipush 240, 3) := by decide +kernel
theorem d1_34 : decode prog_65_method_4_code 34 = .ok (.if_icmp .ge 8, 3) := by decide +kernel
theorem d1_37 : decode prog_65_method_4_code 37 = .ok (.iconst 3, 1) := by decide +kernel
theorem d1_38 : decode prog_65_method_4_code 38 = .ok (.istore_n 2, 1) := by decide +kernel
theorem d1_39 : decode prog_65_method_4_code 39 = .ok (.goto 17, 3) := by decide +kernel
theorem d1_42 : decode prog_65_method_4_code 42 = .ok (.iload_n 1, 1) := by decide +kernel
theorem d1_43 : decode prog_65_method_4_code 43 = .ok (.sipush 245, 3) := by decide +kernel
theorem d1_46 : decode prog_65_method_4_code 46 = .ok (.if_icmp .ge 8, 3) := by decide +kernel
theorem d1_49 : decode prog_65_method_4_code 49 = .ok (.iconst 4, 1) := by decide +kernel
theorem d1_50 : decode prog_65_method_4_code 50 = .ok (.istore_n 2, 1) := by decide +kernel
theorem d1_51 : decode prog_65_method_4_code 51 = .ok (.goto 5, 3) := by decide +kernel
theorem d1_54 : decode prog_65_method_4_code 54 = .ok (.iconst 1, 1) := by decide +kernel
theorem d1_55 : decode prog_65_method_4_code 55 = .ok (.istore_n 2, 1) := by decide +kernel
theorem d1_56 : decode prog_65_method_4_code 56 = .ok (.iload_n 2, 1) := by decide +kernel
theorem d1_57 : decode prog_65_method_4_code 57 = .ok (.ireturn, 1) := by decide +kernel
def f1_56 (x0 : Int32) (x1 : Int32) (x2 : Int32) : Int32 := x2
set_option maxRecDepth 65536 in
theorem b1_56 {p : Program} {l : Launch} {e : Env} {R : Room} {s : State} {m : MethodId} {args : Array Value} {below : List Frame} {meth : Method} {c : Code} {T : State} {locs : List Loc} {cells slots : Nat} (X : Stand p l e R s m args below meth c T locs cells slots) (hx : p.tables.exec = Jvm.exec) (hby : c.code = prog_65_method_4_code) (hret : meth.sig.returnType = some .int) (x0 : Int32) (x1 : Int32) (x2 : Int32) {fs : List Frame} (hr : ∀ (f : JFrame) (acts : List Action), f.method = m → f.locked = none → f.entered = [] → (doReturn e (T.setTop f) acts (some (.int (f1_56 x0 x1 x2)))).1 = T.setFrames fs) :
    Steps p.tables e below (T.setTop (mkF m 56 #[.val (.int x0), .val (.int x1), .val (.int x2)] [])) (T.setFrames fs) := by
  show Steps p.tables e below (T.setTop (mkF m 56 #[.val (.int x0), .val (.int x1), .val (.int x2)] [])) _
  refine XS.iloadN X.here hx rfl (hb hby d1_56) rfl ?_
  show Steps p.tables e below (T.setTop (mkF m 57 #[.val (.int x0), .val (.int x1), .val (.int x2)] [(.int x2)])) _
  exact retI X hx hret (hb hby d1_57) hr
def f1_54 (x0 : Int32) (x1 : Int32) : Int32 := f1_56 x0 x1 (1 : Int32)
set_option maxRecDepth 65536 in
theorem b1_54 {p : Program} {l : Launch} {e : Env} {R : Room} {s : State} {m : MethodId} {args : Array Value} {below : List Frame} {meth : Method} {c : Code} {T : State} {locs : List Loc} {cells slots : Nat} (X : Stand p l e R s m args below meth c T locs cells slots) (hx : p.tables.exec = Jvm.exec) (hby : c.code = prog_65_method_4_code) (hret : meth.sig.returnType = some .int) (x0 : Int32) (x1 : Int32) {fs : List Frame} (hr : ∀ (f : JFrame) (acts : List Action), f.method = m → f.locked = none → f.entered = [] → (doReturn e (T.setTop f) acts (some (.int (f1_54 x0 x1)))).1 = T.setFrames fs) :
    Steps p.tables e below (T.setTop (mkF m 54 #[.val (.int x0), .val (.int x1), .unset] [])) (T.setFrames fs) := by
  show Steps p.tables e below (T.setTop (mkF m 54 #[.val (.int x0), .val (.int x1), .unset] [])) _
  refine XS.iconst X.here hx rfl (hb hby d1_54) ?_
  show Steps p.tables e below (T.setTop (mkF m 55 #[.val (.int x0), .val (.int x1), .unset] [(.int (1 : Int32))])) _
  refine XS.istoreN X.here hx rfl (hb hby d1_55) rfl (l' := #[.val (.int x0), .val (.int x1), .val (.int (1 : Int32))]) rfl ?_
  exact b1_56 X hx hby hret x0 x1 ((1 : Int32)) hr
def f1_49 (x0 : Int32) (x1 : Int32) : Int32 := f1_56 x0 x1 (4 : Int32)
set_option maxRecDepth 65536 in
theorem b1_49 {p : Program} {l : Launch} {e : Env} {R : Room} {s : State} {m : MethodId} {args : Array Value} {below : List Frame} {meth : Method} {c : Code} {T : State} {locs : List Loc} {cells slots : Nat} (X : Stand p l e R s m args below meth c T locs cells slots) (hx : p.tables.exec = Jvm.exec) (hby : c.code = prog_65_method_4_code) (hret : meth.sig.returnType = some .int) (x0 : Int32) (x1 : Int32) {fs : List Frame} (hr : ∀ (f : JFrame) (acts : List Action), f.method = m → f.locked = none → f.entered = [] → (doReturn e (T.setTop f) acts (some (.int (f1_49 x0 x1)))).1 = T.setFrames fs) :
    Steps p.tables e below (T.setTop (mkF m 49 #[.val (.int x0), .val (.int x1), .unset] [])) (T.setFrames fs) := by
  show Steps p.tables e below (T.setTop (mkF m 49 #[.val (.int x0), .val (.int x1), .unset] [])) _
  refine XS.iconst X.here hx rfl (hb hby d1_49) ?_
  show Steps p.tables e below (T.setTop (mkF m 50 #[.val (.int x0), .val (.int x1), .unset] [(.int (4 : Int32))])) _
  refine XS.istoreN X.here hx rfl (hb hby d1_50) rfl (l' := #[.val (.int x0), .val (.int x1), .val (.int (4 : Int32))]) rfl ?_
  show Steps p.tables e below (T.setTop (mkF m 51 #[.val (.int x0), .val (.int x1), .val (.int (4 : Int32))] [])) _
  refine XS.goto X.here hx rfl (pc0 := 51) (pc' := 56) rfl (hb hby d1_51) (by decide) (by decide) ?_
  exact b1_56 X hx hby hret x0 x1 ((4 : Int32)) hr
def f1_42 (x0 : Int32) (x1 : Int32) : Int32 := if x1 < (245 : Int32) then f1_49 x0 x1 else f1_54 x0 x1
set_option maxRecDepth 65536 in
theorem b1_42 {p : Program} {l : Launch} {e : Env} {R : Room} {s : State} {m : MethodId} {args : Array Value} {below : List Frame} {meth : Method} {c : Code} {T : State} {locs : List Loc} {cells slots : Nat} (X : Stand p l e R s m args below meth c T locs cells slots) (hx : p.tables.exec = Jvm.exec) (hby : c.code = prog_65_method_4_code) (hret : meth.sig.returnType = some .int) (x0 : Int32) (x1 : Int32) {fs : List Frame} (hr : ∀ (f : JFrame) (acts : List Action), f.method = m → f.locked = none → f.entered = [] → (doReturn e (T.setTop f) acts (some (.int (f1_42 x0 x1)))).1 = T.setFrames fs) :
    Steps p.tables e below (T.setTop (mkF m 42 #[.val (.int x0), .val (.int x1), .unset] [])) (T.setFrames fs) := by
  show Steps p.tables e below (T.setTop (mkF m 42 #[.val (.int x0), .val (.int x1), .unset] [])) _
  refine XS.iloadN X.here hx rfl (hb hby d1_42) rfl ?_
  show Steps p.tables e below (T.setTop (mkF m 43 #[.val (.int x0), .val (.int x1), .unset] [(.int x1)])) _
  refine XS.sipush X.here hx rfl (hb hby d1_43) ?_
  show Steps p.tables e below (T.setTop (mkF m 46 #[.val (.int x0), .val (.int x1), .unset] [(.int (245 : Int32)), (.int x1)])) _
  by_cases hc : x1 < (245 : Int32)
  · refine XS.icmpNo X.here hx rfl (hb hby d1_46) rfl (tlt hc).2.1 ?_
    rw [show f1_42 x0 x1 = f1_49 x0 x1 from if_pos hc] at hr; exact b1_49 X hx hby hret x0 x1 hr
  · refine XS.icmpYes X.here hx rfl (pc0 := 46) (pc' := 54) rfl (hb hby d1_46) rfl (flt hc).2.1 (by decide) (by decide) ?_
    rw [show f1_42 x0 x1 = f1_54 x0 x1 from if_neg hc] at hr; exact b1_54 X hx hby hret x0 x1 hr
def f1_37 (x0 : Int32) (x1 : Int32) : Int32 := f1_56 x0 x1 (3 : Int32)
set_option maxRecDepth 65536 in
theorem b1_37 {p : Program} {l : Launch} {e : Env} {R : Room} {s : State} {m : MethodId} {args : Array Value} {below : List Frame} {meth : Method} {c : Code} {T : State} {locs : List Loc} {cells slots : Nat} (X : Stand p l e R s m args below meth c T locs cells slots) (hx : p.tables.exec = Jvm.exec) (hby : c.code = prog_65_method_4_code) (hret : meth.sig.returnType = some .int) (x0 : Int32) (x1 : Int32) {fs : List Frame} (hr : ∀ (f : JFrame) (acts : List Action), f.method = m → f.locked = none → f.entered = [] → (doReturn e (T.setTop f) acts (some (.int (f1_37 x0 x1)))).1 = T.setFrames fs) :
    Steps p.tables e below (T.setTop (mkF m 37 #[.val (.int x0), .val (.int x1), .unset] [])) (T.setFrames fs) := by
  show Steps p.tables e below (T.setTop (mkF m 37 #[.val (.int x0), .val (.int x1), .unset] [])) _
  refine XS.iconst X.here hx rfl (hb hby d1_37) ?_
  show Steps p.tables e below (T.setTop (mkF m 38 #[.val (.int x0), .val (.int x1), .unset] [(.int (3 : Int32))])) _
  refine XS.istoreN X.here hx rfl (hb hby d1_38) rfl (l' := #[.val (.int x0), .val (.int x1), .val (.int (3 : Int32))]) rfl ?_
  show Steps p.tables e below (T.setTop (mkF m 39 #[.val (.int x0), .val (.int x1), .val (.int (3 : Int32))] [])) _
  refine XS.goto X.here hx rfl (pc0 := 39) (pc' := 56) rfl (hb hby d1_39) (by decide) (by decide) ?_
  exact b1_56 X hx hby hret x0 x1 ((3 : Int32)) hr
def f1_30 (x0 : Int32) (x1 : Int32) : Int32 := if x1 < (240 : Int32) then f1_37 x0 x1 else f1_42 x0 x1
set_option maxRecDepth 65536 in
theorem b1_30 {p : Program} {l : Launch} {e : Env} {R : Room} {s : State} {m : MethodId} {args : Array Value} {below : List Frame} {meth : Method} {c : Code} {T : State} {locs : List Loc} {cells slots : Nat} (X : Stand p l e R s m args below meth c T locs cells slots) (hx : p.tables.exec = Jvm.exec) (hby : c.code = prog_65_method_4_code) (hret : meth.sig.returnType = some .int) (x0 : Int32) (x1 : Int32) {fs : List Frame} (hr : ∀ (f : JFrame) (acts : List Action), f.method = m → f.locked = none → f.entered = [] → (doReturn e (T.setTop f) acts (some (.int (f1_30 x0 x1)))).1 = T.setFrames fs) :
    Steps p.tables e below (T.setTop (mkF m 30 #[.val (.int x0), .val (.int x1), .unset] [])) (T.setFrames fs) := by
  show Steps p.tables e below (T.setTop (mkF m 30 #[.val (.int x0), .val (.int x1), .unset] [])) _
  refine XS.iloadN X.here hx rfl (hb hby d1_30) rfl ?_
  show Steps p.tables e below (T.setTop (mkF m 31 #[.val (.int x0), .val (.int x1), .unset] [(.int x1)])) _
  refine XS.sipush X.here hx rfl (hb hby d1_31) ?_
  show Steps p.tables e below (T.setTop (mkF m 34 #[.val (.int x0), .val (.int x1), .unset] [(.int (240 : Int32)), (.int x1)])) _
  by_cases hc : x1 < (240 : Int32)
  · refine XS.icmpNo X.here hx rfl (hb hby d1_34) rfl (tlt hc).2.1 ?_
    rw [show f1_30 x0 x1 = f1_37 x0 x1 from if_pos hc] at hr; exact b1_37 X hx hby hret x0 x1 hr
  · refine XS.icmpYes X.here hx rfl (pc0 := 34) (pc' := 42) rfl (hb hby d1_34) rfl (flt hc).2.1 (by decide) (by decide) ?_
    rw [show f1_30 x0 x1 = f1_42 x0 x1 from if_neg hc] at hr; exact b1_42 X hx hby hret x0 x1 hr
def f1_25 (x0 : Int32) (x1 : Int32) : Int32 := f1_56 x0 x1 (2 : Int32)
set_option maxRecDepth 65536 in
theorem b1_25 {p : Program} {l : Launch} {e : Env} {R : Room} {s : State} {m : MethodId} {args : Array Value} {below : List Frame} {meth : Method} {c : Code} {T : State} {locs : List Loc} {cells slots : Nat} (X : Stand p l e R s m args below meth c T locs cells slots) (hx : p.tables.exec = Jvm.exec) (hby : c.code = prog_65_method_4_code) (hret : meth.sig.returnType = some .int) (x0 : Int32) (x1 : Int32) {fs : List Frame} (hr : ∀ (f : JFrame) (acts : List Action), f.method = m → f.locked = none → f.entered = [] → (doReturn e (T.setTop f) acts (some (.int (f1_25 x0 x1)))).1 = T.setFrames fs) :
    Steps p.tables e below (T.setTop (mkF m 25 #[.val (.int x0), .val (.int x1), .unset] [])) (T.setFrames fs) := by
  show Steps p.tables e below (T.setTop (mkF m 25 #[.val (.int x0), .val (.int x1), .unset] [])) _
  refine XS.iconst X.here hx rfl (hb hby d1_25) ?_
  show Steps p.tables e below (T.setTop (mkF m 26 #[.val (.int x0), .val (.int x1), .unset] [(.int (2 : Int32))])) _
  refine XS.istoreN X.here hx rfl (hb hby d1_26) rfl (l' := #[.val (.int x0), .val (.int x1), .val (.int (2 : Int32))]) rfl ?_
  show Steps p.tables e below (T.setTop (mkF m 27 #[.val (.int x0), .val (.int x1), .val (.int (2 : Int32))] [])) _
  refine XS.goto X.here hx rfl (pc0 := 27) (pc' := 56) rfl (hb hby d1_27) (by decide) (by decide) ?_
  exact b1_56 X hx hby hret x0 x1 ((2 : Int32)) hr
def f1_18 (x0 : Int32) (x1 : Int32) : Int32 := if x1 < (224 : Int32) then f1_25 x0 x1 else f1_30 x0 x1
set_option maxRecDepth 65536 in
theorem b1_18 {p : Program} {l : Launch} {e : Env} {R : Room} {s : State} {m : MethodId} {args : Array Value} {below : List Frame} {meth : Method} {c : Code} {T : State} {locs : List Loc} {cells slots : Nat} (X : Stand p l e R s m args below meth c T locs cells slots) (hx : p.tables.exec = Jvm.exec) (hby : c.code = prog_65_method_4_code) (hret : meth.sig.returnType = some .int) (x0 : Int32) (x1 : Int32) {fs : List Frame} (hr : ∀ (f : JFrame) (acts : List Action), f.method = m → f.locked = none → f.entered = [] → (doReturn e (T.setTop f) acts (some (.int (f1_18 x0 x1)))).1 = T.setFrames fs) :
    Steps p.tables e below (T.setTop (mkF m 18 #[.val (.int x0), .val (.int x1), .unset] [])) (T.setFrames fs) := by
  show Steps p.tables e below (T.setTop (mkF m 18 #[.val (.int x0), .val (.int x1), .unset] [])) _
  refine XS.iloadN X.here hx rfl (hb hby d1_18) rfl ?_
  show Steps p.tables e below (T.setTop (mkF m 19 #[.val (.int x0), .val (.int x1), .unset] [(.int x1)])) _
  refine XS.sipush X.here hx rfl (hb hby d1_19) ?_
  show Steps p.tables e below (T.setTop (mkF m 22 #[.val (.int x0), .val (.int x1), .unset] [(.int (224 : Int32)), (.int x1)])) _
  by_cases hc : x1 < (224 : Int32)
  · refine XS.icmpNo X.here hx rfl (hb hby d1_22) rfl (tlt hc).2.1 ?_
    rw [show f1_18 x0 x1 = f1_25 x0 x1 from if_pos hc] at hr; exact b1_25 X hx hby hret x0 x1 hr
  · refine XS.icmpYes X.here hx rfl (pc0 := 22) (pc' := 30) rfl (hb hby d1_22) rfl (flt hc).2.1 (by decide) (by decide) ?_
    rw [show f1_18 x0 x1 = f1_30 x0 x1 from if_neg hc] at hr; exact b1_30 X hx hby hret x0 x1 hr
def f1_13 (x0 : Int32) (x1 : Int32) : Int32 := f1_56 x0 x1 (1 : Int32)
set_option maxRecDepth 65536 in
theorem b1_13 {p : Program} {l : Launch} {e : Env} {R : Room} {s : State} {m : MethodId} {args : Array Value} {below : List Frame} {meth : Method} {c : Code} {T : State} {locs : List Loc} {cells slots : Nat} (X : Stand p l e R s m args below meth c T locs cells slots) (hx : p.tables.exec = Jvm.exec) (hby : c.code = prog_65_method_4_code) (hret : meth.sig.returnType = some .int) (x0 : Int32) (x1 : Int32) {fs : List Frame} (hr : ∀ (f : JFrame) (acts : List Action), f.method = m → f.locked = none → f.entered = [] → (doReturn e (T.setTop f) acts (some (.int (f1_13 x0 x1)))).1 = T.setFrames fs) :
    Steps p.tables e below (T.setTop (mkF m 13 #[.val (.int x0), .val (.int x1), .unset] [])) (T.setFrames fs) := by
  show Steps p.tables e below (T.setTop (mkF m 13 #[.val (.int x0), .val (.int x1), .unset] [])) _
  refine XS.iconst X.here hx rfl (hb hby d1_13) ?_
  show Steps p.tables e below (T.setTop (mkF m 14 #[.val (.int x0), .val (.int x1), .unset] [(.int (1 : Int32))])) _
  refine XS.istoreN X.here hx rfl (hb hby d1_14) rfl (l' := #[.val (.int x0), .val (.int x1), .val (.int (1 : Int32))]) rfl ?_
  show Steps p.tables e below (T.setTop (mkF m 15 #[.val (.int x0), .val (.int x1), .val (.int (1 : Int32))] [])) _
  refine XS.goto X.here hx rfl (pc0 := 15) (pc' := 56) rfl (hb hby d1_15) (by decide) (by decide) ?_
  exact b1_56 X hx hby hret x0 x1 ((1 : Int32)) hr
def f1_0 (x0 : Int32) : Int32 := if (x0 &&& (255 : Int32)) < (194 : Int32) then f1_13 x0 (x0 &&& (255 : Int32)) else f1_18 x0 (x0 &&& (255 : Int32))
set_option maxRecDepth 65536 in
theorem b1_0 {p : Program} {l : Launch} {e : Env} {R : Room} {s : State} {m : MethodId} {args : Array Value} {below : List Frame} {meth : Method} {c : Code} {T : State} {locs : List Loc} {cells slots : Nat} (X : Stand p l e R s m args below meth c T locs cells slots) (hx : p.tables.exec = Jvm.exec) (hby : c.code = prog_65_method_4_code) (hret : meth.sig.returnType = some .int) (x0 : Int32) {fs : List Frame} (hr : ∀ (f : JFrame) (acts : List Action), f.method = m → f.locked = none → f.entered = [] → (doReturn e (T.setTop f) acts (some (.int (f1_0 x0)))).1 = T.setFrames fs) :
    Steps p.tables e below (T.setTop (mkF m 0 #[.val (.int x0), .unset, .unset] [])) (T.setFrames fs) := by
  show Steps p.tables e below (T.setTop (mkF m 0 #[.val (.int x0), .unset, .unset] [])) _
  refine XS.iloadN X.here hx rfl (hb hby d1_0) rfl ?_
  show Steps p.tables e below (T.setTop (mkF m 1 #[.val (.int x0), .unset, .unset] [(.int x0)])) _
  refine XS.sipush X.here hx rfl (hb hby d1_1) ?_
  show Steps p.tables e below (T.setTop (mkF m 4 #[.val (.int x0), .unset, .unset] [(.int (255 : Int32)), (.int x0)])) _
  refine XS.iand X.here hx rfl (hb hby d1_4) rfl ?_
  show Steps p.tables e below (T.setTop (mkF m 5 #[.val (.int x0), .unset, .unset] [(.int (x0 &&& (255 : Int32)))])) _
  refine XS.istoreN X.here hx rfl (hb hby d1_5) rfl (l' := #[.val (.int x0), .val (.int (x0 &&& (255 : Int32))), .unset]) rfl ?_
  show Steps p.tables e below (T.setTop (mkF m 6 #[.val (.int x0), .val (.int (x0 &&& (255 : Int32))), .unset] [])) _
  refine XS.iloadN X.here hx rfl (hb hby d1_6) rfl ?_
  show Steps p.tables e below (T.setTop (mkF m 7 #[.val (.int x0), .val (.int (x0 &&& (255 : Int32))), .unset] [(.int (x0 &&& (255 : Int32)))])) _
  refine XS.sipush X.here hx rfl (hb hby d1_7) ?_
  show Steps p.tables e below (T.setTop (mkF m 10 #[.val (.int x0), .val (.int (x0 &&& (255 : Int32))), .unset] [(.int (194 : Int32)), (.int (x0 &&& (255 : Int32)))])) _
  by_cases hc : (x0 &&& (255 : Int32)) < (194 : Int32)
  · refine XS.icmpNo X.here hx rfl (hb hby d1_10) rfl (tlt hc).2.1 ?_
    rw [show f1_0 x0 = f1_13 x0 (x0 &&& (255 : Int32)) from if_pos hc] at hr; exact b1_13 X hx hby hret x0 ((x0 &&& (255 : Int32))) hr
  · refine XS.icmpYes X.here hx rfl (pc0 := 10) (pc' := 18) rfl (hb hby d1_10) rfl (flt hc).2.1 (by decide) (by decide) ?_
    rw [show f1_0 x0 = f1_18 x0 (x0 &&& (255 : Int32)) from if_neg hc] at hr; exact b1_18 X hx hby hret x0 ((x0 &&& (255 : Int32))) hr
theorem pn_1 : plainName "com/example/nagare/nagare/scan/Utf8" = true := by first | (simp [plainName, overriddenIn]; done) | decide +kernel
theorem ef_1 (m : MethodId) (x0 : Int32) : entryFrame m #[(.int x0)] 3 = (mkF m 0 #[.val (.int x0), .unset, .unset] []) := by first | (simp [entryFrame, mkF, argsToLocals, Value.category]; done) | rfl
def Q1 (Z : State) (x0 : Int32) (h0 : Heap) (n0 : Nat) (v : Option Value) (h : Heap) (L : List Loc) : Prop := v = some (.int (f1_0 x0)) ∧ Fr n0 L ∧ h = h0
set_option maxRecDepth 65536 in
set_option maxHeartbeats 40000000 in
theorem rm1 (l : Launch) (Z : State) (a0 : Array Value) (hw : ∀ d ∈ tables_1, d.before a0 Z = true) (ws : List Jvm.Cond) (x0 : Int32) (h0 : Heap) (n0 : Nat) (Z0 : n0 ≤ h0.size) :
    MetFree l (⟨"com/example/nagare/nagare/scan/Utf8", "sequenceLength", "(B)I"⟩ : MethodName) (head1 (Jvm.Cond.code (⟨"com/example/nagare/nagare/scan/Utf8", "sequenceLength", "(B)I"⟩ : MethodName) prog_65_method_4_code 3 (some .int) :: ws) ({ frames := 0, cells := 0, slots := 0, locals := 0 } : Room)) (fun a U => a = #[(.int x0)] ∧ Z.Warmed39 U.vm ∧ U.heap = h0) (fun _ _ _ _ _ => True) (fun _ U o U' => ∃ v L, o = .returned v ∧ Q1 Z x0 h0 n0 v U'.heap L ∧ FrameEnd U o U' L ({ frames := 0, cells := 0, slots := 0, locals := 0 } : Room).cells ({ frames := 0, cells := 0, slots := 0, locals := 0 } : Room).slots) := by
  refine MetFree.of_bodySF (plainFor_of_name pn_1) hisR ?_
  intro p e s m args below meth c s₁ Bd hml0 hP hK
  obtain ⟨rfl, hZ, hh⟩ := hP
  have hx := Bd.exec
  have hby := Bd.bytes
  have hown : s.vm.findClass "com/example/nagare/nagare/scan/Utf8" = some m.cls := findClass_of_methodNamed Bd.named
  have X0 : Stand p l e ({ frames := 0, cells := 0, slots := 0, locals := 0 } : Room) s m #[(.int x0)] below meth c s₁ [] 0 0 := Stand.of_body Bd
  have e0 : s₁.heap = h0 := by rw [← hh, Bd.state]; rfl
  have N0 := Fr.nil n0
  have pre0 : ∀ t, Steps p.tables e below (s₁.setTop (mkF m 0 #[.val (.int x0), .unset, .unset] [])) t → Steps p.tables e below (s₁.setTop (entryFrame m #[(.int x0)] 3)) t := fun t k => castTop (ef_1 m x0) k
  obtain ⟨fs, hr, hrun, hended, hW, hsame⟩ := X0.leave (v := some (.int (f1_0 x0))) (fun h => by rw [Bd.returns] at h; cases h)
  refine ⟨_, _, pre0 _ ?_, hrun, hended, _, _, rfl, ?_, ⟨_, rfl⟩, hW, hsame.mono (by decide) (by decide)⟩
  · exact b1_0 X0 hx hby Bd.returns x0 hr
  · show Q1 Z x0 h0 n0 _ s₁.heap _
    rw [e0]
    exact ⟨rfl, N0, rfl⟩
def f0_60 (x0 : Int32) (x1 : Int32) (x2 : Int32) (x3 : Int32) : Int32 := (4 : Int32)
set_option maxRecDepth 65536 in
theorem b0_60 {p : Program} {l : Launch} {e : Env} {R : Room} {s : State} {m : MethodId} {args : Array Value} {below : List Frame} {meth : Method} {c : Code} {T : State} {locs : List Loc} {cells slots : Nat} (X : Stand p l e R s m args below meth c T locs cells slots) (hx : p.tables.exec = Jvm.exec) (hby : c.code = code) (x0 : Int32) (x1 : Int32) (x2 : Int32) (x3 : Int32) {target : State} (hk : Steps p.tables e below (T.setTop (mkF m 62 #[.val (.int x0), .val (.int x1), .val (.int x2), .val (.int (f0_60 x0 x1 x2 x3))] [])) target) :
    Steps p.tables e below (T.setTop (mkF m 60 #[.val (.int x0), .val (.int x1), .val (.int x2), .val (.int x3)] [])) target := by
  show Steps p.tables e below (T.setTop (mkF m 60 #[.val (.int x0), .val (.int x1), .val (.int x2), .val (.int x3)] [])) _
  refine XS.iconst X.here hx rfl (hb hby at_60) ?_
  show Steps p.tables e below (T.setTop (mkF m 61 #[.val (.int x0), .val (.int x1), .val (.int x2), .val (.int x3)] [(.int (4 : Int32))])) _
  refine XS.istoreN X.here hx rfl (hb hby at_61) rfl (l' := #[.val (.int x0), .val (.int x1), .val (.int x2), .val (.int (4 : Int32))]) rfl ?_
  exact hk
def f0_53 (x0 : Int32) (x1 : Int32) (x2 : Int32) (x3 : Int32) : Int32 := if (244 : Int32) < x2 then x3 else f0_60 x0 x1 x2 x3
set_option maxRecDepth 65536 in
theorem b0_53 {p : Program} {l : Launch} {e : Env} {R : Room} {s : State} {m : MethodId} {args : Array Value} {below : List Frame} {meth : Method} {c : Code} {T : State} {locs : List Loc} {cells slots : Nat} (X : Stand p l e R s m args below meth c T locs cells slots) (hx : p.tables.exec = Jvm.exec) (hby : c.code = code) (x0 : Int32) (x1 : Int32) (x2 : Int32) (x3 : Int32) {target : State} (hk : Steps p.tables e below (T.setTop (mkF m 62 #[.val (.int x0), .val (.int x1), .val (.int x2), .val (.int (f0_53 x0 x1 x2 x3))] [])) target) :
    Steps p.tables e below (T.setTop (mkF m 53 #[.val (.int x0), .val (.int x1), .val (.int x2), .val (.int x3)] [])) target := by
  show Steps p.tables e below (T.setTop (mkF m 53 #[.val (.int x0), .val (.int x1), .val (.int x2), .val (.int x3)] [])) _
  refine XS.iloadN X.here hx rfl (hb hby at_53) rfl ?_
  show Steps p.tables e below (T.setTop (mkF m 54 #[.val (.int x0), .val (.int x1), .val (.int x2), .val (.int x3)] [(.int x2)])) _
  refine XS.sipush X.here hx rfl (hb hby at_54) ?_
  show Steps p.tables e below (T.setTop (mkF m 57 #[.val (.int x0), .val (.int x1), .val (.int x2), .val (.int x3)] [(.int (244 : Int32)), (.int x2)])) _
  by_cases hc : (244 : Int32) < x2
  · refine XS.icmpYes X.here hx rfl (pc0 := 57) (pc' := 62) rfl (hb hby at_57) rfl (tlt hc).2.2.1 (by decide) (by decide) ?_
    rw [show f0_53 x0 x1 x2 x3 = x3 from if_pos hc] at hk; exact hk
  · refine XS.icmpNo X.here hx rfl (hb hby at_57) rfl (flt hc).2.2.1 ?_
    rw [show f0_53 x0 x1 x2 x3 = f0_60 x0 x1 x2 x3 from if_neg hc] at hk; exact b0_60 X hx hby x0 x1 x2 x3 hk
def f0_45 (x0 : Int32) (x1 : Int32) (x2 : Int32) (x3 : Int32) : Int32 := if ((x2.toUInt32 >>> ((3 : Int32) &&& 31).toUInt32).toInt32) = (30 : Int32) then f0_53 x0 x1 x2 x3 else x3
set_option maxRecDepth 65536 in
theorem b0_45 {p : Program} {l : Launch} {e : Env} {R : Room} {s : State} {m : MethodId} {args : Array Value} {below : List Frame} {meth : Method} {c : Code} {T : State} {locs : List Loc} {cells slots : Nat} (X : Stand p l e R s m args below meth c T locs cells slots) (hx : p.tables.exec = Jvm.exec) (hby : c.code = code) (x0 : Int32) (x1 : Int32) (x2 : Int32) (x3 : Int32) {target : State} (hk : Steps p.tables e below (T.setTop (mkF m 62 #[.val (.int x0), .val (.int x1), .val (.int x2), .val (.int (f0_45 x0 x1 x2 x3))] [])) target) :
    Steps p.tables e below (T.setTop (mkF m 45 #[.val (.int x0), .val (.int x1), .val (.int x2), .val (.int x3)] [])) target := by
  show Steps p.tables e below (T.setTop (mkF m 45 #[.val (.int x0), .val (.int x1), .val (.int x2), .val (.int x3)] [])) _
  refine XS.iloadN X.here hx rfl (hb hby at_45) rfl ?_
  show Steps p.tables e below (T.setTop (mkF m 46 #[.val (.int x0), .val (.int x1), .val (.int x2), .val (.int x3)] [(.int x2)])) _
  refine XS.iconst X.here hx rfl (hb hby at_46) ?_
  show Steps p.tables e below (T.setTop (mkF m 47 #[.val (.int x0), .val (.int x1), .val (.int x2), .val (.int x3)] [(.int (3 : Int32)), (.int x2)])) _
  refine XS.iushr X.here hx rfl (hb hby at_47) rfl ?_
  show Steps p.tables e below (T.setTop (mkF m 48 #[.val (.int x0), .val (.int x1), .val (.int x2), .val (.int x3)] [(.int ((x2.toUInt32 >>> ((3 : Int32) &&& 31).toUInt32).toInt32))])) _
  refine XS.bipush X.here hx rfl (hb hby at_48) ?_
  show Steps p.tables e below (T.setTop (mkF m 50 #[.val (.int x0), .val (.int x1), .val (.int x2), .val (.int x3)] [(.int (30 : Int32)), (.int ((x2.toUInt32 >>> ((3 : Int32) &&& 31).toUInt32).toInt32))])) _
  by_cases hc : ((x2.toUInt32 >>> ((3 : Int32) &&& 31).toUInt32).toInt32) = (30 : Int32)
  · refine XS.icmpNo X.here hx rfl (hb hby at_50) rfl (teq hc).2 ?_
    rw [show f0_45 x0 x1 x2 x3 = f0_53 x0 x1 x2 x3 from if_pos hc] at hk; exact b0_53 X hx hby x0 x1 x2 x3 hk
  · refine XS.icmpYes X.here hx rfl (pc0 := 50) (pc' := 62) rfl (hb hby at_50) rfl (feq hc).2 (by decide) (by decide) ?_
    rw [show f0_45 x0 x1 x2 x3 = x3 from if_neg hc] at hk; exact hk
def f0_43 (x0 : Int32) (x1 : Int32) (x2 : Int32) (x3 : Int32) : Int32 := f0_45 x0 x1 x2 (3 : Int32)
set_option maxRecDepth 65536 in
theorem b0_43 {p : Program} {l : Launch} {e : Env} {R : Room} {s : State} {m : MethodId} {args : Array Value} {below : List Frame} {meth : Method} {c : Code} {T : State} {locs : List Loc} {cells slots : Nat} (X : Stand p l e R s m args below meth c T locs cells slots) (hx : p.tables.exec = Jvm.exec) (hby : c.code = code) (x0 : Int32) (x1 : Int32) (x2 : Int32) (x3 : Int32) {target : State} (hk : Steps p.tables e below (T.setTop (mkF m 62 #[.val (.int x0), .val (.int x1), .val (.int x2), .val (.int (f0_43 x0 x1 x2 x3))] [])) target) :
    Steps p.tables e below (T.setTop (mkF m 43 #[.val (.int x0), .val (.int x1), .val (.int x2), .val (.int x3)] [])) target := by
  show Steps p.tables e below (T.setTop (mkF m 43 #[.val (.int x0), .val (.int x1), .val (.int x2), .val (.int x3)] [])) _
  refine XS.iconst X.here hx rfl (hb hby at_43) ?_
  show Steps p.tables e below (T.setTop (mkF m 44 #[.val (.int x0), .val (.int x1), .val (.int x2), .val (.int x3)] [(.int (3 : Int32))])) _
  refine XS.istoreN X.here hx rfl (hb hby at_44) rfl (l' := #[.val (.int x0), .val (.int x1), .val (.int x2), .val (.int (3 : Int32))]) rfl ?_
  exact b0_45 X hx hby x0 x1 x2 ((3 : Int32)) hk
def f0_35 (x0 : Int32) (x1 : Int32) (x2 : Int32) (x3 : Int32) : Int32 := if ((x2.toUInt32 >>> ((4 : Int32) &&& 31).toUInt32).toInt32) = (14 : Int32) then f0_43 x0 x1 x2 x3 else f0_45 x0 x1 x2 x3
set_option maxRecDepth 65536 in
theorem b0_35 {p : Program} {l : Launch} {e : Env} {R : Room} {s : State} {m : MethodId} {args : Array Value} {below : List Frame} {meth : Method} {c : Code} {T : State} {locs : List Loc} {cells slots : Nat} (X : Stand p l e R s m args below meth c T locs cells slots) (hx : p.tables.exec = Jvm.exec) (hby : c.code = code) (x0 : Int32) (x1 : Int32) (x2 : Int32) (x3 : Int32) {target : State} (hk : Steps p.tables e below (T.setTop (mkF m 62 #[.val (.int x0), .val (.int x1), .val (.int x2), .val (.int (f0_35 x0 x1 x2 x3))] [])) target) :
    Steps p.tables e below (T.setTop (mkF m 35 #[.val (.int x0), .val (.int x1), .val (.int x2), .val (.int x3)] [])) target := by
  show Steps p.tables e below (T.setTop (mkF m 35 #[.val (.int x0), .val (.int x1), .val (.int x2), .val (.int x3)] [])) _
  refine XS.iloadN X.here hx rfl (hb hby at_35) rfl ?_
  show Steps p.tables e below (T.setTop (mkF m 36 #[.val (.int x0), .val (.int x1), .val (.int x2), .val (.int x3)] [(.int x2)])) _
  refine XS.iconst X.here hx rfl (hb hby at_36) ?_
  show Steps p.tables e below (T.setTop (mkF m 37 #[.val (.int x0), .val (.int x1), .val (.int x2), .val (.int x3)] [(.int (4 : Int32)), (.int x2)])) _
  refine XS.iushr X.here hx rfl (hb hby at_37) rfl ?_
  show Steps p.tables e below (T.setTop (mkF m 38 #[.val (.int x0), .val (.int x1), .val (.int x2), .val (.int x3)] [(.int ((x2.toUInt32 >>> ((4 : Int32) &&& 31).toUInt32).toInt32))])) _
  refine XS.bipush X.here hx rfl (hb hby at_38) ?_
  show Steps p.tables e below (T.setTop (mkF m 40 #[.val (.int x0), .val (.int x1), .val (.int x2), .val (.int x3)] [(.int (14 : Int32)), (.int ((x2.toUInt32 >>> ((4 : Int32) &&& 31).toUInt32).toInt32))])) _
  by_cases hc : ((x2.toUInt32 >>> ((4 : Int32) &&& 31).toUInt32).toInt32) = (14 : Int32)
  · refine XS.icmpNo X.here hx rfl (hb hby at_40) rfl (teq hc).2 ?_
    rw [show f0_35 x0 x1 x2 x3 = f0_43 x0 x1 x2 x3 from if_pos hc] at hk; exact b0_43 X hx hby x0 x1 x2 x3 hk
  · refine XS.icmpYes X.here hx rfl (pc0 := 40) (pc' := 45) rfl (hb hby at_40) rfl (feq hc).2 (by decide) (by decide) ?_
    rw [show f0_35 x0 x1 x2 x3 = f0_45 x0 x1 x2 x3 from if_neg hc] at hk; exact b0_45 X hx hby x0 x1 x2 x3 hk
def f0_33 (x0 : Int32) (x1 : Int32) (x2 : Int32) (x3 : Int32) : Int32 := f0_35 x0 x1 x2 (2 : Int32)
set_option maxRecDepth 65536 in
theorem b0_33 {p : Program} {l : Launch} {e : Env} {R : Room} {s : State} {m : MethodId} {args : Array Value} {below : List Frame} {meth : Method} {c : Code} {T : State} {locs : List Loc} {cells slots : Nat} (X : Stand p l e R s m args below meth c T locs cells slots) (hx : p.tables.exec = Jvm.exec) (hby : c.code = code) (x0 : Int32) (x1 : Int32) (x2 : Int32) (x3 : Int32) {target : State} (hk : Steps p.tables e below (T.setTop (mkF m 62 #[.val (.int x0), .val (.int x1), .val (.int x2), .val (.int (f0_33 x0 x1 x2 x3))] [])) target) :
    Steps p.tables e below (T.setTop (mkF m 33 #[.val (.int x0), .val (.int x1), .val (.int x2), .val (.int x3)] [])) target := by
  show Steps p.tables e below (T.setTop (mkF m 33 #[.val (.int x0), .val (.int x1), .val (.int x2), .val (.int x3)] [])) _
  refine XS.iconst X.here hx rfl (hb hby at_33) ?_
  show Steps p.tables e below (T.setTop (mkF m 34 #[.val (.int x0), .val (.int x1), .val (.int x2), .val (.int x3)] [(.int (2 : Int32))])) _
  refine XS.istoreN X.here hx rfl (hb hby at_34) rfl (l' := #[.val (.int x0), .val (.int x1), .val (.int x2), .val (.int (2 : Int32))]) rfl ?_
  exact b0_35 X hx hby x0 x1 x2 ((2 : Int32)) hk
def f0_26 (x0 : Int32) (x1 : Int32) (x2 : Int32) (x3 : Int32) : Int32 := if x2 = (193 : Int32) then f0_35 x0 x1 x2 x3 else f0_33 x0 x1 x2 x3
set_option maxRecDepth 65536 in
theorem b0_26 {p : Program} {l : Launch} {e : Env} {R : Room} {s : State} {m : MethodId} {args : Array Value} {below : List Frame} {meth : Method} {c : Code} {T : State} {locs : List Loc} {cells slots : Nat} (X : Stand p l e R s m args below meth c T locs cells slots) (hx : p.tables.exec = Jvm.exec) (hby : c.code = code) (x0 : Int32) (x1 : Int32) (x2 : Int32) (x3 : Int32) {target : State} (hk : Steps p.tables e below (T.setTop (mkF m 62 #[.val (.int x0), .val (.int x1), .val (.int x2), .val (.int (f0_26 x0 x1 x2 x3))] [])) target) :
    Steps p.tables e below (T.setTop (mkF m 26 #[.val (.int x0), .val (.int x1), .val (.int x2), .val (.int x3)] [])) target := by
  show Steps p.tables e below (T.setTop (mkF m 26 #[.val (.int x0), .val (.int x1), .val (.int x2), .val (.int x3)] [])) _
  refine XS.iloadN X.here hx rfl (hb hby at_26) rfl ?_
  show Steps p.tables e below (T.setTop (mkF m 27 #[.val (.int x0), .val (.int x1), .val (.int x2), .val (.int x3)] [(.int x2)])) _
  refine XS.sipush X.here hx rfl (hb hby at_27) ?_
  show Steps p.tables e below (T.setTop (mkF m 30 #[.val (.int x0), .val (.int x1), .val (.int x2), .val (.int x3)] [(.int (193 : Int32)), (.int x2)])) _
  by_cases hc : x2 = (193 : Int32)
  · refine XS.icmpYes X.here hx rfl (pc0 := 30) (pc' := 35) rfl (hb hby at_30) rfl (teq hc).1 (by decide) (by decide) ?_
    rw [show f0_26 x0 x1 x2 x3 = f0_35 x0 x1 x2 x3 from if_pos hc] at hk; exact b0_35 X hx hby x0 x1 x2 x3 hk
  · refine XS.icmpNo X.here hx rfl (hb hby at_30) rfl (feq hc).1 ?_
    rw [show f0_26 x0 x1 x2 x3 = f0_33 x0 x1 x2 x3 from if_neg hc] at hk; exact b0_33 X hx hby x0 x1 x2 x3 hk
def f0_19 (x0 : Int32) (x1 : Int32) (x2 : Int32) (x3 : Int32) : Int32 := if x2 = (192 : Int32) then f0_35 x0 x1 x2 x3 else f0_26 x0 x1 x2 x3
set_option maxRecDepth 65536 in
theorem b0_19 {p : Program} {l : Launch} {e : Env} {R : Room} {s : State} {m : MethodId} {args : Array Value} {below : List Frame} {meth : Method} {c : Code} {T : State} {locs : List Loc} {cells slots : Nat} (X : Stand p l e R s m args below meth c T locs cells slots) (hx : p.tables.exec = Jvm.exec) (hby : c.code = code) (x0 : Int32) (x1 : Int32) (x2 : Int32) (x3 : Int32) {target : State} (hk : Steps p.tables e below (T.setTop (mkF m 62 #[.val (.int x0), .val (.int x1), .val (.int x2), .val (.int (f0_19 x0 x1 x2 x3))] [])) target) :
    Steps p.tables e below (T.setTop (mkF m 19 #[.val (.int x0), .val (.int x1), .val (.int x2), .val (.int x3)] [])) target := by
  show Steps p.tables e below (T.setTop (mkF m 19 #[.val (.int x0), .val (.int x1), .val (.int x2), .val (.int x3)] [])) _
  refine XS.iloadN X.here hx rfl (hb hby at_19) rfl ?_
  show Steps p.tables e below (T.setTop (mkF m 20 #[.val (.int x0), .val (.int x1), .val (.int x2), .val (.int x3)] [(.int x2)])) _
  refine XS.sipush X.here hx rfl (hb hby at_20) ?_
  show Steps p.tables e below (T.setTop (mkF m 23 #[.val (.int x0), .val (.int x1), .val (.int x2), .val (.int x3)] [(.int (192 : Int32)), (.int x2)])) _
  by_cases hc : x2 = (192 : Int32)
  · refine XS.icmpYes X.here hx rfl (pc0 := 23) (pc' := 35) rfl (hb hby at_23) rfl (teq hc).1 (by decide) (by decide) ?_
    rw [show f0_19 x0 x1 x2 x3 = f0_35 x0 x1 x2 x3 from if_pos hc] at hk; exact b0_35 X hx hby x0 x1 x2 x3 hk
  · refine XS.icmpNo X.here hx rfl (hb hby at_23) rfl (feq hc).1 ?_
    rw [show f0_19 x0 x1 x2 x3 = f0_26 x0 x1 x2 x3 from if_neg hc] at hk; exact b0_26 X hx hby x0 x1 x2 x3 hk
def f0_11 (x0 : Int32) (x1 : Int32) (x2 : Int32) (x3 : Int32) : Int32 := if ((x2.toUInt32 >>> ((5 : Int32) &&& 31).toUInt32).toInt32) = (6 : Int32) then f0_19 x0 x1 x2 x3 else f0_35 x0 x1 x2 x3
set_option maxRecDepth 65536 in
theorem b0_11 {p : Program} {l : Launch} {e : Env} {R : Room} {s : State} {m : MethodId} {args : Array Value} {below : List Frame} {meth : Method} {c : Code} {T : State} {locs : List Loc} {cells slots : Nat} (X : Stand p l e R s m args below meth c T locs cells slots) (hx : p.tables.exec = Jvm.exec) (hby : c.code = code) (x0 : Int32) (x1 : Int32) (x2 : Int32) (x3 : Int32) {target : State} (hk : Steps p.tables e below (T.setTop (mkF m 62 #[.val (.int x0), .val (.int x1), .val (.int x2), .val (.int (f0_11 x0 x1 x2 x3))] [])) target) :
    Steps p.tables e below (T.setTop (mkF m 11 #[.val (.int x0), .val (.int x1), .val (.int x2), .val (.int x3)] [])) target := by
  show Steps p.tables e below (T.setTop (mkF m 11 #[.val (.int x0), .val (.int x1), .val (.int x2), .val (.int x3)] [])) _
  refine XS.iloadN X.here hx rfl (hb hby at_11) rfl ?_
  show Steps p.tables e below (T.setTop (mkF m 12 #[.val (.int x0), .val (.int x1), .val (.int x2), .val (.int x3)] [(.int x2)])) _
  refine XS.iconst X.here hx rfl (hb hby at_12) ?_
  show Steps p.tables e below (T.setTop (mkF m 13 #[.val (.int x0), .val (.int x1), .val (.int x2), .val (.int x3)] [(.int (5 : Int32)), (.int x2)])) _
  refine XS.iushr X.here hx rfl (hb hby at_13) rfl ?_
  show Steps p.tables e below (T.setTop (mkF m 14 #[.val (.int x0), .val (.int x1), .val (.int x2), .val (.int x3)] [(.int ((x2.toUInt32 >>> ((5 : Int32) &&& 31).toUInt32).toInt32))])) _
  refine XS.bipush X.here hx rfl (hb hby at_14) ?_
  show Steps p.tables e below (T.setTop (mkF m 16 #[.val (.int x0), .val (.int x1), .val (.int x2), .val (.int x3)] [(.int (6 : Int32)), (.int ((x2.toUInt32 >>> ((5 : Int32) &&& 31).toUInt32).toInt32))])) _
  by_cases hc : ((x2.toUInt32 >>> ((5 : Int32) &&& 31).toUInt32).toInt32) = (6 : Int32)
  · refine XS.icmpNo X.here hx rfl (hb hby at_16) rfl (teq hc).2 ?_
    rw [show f0_11 x0 x1 x2 x3 = f0_19 x0 x1 x2 x3 from if_pos hc] at hk; exact b0_19 X hx hby x0 x1 x2 x3 hk
  · refine XS.icmpYes X.here hx rfl (pc0 := 16) (pc' := 35) rfl (hb hby at_16) rfl (feq hc).2 (by decide) (by decide) ?_
    rw [show f0_11 x0 x1 x2 x3 = f0_35 x0 x1 x2 x3 from if_neg hc] at hk; exact b0_35 X hx hby x0 x1 x2 x3 hk
theorem own_lead (x : Int32) : x.toInt8.toInt32 &&& (255 : Int32) = x &&& (255 : Int32) := by
  apply Int32.toInt_inj.mp
  rw [Jvm.Kit.i32_mask _ 255 (k := 8) (by decide) (by decide), Jvm.Kit.i32_mask _ 255 (k := 8) (by decide) (by decide), Int8.toInt_toInt32, Int32.toInt_toInt8]
  exact Int.bmod_emod ..
theorem own_fin (a b : Int32) (n : Fin 256) : ∀ c : Int32, c = Int32.ofNat n.val → (∀ (y : Int32), y &&& 255 = c → f1_0 y = f0_11 a b c 1) := by
  intro c hc y hy
  simp only [f1_0, f1_13, f1_18, f1_25, f1_30, f1_37, f1_42, f1_49, f1_54, f1_56, f0_11, f0_19, f0_26, f0_33, f0_35, f0_43, f0_45, f0_53, f0_60, hy]
  clear hy y
  subst hc
  revert n
  decide +kernel
theorem own_law (x : Int32) : f1_0 (x.toInt8.toInt32) = f0_11 x (x.toInt8.toInt32) (x &&& (255 : Int32)) (1 : Int32) := by
  have e : (x &&& 255).toInt = x.toInt % 2 ^ 8 := Jvm.Kit.i32_mask x 255 (k := 8) (by decide) (by decide)
  refine own_fin _ _ ⟨(x &&& 255).toInt.toNat, by omega⟩ _ ?_ _ (own_lead x)
  apply Int32.toInt_inj.mp
  rw [Int32.toInt_ofNat_of_lt (by simp only []; omega)]
  simp only []; omega
theorem pd_0 : parseMethodDescriptor "(B)I" = some ⟨[.byte], some .int⟩ := by decide +kernel
theorem pn_0 : plainName "com/example/nagare/nagare/scan/Utf8SequenceLengthPinLaw" = true := by first | (simp [plainName, overriddenIn]; done) | decide +kernel
theorem ef_0 (m : MethodId) (x0 : Int32) : entryFrame m #[(.int x0)] maxLocals = (mkF m 0 #[.val (.int x0), .unset, .unset, .unset] []) := by first | (simp [entryFrame, mkF, argsToLocals, Value.category, maxLocals]; done) | rfl
def Q0 (Z : State) (x0 : Int32) (h0 : Heap) (n0 : Nat) (v : Option Value) (h : Heap) (L : List Loc) : Prop := v = some (.int (1 : Int32)) ∧ Fr n0 L
set_option maxRecDepth 65536 in
set_option maxHeartbeats 40000000 in
theorem rm0 (l : Launch) (Z : State) (a0 : Array Value) (hw : ∀ d ∈ tables_1, d.before a0 Z = true) (ws : List Jvm.Cond) (x0 : Int32) (h0 : Heap) (n0 : Nat) (Z0 : n0 ≤ h0.size) :
    MetFree l x (head1 (Jvm.Cond.code x code maxLocals ret :: ws) room_1) (fun a U => a = #[(.int x0)] ∧ Z.Warmed39 U.vm ∧ U.heap = h0) (fun _ _ _ _ _ => True) (fun _ U o U' => ∃ v L, o = .returned v ∧ Q0 Z x0 h0 n0 v U'.heap L ∧ FrameEnd U o U' L room_1.cells room_1.slots) := by
  refine MetFree.of_bodySF (plainFor_of_name pn_0) hisR ?_
  intro p e s m args below meth c s₁ Bd hml0 hP hK
  obtain ⟨rfl, hZ, hh⟩ := hP
  have hx := Bd.exec
  have hby := Bd.bytes
  have hml : c.maxLocals = 4 := hml0
  have hown : s.vm.findClass "com/example/nagare/nagare/scan/Utf8SequenceLengthPinLaw" = some m.cls := findClass_of_methodNamed Bd.named
  have hnm := (name_of_methodNamed Bd.named Bd.method).1
  have X0 : Stand p l e room_1 s m #[(.int x0)] below meth c s₁ [] 0 0 := Stand.of_body Bd
  have e0 : s₁.heap = h0 := by rw [← hh, Bd.state]; rfl
  have N0 := Fr.nil n0
  have pre0 : ∀ t, Steps p.tables e below (s₁.setTop (mkF m 0 #[.val (.int x0), .unset, .unset, .unset] [])) t → Steps p.tables e below (s₁.setTop (entryFrame m #[(.int x0)] maxLocals)) t := fun t k => castTop (ef_0 m x0) k
  obtain ⟨_, _, ⟨T1, L1, k1, n1⟩, -, X1, ⟨Lc1, hQ1, l1, y1, z1⟩, st1⟩ := Jvm.LawKit.callS X0 hx (y := (⟨"com/example/nagare/nagare/scan/Utf8", "sequenceLength", "(B)I"⟩ : MethodName)) hown (mvT hZ (hw _ (List.mem_of_getElem? (i := 0) rfl))) (mvT hZ (hw _ (List.mem_of_getElem? (i := 1) rfl))) (mvT hZ (hw _ (List.mem_of_getElem? (i := 2) rfl))) (mvT hZ (hw _ (List.mem_of_getElem? (i := 3) rfl))) (by decide) (backOf (W := 0) (rm1 l Z a0 hw [] (x0.toInt8.toInt32) h0 n0 Z0) hZ (hw _ (List.mem_of_getElem? (i := 3) rfl)) (hw _ (List.mem_of_getElem? (i := 2) rfl)) (by decide) (by decide)) (g := (mkF m 63 #[.val (.int x0), .val (.int (x0.toInt8.toInt32)), .val (.int (x0 &&& (255 : Int32))), .val (.int (f0_11 x0 (x0.toInt8.toInt32) (x0 &&& (255 : Int32)) (1 : Int32)))] [(.int (x0.toInt8.toInt32))])) rfl (by rw [hml]; rfl) (argsL := [(.int (x0.toInt8.toInt32))]) (rest := []) (lenOf pd_0 rfl) rfl (by show 2 * 0 + _ ≤ _; exact Nat.le_of_eq rfl) (hb hby at_63) (fun _ _ => ⟨rfl, e0, (by decide : 0 + 0 ≤ _), (by decide : 0 + 0 ≤ _)⟩)
  dsimp only [Pt.U, Pt.locs, Pt.cells, Pt.slots] at X1 l1 y1 z1 st1 hQ1
  subst l1 y1 z1
  obtain ⟨rfl, N1q, e1⟩ := hQ1
  have N1 := Fr.app N0 N1q
  obtain ⟨fs, hr, hrun, hended, hW, hsame⟩ := X1.leave (v := some (.int (1 : Int32))) (fun h => by rw [Bd.returns] at h; cases h)
  refine ⟨_, _, pre0 _ ?_, hrun, hended, _, _, rfl, ?_, ⟨_, rfl⟩, hW, hsame.mono (by decide) (by decide)⟩
  · show Steps p.tables e below (s₁.setTop (mkF m 0 #[.val (.int x0), .unset, .unset, .unset] [])) _
    refine XS.iloadN X0.here hx rfl (hb hby at_0) rfl ?_
    show Steps p.tables e below (s₁.setTop (mkF m 1 #[.val (.int x0), .unset, .unset, .unset] [(.int x0)])) _
    refine XS.i2b X0.here hx rfl (hb hby at_1) rfl ?_
    show Steps p.tables e below (s₁.setTop (mkF m 2 #[.val (.int x0), .unset, .unset, .unset] [(.int (x0.toInt8.toInt32))])) _
    refine XS.istoreN X0.here hx rfl (hb hby at_2) rfl (l' := #[.val (.int x0), .val (.int (x0.toInt8.toInt32)), .unset, .unset]) rfl ?_
    show Steps p.tables e below (s₁.setTop (mkF m 3 #[.val (.int x0), .val (.int (x0.toInt8.toInt32)), .unset, .unset] [])) _
    refine XS.iloadN X0.here hx rfl (hb hby at_3) rfl ?_
    show Steps p.tables e below (s₁.setTop (mkF m 4 #[.val (.int x0), .val (.int (x0.toInt8.toInt32)), .unset, .unset] [(.int x0)])) _
    refine XS.sipush X0.here hx rfl (hb hby at_4) ?_
    show Steps p.tables e below (s₁.setTop (mkF m 7 #[.val (.int x0), .val (.int (x0.toInt8.toInt32)), .unset, .unset] [(.int (255 : Int32)), (.int x0)])) _
    refine XS.iand X0.here hx rfl (hb hby at_7) rfl ?_
    show Steps p.tables e below (s₁.setTop (mkF m 8 #[.val (.int x0), .val (.int (x0.toInt8.toInt32)), .unset, .unset] [(.int (x0 &&& (255 : Int32)))])) _
    refine XS.istoreN X0.here hx rfl (hb hby at_8) rfl (l' := #[.val (.int x0), .val (.int (x0.toInt8.toInt32)), .val (.int (x0 &&& (255 : Int32))), .unset]) rfl ?_
    show Steps p.tables e below (s₁.setTop (mkF m 9 #[.val (.int x0), .val (.int (x0.toInt8.toInt32)), .val (.int (x0 &&& (255 : Int32))), .unset] [])) _
    refine XS.iconst X0.here hx rfl (hb hby at_9) ?_
    show Steps p.tables e below (s₁.setTop (mkF m 10 #[.val (.int x0), .val (.int (x0.toInt8.toInt32)), .val (.int (x0 &&& (255 : Int32))), .unset] [(.int (1 : Int32))])) _
    refine XS.istoreN X0.here hx rfl (hb hby at_10) rfl (l' := #[.val (.int x0), .val (.int (x0.toInt8.toInt32)), .val (.int (x0 &&& (255 : Int32))), .val (.int (1 : Int32))]) rfl ?_
    show Steps p.tables e below (s₁.setTop (mkF m 11 #[.val (.int x0), .val (.int (x0.toInt8.toInt32)), .val (.int (x0 &&& (255 : Int32))), .val (.int (1 : Int32))] [])) _
    refine b0_11 X0 hx hby x0 (x0.toInt8.toInt32) (x0 &&& (255 : Int32)) (1 : Int32) ?_
    show Steps p.tables e below (s₁.setTop (mkF m 62 #[.val (.int x0), .val (.int (x0.toInt8.toInt32)), .val (.int (x0 &&& (255 : Int32))), .val (.int (f0_11 x0 (x0.toInt8.toInt32) (x0 &&& (255 : Int32)) (1 : Int32)))] [])) _
    refine XS.iloadN X0.here hx rfl (hb hby at_62) rfl ?_
    show Steps p.tables e below (s₁.setTop (mkF m 63 #[.val (.int x0), .val (.int (x0.toInt8.toInt32)), .val (.int (x0 &&& (255 : Int32))), .val (.int (f0_11 x0 (x0.toInt8.toInt32) (x0 &&& (255 : Int32)) (1 : Int32)))] [(.int (x0.toInt8.toInt32))])) _
    refine st1 _ ?_
    show Steps p.tables e below (T1.setTop (mkF m 66 #[.val (.int x0), .val (.int (x0.toInt8.toInt32)), .val (.int (x0 &&& (255 : Int32))), .val (.int (f0_11 x0 (x0.toInt8.toInt32) (x0 &&& (255 : Int32)) (1 : Int32)))] [(.int (f1_0 (x0.toInt8.toInt32)))])) _
    refine XS.iloadN X1.here hx rfl (hb hby at_66) rfl ?_
    show Steps p.tables e below (T1.setTop (mkF m 67 #[.val (.int x0), .val (.int (x0.toInt8.toInt32)), .val (.int (x0 &&& (255 : Int32))), .val (.int (f0_11 x0 (x0.toInt8.toInt32) (x0 &&& (255 : Int32)) (1 : Int32)))] [(.int (f0_11 x0 (x0.toInt8.toInt32) (x0 &&& (255 : Int32)) (1 : Int32))), (.int (f1_0 (x0.toInt8.toInt32)))])) _
    refine XS.icmpNo X1.here hx rfl (hb hby at_67) rfl (teq (own_law x0 : (f1_0 (x0.toInt8.toInt32)) = (f0_11 x0 (x0.toInt8.toInt32) (x0 &&& (255 : Int32)) (1 : Int32)))).2 ?_
    show Steps p.tables e below (T1.setTop (mkF m 70 #[.val (.int x0), .val (.int (x0.toInt8.toInt32)), .val (.int (x0 &&& (255 : Int32))), .val (.int (f0_11 x0 (x0.toInt8.toInt32) (x0 &&& (255 : Int32)) (1 : Int32)))] [])) _
    refine XS.iconst X1.here hx rfl (hb hby at_70) ?_
    show Steps p.tables e below (T1.setTop (mkF m 71 #[.val (.int x0), .val (.int (x0.toInt8.toInt32)), .val (.int (x0 &&& (255 : Int32))), .val (.int (f0_11 x0 (x0.toInt8.toInt32) (x0 &&& (255 : Int32)) (1 : Int32)))] [(.int (1 : Int32))])) _
    refine XS.goto X1.here hx rfl (pc0 := 71) (pc' := 75) rfl (hb hby at_71) (by decide) (by decide) ?_
    show Steps p.tables e below (T1.setTop (mkF m 75 #[.val (.int x0), .val (.int (x0.toInt8.toInt32)), .val (.int (x0 &&& (255 : Int32))), .val (.int (f0_11 x0 (x0.toInt8.toInt32) (x0 &&& (255 : Int32)) (1 : Int32)))] [(.int (1 : Int32))])) _
    exact retN X1 hx (t := .boolean) Bd.returns (by simp) (hb hby at_75) hr
  · exact ⟨rfl, N1⟩
set_option maxRecDepth 65536 in
set_option maxHeartbeats 40000000 in
theorem comes_1 {Post : Tables → Env → Array Value → State → Outcome → State → Prop} (hpost : ∀ tb e args s v u, (limb_1_1.after args s (.returned v) u = true ∧ limb_1_2.after args s (.returned v) u = true ∧ True) → FrameEnd s (.returned v) u (Jvm.fieldLocs frame_1_writes args s ++ Jvm.arrayLocs frame_1_arrays args s ++ Jvm.staticLocs frame_1_statics s) 0 0 → Post tb e args s (.returned v) u) :
    ArmFor flags0 classFile x code maxLocals ret World_1 tables_1 room_1 Calls_1 rest_1 Pre_1 Post := by
  intro l hfl _ _ p e ha hc hk s m args below hf hA hF happ hP
  obtain ⟨hcalls, hrest, hpre⟩ := hP
  obtain ⟨-, -, -, hnamed, -, -, -, hat⟩ := (Spec.applies_iff hf).mp happ
  obtain ⟨hg, hn⟩ := and_e (Cond.before_iff.mp (show (Jvm.Cond.and given_1 narrow_1).before args s = true from hpre))
  obtain ⟨g0, r0⟩ := and_e hg
  obtain ⟨w0, rfl⟩ : ∃ w0 : Value, args = #[w0] := by
    have hs : args.size = 1 := by simpa [Cond.value, given_1] using g0
    obtain ⟨L⟩ := args
    match L, hs with
    | [w0], _ => exact ⟨w0, rfl⟩
  have hw := fun d (hd : d ∈ tables_1) => atoms_spec (ws := Jvm.Cond.code x code maxLocals ret :: tables_1) hat d (List.mem_cons_of_mem _ hd)
  obtain ⟨i0, ei0⟩ := is_v r0
  obtain rfl : w0 = (.int i0) := Option.some.inj ei0
  obtain ⟨n, o, h1, h2, h3, _, L, rfl, ⟨rfl, N⟩, hq⟩ := rm0 l s _ hw tables_1 i0 s.heap s.heap.size (Nat.le_refl _) p e ha hc hk s m _ below hf ((Spec.applies_iff_loose hf).mp happ).1 ⟨rfl, State.Warmed39.refl s, rfl⟩ trivial
  refine ⟨n, _, h1, h2, h3, hpost _ _ _ _ _ _ ⟨Cond.after_iff.mpr rfl, Cond.after_iff.mpr (eq_i res_at (Term.int_eval (1)) rfl), trivial⟩ ⟨hq.1, hq.2.1, (hq.2.2.sift fun y hy => Or.inr (N y hy)).mono (by decide) (by decide)⟩⟩
theorem main_1_1 : Claimed_1_1 := comes_1 fun _ _ _ _ _ _ h hF => ⟨h.1, hF⟩
theorem main_1_2 : Claimed_1_2 := comes_1 fun _ _ _ _ _ _ h hF => ⟨h.2.1, hF⟩
end Jvm.Pilot.@@N@@
namespace Jvm.Pilot.@@N@@
open Jvm Jvm.ClassFile Sem Op Lib Jvm.Free Jvm.Stand Jvm.Pilot.@@N@@.Jvm.D
/-! MADE BY PROGRAM (witnessworld.py) out of the Statement's table words and the real class files: 7 classes; the members and pool entries that the words name. The judged class is class 1, her method 1. -/
namespace start1
open Jvm.ClassFile
def u (s : String) : CpInfo := .utf8 (stringToUtf16 s)
/-- a pool by its gaps: so many unusable entries, then the entry; so many at the end -/
def gap : Nat → List CpInfo → List CpInfo
  | 0, r => r
  | n + 1, r => .unusable :: gap n r
def poolList (es : List (Nat × CpInfo)) (last : Nat) : List CpInfo := es.foldr (fun e r => gap e.1 (e.2 :: r)) (gap last [])
def pool (es : List (Nat × CpInfo)) (last : Nat) : Array CpInfo := ⟨poolList es last⟩
def fileOf (pool : Array CpInfo) (this : Nat) (attrs : Array Attribute := #[]) (ms : Array MethodInfo := #[]) (fl : Nat := 33) (sup : Nat := 0) (ifs : Array Nat := #[]) (fds : Array FieldInfo := #[]) : ClassFile where
  minorVersion := 0
  majorVersion := 65
  constantPool := pool
  accessFlags := fl
  thisClass := this
  superClass := sup
  interfaces := ifs
  fields := fds
  methods := ms
  attributes := attrs
def plain (name : String) (sup : Option ClassId) : Class where
  name := name
  kind := .ordinary
  loader := none
  accessFlags := 33
  super := sup
  interfaces := #[]
  cf := none
  fields := #[]
  methods := #[]
  instanceTypes := #[]
  staticTypes := #[]
  resolved := #[]
  callSites := []
  init := .initialized
  statics := none
  mirror := none

def pool0 : Array CpInfo := pool [(5, u "<init>"), (0, u "()V"), (1, .class_ 10), (1, u "java/lang/Object")] 113

def k0m0 : Method := { name := "<init>", desc := "()V", sig := { parameters := [], returnType := none }, accessFlags := 1, code := none }
/-- java/lang/Object -/
def k0 : Class := { plain "java/lang/Object" none with
  accessFlags := 33
  interfaces := #[]
  cf := some (fileOf pool0 8 #[] #[{ accessFlags := 1, nameIndex := 5, descriptorIndex := 6, attributes := #[] }] 33 0 #[] #[])
  fields := #[]
  methods := #[k0m0]
  instanceTypes := #[]
  staticTypes := #[]
  resolved := Array.replicate 124 none
  statics := none }

def pool1 : Array CpInfo := pool [(2, .class_ 4), (1, u "java/lang/Object"), (0, u "<init>"), (0, u "()V"), (0, .methodref 8 9), (0, .class_ 10), (0, .nameAndType 11 12), (0, u "com/example/nagare/nagare/scan/Utf8"), (0, u "sequenceLength"), (0, u "(B)I"), (0, .class_ 14), (0, u "com/example/nagare/nagare/scan/Utf8SequenceLengthPinLaw"), (2, u "law"), (0, u "(I)Z")] 3

def k1m0 : Method := { name := "<init>", desc := "()V", sig := { parameters := [], returnType := none }, accessFlags := 2, code := none }
def k1c1 : Code := { maxStack := 2, maxLocals := 4, code := code, exceptionTable := #[], attributes := #[] }
def k1m1 : Method := { name := "law", desc := "(I)Z", sig := { parameters := [.int], returnType := some .boolean }, accessFlags := 9, code := some k1c1 }
/-- com/example/nagare/nagare/scan/Utf8SequenceLengthPinLaw -/
def k1 : Class := { plain "com/example/nagare/nagare/scan/Utf8SequenceLengthPinLaw" (some 0) with
  accessFlags := 49
  interfaces := #[]
  cf := some (fileOf pool1 13 #[] #[{ accessFlags := 2, nameIndex := 5, descriptorIndex := 6, attributes := #[] }, { accessFlags := 9, nameIndex := 17, descriptorIndex := 18, attributes := #[] }] 49 2 #[] #[])
  fields := #[]
  methods := #[k1m0, k1m1]
  instanceTypes := #[]
  staticTypes := #[]
  resolved := Array.replicate 22 none
  statics := none }

def pool2 : Array CpInfo := pool [(1, .class_ 2), (0, u "com/example/nagare/nagare/scan/Utf8"), (1, .class_ 6), (1, u "java/lang/Object"), (0, u "<init>"), (0, u "()V"), (4, u "LONGS"), (0, u "Ljava/lang/invoke/VarHandle;"), (66, u "sequenceLength"), (0, u "(B)I"), (14, u "HIGH_BITS"), (0, u "J"), (1, u "ONES"), (0, u "SPACES")] 14

def k2m0 : Method := { name := "<init>", desc := "()V", sig := { parameters := [], returnType := none }, accessFlags := 2, code := none }
def k2c1 : Code := { maxStack := 2, maxLocals := 3, code := prog_65_method_4_code, exceptionTable := #[], attributes := #[] }
def k2m1 : Method := { name := "sequenceLength", desc := "(B)I", sig := { parameters := [.byte], returnType := some .int }, accessFlags := 8, code := some k2c1 }
/-- com/example/nagare/nagare/scan/Utf8 -/
def k2 : Class := { plain "com/example/nagare/nagare/scan/Utf8" (some 0) with
  accessFlags := 48
  interfaces := #[]
  cf := some (fileOf pool2 1 #[] #[{ accessFlags := 2, nameIndex := 7, descriptorIndex := 8, attributes := #[] }, { accessFlags := 8, nameIndex := 81, descriptorIndex := 82, attributes := #[] }] 48 4 #[] #[{ accessFlags := 26, nameIndex := 13, descriptorIndex := 14, attributes := #[] }, { accessFlags := 26, nameIndex := 97, descriptorIndex := 98, attributes := #[] }, { accessFlags := 26, nameIndex := 100, descriptorIndex := 98, attributes := #[] }, { accessFlags := 26, nameIndex := 101, descriptorIndex := 98, attributes := #[] }])
  fields := #[{ name := "LONGS", type := (.object "java/lang/invoke/VarHandle"), accessFlags := 26, slot := 0, constantValue := 0 }, { name := "HIGH_BITS", type := .long, accessFlags := 26, slot := 1, constantValue := 0 }, { name := "ONES", type := .long, accessFlags := 26, slot := 2, constantValue := 0 }, { name := "SPACES", type := .long, accessFlags := 26, slot := 3, constantValue := 0 }]
  methods := #[k2m0, k2m1]
  instanceTypes := #[]
  staticTypes := #[(.object "java/lang/invoke/VarHandle"), .long, .long, .long]
  resolved := Array.replicate 116 none
  statics := none }

def pool3 : Array CpInfo := pool [(1, u "java/lang/Cloneable"), (0, .class_ 1), (0, u "java/lang/Object"), (0, .class_ 3)] 3

/-- java/lang/Cloneable -/
def k3 : Class := { plain "java/lang/Cloneable" (some 0) with
  accessFlags := 1537
  interfaces := #[]
  cf := some (fileOf pool3 2 #[] #[] 1537 4 #[] #[])
  fields := #[]
  methods := #[]
  instanceTypes := #[]
  staticTypes := #[]
  resolved := Array.replicate 8 none
  statics := none }

def pool4 : Array CpInfo := pool [(1, u "java/io/Serializable"), (0, .class_ 1), (0, u "java/lang/Object"), (0, .class_ 3)] 3

/-- java/io/Serializable -/
def k4 : Class := { plain "java/io/Serializable" (some 0) with
  accessFlags := 1537
  interfaces := #[]
  cf := some (fileOf pool4 2 #[] #[] 1537 4 #[] #[])
  fields := #[]
  methods := #[]
  instanceTypes := #[]
  staticTypes := #[]
  resolved := Array.replicate 8 none
  statics := none }

/-- the primitive byte -/
def k5 : Class := { plain "byte" none with kind := .primitive 'B', accessFlags := 0x411 }
/-- [B -/
def k6 : Class := { plain "[B" (some 0) with kind := .array 5 .byte, interfaces := #[3, 4], accessFlags := 1041 }

def heap : Heap := #[]
def classes : Array Class := #[k0, k1, k2, k3, k4, k5, k6]
def interned : List (Array UInt16 × Addr) := []
def slotsUsed : Nat := 0
def theMethod : MethodId := ⟨1, 1⟩
def args0 : Array Value := #[.int 5]
def aboutOver (below : List Frame) : State where
  vm := { classes := classes, interned := interned.toArray }
  heap := heap
  slotsUsed := slotsUsed
  threads := #[{ frames := .invoking theMethod args0 :: below }]
def below0 : List Frame := [.native { method := ⟨0, 0⟩, args := #[] }]
def about1 : State := aboutOver below0
def p0 : Program := .bare "" "" ""
def e0 : Env := launch0.env 0 0 0
theorem w_frames : about1.frames = Frame.invoking theMethod args0 :: below0 := rfl
set_option maxRecDepth 65536 in
theorem w_args : argsFit about1.vm theMethod args0 = true := by decide +kernel
set_option maxRecDepth 65536 in
theorem w_heap : heapFits about1 = true := by decide +kernel
set_option maxRecDepth 65536 in
theorem w_runnable : about1.curStatus? = some .runnable := by decide +kernel
set_option maxRecDepth 65536 in
theorem w_alone : about1.alone = true := by decide +kernel
set_option maxRecDepth 65536 in
theorem w_named : about1.methodNamed? x = some theMethod := by decide +kernel
set_option maxRecDepth 65536 in
theorem w_hears : about1.hears theMethod below0 = true := by decide +kernel
set_option maxRecDepth 65536 in
theorem w_ripe : about1.ripe theMethod args0 below0 = true := by decide +kernel
theorem w_running : about1.status = .running := rfl
set_option maxRecDepth 65536 in
theorem w_room : about1.hasRoom e0.platform room_1 = true :=
  launch0.hasRoom_least _ room_1 (by decide +kernel) (by decide +kernel) (by decide +kernel) (by decide +kernel) (by decide +kernel) (by decide +kernel)
theorem allAtoms_all (ts : List Jvm.Cond) (a : Array Jvm.Value) (st : Jvm.State) : (allAtoms ts).before a st = ts.all (fun c => c.before a st) := by
  induction ts with
  | nil => rfl
  | cons c t ih =>
    show (Jvm.Cond.and c (allAtoms t)).before a st = _
    rw [Jvm.Cond.before_and, ih, List.all_cons]
def words1 : List Jvm.Cond := Jvm.Cond.code x code maxLocals ret :: tables_1
/-- a 'code' word, met by the world's own term for the bytes: nothing is compared byte by byte -/
theorem code_word {y : MethodName} {bytes : ByteArray} {mx : Nat} {rt : Option FieldType} {a : Array Value} {s : State} {m : MethodId} {meth : Method} {c : Code} (h1 : s.methodNamed? y = some m) (h2 : s.vm.method? m = some meth) (h3 : meth.code = some c) (h4 : c.code = bytes)
    (h5 : (c.maxLocals == mx && c.exceptionTable.isEmpty && decide (c.maxStack ≤ mostOperands) && decide (meth.sig.returnType = rt) && !meth.locks && decide (parseMethodDescriptor y.desc = some meth.sig)) = true) : (Jvm.Cond.code y bytes mx rt).before a s = true := by
  simp only [Bool.and_eq_true, beq_iff_eq, Bool.not_eq_true', decide_eq_true_eq] at h5
  obtain ⟨⟨⟨⟨⟨g1, g2⟩, g3⟩, g4⟩, g5⟩, g6⟩ := h5
  simp [Cond.before, Cond.holds, Cond.value, h1, h2, h3, h4, g1, g2, g3, g4, g5, g6]
def isCode : Jvm.Cond → Bool
  | .code _ _ _ _ => true
  | _ => false
theorem all_split {L : List Jvm.Cond} {P : Jvm.Cond → Bool} (h1 : L.all (fun c => isCode c || P c) = true) (h2 : ∀ c ∈ L.filter isCode, P c = true) : L.all P = true := by
  refine List.all_eq_true.mpr fun c hc => ?_
  have h := List.all_eq_true.mp h1 c hc
  rcases Bool.eq_false_or_eq_true (isCode c) with hi | hi
  · exact h2 c (List.mem_filter.mpr ⟨hc, hi⟩)
  · simpa [hi] using h
set_option maxRecDepth 65536 in
theorem w_c0 : (Jvm.Cond.code x code maxLocals ret).before args0 about1 = true := code_word (m := ⟨1, 1⟩) (meth := k1m1) (c := k1c1) (by decide +kernel) rfl rfl rfl (by decide +kernel)
set_option maxRecDepth 65536 in
theorem w_c1 : (Jvm.Cond.code ({ cls := "com/example/nagare/nagare/scan/Utf8", name := "sequenceLength", desc := "(B)I" } : Jvm.MethodName) prog_65_method_4_code (3 : Nat) (Option.some Jvm.ClassFile.FieldType.int)).before args0 about1 = true := code_word (m := ⟨2, 1⟩) (meth := k2m1) (c := k2c1) (by decide +kernel) rfl rfl rfl (by decide +kernel)
def codes1 : List Jvm.Cond := [Jvm.Cond.code x code maxLocals ret, Jvm.Cond.code ({ cls := "com/example/nagare/nagare/scan/Utf8", name := "sequenceLength", desc := "(B)I" } : Jvm.MethodName) prog_65_method_4_code (3 : Nat) (Option.some Jvm.ClassFile.FieldType.int)]
set_option maxRecDepth 65536 in
theorem codes_eq : words1.filter isCode = codes1 := rfl
theorem w_codes : ∀ c ∈ words1.filter isCode, c.before args0 about1 = true := by
  rw [codes_eq]
  intro c hc
  simp only [codes1, List.mem_cons, List.not_mem_nil, or_false] at hc
  rcases hc with rfl | rfl
  · exact w_c0
  · exact w_c1
set_option maxRecDepth 65536 in
theorem w_t1 : words1.all (fun c => isCode c || c.before args0 about1) = true := by decide +kernel
theorem w_tables : (allAtoms (Jvm.Cond.code x code maxLocals ret :: tables_1)).before args0 about1 = true := by
  rw [allAtoms_all]
  show words1.all (fun c => c.before args0 about1) = true
  refine all_split ?_ w_codes
  rw [w_t1]
set_option maxRecDepth 65536 in
theorem w_case : (Jvm.Cond.and given_1 narrow_1).before args0 about1 = true := by decide +kernel
theorem w_applies : (headSpec (Jvm.Cond.code x code maxLocals ret :: tables_1) room_1).applies x e0.platform about1 = true :=
  (Spec.applies_iff w_frames).mpr ⟨w_running, w_runnable, w_alone, w_named, w_hears, w_ripe, w_room, w_tables⟩
theorem atStart : AtStart classFile x code maxLocals ret World_1 tables_1 room_1 Calls_1 rest_1 Pre_1 launch0 p0 e0 about1 theMethod args0 below0 :=
  ⟨lists_1, trivial, launch0.admits_env _ _ _, launch0.least_env, fairChoices_fair.cas, fairChoices_fair.clock, w_frames, w_args, w_heap, w_applies, trivial, trivial, w_case⟩
end start1
theorem witness_1 : WitnessClaimed_1 := ⟨start1.p0, start1.e0, start1.about1, start1.theMethod, start1.args0, start1.below0, start1.atStart⟩
end Jvm.Pilot.@@N@@
