import JvmDerived
import JvmDerived.Pilot.@@N@@Statement
import JvmDerived.Pilot.@@N@@Code
set_option linter.unusedVariables false
set_option linter.unusedSimpArgs false
@@BLOCK:NumsL.lean.txt@@
namespace Jvm.RoadKit
open Sem ClassFile Op Lib Jvm.Stand Jvm.Free Jvm.LawKit
section New
variable {p : Program} {l : Launch} {e : Env} {R : Room} {s : State} {m : MethodId} {args : Array Value} {below : List Frame} {meth : Method} {c : Code} {T : State} {locs : List Loc} {cells slots : Nat}
theorem retI (X : Stand p l e R s m args below meth c T locs cells slots) (hx : p.tables.exec = Jvm.exec) {pc : Nat} {Ls : Array Slot} {z : Int32} {rest : List Value} (hret : meth.sig.returnType = some .int) (hd : decode c.code pc = .ok (.ireturn, 1)) {fs : List Frame}
    (hl : ∀ (f : JFrame) (acts : List Action), f.method = m → f.locked = none → f.entered = [] → (doReturn e (T.setTop f) acts (some (.int z))).1 = T.setFrames fs) : Steps p.tables e below (T.setTop (mkF m pc Ls (.int z :: rest))) (T.setFrames fs) := by
  have hm' : T.vm.method? m = some meth := X.method'
  have hn : narrow .int (.int z) = .int z := rfl
  show Steps p.tables e below (T.setTop { method := m, pc := pc, locals := Ls, stack := _ :: rest, locked := none }) _
  jvm_step X.here [X.here.top, hx, hd, hm', hret, hn]
  first | (intro acts; rw [hl _ acts rfl rfl rfl]) | rw [hl _ _ rfl rfl rfl]
  exact Steps.refl _
end New
end Jvm.RoadKit
namespace Jvm.Pilot.@@N@@
open Jvm Jvm.ClassFile Sem Op Lib Jvm.Free Jvm.Stand Jvm.LawKit Jvm.RoadKit Bundle Jvm.Pilot.@@N@@.Jvm.D
theorem d1_0 : decode prog_24_method_4_code 0 = .ok (.iload_n 0, 1) := by decide +kernel
theorem d1_1 : decode prog_24_method_4_code 1 = .ok (.ldc 37, 2) := by decide +kernel
theorem d1_3 : decode prog_24_method_4_code 3 = .ok (.if_icmp .ne 10, 3) := by decide +kernel
theorem d1_6 : decode prog_24_method_4_code 6 = .ok (.ldc2_w 40, 3) := by decide +kernel
theorem d1_9 : decode prog_24_method_4_code 9 = .ok (.lstore_n 1, 1) := by decide +kernel
theorem d1_10 : decode prog_24_method_4_code 10 = .ok (.goto 14, 3) := by decide +kernel
theorem d1_13 : decode prog_24_method_4_code 13 = .ok (.ldc2_w 42, 3) := by decide +kernel
theorem d1_16 : decode prog_24_method_4_code 16 = .ok (.iload_n 0, 1) := by decide +kernel
theorem d1_17 : decode prog_24_method_4_code 17 = .ok (.i2l, 1) := by decide +kernel
theorem d1_18 : decode prog_24_method_4_code 18 = .ok (.lmul, 1) := by decide +kernel
theorem d1_19 : decode prog_24_method_4_code 19 = .ok (.ldc2_w 44, 3) := by decide +kernel
theorem d1_22 : decode prog_24_method_4_code 22 = .ok (.ldiv, 1) := by decide +kernel
theorem d1_23 : decode prog_24_method_4_code 23 = .ok (.lstore_n 1, 1) := by decide +kernel
theorem d1_24 : decode prog_24_method_4_code 24 = .ok (.lload_n 1, 1) := by decide +kernel
theorem d1_25 : decode prog_24_method_4_code 25 = .ok (.lreturn, 1) := by decide +kernel
def f1_24 (x0 : Int32) (x1 : Int64) : Int64 := x1
set_option maxRecDepth 65536 in
theorem b1_24 {p : Program} {l : Launch} {e : Env} {R : Room} {s : State} {m : MethodId} {args : Array Value} {below : List Frame} {meth : Method} {c : Code} {T : State} {locs : List Loc} {cells slots : Nat} (X : Stand p l e R s m args below meth c T locs cells slots) (hx : p.tables.exec = Jvm.exec) (hby : c.code = prog_24_method_4_code) {Z : State} {a0 : Array Value} (hw : ∀ d ∈ tables_1, d.before a0 Z = true) (hZ : Z.Warmed39 s.vm) (hown : s.vm.findClass "com/example/binlock/binlock/TableSizes" = some m.cls) (hret : meth.sig.returnType = some .long) (x0 : Int32) (x1 : Int64) {fs : List Frame} (hr : ∀ (f : JFrame) (acts : List Action), f.method = m → f.locked = none → f.entered = [] → (doReturn e (T.setTop f) acts (some (.long (f1_24 x0 x1)))).1 = T.setFrames fs) :
    Steps p.tables e below (T.setTop (mkF m 24 #[.val (.int x0), .val (.long x1), .second] [])) (T.setFrames fs) := by
  show Steps p.tables e below (T.setTop (mkF m 24 #[.val (.int x0), .val (.long x1), .second] [])) _
  refine XS.lloadN X.here hx rfl (hb hby d1_24) rfl ?_
  show Steps p.tables e below (T.setTop (mkF m 25 #[.val (.int x0), .val (.long x1), .second] [(.long x1)])) _
  exact X.lreturnOut hx hret (hb hby d1_25) hr
def f1_13 (x0 : Int32) : Int64 := f1_24 x0 (((3 : Int64) * (x0.toInt64)) / (4 : Int64))
set_option maxRecDepth 65536 in
theorem b1_13 {p : Program} {l : Launch} {e : Env} {R : Room} {s : State} {m : MethodId} {args : Array Value} {below : List Frame} {meth : Method} {c : Code} {T : State} {locs : List Loc} {cells slots : Nat} (X : Stand p l e R s m args below meth c T locs cells slots) (hx : p.tables.exec = Jvm.exec) (hby : c.code = prog_24_method_4_code) {Z : State} {a0 : Array Value} (hw : ∀ d ∈ tables_1, d.before a0 Z = true) (hZ : Z.Warmed39 s.vm) (hown : s.vm.findClass "com/example/binlock/binlock/TableSizes" = some m.cls) (hret : meth.sig.returnType = some .long) (x0 : Int32) {fs : List Frame} (hr : ∀ (f : JFrame) (acts : List Action), f.method = m → f.locked = none → f.entered = [] → (doReturn e (T.setTop f) acts (some (.long (f1_13 x0)))).1 = T.setFrames fs) :
    Steps p.tables e below (T.setTop (mkF m 13 #[.val (.int x0), .unset, .unset] [])) (T.setFrames fs) := by
  show Steps p.tables e below (T.setTop (mkF m 13 #[.val (.int x0), .unset, .unset] [])) _
  refine X.ldc2Long hx hown (mvT hZ (hw _ (List.mem_of_getElem? (i := 6) rfl))) (g := (mkF m 13 #[.val (.int x0), .unset, .unset] [])) rfl (hb hby d1_13) _ ?_
  show Steps p.tables e below (T.setTop (mkF m 16 #[.val (.int x0), .unset, .unset] [(.long (3 : Int64))])) _
  refine XS.iloadN X.here hx rfl (hb hby d1_16) rfl ?_
  show Steps p.tables e below (T.setTop (mkF m 17 #[.val (.int x0), .unset, .unset] [(.int x0), (.long (3 : Int64))])) _
  refine XS.i2l X.here hx rfl (hb hby d1_17) rfl ?_
  show Steps p.tables e below (T.setTop (mkF m 18 #[.val (.int x0), .unset, .unset] [(.long (x0.toInt64)), (.long (3 : Int64))])) _
  refine XS.lmul X.here hx rfl (hb hby d1_18) rfl ?_
  show Steps p.tables e below (T.setTop (mkF m 19 #[.val (.int x0), .unset, .unset] [(.long ((3 : Int64) * (x0.toInt64)))])) _
  refine X.ldc2Long hx hown (mvT hZ (hw _ (List.mem_of_getElem? (i := 7) rfl))) (g := (mkF m 19 #[.val (.int x0), .unset, .unset] [(.long ((3 : Int64) * (x0.toInt64)))])) rfl (hb hby d1_19) _ ?_
  show Steps p.tables e below (T.setTop (mkF m 22 #[.val (.int x0), .unset, .unset] [(.long (4 : Int64)), (.long ((3 : Int64) * (x0.toInt64)))])) _
  refine XS.ldiv X.here hx rfl (hb hby d1_22) rfl (by decide) ?_
  show Steps p.tables e below (T.setTop (mkF m 23 #[.val (.int x0), .unset, .unset] [(.long (((3 : Int64) * (x0.toInt64)) / (4 : Int64)))])) _
  refine XS.lstoreN X.here hx rfl (hb hby d1_23) rfl (l' := #[.val (.int x0), .val (.long (((3 : Int64) * (x0.toInt64)) / (4 : Int64))), .second]) rfl ?_
  exact b1_24 X hx hby hw hZ hown hret x0 ((((3 : Int64) * (x0.toInt64)) / (4 : Int64))) hr
def f1_6 (x0 : Int32) : Int64 := f1_24 x0 (9223372036854775807 : Int64)
set_option maxRecDepth 65536 in
theorem b1_6 {p : Program} {l : Launch} {e : Env} {R : Room} {s : State} {m : MethodId} {args : Array Value} {below : List Frame} {meth : Method} {c : Code} {T : State} {locs : List Loc} {cells slots : Nat} (X : Stand p l e R s m args below meth c T locs cells slots) (hx : p.tables.exec = Jvm.exec) (hby : c.code = prog_24_method_4_code) {Z : State} {a0 : Array Value} (hw : ∀ d ∈ tables_1, d.before a0 Z = true) (hZ : Z.Warmed39 s.vm) (hown : s.vm.findClass "com/example/binlock/binlock/TableSizes" = some m.cls) (hret : meth.sig.returnType = some .long) (x0 : Int32) {fs : List Frame} (hr : ∀ (f : JFrame) (acts : List Action), f.method = m → f.locked = none → f.entered = [] → (doReturn e (T.setTop f) acts (some (.long (f1_6 x0)))).1 = T.setFrames fs) :
    Steps p.tables e below (T.setTop (mkF m 6 #[.val (.int x0), .unset, .unset] [])) (T.setFrames fs) := by
  show Steps p.tables e below (T.setTop (mkF m 6 #[.val (.int x0), .unset, .unset] [])) _
  refine X.ldc2Long hx hown (mvT hZ (hw _ (List.mem_of_getElem? (i := 10) rfl))) (g := (mkF m 6 #[.val (.int x0), .unset, .unset] [])) rfl (hb hby d1_6) _ ?_
  show Steps p.tables e below (T.setTop (mkF m 9 #[.val (.int x0), .unset, .unset] [(.long (9223372036854775807 : Int64))])) _
  refine XS.lstoreN X.here hx rfl (hb hby d1_9) rfl (l' := #[.val (.int x0), .val (.long (9223372036854775807 : Int64)), .second]) rfl ?_
  show Steps p.tables e below (T.setTop (mkF m 10 #[.val (.int x0), .val (.long (9223372036854775807 : Int64)), .second] [])) _
  refine XS.goto X.here hx rfl (pc0 := 10) (pc' := 24) rfl (hb hby d1_10) (by decide) (by decide) ?_
  exact b1_24 X hx hby hw hZ hown hret x0 ((9223372036854775807 : Int64)) hr
def f1_0 (x0 : Int32) : Int64 := if x0 = (1073741824 : Int32) then f1_6 x0 else f1_13 x0
set_option maxRecDepth 65536 in
theorem b1_0 {p : Program} {l : Launch} {e : Env} {R : Room} {s : State} {m : MethodId} {args : Array Value} {below : List Frame} {meth : Method} {c : Code} {T : State} {locs : List Loc} {cells slots : Nat} (X : Stand p l e R s m args below meth c T locs cells slots) (hx : p.tables.exec = Jvm.exec) (hby : c.code = prog_24_method_4_code) {Z : State} {a0 : Array Value} (hw : ∀ d ∈ tables_1, d.before a0 Z = true) (hZ : Z.Warmed39 s.vm) (hown : s.vm.findClass "com/example/binlock/binlock/TableSizes" = some m.cls) (hret : meth.sig.returnType = some .long) (x0 : Int32) {fs : List Frame} (hr : ∀ (f : JFrame) (acts : List Action), f.method = m → f.locked = none → f.entered = [] → (doReturn e (T.setTop f) acts (some (.long (f1_0 x0)))).1 = T.setFrames fs) :
    Steps p.tables e below (T.setTop (mkF m 0 #[.val (.int x0), .unset, .unset] [])) (T.setFrames fs) := by
  show Steps p.tables e below (T.setTop (mkF m 0 #[.val (.int x0), .unset, .unset] [])) _
  refine XS.iloadN X.here hx rfl (hb hby d1_0) rfl ?_
  show Steps p.tables e below (T.setTop (mkF m 1 #[.val (.int x0), .unset, .unset] [(.int x0)])) _
  refine X.ldcInt hx hown (mvT hZ (hw _ (List.mem_of_getElem? (i := 5) rfl))) (g := (mkF m 1 #[.val (.int x0), .unset, .unset] [(.int x0)])) rfl (hb hby d1_1) _ ?_
  show Steps p.tables e below (T.setTop (mkF m 3 #[.val (.int x0), .unset, .unset] [(.int (1073741824 : Int32)), (.int x0)])) _
  by_cases hc : x0 = (1073741824 : Int32)
  · refine XS.icmpNo X.here hx rfl (hb hby d1_3) rfl (teq hc).2 ?_
    rw [show f1_0 x0 = f1_6 x0 from if_pos hc] at hr; exact b1_6 X hx hby hw hZ hown hret x0 hr
  · refine XS.icmpYes X.here hx rfl (pc0 := 3) (pc' := 13) rfl (hb hby d1_3) rfl (feq hc).2 (by decide) (by decide) ?_
    rw [show f1_0 x0 = f1_13 x0 from if_neg hc] at hr; exact b1_13 X hx hby hw hZ hown hret x0 hr
theorem pn_1 : plainName "com/example/binlock/binlock/TableSizes" = true := by first | (simp [plainName, overriddenIn]; done) | decide +kernel
theorem ef_1 (m : MethodId) (x0 : Int32) : entryFrame m #[(.int x0)] 3 = (mkF m 0 #[.val (.int x0), .unset, .unset] []) := by first | (simp [entryFrame, mkF, argsToLocals, Value.category]; done) | rfl
def Q1 (Z : State) (x0 : Int32) (h0 : Heap) (n0 : Nat) (v : Option Value) (h : Heap) (L : List Loc) : Prop := v = some (.long (f1_0 x0)) ∧ Fr n0 L ∧ h = h0
set_option maxRecDepth 65536 in
set_option maxHeartbeats 40000000 in
theorem rm1 (l : Launch) (Z : State) (a0 : Array Value) (hw : ∀ d ∈ tables_1, d.before a0 Z = true) (ws : List Jvm.Cond) (x0 : Int32) (h0 : Heap) (n0 : Nat) (Z0 : n0 ≤ h0.size) :
    MetFree l (⟨"com/example/binlock/binlock/TableSizes", "growthThreshold", "(I)J"⟩ : MethodName) (head1 (Jvm.Cond.code (⟨"com/example/binlock/binlock/TableSizes", "growthThreshold", "(I)J"⟩ : MethodName) prog_24_method_4_code 3 (some .long) :: ws) ({ frames := 0, cells := 0, slots := 0, locals := 0 } : Room)) (fun a U => a = #[(.int x0)] ∧ Z.Warmed39 U.vm ∧ U.heap = h0) (fun _ _ _ _ _ => True) (fun _ U o U' => ∃ v L, o = .returned v ∧ Q1 Z x0 h0 n0 v U'.heap L ∧ FrameEnd U o U' L ({ frames := 0, cells := 0, slots := 0, locals := 0 } : Room).cells ({ frames := 0, cells := 0, slots := 0, locals := 0 } : Room).slots) := by
  refine MetFree.of_bodySF (plainFor_of_name pn_1) hisR ?_
  intro p e s m args below meth c s₁ Bd hml0 hP hK
  obtain ⟨rfl, hZ, hh⟩ := hP
  have hx := Bd.exec
  have hby := Bd.bytes
  have hown : s.vm.findClass "com/example/binlock/binlock/TableSizes" = some m.cls := findClass_of_methodNamed Bd.named
  have X0 : Stand p l e ({ frames := 0, cells := 0, slots := 0, locals := 0 } : Room) s m #[(.int x0)] below meth c s₁ [] 0 0 := Stand.of_body Bd
  have e0 : s₁.heap = h0 := by rw [← hh, Bd.state]; rfl
  have N0 := Fr.nil n0
  have pre0 : ∀ t, Steps p.tables e below (s₁.setTop (mkF m 0 #[.val (.int x0), .unset, .unset] [])) t → Steps p.tables e below (s₁.setTop (entryFrame m #[(.int x0)] 3)) t := fun t k => castTop (ef_1 m x0) k
  obtain ⟨fs, hr, hrun, hended, hW, hsame⟩ := X0.leave (v := some (.long (f1_0 x0))) (fun h => by rw [Bd.returns] at h; cases h)
  refine ⟨_, _, pre0 _ ?_, hrun, hended, _, _, rfl, ?_, ⟨_, rfl⟩, hW, hsame.mono (by decide) (by decide)⟩
  · exact b1_0 X0 hx hby hw hZ hown Bd.returns x0 hr
  · show Q1 Z x0 h0 n0 _ s₁.heap _
    rw [e0]
    exact ⟨rfl, N0, rfl⟩
def f0_91 (x0 : Int32) (x1 : Int32) (x2 : Int32) (x3 : Int64) (x5 : Int64) (s0 : Int32) : Int32 := nar .boolean s0
set_option maxRecDepth 65536 in
theorem b0_91 {p : Program} {l : Launch} {e : Env} {R : Room} {s : State} {m : MethodId} {args : Array Value} {below : List Frame} {meth : Method} {c : Code} {T : State} {locs : List Loc} {cells slots : Nat} (X : Stand p l e R s m args below meth c T locs cells slots) (hx : p.tables.exec = Jvm.exec) (hby : c.code = code) {Z : State} {a0 : Array Value} (hw : ∀ d ∈ tables_1, d.before a0 Z = true) (hZ : Z.Warmed39 s.vm) (hown : s.vm.findClass "com/example/binlock/binlock/TableSizesGrowthThresholdPinLaw" = some m.cls) (hret : meth.sig.returnType = some .boolean) (x0 : Int32) (x1 : Int32) (x2 : Int32) (x3 : Int64) (x5 : Int64) (s0 : Int32) {fs : List Frame} (hr : ∀ (f : JFrame) (acts : List Action), f.method = m → f.locked = none → f.entered = [] → (doReturn e (T.setTop f) acts (some (.int (f0_91 x0 x1 x2 x3 x5 s0)))).1 = T.setFrames fs) :
    Steps p.tables e below (T.setTop (mkF m 91 #[.val (.int x0), .val (.int x1), .val (.int x2), .val (.long x3), .second, .val (.long x5), .second] [(.int s0)])) (T.setFrames fs) := by
  show Steps p.tables e below (T.setTop (mkF m 91 #[.val (.int x0), .val (.int x1), .val (.int x2), .val (.long x3), .second, .val (.long x5), .second] [(.int s0)])) _
  exact retN X hx (t := .boolean) hret (by simp) (hb hby at_91) hr
def f0_90 (x0 : Int32) (x1 : Int32) (x2 : Int32) (x3 : Int64) (x5 : Int64) : Int32 := f0_91 x0 x1 x2 x3 x5 (0 : Int32)
set_option maxRecDepth 65536 in
theorem b0_90 {p : Program} {l : Launch} {e : Env} {R : Room} {s : State} {m : MethodId} {args : Array Value} {below : List Frame} {meth : Method} {c : Code} {T : State} {locs : List Loc} {cells slots : Nat} (X : Stand p l e R s m args below meth c T locs cells slots) (hx : p.tables.exec = Jvm.exec) (hby : c.code = code) {Z : State} {a0 : Array Value} (hw : ∀ d ∈ tables_1, d.before a0 Z = true) (hZ : Z.Warmed39 s.vm) (hown : s.vm.findClass "com/example/binlock/binlock/TableSizesGrowthThresholdPinLaw" = some m.cls) (hret : meth.sig.returnType = some .boolean) (x0 : Int32) (x1 : Int32) (x2 : Int32) (x3 : Int64) (x5 : Int64) {fs : List Frame} (hr : ∀ (f : JFrame) (acts : List Action), f.method = m → f.locked = none → f.entered = [] → (doReturn e (T.setTop f) acts (some (.int (f0_90 x0 x1 x2 x3 x5)))).1 = T.setFrames fs) :
    Steps p.tables e below (T.setTop (mkF m 90 #[.val (.int x0), .val (.int x1), .val (.int x2), .val (.long x3), .second, .val (.long x5), .second] [])) (T.setFrames fs) := by
  show Steps p.tables e below (T.setTop (mkF m 90 #[.val (.int x0), .val (.int x1), .val (.int x2), .val (.long x3), .second, .val (.long x5), .second] [])) _
  refine XS.iconst X.here hx rfl (hb hby at_90) ?_
  exact b0_91 X hx hby hw hZ hown hret x0 x1 x2 x3 x5 (0 : Int32) hr
def f0_86 (x0 : Int32) (x1 : Int32) (x2 : Int32) (x3 : Int64) (x5 : Int64) : Int32 := f0_91 x0 x1 x2 x3 x5 (1 : Int32)
set_option maxRecDepth 65536 in
theorem b0_86 {p : Program} {l : Launch} {e : Env} {R : Room} {s : State} {m : MethodId} {args : Array Value} {below : List Frame} {meth : Method} {c : Code} {T : State} {locs : List Loc} {cells slots : Nat} (X : Stand p l e R s m args below meth c T locs cells slots) (hx : p.tables.exec = Jvm.exec) (hby : c.code = code) {Z : State} {a0 : Array Value} (hw : ∀ d ∈ tables_1, d.before a0 Z = true) (hZ : Z.Warmed39 s.vm) (hown : s.vm.findClass "com/example/binlock/binlock/TableSizesGrowthThresholdPinLaw" = some m.cls) (hret : meth.sig.returnType = some .boolean) (x0 : Int32) (x1 : Int32) (x2 : Int32) (x3 : Int64) (x5 : Int64) {fs : List Frame} (hr : ∀ (f : JFrame) (acts : List Action), f.method = m → f.locked = none → f.entered = [] → (doReturn e (T.setTop f) acts (some (.int (f0_86 x0 x1 x2 x3 x5)))).1 = T.setFrames fs) :
    Steps p.tables e below (T.setTop (mkF m 86 #[.val (.int x0), .val (.int x1), .val (.int x2), .val (.long x3), .second, .val (.long x5), .second] [])) (T.setFrames fs) := by
  show Steps p.tables e below (T.setTop (mkF m 86 #[.val (.int x0), .val (.int x1), .val (.int x2), .val (.long x3), .second, .val (.long x5), .second] [])) _
  refine XS.iconst X.here hx rfl (hb hby at_86) ?_
  show Steps p.tables e below (T.setTop (mkF m 87 #[.val (.int x0), .val (.int x1), .val (.int x2), .val (.long x3), .second, .val (.long x5), .second] [(.int (1 : Int32))])) _
  refine XS.goto X.here hx rfl (pc0 := 87) (pc' := 91) rfl (hb hby at_87) (by decide) (by decide) ?_
  exact b0_91 X hx hby hw hZ hown hret x0 x1 x2 x3 x5 (1 : Int32) hr
def f0_71 (x0 : Int32) (x1 : Int32) (x2 : Int32) (x3 : Int64) (x5 : Int64) : Int32 := if (lcmpW x5 (((4 : Int64) * x3) + (4 : Int64))) < (0 : Int32) then f0_86 x0 x1 x2 x3 x5 else f0_90 x0 x1 x2 x3 x5
set_option maxRecDepth 65536 in
theorem b0_71 {p : Program} {l : Launch} {e : Env} {R : Room} {s : State} {m : MethodId} {args : Array Value} {below : List Frame} {meth : Method} {c : Code} {T : State} {locs : List Loc} {cells slots : Nat} (X : Stand p l e R s m args below meth c T locs cells slots) (hx : p.tables.exec = Jvm.exec) (hby : c.code = code) {Z : State} {a0 : Array Value} (hw : ∀ d ∈ tables_1, d.before a0 Z = true) (hZ : Z.Warmed39 s.vm) (hown : s.vm.findClass "com/example/binlock/binlock/TableSizesGrowthThresholdPinLaw" = some m.cls) (hret : meth.sig.returnType = some .boolean) (x0 : Int32) (x1 : Int32) (x2 : Int32) (x3 : Int64) (x5 : Int64) {fs : List Frame} (hr : ∀ (f : JFrame) (acts : List Action), f.method = m → f.locked = none → f.entered = [] → (doReturn e (T.setTop f) acts (some (.int (f0_71 x0 x1 x2 x3 x5)))).1 = T.setFrames fs) :
    Steps p.tables e below (T.setTop (mkF m 71 #[.val (.int x0), .val (.int x1), .val (.int x2), .val (.long x3), .second, .val (.long x5), .second] [])) (T.setFrames fs) := by
  show Steps p.tables e below (T.setTop (mkF m 71 #[.val (.int x0), .val (.int x1), .val (.int x2), .val (.long x3), .second, .val (.long x5), .second] [])) _
  refine XS.lload X.here hx rfl (hb hby at_71) rfl ?_
  show Steps p.tables e below (T.setTop (mkF m 73 #[.val (.int x0), .val (.int x1), .val (.int x2), .val (.long x3), .second, .val (.long x5), .second] [(.long x5)])) _
  refine X.ldc2Long hx hown (mvT hZ (hw _ (List.mem_of_getElem? (i := 9) rfl))) (g := (mkF m 73 #[.val (.int x0), .val (.int x1), .val (.int x2), .val (.long x3), .second, .val (.long x5), .second] [(.long x5)])) rfl (hb hby at_73) _ ?_
  show Steps p.tables e below (T.setTop (mkF m 76 #[.val (.int x0), .val (.int x1), .val (.int x2), .val (.long x3), .second, .val (.long x5), .second] [(.long (4 : Int64)), (.long x5)])) _
  refine XS.lloadN X.here hx rfl (hb hby at_76) rfl ?_
  show Steps p.tables e below (T.setTop (mkF m 77 #[.val (.int x0), .val (.int x1), .val (.int x2), .val (.long x3), .second, .val (.long x5), .second] [(.long x3), (.long (4 : Int64)), (.long x5)])) _
  refine XS.lmul X.here hx rfl (hb hby at_77) rfl ?_
  show Steps p.tables e below (T.setTop (mkF m 78 #[.val (.int x0), .val (.int x1), .val (.int x2), .val (.long x3), .second, .val (.long x5), .second] [(.long ((4 : Int64) * x3)), (.long x5)])) _
  refine X.ldc2Long hx hown (mvT hZ (hw _ (List.mem_of_getElem? (i := 9) rfl))) (g := (mkF m 78 #[.val (.int x0), .val (.int x1), .val (.int x2), .val (.long x3), .second, .val (.long x5), .second] [(.long ((4 : Int64) * x3)), (.long x5)])) rfl (hb hby at_78) _ ?_
  show Steps p.tables e below (T.setTop (mkF m 81 #[.val (.int x0), .val (.int x1), .val (.int x2), .val (.long x3), .second, .val (.long x5), .second] [(.long (4 : Int64)), (.long ((4 : Int64) * x3)), (.long x5)])) _
  refine XS.ladd X.here hx rfl (hb hby at_81) rfl ?_
  show Steps p.tables e below (T.setTop (mkF m 82 #[.val (.int x0), .val (.int x1), .val (.int x2), .val (.long x3), .second, .val (.long x5), .second] [(.long (((4 : Int64) * x3) + (4 : Int64))), (.long x5)])) _
  refine XS.lcmp X.here hx rfl (hb hby at_82) rfl ?_
  show Steps p.tables e below (T.setTop (mkF m 83 #[.val (.int x0), .val (.int x1), .val (.int x2), .val (.long x3), .second, .val (.long x5), .second] [(.int (lcmpW x5 (((4 : Int64) * x3) + (4 : Int64))))])) _
  by_cases hc : (lcmpW x5 (((4 : Int64) * x3) + (4 : Int64))) < (0 : Int32)
  · refine XS.ifNo X.here hx rfl (hb hby at_83) rfl ((if0 _ _).trans (tlt hc).2.1) ?_
    rw [show f0_71 x0 x1 x2 x3 x5 = f0_86 x0 x1 x2 x3 x5 from if_pos hc] at hr; exact b0_86 X hx hby hw hZ hown hret x0 x1 x2 x3 x5 hr
  · refine XS.ifYes X.here hx rfl (pc0 := 83) (pc' := 90) rfl (hb hby at_83) rfl ((if0 _ _).trans (flt hc).2.1) (by decide) (by decide) ?_
    rw [show f0_71 x0 x1 x2 x3 x5 = f0_90 x0 x1 x2 x3 x5 from if_neg hc] at hr; exact b0_90 X hx hby hw hZ hown hret x0 x1 x2 x3 x5 hr
def f0_52 (x0 : Int32) (x1 : Int32) (x2 : Int32) (x3 : Int64) : Int32 := if (0 : Int32) < (lcmpW ((4 : Int64) * x3) ((3 : Int64) * (x2.toInt64))) then f0_90 x0 x1 x2 x3 ((3 : Int64) * (x2.toInt64)) else f0_71 x0 x1 x2 x3 ((3 : Int64) * (x2.toInt64))
set_option maxRecDepth 65536 in
theorem b0_52 {p : Program} {l : Launch} {e : Env} {R : Room} {s : State} {m : MethodId} {args : Array Value} {below : List Frame} {meth : Method} {c : Code} {T : State} {locs : List Loc} {cells slots : Nat} (X : Stand p l e R s m args below meth c T locs cells slots) (hx : p.tables.exec = Jvm.exec) (hby : c.code = code) {Z : State} {a0 : Array Value} (hw : ∀ d ∈ tables_1, d.before a0 Z = true) (hZ : Z.Warmed39 s.vm) (hown : s.vm.findClass "com/example/binlock/binlock/TableSizesGrowthThresholdPinLaw" = some m.cls) (hret : meth.sig.returnType = some .boolean) (x0 : Int32) (x1 : Int32) (x2 : Int32) (x3 : Int64) {fs : List Frame} (hr : ∀ (f : JFrame) (acts : List Action), f.method = m → f.locked = none → f.entered = [] → (doReturn e (T.setTop f) acts (some (.int (f0_52 x0 x1 x2 x3)))).1 = T.setFrames fs) :
    Steps p.tables e below (T.setTop (mkF m 52 #[.val (.int x0), .val (.int x1), .val (.int x2), .val (.long x3), .second, .unset, .unset] [])) (T.setFrames fs) := by
  show Steps p.tables e below (T.setTop (mkF m 52 #[.val (.int x0), .val (.int x1), .val (.int x2), .val (.long x3), .second, .unset, .unset] [])) _
  refine X.ldc2Long hx hown (mvT hZ (hw _ (List.mem_of_getElem? (i := 8) rfl))) (g := (mkF m 52 #[.val (.int x0), .val (.int x1), .val (.int x2), .val (.long x3), .second, .unset, .unset] [])) rfl (hb hby at_52) _ ?_
  show Steps p.tables e below (T.setTop (mkF m 55 #[.val (.int x0), .val (.int x1), .val (.int x2), .val (.long x3), .second, .unset, .unset] [(.long (3 : Int64))])) _
  refine XS.iloadN X.here hx rfl (hb hby at_55) rfl ?_
  show Steps p.tables e below (T.setTop (mkF m 56 #[.val (.int x0), .val (.int x1), .val (.int x2), .val (.long x3), .second, .unset, .unset] [(.int x2), (.long (3 : Int64))])) _
  refine XS.i2l X.here hx rfl (hb hby at_56) rfl ?_
  show Steps p.tables e below (T.setTop (mkF m 57 #[.val (.int x0), .val (.int x1), .val (.int x2), .val (.long x3), .second, .unset, .unset] [(.long (x2.toInt64)), (.long (3 : Int64))])) _
  refine XS.lmul X.here hx rfl (hb hby at_57) rfl ?_
  show Steps p.tables e below (T.setTop (mkF m 58 #[.val (.int x0), .val (.int x1), .val (.int x2), .val (.long x3), .second, .unset, .unset] [(.long ((3 : Int64) * (x2.toInt64)))])) _
  refine XS.lstore X.here hx rfl (hb hby at_58) rfl (l' := #[.val (.int x0), .val (.int x1), .val (.int x2), .val (.long x3), .second, .val (.long ((3 : Int64) * (x2.toInt64))), .second]) rfl ?_
  show Steps p.tables e below (T.setTop (mkF m 60 #[.val (.int x0), .val (.int x1), .val (.int x2), .val (.long x3), .second, .val (.long ((3 : Int64) * (x2.toInt64))), .second] [])) _
  refine X.ldc2Long hx hown (mvT hZ (hw _ (List.mem_of_getElem? (i := 9) rfl))) (g := (mkF m 60 #[.val (.int x0), .val (.int x1), .val (.int x2), .val (.long x3), .second, .val (.long ((3 : Int64) * (x2.toInt64))), .second] [])) rfl (hb hby at_60) _ ?_
  show Steps p.tables e below (T.setTop (mkF m 63 #[.val (.int x0), .val (.int x1), .val (.int x2), .val (.long x3), .second, .val (.long ((3 : Int64) * (x2.toInt64))), .second] [(.long (4 : Int64))])) _
  refine XS.lloadN X.here hx rfl (hb hby at_63) rfl ?_
  show Steps p.tables e below (T.setTop (mkF m 64 #[.val (.int x0), .val (.int x1), .val (.int x2), .val (.long x3), .second, .val (.long ((3 : Int64) * (x2.toInt64))), .second] [(.long x3), (.long (4 : Int64))])) _
  refine XS.lmul X.here hx rfl (hb hby at_64) rfl ?_
  show Steps p.tables e below (T.setTop (mkF m 65 #[.val (.int x0), .val (.int x1), .val (.int x2), .val (.long x3), .second, .val (.long ((3 : Int64) * (x2.toInt64))), .second] [(.long ((4 : Int64) * x3))])) _
  refine XS.lload X.here hx rfl (hb hby at_65) rfl ?_
  show Steps p.tables e below (T.setTop (mkF m 67 #[.val (.int x0), .val (.int x1), .val (.int x2), .val (.long x3), .second, .val (.long ((3 : Int64) * (x2.toInt64))), .second] [(.long ((3 : Int64) * (x2.toInt64))), (.long ((4 : Int64) * x3))])) _
  refine XS.lcmp X.here hx rfl (hb hby at_67) rfl ?_
  show Steps p.tables e below (T.setTop (mkF m 68 #[.val (.int x0), .val (.int x1), .val (.int x2), .val (.long x3), .second, .val (.long ((3 : Int64) * (x2.toInt64))), .second] [(.int (lcmpW ((4 : Int64) * x3) ((3 : Int64) * (x2.toInt64))))])) _
  by_cases hc : (0 : Int32) < (lcmpW ((4 : Int64) * x3) ((3 : Int64) * (x2.toInt64)))
  · refine XS.ifYes X.here hx rfl (pc0 := 68) (pc' := 90) rfl (hb hby at_68) rfl ((if0 _ _).trans (tlt hc).2.2.1) (by decide) (by decide) ?_
    rw [show f0_52 x0 x1 x2 x3 = f0_90 x0 x1 x2 x3 ((3 : Int64) * (x2.toInt64)) from if_pos hc] at hr; exact b0_90 X hx hby hw hZ hown hret x0 x1 x2 x3 (((3 : Int64) * (x2.toInt64))) hr
  · refine XS.ifNo X.here hx rfl (hb hby at_68) rfl ((if0 _ _).trans (flt hc).2.2.1) ?_
    rw [show f0_52 x0 x1 x2 x3 = f0_71 x0 x1 x2 x3 ((3 : Int64) * (x2.toInt64)) from if_neg hc] at hr; exact b0_71 X hx hby hw hZ hown hret x0 x1 x2 x3 (((3 : Int64) * (x2.toInt64))) hr
def f0_50 (x0 : Int32) (x1 : Int32) (x2 : Int32) (x3 : Int64) : Int32 := nar .boolean (0 : Int32)
set_option maxRecDepth 65536 in
theorem b0_50 {p : Program} {l : Launch} {e : Env} {R : Room} {s : State} {m : MethodId} {args : Array Value} {below : List Frame} {meth : Method} {c : Code} {T : State} {locs : List Loc} {cells slots : Nat} (X : Stand p l e R s m args below meth c T locs cells slots) (hx : p.tables.exec = Jvm.exec) (hby : c.code = code) {Z : State} {a0 : Array Value} (hw : ∀ d ∈ tables_1, d.before a0 Z = true) (hZ : Z.Warmed39 s.vm) (hown : s.vm.findClass "com/example/binlock/binlock/TableSizesGrowthThresholdPinLaw" = some m.cls) (hret : meth.sig.returnType = some .boolean) (x0 : Int32) (x1 : Int32) (x2 : Int32) (x3 : Int64) {fs : List Frame} (hr : ∀ (f : JFrame) (acts : List Action), f.method = m → f.locked = none → f.entered = [] → (doReturn e (T.setTop f) acts (some (.int (f0_50 x0 x1 x2 x3)))).1 = T.setFrames fs) :
    Steps p.tables e below (T.setTop (mkF m 50 #[.val (.int x0), .val (.int x1), .val (.int x2), .val (.long x3), .second, .unset, .unset] [])) (T.setFrames fs) := by
  show Steps p.tables e below (T.setTop (mkF m 50 #[.val (.int x0), .val (.int x1), .val (.int x2), .val (.long x3), .second, .unset, .unset] [])) _
  refine XS.iconst X.here hx rfl (hb hby at_50) ?_
  show Steps p.tables e below (T.setTop (mkF m 51 #[.val (.int x0), .val (.int x1), .val (.int x2), .val (.long x3), .second, .unset, .unset] [(.int (0 : Int32))])) _
  exact retN X hx (t := .boolean) hret (by simp) (hb hby at_51) hr
def f0_43 (x0 : Int32) (x1 : Int32) (x2 : Int32) (x3 : Int64) : Int32 := if (0 : Int32) < (lcmpW x3 (x2.toInt64)) then f0_50 x0 x1 x2 x3 else f0_52 x0 x1 x2 x3
set_option maxRecDepth 65536 in
theorem b0_43 {p : Program} {l : Launch} {e : Env} {R : Room} {s : State} {m : MethodId} {args : Array Value} {below : List Frame} {meth : Method} {c : Code} {T : State} {locs : List Loc} {cells slots : Nat} (X : Stand p l e R s m args below meth c T locs cells slots) (hx : p.tables.exec = Jvm.exec) (hby : c.code = code) {Z : State} {a0 : Array Value} (hw : ∀ d ∈ tables_1, d.before a0 Z = true) (hZ : Z.Warmed39 s.vm) (hown : s.vm.findClass "com/example/binlock/binlock/TableSizesGrowthThresholdPinLaw" = some m.cls) (hret : meth.sig.returnType = some .boolean) (x0 : Int32) (x1 : Int32) (x2 : Int32) (x3 : Int64) {fs : List Frame} (hr : ∀ (f : JFrame) (acts : List Action), f.method = m → f.locked = none → f.entered = [] → (doReturn e (T.setTop f) acts (some (.int (f0_43 x0 x1 x2 x3)))).1 = T.setFrames fs) :
    Steps p.tables e below (T.setTop (mkF m 43 #[.val (.int x0), .val (.int x1), .val (.int x2), .val (.long x3), .second, .unset, .unset] [])) (T.setFrames fs) := by
  show Steps p.tables e below (T.setTop (mkF m 43 #[.val (.int x0), .val (.int x1), .val (.int x2), .val (.long x3), .second, .unset, .unset] [])) _
  refine XS.lloadN X.here hx rfl (hb hby at_43) rfl ?_
  show Steps p.tables e below (T.setTop (mkF m 44 #[.val (.int x0), .val (.int x1), .val (.int x2), .val (.long x3), .second, .unset, .unset] [(.long x3)])) _
  refine XS.iloadN X.here hx rfl (hb hby at_44) rfl ?_
  show Steps p.tables e below (T.setTop (mkF m 45 #[.val (.int x0), .val (.int x1), .val (.int x2), .val (.long x3), .second, .unset, .unset] [(.int x2), (.long x3)])) _
  refine XS.i2l X.here hx rfl (hb hby at_45) rfl ?_
  show Steps p.tables e below (T.setTop (mkF m 46 #[.val (.int x0), .val (.int x1), .val (.int x2), .val (.long x3), .second, .unset, .unset] [(.long (x2.toInt64)), (.long x3)])) _
  refine XS.lcmp X.here hx rfl (hb hby at_46) rfl ?_
  show Steps p.tables e below (T.setTop (mkF m 47 #[.val (.int x0), .val (.int x1), .val (.int x2), .val (.long x3), .second, .unset, .unset] [(.int (lcmpW x3 (x2.toInt64)))])) _
  by_cases hc : (0 : Int32) < (lcmpW x3 (x2.toInt64))
  · refine XS.ifNo X.here hx rfl (hb hby at_47) rfl ((if0 _ _).trans (tlt hc).2.2.2) ?_
    rw [show f0_43 x0 x1 x2 x3 = f0_50 x0 x1 x2 x3 from if_pos hc] at hr; exact b0_50 X hx hby hw hZ hown hret x0 x1 x2 x3 hr
  · refine XS.ifYes X.here hx rfl (pc0 := 47) (pc' := 52) rfl (hb hby at_47) rfl ((if0 _ _).trans (flt hc).2.2.2) (by decide) (by decide) ?_
    rw [show f0_43 x0 x1 x2 x3 = f0_52 x0 x1 x2 x3 from if_neg hc] at hr; exact b0_52 X hx hby hw hZ hown hret x0 x1 x2 x3 hr
def f0_37 (x0 : Int32) (x1 : Int32) (x2 : Int32) (x3 : Int64) : Int32 := if (lcmpW x3 (0 : Int64)) < (0 : Int32) then f0_50 x0 x1 x2 x3 else f0_43 x0 x1 x2 x3
set_option maxRecDepth 65536 in
theorem b0_37 {p : Program} {l : Launch} {e : Env} {R : Room} {s : State} {m : MethodId} {args : Array Value} {below : List Frame} {meth : Method} {c : Code} {T : State} {locs : List Loc} {cells slots : Nat} (X : Stand p l e R s m args below meth c T locs cells slots) (hx : p.tables.exec = Jvm.exec) (hby : c.code = code) {Z : State} {a0 : Array Value} (hw : ∀ d ∈ tables_1, d.before a0 Z = true) (hZ : Z.Warmed39 s.vm) (hown : s.vm.findClass "com/example/binlock/binlock/TableSizesGrowthThresholdPinLaw" = some m.cls) (hret : meth.sig.returnType = some .boolean) (x0 : Int32) (x1 : Int32) (x2 : Int32) (x3 : Int64) {fs : List Frame} (hr : ∀ (f : JFrame) (acts : List Action), f.method = m → f.locked = none → f.entered = [] → (doReturn e (T.setTop f) acts (some (.int (f0_37 x0 x1 x2 x3)))).1 = T.setFrames fs) :
    Steps p.tables e below (T.setTop (mkF m 37 #[.val (.int x0), .val (.int x1), .val (.int x2), .val (.long x3), .second, .unset, .unset] [])) (T.setFrames fs) := by
  show Steps p.tables e below (T.setTop (mkF m 37 #[.val (.int x0), .val (.int x1), .val (.int x2), .val (.long x3), .second, .unset, .unset] [])) _
  refine XS.lloadN X.here hx rfl (hb hby at_37) rfl ?_
  show Steps p.tables e below (T.setTop (mkF m 38 #[.val (.int x0), .val (.int x1), .val (.int x2), .val (.long x3), .second, .unset, .unset] [(.long x3)])) _
  refine XS.lconst X.here hx rfl (hb hby at_38) ?_
  show Steps p.tables e below (T.setTop (mkF m 39 #[.val (.int x0), .val (.int x1), .val (.int x2), .val (.long x3), .second, .unset, .unset] [(.long (0 : Int64)), (.long x3)])) _
  refine XS.lcmp X.here hx rfl (hb hby at_39) rfl ?_
  show Steps p.tables e below (T.setTop (mkF m 40 #[.val (.int x0), .val (.int x1), .val (.int x2), .val (.long x3), .second, .unset, .unset] [(.int (lcmpW x3 (0 : Int64)))])) _
  by_cases hc : (lcmpW x3 (0 : Int64)) < (0 : Int32)
  · refine XS.ifYes X.here hx rfl (pc0 := 40) (pc' := 50) rfl (hb hby at_40) rfl ((if0 _ _).trans (tlt hc).1) (by decide) (by decide) ?_
    rw [show f0_37 x0 x1 x2 x3 = f0_50 x0 x1 x2 x3 from if_pos hc] at hr; exact b0_50 X hx hby hw hZ hown hret x0 x1 x2 x3 hr
  · refine XS.ifNo X.here hx rfl (hb hby at_40) rfl ((if0 _ _).trans (flt hc).1) ?_
    rw [show f0_37 x0 x1 x2 x3 = f0_43 x0 x1 x2 x3 from if_neg hc] at hr; exact b0_43 X hx hby hw hZ hown hret x0 x1 x2 x3 hr
def f0_36 (x0 : Int32) (x1 : Int32) (x2 : Int32) (x3 : Int64) (s0 : Int32) : Int32 := nar .boolean s0
set_option maxRecDepth 65536 in
theorem b0_36 {p : Program} {l : Launch} {e : Env} {R : Room} {s : State} {m : MethodId} {args : Array Value} {below : List Frame} {meth : Method} {c : Code} {T : State} {locs : List Loc} {cells slots : Nat} (X : Stand p l e R s m args below meth c T locs cells slots) (hx : p.tables.exec = Jvm.exec) (hby : c.code = code) {Z : State} {a0 : Array Value} (hw : ∀ d ∈ tables_1, d.before a0 Z = true) (hZ : Z.Warmed39 s.vm) (hown : s.vm.findClass "com/example/binlock/binlock/TableSizesGrowthThresholdPinLaw" = some m.cls) (hret : meth.sig.returnType = some .boolean) (x0 : Int32) (x1 : Int32) (x2 : Int32) (x3 : Int64) (s0 : Int32) {fs : List Frame} (hr : ∀ (f : JFrame) (acts : List Action), f.method = m → f.locked = none → f.entered = [] → (doReturn e (T.setTop f) acts (some (.int (f0_36 x0 x1 x2 x3 s0)))).1 = T.setFrames fs) :
    Steps p.tables e below (T.setTop (mkF m 36 #[.val (.int x0), .val (.int x1), .val (.int x2), .val (.long x3), .second, .unset, .unset] [(.int s0)])) (T.setFrames fs) := by
  show Steps p.tables e below (T.setTop (mkF m 36 #[.val (.int x0), .val (.int x1), .val (.int x2), .val (.long x3), .second, .unset, .unset] [(.int s0)])) _
  exact retN X hx (t := .boolean) hret (by simp) (hb hby at_36) hr
def f0_35 (x0 : Int32) (x1 : Int32) (x2 : Int32) (x3 : Int64) : Int32 := f0_36 x0 x1 x2 x3 (0 : Int32)
set_option maxRecDepth 65536 in
theorem b0_35 {p : Program} {l : Launch} {e : Env} {R : Room} {s : State} {m : MethodId} {args : Array Value} {below : List Frame} {meth : Method} {c : Code} {T : State} {locs : List Loc} {cells slots : Nat} (X : Stand p l e R s m args below meth c T locs cells slots) (hx : p.tables.exec = Jvm.exec) (hby : c.code = code) {Z : State} {a0 : Array Value} (hw : ∀ d ∈ tables_1, d.before a0 Z = true) (hZ : Z.Warmed39 s.vm) (hown : s.vm.findClass "com/example/binlock/binlock/TableSizesGrowthThresholdPinLaw" = some m.cls) (hret : meth.sig.returnType = some .boolean) (x0 : Int32) (x1 : Int32) (x2 : Int32) (x3 : Int64) {fs : List Frame} (hr : ∀ (f : JFrame) (acts : List Action), f.method = m → f.locked = none → f.entered = [] → (doReturn e (T.setTop f) acts (some (.int (f0_35 x0 x1 x2 x3)))).1 = T.setFrames fs) :
    Steps p.tables e below (T.setTop (mkF m 35 #[.val (.int x0), .val (.int x1), .val (.int x2), .val (.long x3), .second, .unset, .unset] [])) (T.setFrames fs) := by
  show Steps p.tables e below (T.setTop (mkF m 35 #[.val (.int x0), .val (.int x1), .val (.int x2), .val (.long x3), .second, .unset, .unset] [])) _
  refine XS.iconst X.here hx rfl (hb hby at_35) ?_
  exact b0_36 X hx hby hw hZ hown hret x0 x1 x2 x3 (0 : Int32) hr
def f0_31 (x0 : Int32) (x1 : Int32) (x2 : Int32) (x3 : Int64) : Int32 := f0_36 x0 x1 x2 x3 (1 : Int32)
set_option maxRecDepth 65536 in
theorem b0_31 {p : Program} {l : Launch} {e : Env} {R : Room} {s : State} {m : MethodId} {args : Array Value} {below : List Frame} {meth : Method} {c : Code} {T : State} {locs : List Loc} {cells slots : Nat} (X : Stand p l e R s m args below meth c T locs cells slots) (hx : p.tables.exec = Jvm.exec) (hby : c.code = code) {Z : State} {a0 : Array Value} (hw : ∀ d ∈ tables_1, d.before a0 Z = true) (hZ : Z.Warmed39 s.vm) (hown : s.vm.findClass "com/example/binlock/binlock/TableSizesGrowthThresholdPinLaw" = some m.cls) (hret : meth.sig.returnType = some .boolean) (x0 : Int32) (x1 : Int32) (x2 : Int32) (x3 : Int64) {fs : List Frame} (hr : ∀ (f : JFrame) (acts : List Action), f.method = m → f.locked = none → f.entered = [] → (doReturn e (T.setTop f) acts (some (.int (f0_31 x0 x1 x2 x3)))).1 = T.setFrames fs) :
    Steps p.tables e below (T.setTop (mkF m 31 #[.val (.int x0), .val (.int x1), .val (.int x2), .val (.long x3), .second, .unset, .unset] [])) (T.setFrames fs) := by
  show Steps p.tables e below (T.setTop (mkF m 31 #[.val (.int x0), .val (.int x1), .val (.int x2), .val (.long x3), .second, .unset, .unset] [])) _
  refine XS.iconst X.here hx rfl (hb hby at_31) ?_
  show Steps p.tables e below (T.setTop (mkF m 32 #[.val (.int x0), .val (.int x1), .val (.int x2), .val (.long x3), .second, .unset, .unset] [(.int (1 : Int32))])) _
  refine XS.goto X.here hx rfl (pc0 := 32) (pc' := 36) rfl (hb hby at_32) (by decide) (by decide) ?_
  exact b0_36 X hx hby hw hZ hown hret x0 x1 x2 x3 (1 : Int32) hr
def f0_23 (x0 : Int32) (x1 : Int32) (x2 : Int32) (x3 : Int64) : Int32 := if (lcmpW x3 (9223372036854775807 : Int64)) = (0 : Int32) then f0_31 x0 x1 x2 x3 else f0_35 x0 x1 x2 x3
set_option maxRecDepth 65536 in
theorem b0_23 {p : Program} {l : Launch} {e : Env} {R : Room} {s : State} {m : MethodId} {args : Array Value} {below : List Frame} {meth : Method} {c : Code} {T : State} {locs : List Loc} {cells slots : Nat} (X : Stand p l e R s m args below meth c T locs cells slots) (hx : p.tables.exec = Jvm.exec) (hby : c.code = code) {Z : State} {a0 : Array Value} (hw : ∀ d ∈ tables_1, d.before a0 Z = true) (hZ : Z.Warmed39 s.vm) (hown : s.vm.findClass "com/example/binlock/binlock/TableSizesGrowthThresholdPinLaw" = some m.cls) (hret : meth.sig.returnType = some .boolean) (x0 : Int32) (x1 : Int32) (x2 : Int32) (x3 : Int64) {fs : List Frame} (hr : ∀ (f : JFrame) (acts : List Action), f.method = m → f.locked = none → f.entered = [] → (doReturn e (T.setTop f) acts (some (.int (f0_23 x0 x1 x2 x3)))).1 = T.setFrames fs) :
    Steps p.tables e below (T.setTop (mkF m 23 #[.val (.int x0), .val (.int x1), .val (.int x2), .val (.long x3), .second, .unset, .unset] [])) (T.setFrames fs) := by
  show Steps p.tables e below (T.setTop (mkF m 23 #[.val (.int x0), .val (.int x1), .val (.int x2), .val (.long x3), .second, .unset, .unset] [])) _
  refine XS.lloadN X.here hx rfl (hb hby at_23) rfl ?_
  show Steps p.tables e below (T.setTop (mkF m 24 #[.val (.int x0), .val (.int x1), .val (.int x2), .val (.long x3), .second, .unset, .unset] [(.long x3)])) _
  refine X.ldc2Long hx hown (mvT hZ (hw _ (List.mem_of_getElem? (i := 11) rfl))) (g := (mkF m 24 #[.val (.int x0), .val (.int x1), .val (.int x2), .val (.long x3), .second, .unset, .unset] [(.long x3)])) rfl (hb hby at_24) _ ?_
  show Steps p.tables e below (T.setTop (mkF m 27 #[.val (.int x0), .val (.int x1), .val (.int x2), .val (.long x3), .second, .unset, .unset] [(.long (9223372036854775807 : Int64)), (.long x3)])) _
  refine XS.lcmp X.here hx rfl (hb hby at_27) rfl ?_
  show Steps p.tables e below (T.setTop (mkF m 28 #[.val (.int x0), .val (.int x1), .val (.int x2), .val (.long x3), .second, .unset, .unset] [(.int (lcmpW x3 (9223372036854775807 : Int64)))])) _
  by_cases hc : (lcmpW x3 (9223372036854775807 : Int64)) = (0 : Int32)
  · refine XS.ifNo X.here hx rfl (hb hby at_28) rfl ((if0 _ _).trans (teq hc).2) ?_
    rw [show f0_23 x0 x1 x2 x3 = f0_31 x0 x1 x2 x3 from if_pos hc] at hr; exact b0_31 X hx hby hw hZ hown hret x0 x1 x2 x3 hr
  · refine XS.ifYes X.here hx rfl (pc0 := 28) (pc' := 35) rfl (hb hby at_28) rfl ((if0 _ _).trans (feq hc).2) (by decide) (by decide) ?_
    rw [show f0_23 x0 x1 x2 x3 = f0_35 x0 x1 x2 x3 from if_neg hc] at hr; exact b0_35 X hx hby hw hZ hown hret x0 x1 x2 x3 hr
def f0_17 (x0 : Int32) (x1 : Int32) (x2 : Int32) (x3 : Int64) : Int32 := if x1 = (30 : Int32) then f0_23 x0 x1 x2 x3 else f0_37 x0 x1 x2 x3
set_option maxRecDepth 65536 in
theorem b0_17 {p : Program} {l : Launch} {e : Env} {R : Room} {s : State} {m : MethodId} {args : Array Value} {below : List Frame} {meth : Method} {c : Code} {T : State} {locs : List Loc} {cells slots : Nat} (X : Stand p l e R s m args below meth c T locs cells slots) (hx : p.tables.exec = Jvm.exec) (hby : c.code = code) {Z : State} {a0 : Array Value} (hw : ∀ d ∈ tables_1, d.before a0 Z = true) (hZ : Z.Warmed39 s.vm) (hown : s.vm.findClass "com/example/binlock/binlock/TableSizesGrowthThresholdPinLaw" = some m.cls) (hret : meth.sig.returnType = some .boolean) (x0 : Int32) (x1 : Int32) (x2 : Int32) (x3 : Int64) {fs : List Frame} (hr : ∀ (f : JFrame) (acts : List Action), f.method = m → f.locked = none → f.entered = [] → (doReturn e (T.setTop f) acts (some (.int (f0_17 x0 x1 x2 x3)))).1 = T.setFrames fs) :
    Steps p.tables e below (T.setTop (mkF m 17 #[.val (.int x0), .val (.int x1), .val (.int x2), .val (.long x3), .second, .unset, .unset] [])) (T.setFrames fs) := by
  show Steps p.tables e below (T.setTop (mkF m 17 #[.val (.int x0), .val (.int x1), .val (.int x2), .val (.long x3), .second, .unset, .unset] [])) _
  refine XS.iloadN X.here hx rfl (hb hby at_17) rfl ?_
  show Steps p.tables e below (T.setTop (mkF m 18 #[.val (.int x0), .val (.int x1), .val (.int x2), .val (.long x3), .second, .unset, .unset] [(.int x1)])) _
  refine XS.bipush X.here hx rfl (hb hby at_18) ?_
  show Steps p.tables e below (T.setTop (mkF m 20 #[.val (.int x0), .val (.int x1), .val (.int x2), .val (.long x3), .second, .unset, .unset] [(.int (30 : Int32)), (.int x1)])) _
  by_cases hc : x1 = (30 : Int32)
  · refine XS.icmpNo X.here hx rfl (hb hby at_20) rfl (teq hc).2 ?_
    rw [show f0_17 x0 x1 x2 x3 = f0_23 x0 x1 x2 x3 from if_pos hc] at hr; exact b0_23 X hx hby hw hZ hown hret x0 x1 x2 x3 hr
  · refine XS.icmpYes X.here hx rfl (pc0 := 20) (pc' := 37) rfl (hb hby at_20) rfl (feq hc).2 (by decide) (by decide) ?_
    rw [show f0_17 x0 x1 x2 x3 = f0_37 x0 x1 x2 x3 from if_neg hc] at hr; exact b0_37 X hx hby hw hZ hown hret x0 x1 x2 x3 hr
theorem own_fin (a : Int32) (n : Fin 31) : ∀ k : Int32, k = Int32.ofNat n.val → f0_17 a k ((1 : Int32) <<< (k &&& 31)) (f1_0 ((1 : Int32) <<< (k &&& 31))) = 1 := by
  intro k hk
  simp only [f1_0, f1_6, f1_13, f1_24, f0_17, f0_23, f0_31, f0_35, f0_36, f0_37, f0_43, f0_50, f0_52, f0_71, f0_86, f0_90, f0_91]
  subst hk
  revert n
  decide +kernel
theorem own_rem (y : Int32) (h : 0 ≤ y.toInt) : (y - (y / 31) * 31).toInt = y.toInt % 31 := by
  have h31 : (31 : Int32).toInt = 31 := by decide
  have hd : (y / 31).toInt = y.toInt / 31 := by
    rw [Jvm.Kit.i32_div (by rw [h31]; omega), h31, Int.tdiv_eq_ediv_of_nonneg h]
  have hy := y.toInt_lt
  have hm : ((y / 31) * 31).toInt = y.toInt / 31 * 31 := by
    rw [Jvm.Kit.i32_mul (by rw [hd, h31]; omega) (by rw [hd, h31]; omega), hd, h31]
  rw [Jvm.Kit.i32_sub (by rw [hm]; omega) (by rw [hm]; omega), hm]; omega
theorem own_law (x0 : Int32) : f0_17 x0 ((x0 &&& (2147483647 : Int32)) - ((x0 &&& (2147483647 : Int32)) / (31 : Int32)) * (31 : Int32)) ((1 : Int32) <<< (((x0 &&& (2147483647 : Int32)) - ((x0 &&& (2147483647 : Int32)) / (31 : Int32)) * (31 : Int32)) &&& 31)) (f1_0 ((1 : Int32) <<< (((x0 &&& (2147483647 : Int32)) - ((x0 &&& (2147483647 : Int32)) / (31 : Int32)) * (31 : Int32)) &&& 31))) = 1 := by
  have e : (x0 &&& 2147483647).toInt = x0.toInt % 2 ^ 31 := Jvm.Kit.i32_mask x0 2147483647 (k := 31) (by decide) (by decide)
  have r := own_rem (x0 &&& 2147483647) (by omega)
  refine own_fin _ ⟨((x0 &&& 2147483647).toInt % 31).toNat, by omega⟩ _ ?_
  apply Int32.toInt_inj.mp
  rw [Int32.toInt_ofNat_of_lt (by simp only []; omega), r]
  simp only []; omega
theorem pd_0 : parseMethodDescriptor "(I)J" = some ⟨[.int], some .long⟩ := by decide +kernel
theorem pn_0 : plainName "com/example/binlock/binlock/TableSizesGrowthThresholdPinLaw" = true := by first | (simp [plainName, overriddenIn]; done) | decide +kernel
theorem ef_0 (m : MethodId) (x0 : Int32) : entryFrame m #[(.int x0)] maxLocals = (mkF m 0 #[.val (.int x0), .unset, .unset, .unset, .unset, .unset, .unset] []) := by first | (simp [entryFrame, mkF, argsToLocals, Value.category, maxLocals]; done) | rfl
def Q0 (Z : State) (x0 : Int32) (h0 : Heap) (n0 : Nat) (v : Option Value) (h : Heap) (L : List Loc) : Prop := v = some (.int (1 : Int32)) ∧ Fr n0 L
set_option maxRecDepth 65536 in
set_option maxHeartbeats 40000000 in
theorem rm0 (l : Launch) (Z : State) (a0 : Array Value) (hw : ∀ d ∈ tables_1, d.before a0 Z = true) (ws : List Jvm.Cond) (x0 : Int32) (h0 : Heap) (n0 : Nat) (Z0 : n0 ≤ h0.size) :
    MetFree l x (head1 (Jvm.Cond.code x code maxLocals ret :: ws) room_1) (fun a U => a = #[(.int x0)] ∧ Z.Warmed39 U.vm ∧ U.heap = h0) (fun _ _ _ _ _ => True) (fun _ U o U' => ∃ v L, o = .returned v ∧ Q0 Z x0 h0 n0 v U'.heap L ∧ FrameEnd U o U' L room_1.cells room_1.slots) := by
  refine MetFree.of_bodySF (plainFor_of_name pn_0) hisR ?_
  intro p e s m args below meth c s₁ Bd hml0 hP hK
  obtain ⟨rfl, hZ, hh⟩ := hP
  have hx := Bd.exec
  have hby := Bd.bytes
  have hml : c.maxLocals = 7 := hml0
  have hown : s.vm.findClass "com/example/binlock/binlock/TableSizesGrowthThresholdPinLaw" = some m.cls := findClass_of_methodNamed Bd.named
  have hnm := (name_of_methodNamed Bd.named Bd.method).1
  have X0 : Stand p l e room_1 s m #[(.int x0)] below meth c s₁ [] 0 0 := Stand.of_body Bd
  have e0 : s₁.heap = h0 := by rw [← hh, Bd.state]; rfl
  have N0 := Fr.nil n0
  have pre0 : ∀ t, Steps p.tables e below (s₁.setTop (mkF m 0 #[.val (.int x0), .unset, .unset, .unset, .unset, .unset, .unset] [])) t → Steps p.tables e below (s₁.setTop (entryFrame m #[(.int x0)] maxLocals)) t := fun t k => castTop (ef_0 m x0) k
  obtain ⟨_, _, ⟨T1, L1, k1, n1⟩, -, X1, ⟨Lc1, hQ1, l1, y1, z1⟩, st1⟩ := Jvm.LawKit.callS X0 hx (y := (⟨"com/example/binlock/binlock/TableSizes", "growthThreshold", "(I)J"⟩ : MethodName)) hown (mvT hZ (hw _ (List.mem_of_getElem? (i := 1) rfl))) (mvT hZ (hw _ (List.mem_of_getElem? (i := 2) rfl))) (mvT hZ (hw _ (List.mem_of_getElem? (i := 3) rfl))) (mvT hZ (hw _ (List.mem_of_getElem? (i := 4) rfl))) (by decide) (backOf (W := 0) (rm1 l Z a0 hw [] ((1 : Int32) <<< (((x0 &&& (2147483647 : Int32)) - ((x0 &&& (2147483647 : Int32)) / (31 : Int32)) * (31 : Int32)) &&& 31)) h0 n0 Z0) hZ (hw _ (List.mem_of_getElem? (i := 4) rfl)) (hw _ (List.mem_of_getElem? (i := 3) rfl)) (by decide) (by decide)) (g := (mkF m 13 #[.val (.int x0), .val (.int ((x0 &&& (2147483647 : Int32)) - ((x0 &&& (2147483647 : Int32)) / (31 : Int32)) * (31 : Int32))), .val (.int ((1 : Int32) <<< (((x0 &&& (2147483647 : Int32)) - ((x0 &&& (2147483647 : Int32)) / (31 : Int32)) * (31 : Int32)) &&& 31))), .unset, .unset, .unset, .unset] [(.int ((1 : Int32) <<< (((x0 &&& (2147483647 : Int32)) - ((x0 &&& (2147483647 : Int32)) / (31 : Int32)) * (31 : Int32)) &&& 31)))])) rfl (by rw [hml]; rfl) (argsL := [(.int ((1 : Int32) <<< (((x0 &&& (2147483647 : Int32)) - ((x0 &&& (2147483647 : Int32)) / (31 : Int32)) * (31 : Int32)) &&& 31)))]) (rest := []) (lenOf pd_0 rfl) rfl (by show 2 * 0 + _ ≤ _; exact Nat.le_of_eq rfl) (hb hby at_13) (fun _ _ => ⟨rfl, e0, (by decide : 0 + 0 ≤ _), (by decide : 0 + 0 ≤ _)⟩)
  dsimp only [Pt.U, Pt.locs, Pt.cells, Pt.slots] at X1 l1 y1 z1 st1 hQ1
  subst l1 y1 z1
  obtain ⟨rfl, N1q, e1⟩ := hQ1
  have N1 := Fr.app N0 N1q
  obtain ⟨fs, hr, hrun, hended, hW, hsame⟩ := X1.leave (v := some (.int (1 : Int32))) (fun h => by rw [Bd.returns] at h; cases h)
  refine ⟨_, _, pre0 _ ?_, hrun, hended, _, _, rfl, ?_, ⟨_, rfl⟩, hW, hsame.mono (by decide) (by decide)⟩
  · show Steps p.tables e below (s₁.setTop (mkF m 0 #[.val (.int x0), .unset, .unset, .unset, .unset, .unset, .unset] [])) _
    refine XS.iloadN X0.here hx rfl (hb hby at_0) rfl ?_
    show Steps p.tables e below (s₁.setTop (mkF m 1 #[.val (.int x0), .unset, .unset, .unset, .unset, .unset, .unset] [(.int x0)])) _
    refine X0.ldcInt hx hown (mvT hZ (hw _ (List.mem_of_getElem? (i := 0) rfl))) (g := (mkF m 1 #[.val (.int x0), .unset, .unset, .unset, .unset, .unset, .unset] [(.int x0)])) rfl (hb hby at_1) _ ?_
    show Steps p.tables e below (s₁.setTop (mkF m 3 #[.val (.int x0), .unset, .unset, .unset, .unset, .unset, .unset] [(.int (2147483647 : Int32)), (.int x0)])) _
    refine XS.iand X0.here hx rfl (hb hby at_3) rfl ?_
    show Steps p.tables e below (s₁.setTop (mkF m 4 #[.val (.int x0), .unset, .unset, .unset, .unset, .unset, .unset] [(.int (x0 &&& (2147483647 : Int32)))])) _
    refine XS.bipush X0.here hx rfl (hb hby at_4) ?_
    show Steps p.tables e below (s₁.setTop (mkF m 6 #[.val (.int x0), .unset, .unset, .unset, .unset, .unset, .unset] [(.int (31 : Int32)), (.int (x0 &&& (2147483647 : Int32)))])) _
    refine XS.irem X0.here hx rfl (hb hby at_6) rfl (by decide) ?_
    show Steps p.tables e below (s₁.setTop (mkF m 7 #[.val (.int x0), .unset, .unset, .unset, .unset, .unset, .unset] [(.int ((x0 &&& (2147483647 : Int32)) - ((x0 &&& (2147483647 : Int32)) / (31 : Int32)) * (31 : Int32)))])) _
    refine XS.istoreN X0.here hx rfl (hb hby at_7) rfl (l' := #[.val (.int x0), .val (.int ((x0 &&& (2147483647 : Int32)) - ((x0 &&& (2147483647 : Int32)) / (31 : Int32)) * (31 : Int32))), .unset, .unset, .unset, .unset, .unset]) rfl ?_
    show Steps p.tables e below (s₁.setTop (mkF m 8 #[.val (.int x0), .val (.int ((x0 &&& (2147483647 : Int32)) - ((x0 &&& (2147483647 : Int32)) / (31 : Int32)) * (31 : Int32))), .unset, .unset, .unset, .unset, .unset] [])) _
    refine XS.iconst X0.here hx rfl (hb hby at_8) ?_
    show Steps p.tables e below (s₁.setTop (mkF m 9 #[.val (.int x0), .val (.int ((x0 &&& (2147483647 : Int32)) - ((x0 &&& (2147483647 : Int32)) / (31 : Int32)) * (31 : Int32))), .unset, .unset, .unset, .unset, .unset] [(.int (1 : Int32))])) _
    refine XS.iloadN X0.here hx rfl (hb hby at_9) rfl ?_
    show Steps p.tables e below (s₁.setTop (mkF m 10 #[.val (.int x0), .val (.int ((x0 &&& (2147483647 : Int32)) - ((x0 &&& (2147483647 : Int32)) / (31 : Int32)) * (31 : Int32))), .unset, .unset, .unset, .unset, .unset] [(.int ((x0 &&& (2147483647 : Int32)) - ((x0 &&& (2147483647 : Int32)) / (31 : Int32)) * (31 : Int32))), (.int (1 : Int32))])) _
    refine XS.ishl X0.here hx rfl (hb hby at_10) rfl ?_
    show Steps p.tables e below (s₁.setTop (mkF m 11 #[.val (.int x0), .val (.int ((x0 &&& (2147483647 : Int32)) - ((x0 &&& (2147483647 : Int32)) / (31 : Int32)) * (31 : Int32))), .unset, .unset, .unset, .unset, .unset] [(.int ((1 : Int32) <<< (((x0 &&& (2147483647 : Int32)) - ((x0 &&& (2147483647 : Int32)) / (31 : Int32)) * (31 : Int32)) &&& 31)))])) _
    refine XS.istoreN X0.here hx rfl (hb hby at_11) rfl (l' := #[.val (.int x0), .val (.int ((x0 &&& (2147483647 : Int32)) - ((x0 &&& (2147483647 : Int32)) / (31 : Int32)) * (31 : Int32))), .val (.int ((1 : Int32) <<< (((x0 &&& (2147483647 : Int32)) - ((x0 &&& (2147483647 : Int32)) / (31 : Int32)) * (31 : Int32)) &&& 31))), .unset, .unset, .unset, .unset]) rfl ?_
    show Steps p.tables e below (s₁.setTop (mkF m 12 #[.val (.int x0), .val (.int ((x0 &&& (2147483647 : Int32)) - ((x0 &&& (2147483647 : Int32)) / (31 : Int32)) * (31 : Int32))), .val (.int ((1 : Int32) <<< (((x0 &&& (2147483647 : Int32)) - ((x0 &&& (2147483647 : Int32)) / (31 : Int32)) * (31 : Int32)) &&& 31))), .unset, .unset, .unset, .unset] [])) _
    refine XS.iloadN X0.here hx rfl (hb hby at_12) rfl ?_
    show Steps p.tables e below (s₁.setTop (mkF m 13 #[.val (.int x0), .val (.int ((x0 &&& (2147483647 : Int32)) - ((x0 &&& (2147483647 : Int32)) / (31 : Int32)) * (31 : Int32))), .val (.int ((1 : Int32) <<< (((x0 &&& (2147483647 : Int32)) - ((x0 &&& (2147483647 : Int32)) / (31 : Int32)) * (31 : Int32)) &&& 31))), .unset, .unset, .unset, .unset] [(.int ((1 : Int32) <<< (((x0 &&& (2147483647 : Int32)) - ((x0 &&& (2147483647 : Int32)) / (31 : Int32)) * (31 : Int32)) &&& 31)))])) _
    refine st1 _ ?_
    show Steps p.tables e below (T1.setTop (mkF m 16 #[.val (.int x0), .val (.int ((x0 &&& (2147483647 : Int32)) - ((x0 &&& (2147483647 : Int32)) / (31 : Int32)) * (31 : Int32))), .val (.int ((1 : Int32) <<< (((x0 &&& (2147483647 : Int32)) - ((x0 &&& (2147483647 : Int32)) / (31 : Int32)) * (31 : Int32)) &&& 31))), .unset, .unset, .unset, .unset] [(.long (f1_0 ((1 : Int32) <<< (((x0 &&& (2147483647 : Int32)) - ((x0 &&& (2147483647 : Int32)) / (31 : Int32)) * (31 : Int32)) &&& 31))))])) _
    refine XS.lstoreN X1.here hx rfl (hb hby at_16) rfl (l' := #[.val (.int x0), .val (.int ((x0 &&& (2147483647 : Int32)) - ((x0 &&& (2147483647 : Int32)) / (31 : Int32)) * (31 : Int32))), .val (.int ((1 : Int32) <<< (((x0 &&& (2147483647 : Int32)) - ((x0 &&& (2147483647 : Int32)) / (31 : Int32)) * (31 : Int32)) &&& 31))), .val (.long (f1_0 ((1 : Int32) <<< (((x0 &&& (2147483647 : Int32)) - ((x0 &&& (2147483647 : Int32)) / (31 : Int32)) * (31 : Int32)) &&& 31)))), .second, .unset, .unset]) rfl ?_
    show Steps p.tables e below (T1.setTop (mkF m 17 #[.val (.int x0), .val (.int ((x0 &&& (2147483647 : Int32)) - ((x0 &&& (2147483647 : Int32)) / (31 : Int32)) * (31 : Int32))), .val (.int ((1 : Int32) <<< (((x0 &&& (2147483647 : Int32)) - ((x0 &&& (2147483647 : Int32)) / (31 : Int32)) * (31 : Int32)) &&& 31))), .val (.long (f1_0 ((1 : Int32) <<< (((x0 &&& (2147483647 : Int32)) - ((x0 &&& (2147483647 : Int32)) / (31 : Int32)) * (31 : Int32)) &&& 31)))), .second, .unset, .unset] [])) _
    exact b0_17 X1 hx hby hw hZ hown Bd.returns x0 ((x0 &&& (2147483647 : Int32)) - ((x0 &&& (2147483647 : Int32)) / (31 : Int32)) * (31 : Int32)) ((1 : Int32) <<< (((x0 &&& (2147483647 : Int32)) - ((x0 &&& (2147483647 : Int32)) / (31 : Int32)) * (31 : Int32)) &&& 31)) (f1_0 ((1 : Int32) <<< (((x0 &&& (2147483647 : Int32)) - ((x0 &&& (2147483647 : Int32)) / (31 : Int32)) * (31 : Int32)) &&& 31))) (by rw [show f0_17 x0 ((x0 &&& (2147483647 : Int32)) - ((x0 &&& (2147483647 : Int32)) / (31 : Int32)) * (31 : Int32)) ((1 : Int32) <<< (((x0 &&& (2147483647 : Int32)) - ((x0 &&& (2147483647 : Int32)) / (31 : Int32)) * (31 : Int32)) &&& 31)) (f1_0 ((1 : Int32) <<< (((x0 &&& (2147483647 : Int32)) - ((x0 &&& (2147483647 : Int32)) / (31 : Int32)) * (31 : Int32)) &&& 31))) = (1 : Int32) from own_law x0]; exact hr)
  · exact ⟨rfl, N1⟩
set_option maxRecDepth 65536 in
set_option maxHeartbeats 40000000 in
theorem comes_1 {Post : Tables → Env → Array Value → State → Outcome → State → Prop} (hpost : ∀ tb e args s v u, (limb_1_1.after args s (.returned v) u = true ∧ limb_1_2.after args s (.returned v) u = true ∧ True) → FrameEnd s (.returned v) u (Jvm.fieldLocs frame_1_writes args s ++ Jvm.arrayLocs frame_1_arrays args s ++ Jvm.staticLocs frame_1_statics s) 0 0 → Post tb e args s (.returned v) u) :
    ArmFor flags0 classFile x code maxLocals ret World_1 tables_1 room_1 Calls_1 rest_1 Pre_1 Post := by
  intro l hfl _ _ p e ha hc hk s m args below hf hA hF happ hP
  obtain ⟨hcalls, hrest, hpre⟩ := hP
  obtain ⟨-, -, -, hnamed, -, -, -, hat⟩ := (Spec.applies_iff hf).mp happ
  obtain ⟨hg, hn⟩ := and_e (Cond.before_iff.mp (show (Jvm.Cond.and given_1 narrow_1).before args s = true from hpre))
  obtain ⟨g0, r0⟩ := and_e hg
  obtain ⟨w0, rfl⟩ : ∃ w0 : Value, args = #[w0] := by
    have hs : args.size = 1 := by simpa [Cond.value, given_1] using g0
    obtain ⟨L⟩ := args
    match L, hs with
    | [w0], _ => exact ⟨w0, rfl⟩
  have hw := fun d (hd : d ∈ tables_1) => atoms_spec (ws := Jvm.Cond.code x code maxLocals ret :: tables_1) hat d (List.mem_cons_of_mem _ hd)
  obtain ⟨i0, ei0⟩ := is_v r0
  obtain rfl : w0 = (.int i0) := Option.some.inj ei0
  obtain ⟨n, o, h1, h2, h3, _, L, rfl, ⟨rfl, N⟩, hq⟩ := rm0 l s _ hw tables_1 i0 s.heap s.heap.size (Nat.le_refl _) p e ha hc hk s m _ below hf ((Spec.applies_iff_loose hf).mp happ).1 ⟨rfl, State.Warmed39.refl s, rfl⟩ trivial
  refine ⟨n, _, h1, h2, h3, hpost _ _ _ _ _ _ ⟨Cond.after_iff.mpr rfl, Cond.after_iff.mpr (eq_i res_at (Term.int_eval (1)) rfl), trivial⟩ ⟨hq.1, hq.2.1, (hq.2.2.sift fun y hy => Or.inr (N y hy)).mono (by decide) (by decide)⟩⟩
theorem main_1_1 : Claimed_1_1 := comes_1 fun _ _ _ _ _ _ h hF => ⟨h.1, hF⟩
theorem main_1_2 : Claimed_1_2 := comes_1 fun _ _ _ _ _ _ h hF => ⟨h.2.1, hF⟩
end Jvm.Pilot.@@N@@
namespace Jvm.Pilot.@@N@@
open Jvm Jvm.ClassFile Sem Op Lib Jvm.Free Jvm.Stand Jvm.Pilot.@@N@@.Jvm.D
/-! MADE BY PROGRAM (witnessworld.py) out of the Statement's table words and the real class files: 7 classes; the members and pool entries that the words name. The judged class is class 1, her method 1. -/
namespace start1
open Jvm.ClassFile
def u (s : String) : CpInfo := .utf8 (stringToUtf16 s)
/-- a pool by its gaps: so many unusable entries, then the entry; so many at the end -/
def gap : Nat → List CpInfo → List CpInfo
  | 0, r => r
  | n + 1, r => .unusable :: gap n r
def poolList (es : List (Nat × CpInfo)) (last : Nat) : List CpInfo := es.foldr (fun e r => gap e.1 (e.2 :: r)) (gap last [])
def pool (es : List (Nat × CpInfo)) (last : Nat) : Array CpInfo := ⟨poolList es last⟩
def fileOf (pool : Array CpInfo) (this : Nat) (attrs : Array Attribute := #[]) (ms : Array MethodInfo := #[]) (fl : Nat := 33) (sup : Nat := 0) (ifs : Array Nat := #[]) (fds : Array FieldInfo := #[]) : ClassFile where
  minorVersion := 0
  majorVersion := 65
  constantPool := pool
  accessFlags := fl
  thisClass := this
  superClass := sup
  interfaces := ifs
  fields := fds
  methods := ms
  attributes := attrs
def plain (name : String) (sup : Option ClassId) : Class where
  name := name
  kind := .ordinary
  loader := none
  accessFlags := 33
  super := sup
  interfaces := #[]
  cf := none
  fields := #[]
  methods := #[]
  instanceTypes := #[]
  staticTypes := #[]
  resolved := #[]
  callSites := []
  init := .initialized
  statics := none
  mirror := none

def pool0 : Array CpInfo := pool [(5, u "<init>"), (0, u "()V"), (1, .class_ 10), (1, u "java/lang/Object")] 113

def k0m0 : Method := { name := "<init>", desc := "()V", sig := { parameters := [], returnType := none }, accessFlags := 1, code := none }
/-- java/lang/Object -/
def k0 : Class := { plain "java/lang/Object" none with
  accessFlags := 33
  interfaces := #[]
  cf := some (fileOf pool0 8 #[] #[{ accessFlags := 1, nameIndex := 5, descriptorIndex := 6, attributes := #[] }] 33 0 #[] #[])
  fields := #[]
  methods := #[k0m0]
  instanceTypes := #[]
  staticTypes := #[]
  resolved := Array.replicate 124 none
  statics := none }

def pool1 : Array CpInfo := pool [(2, .class_ 4), (1, u "java/lang/Object"), (0, u "<init>"), (0, u "()V"), (0, .integer 2147483647), (0, .methodref 9 10), (0, .class_ 11), (0, .nameAndType 12 13), (0, u "com/example/binlock/binlock/TableSizes"), (0, u "growthThreshold"), (0, u "(I)J"), (2, .long 9223372036854775807), (1, .long 3), (1, .long 4), (1, .class_ 23), (0, u "com/example/binlock/binlock/TableSizesGrowthThresholdPinLaw"), (2, u "law"), (0, u "(I)Z")] 3

def k1m0 : Method := { name := "<init>", desc := "()V", sig := { parameters := [], returnType := none }, accessFlags := 1, code := none }
def k1c1 : Code := { maxStack := 6, maxLocals := 7, code := code, exceptionTable := #[], attributes := #[] }
def k1m1 : Method := { name := "law", desc := "(I)Z", sig := { parameters := [.int], returnType := some .boolean }, accessFlags := 9, code := some k1c1 }
/-- com/example/binlock/binlock/TableSizesGrowthThresholdPinLaw -/
def k1 : Class := { plain "com/example/binlock/binlock/TableSizesGrowthThresholdPinLaw" (some 0) with
  accessFlags := 49
  interfaces := #[]
  cf := some (fileOf pool1 22 #[] #[{ accessFlags := 1, nameIndex := 5, descriptorIndex := 6, attributes := #[] }, { accessFlags := 9, nameIndex := 26, descriptorIndex := 27, attributes := #[] }] 49 2 #[] #[])
  fields := #[]
  methods := #[k1m0, k1m1]
  instanceTypes := #[]
  staticTypes := #[]
  resolved := Array.replicate 31 none
  statics := none }

def pool2 : Array CpInfo := pool [(2, .class_ 4), (1, u "java/lang/Object"), (0, u "<init>"), (0, u "()V"), (10, .class_ 19), (1, u "com/example/binlock/binlock/TableSizes"), (17, .integer 1073741824), (2, .long 9223372036854775807), (1, .long 3), (1, .long 4), (9, u "MAXIMUM_BINS"), (0, u "I"), (1, u "DEFAULT_BINS"), (7, u "growthThreshold"), (0, u "(I)J")] 23

def k2m0 : Method := { name := "<init>", desc := "()V", sig := { parameters := [], returnType := none }, accessFlags := 2, code := none }
def k2c1 : Code := { maxStack := 4, maxLocals := 3, code := prog_24_method_4_code, exceptionTable := #[], attributes := #[] }
def k2m1 : Method := { name := "growthThreshold", desc := "(I)J", sig := { parameters := [.int], returnType := some .long }, accessFlags := 8, code := some k2c1 }
/-- com/example/binlock/binlock/TableSizes -/
def k2 : Class := { plain "com/example/binlock/binlock/TableSizes" (some 0) with
  accessFlags := 48
  interfaces := #[]
  cf := some (fileOf pool2 17 #[] #[{ accessFlags := 2, nameIndex := 5, descriptorIndex := 6, attributes := #[] }, { accessFlags := 8, nameIndex := 65, descriptorIndex := 66, attributes := #[] }] 48 2 #[] #[{ accessFlags := 24, nameIndex := 54, descriptorIndex := 55, attributes := #[] }, { accessFlags := 24, nameIndex := 57, descriptorIndex := 55, attributes := #[] }])
  fields := #[{ name := "MAXIMUM_BINS", type := .int, accessFlags := 24, slot := 0, constantValue := 0 }, { name := "DEFAULT_BINS", type := .int, accessFlags := 24, slot := 1, constantValue := 0 }]
  methods := #[k2m0, k2m1]
  instanceTypes := #[]
  staticTypes := #[.int, .int]
  resolved := Array.replicate 90 none
  statics := none }

def pool3 : Array CpInfo := pool [(1, u "java/lang/Cloneable"), (0, .class_ 1), (0, u "java/lang/Object"), (0, .class_ 3)] 3

/-- java/lang/Cloneable -/
def k3 : Class := { plain "java/lang/Cloneable" (some 0) with
  accessFlags := 1537
  interfaces := #[]
  cf := some (fileOf pool3 2 #[] #[] 1537 4 #[] #[])
  fields := #[]
  methods := #[]
  instanceTypes := #[]
  staticTypes := #[]
  resolved := Array.replicate 8 none
  statics := none }

def pool4 : Array CpInfo := pool [(1, u "java/io/Serializable"), (0, .class_ 1), (0, u "java/lang/Object"), (0, .class_ 3)] 3

/-- java/io/Serializable -/
def k4 : Class := { plain "java/io/Serializable" (some 0) with
  accessFlags := 1537
  interfaces := #[]
  cf := some (fileOf pool4 2 #[] #[] 1537 4 #[] #[])
  fields := #[]
  methods := #[]
  instanceTypes := #[]
  staticTypes := #[]
  resolved := Array.replicate 8 none
  statics := none }

/-- the primitive byte -/
def k5 : Class := { plain "byte" none with kind := .primitive 'B', accessFlags := 0x411 }
/-- [B -/
def k6 : Class := { plain "[B" (some 0) with kind := .array 5 .byte, interfaces := #[3, 4], accessFlags := 1041 }

def heap : Heap := #[]
def classes : Array Class := #[k0, k1, k2, k3, k4, k5, k6]
def interned : List (Array UInt16 × Addr) := []
def slotsUsed : Nat := 0
def theMethod : MethodId := ⟨1, 1⟩
def args0 : Array Value := #[.int 5]
def aboutOver (below : List Frame) : State where
  vm := { classes := classes, interned := interned.toArray }
  heap := heap
  slotsUsed := slotsUsed
  threads := #[{ frames := .invoking theMethod args0 :: below }]
def below0 : List Frame := [.native { method := ⟨0, 0⟩, args := #[] }]
def about1 : State := aboutOver below0
def p0 : Program := .bare "" "" ""
def e0 : Env := launch0.env 0 0 0
theorem w_frames : about1.frames = Frame.invoking theMethod args0 :: below0 := rfl
set_option maxRecDepth 65536 in
theorem w_args : argsFit about1.vm theMethod args0 = true := by decide +kernel
set_option maxRecDepth 65536 in
theorem w_heap : heapFits about1 = true := by decide +kernel
set_option maxRecDepth 65536 in
theorem w_runnable : about1.curStatus? = some .runnable := by decide +kernel
set_option maxRecDepth 65536 in
theorem w_alone : about1.alone = true := by decide +kernel
set_option maxRecDepth 65536 in
theorem w_named : about1.methodNamed? x = some theMethod := by decide +kernel
set_option maxRecDepth 65536 in
theorem w_hears : about1.hears theMethod below0 = true := by decide +kernel
set_option maxRecDepth 65536 in
theorem w_ripe : about1.ripe theMethod args0 below0 = true := by decide +kernel
theorem w_running : about1.status = .running := rfl
set_option maxRecDepth 65536 in
theorem w_room : about1.hasRoom e0.platform room_1 = true :=
  launch0.hasRoom_least _ room_1 (by decide +kernel) (by decide +kernel) (by decide +kernel) (by decide +kernel) (by decide +kernel) (by decide +kernel)
theorem allAtoms_all (ts : List Jvm.Cond) (a : Array Jvm.Value) (st : Jvm.State) : (allAtoms ts).before a st = ts.all (fun c => c.before a st) := by
  induction ts with
  | nil => rfl
  | cons c t ih =>
    show (Jvm.Cond.and c (allAtoms t)).before a st = _
    rw [Jvm.Cond.before_and, ih, List.all_cons]
def words1 : List Jvm.Cond := Jvm.Cond.code x code maxLocals ret :: tables_1
/-- a 'code' word, met by the world's own term for the bytes: nothing is compared byte by byte -/
theorem code_word {y : MethodName} {bytes : ByteArray} {mx : Nat} {rt : Option FieldType} {a : Array Value} {s : State} {m : MethodId} {meth : Method} {c : Code} (h1 : s.methodNamed? y = some m) (h2 : s.vm.method? m = some meth) (h3 : meth.code = some c) (h4 : c.code = bytes)
    (h5 : (c.maxLocals == mx && c.exceptionTable.isEmpty && decide (c.maxStack ≤ mostOperands) && decide (meth.sig.returnType = rt) && !meth.locks && decide (parseMethodDescriptor y.desc = some meth.sig)) = true) : (Jvm.Cond.code y bytes mx rt).before a s = true := by
  simp only [Bool.and_eq_true, beq_iff_eq, Bool.not_eq_true', decide_eq_true_eq] at h5
  obtain ⟨⟨⟨⟨⟨g1, g2⟩, g3⟩, g4⟩, g5⟩, g6⟩ := h5
  simp [Cond.before, Cond.holds, Cond.value, h1, h2, h3, h4, g1, g2, g3, g4, g5, g6]
def isCode : Jvm.Cond → Bool
  | .code _ _ _ _ => true
  | _ => false
theorem all_split {L : List Jvm.Cond} {P : Jvm.Cond → Bool} (h1 : L.all (fun c => isCode c || P c) = true) (h2 : ∀ c ∈ L.filter isCode, P c = true) : L.all P = true := by
  refine List.all_eq_true.mpr fun c hc => ?_
  have h := List.all_eq_true.mp h1 c hc
  rcases Bool.eq_false_or_eq_true (isCode c) with hi | hi
  · exact h2 c (List.mem_filter.mpr ⟨hc, hi⟩)
  · simpa [hi] using h
set_option maxRecDepth 65536 in
theorem w_c0 : (Jvm.Cond.code x code maxLocals ret).before args0 about1 = true := code_word (m := ⟨1, 1⟩) (meth := k1m1) (c := k1c1) (by decide +kernel) rfl rfl rfl (by decide +kernel)
set_option maxRecDepth 65536 in
theorem w_c1 : (Jvm.Cond.code ({ cls := "com/example/binlock/binlock/TableSizes", name := "growthThreshold", desc := "(I)J" } : Jvm.MethodName) prog_24_method_4_code (3 : Nat) (Option.some Jvm.ClassFile.FieldType.long)).before args0 about1 = true := code_word (m := ⟨2, 1⟩) (meth := k2m1) (c := k2c1) (by decide +kernel) rfl rfl rfl (by decide +kernel)
def codes1 : List Jvm.Cond := [Jvm.Cond.code x code maxLocals ret, Jvm.Cond.code ({ cls := "com/example/binlock/binlock/TableSizes", name := "growthThreshold", desc := "(I)J" } : Jvm.MethodName) prog_24_method_4_code (3 : Nat) (Option.some Jvm.ClassFile.FieldType.long)]
set_option maxRecDepth 65536 in
theorem codes_eq : words1.filter isCode = codes1 := rfl
theorem w_codes : ∀ c ∈ words1.filter isCode, c.before args0 about1 = true := by
  rw [codes_eq]
  intro c hc
  simp only [codes1, List.mem_cons, List.not_mem_nil, or_false] at hc
  rcases hc with rfl | rfl
  · exact w_c0
  · exact w_c1
set_option maxRecDepth 65536 in
theorem w_t1 : words1.all (fun c => isCode c || c.before args0 about1) = true := by decide +kernel
theorem w_tables : (allAtoms (Jvm.Cond.code x code maxLocals ret :: tables_1)).before args0 about1 = true := by
  rw [allAtoms_all]
  show words1.all (fun c => c.before args0 about1) = true
  refine all_split ?_ w_codes
  rw [w_t1]
set_option maxRecDepth 65536 in
theorem w_case : (Jvm.Cond.and given_1 narrow_1).before args0 about1 = true := by decide +kernel
theorem w_applies : (headSpec (Jvm.Cond.code x code maxLocals ret :: tables_1) room_1).applies x e0.platform about1 = true :=
  (Spec.applies_iff w_frames).mpr ⟨w_running, w_runnable, w_alone, w_named, w_hears, w_ripe, w_room, w_tables⟩
theorem atStart : AtStart classFile x code maxLocals ret World_1 tables_1 room_1 Calls_1 rest_1 Pre_1 launch0 p0 e0 about1 theMethod args0 below0 :=
  ⟨lists_1, trivial, launch0.admits_env _ _ _, launch0.least_env, fairChoices_fair.cas, fairChoices_fair.clock, w_frames, w_args, w_heap, w_applies, trivial, trivial, w_case⟩
end start1
theorem witness_1 : WitnessClaimed_1 := ⟨start1.p0, start1.e0, start1.about1, start1.theMethod, start1.args0, start1.below0, start1.atStart⟩
end Jvm.Pilot.@@N@@
