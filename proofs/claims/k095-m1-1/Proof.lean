import JvmDerived
import JvmDerived.Pilot.@@N@@Statement
import JvmDerived.Pilot.@@N@@Code
set_option linter.unusedVariables false
set_option linter.unusedSimpArgs false
@@BLOCK:NumsL.lean.txt@@
namespace Jvm.RoadKit
open Sem ClassFile Op Lib Jvm.Stand Jvm.Free Jvm.LawKit
section New
variable {p : Program} {l : Launch} {e : Env} {R : Room} {s : State} {m : MethodId} {args : Array Value} {below : List Frame} {meth : Method} {c : Code} {T : State} {locs : List Loc} {cells slots : Nat}
theorem retI (X : Stand p l e R s m args below meth c T locs cells slots) (hx : p.tables.exec = Jvm.exec) {pc : Nat} {Ls : Array Slot} {z : Int32} {rest : List Value} (hret : meth.sig.returnType = some .int) (hd : decode c.code pc = .ok (.ireturn, 1)) {fs : List Frame}
    (hl : ∀ (f : JFrame) (acts : List Action), f.method = m → f.locked = none → f.entered = [] → (doReturn e (T.setTop f) acts (some (.int z))).1 = T.setFrames fs) : Steps p.tables e below (T.setTop (mkF m pc Ls (.int z :: rest))) (T.setFrames fs) := by
  have hm' : T.vm.method? m = some meth := X.method'
  have hn : narrow .int (.int z) = .int z := rfl
  show Steps p.tables e below (T.setTop { method := m, pc := pc, locals := Ls, stack := _ :: rest, locked := none }) _
  jvm_step X.here [X.here.top, hx, hd, hm', hret, hn]
  first | (intro acts; rw [hl _ acts rfl rfl rfl]) | rw [hl _ _ rfl rfl rfl]
  exact Steps.refl _
end New
end Jvm.RoadKit
namespace Jvm.Pilot.@@N@@
open Jvm Jvm.ClassFile Sem Op Lib Jvm.Free Jvm.Stand Jvm.LawKit Jvm.RoadKit Bundle Jvm.Pilot.@@N@@.Jvm.D
theorem d1_0 : decode jdk_29_method_69_code 0 = .ok (.iload_n 0, 1) := by decide +kernel
theorem d1_1 : decode jdk_29_method_69_code 1 = .ok (.iload_n 1, 1) := by decide +kernel
theorem d1_2 : decode jdk_29_method_69_code 2 = .ok (.if_icmp .gt 7, 3) := by decide +kernel
theorem d1_5 : decode jdk_29_method_69_code 5 = .ok (.iload_n 0, 1) := by decide +kernel
theorem d1_6 : decode jdk_29_method_69_code 6 = .ok (.goto 4, 3) := by decide +kernel
theorem d1_9 : decode jdk_29_method_69_code 9 = .ok (.iload_n 1, 1) := by decide +kernel
theorem d1_10 : decode jdk_29_method_69_code 10 = .ok (.ireturn, 1) := by decide +kernel
def f1_10 (x0 : Int32) (x1 : Int32) (s0 : Int32) : Int32 := s0
set_option maxRecDepth 65536 in
theorem b1_10 {p : Program} {l : Launch} {e : Env} {R : Room} {s : State} {m : MethodId} {args : Array Value} {below : List Frame} {meth : Method} {c : Code} {T : State} {locs : List Loc} {cells slots : Nat} (X : Stand p l e R s m args below meth c T locs cells slots) (hx : p.tables.exec = Jvm.exec) (hby : c.code = jdk_29_method_69_code) (hret : meth.sig.returnType = some .int) (x0 : Int32) (x1 : Int32) (s0 : Int32) {fs : List Frame} (hr : ∀ (f : JFrame) (acts : List Action), f.method = m → f.locked = none → f.entered = [] → (doReturn e (T.setTop f) acts (some (.int (f1_10 x0 x1 s0)))).1 = T.setFrames fs) :
    Steps p.tables e below (T.setTop (mkF m 10 #[.val (.int x0), .val (.int x1)] [(.int s0)])) (T.setFrames fs) := by
  show Steps p.tables e below (T.setTop (mkF m 10 #[.val (.int x0), .val (.int x1)] [(.int s0)])) _
  exact retI X hx hret (hb hby d1_10) hr
def f1_9 (x0 : Int32) (x1 : Int32) : Int32 := f1_10 x0 x1 x1
set_option maxRecDepth 65536 in
theorem b1_9 {p : Program} {l : Launch} {e : Env} {R : Room} {s : State} {m : MethodId} {args : Array Value} {below : List Frame} {meth : Method} {c : Code} {T : State} {locs : List Loc} {cells slots : Nat} (X : Stand p l e R s m args below meth c T locs cells slots) (hx : p.tables.exec = Jvm.exec) (hby : c.code = jdk_29_method_69_code) (hret : meth.sig.returnType = some .int) (x0 : Int32) (x1 : Int32) {fs : List Frame} (hr : ∀ (f : JFrame) (acts : List Action), f.method = m → f.locked = none → f.entered = [] → (doReturn e (T.setTop f) acts (some (.int (f1_9 x0 x1)))).1 = T.setFrames fs) :
    Steps p.tables e below (T.setTop (mkF m 9 #[.val (.int x0), .val (.int x1)] [])) (T.setFrames fs) := by
  show Steps p.tables e below (T.setTop (mkF m 9 #[.val (.int x0), .val (.int x1)] [])) _
  refine XS.iloadN X.here hx rfl (hb hby d1_9) rfl ?_
  exact b1_10 X hx hby hret x0 x1 x1 hr
def f1_5 (x0 : Int32) (x1 : Int32) : Int32 := f1_10 x0 x1 x0
set_option maxRecDepth 65536 in
theorem b1_5 {p : Program} {l : Launch} {e : Env} {R : Room} {s : State} {m : MethodId} {args : Array Value} {below : List Frame} {meth : Method} {c : Code} {T : State} {locs : List Loc} {cells slots : Nat} (X : Stand p l e R s m args below meth c T locs cells slots) (hx : p.tables.exec = Jvm.exec) (hby : c.code = jdk_29_method_69_code) (hret : meth.sig.returnType = some .int) (x0 : Int32) (x1 : Int32) {fs : List Frame} (hr : ∀ (f : JFrame) (acts : List Action), f.method = m → f.locked = none → f.entered = [] → (doReturn e (T.setTop f) acts (some (.int (f1_5 x0 x1)))).1 = T.setFrames fs) :
    Steps p.tables e below (T.setTop (mkF m 5 #[.val (.int x0), .val (.int x1)] [])) (T.setFrames fs) := by
  show Steps p.tables e below (T.setTop (mkF m 5 #[.val (.int x0), .val (.int x1)] [])) _
  refine XS.iloadN X.here hx rfl (hb hby d1_5) rfl ?_
  show Steps p.tables e below (T.setTop (mkF m 6 #[.val (.int x0), .val (.int x1)] [(.int x0)])) _
  refine XS.goto X.here hx rfl (pc0 := 6) (pc' := 10) rfl (hb hby d1_6) (by decide) (by decide) ?_
  exact b1_10 X hx hby hret x0 x1 x0 hr
def f1_0 (x0 : Int32) (x1 : Int32) : Int32 := if x1 < x0 then f1_9 x0 x1 else f1_5 x0 x1
set_option maxRecDepth 65536 in
theorem b1_0 {p : Program} {l : Launch} {e : Env} {R : Room} {s : State} {m : MethodId} {args : Array Value} {below : List Frame} {meth : Method} {c : Code} {T : State} {locs : List Loc} {cells slots : Nat} (X : Stand p l e R s m args below meth c T locs cells slots) (hx : p.tables.exec = Jvm.exec) (hby : c.code = jdk_29_method_69_code) (hret : meth.sig.returnType = some .int) (x0 : Int32) (x1 : Int32) {fs : List Frame} (hr : ∀ (f : JFrame) (acts : List Action), f.method = m → f.locked = none → f.entered = [] → (doReturn e (T.setTop f) acts (some (.int (f1_0 x0 x1)))).1 = T.setFrames fs) :
    Steps p.tables e below (T.setTop (mkF m 0 #[.val (.int x0), .val (.int x1)] [])) (T.setFrames fs) := by
  show Steps p.tables e below (T.setTop (mkF m 0 #[.val (.int x0), .val (.int x1)] [])) _
  refine XS.iloadN X.here hx rfl (hb hby d1_0) rfl ?_
  show Steps p.tables e below (T.setTop (mkF m 1 #[.val (.int x0), .val (.int x1)] [(.int x0)])) _
  refine XS.iloadN X.here hx rfl (hb hby d1_1) rfl ?_
  show Steps p.tables e below (T.setTop (mkF m 2 #[.val (.int x0), .val (.int x1)] [(.int x1), (.int x0)])) _
  by_cases hc : x1 < x0
  · refine XS.icmpYes X.here hx rfl (pc0 := 2) (pc' := 9) rfl (hb hby d1_2) rfl (tlt hc).2.2.1 (by decide) (by decide) ?_
    rw [show f1_0 x0 x1 = f1_9 x0 x1 from if_pos hc] at hr; exact b1_9 X hx hby hret x0 x1 hr
  · refine XS.icmpNo X.here hx rfl (hb hby d1_2) rfl (flt hc).2.2.1 ?_
    rw [show f1_0 x0 x1 = f1_5 x0 x1 from if_neg hc] at hr; exact b1_5 X hx hby hret x0 x1 hr
theorem ef_1 (m : MethodId) (x0 : Int32) (x1 : Int32) : entryFrame m #[(.int x0), (.int x1)] 2 = (mkF m 0 #[.val (.int x0), .val (.int x1)] []) := by first | (simp [entryFrame, mkF, argsToLocals, Value.category]; done) | rfl
def Q1 (Z : State) (x0 : Int32) (x1 : Int32) (h0 : Heap) (n0 : Nat) (v : Option Value) (h : Heap) (L : List Loc) : Prop := v = some (.int (f1_0 x0 x1)) ∧ Fr n0 L ∧ h = h0
set_option maxRecDepth 65536 in
set_option maxHeartbeats 40000000 in
theorem rm1 (l : Launch) (Z : State) (a0 : Array Value) (hw : ∀ d ∈ tables_1, d.before a0 Z = true) (ws : List Jvm.Cond) (x0 : Int32) (x1 : Int32) (h0 : Heap) (n0 : Nat) (Z0 : n0 ≤ h0.size) :
    MetFree l (⟨"java/lang/Math", "min", "(II)I"⟩ : MethodName) (head1 (Jvm.Cond.code (⟨"java/lang/Math", "min", "(II)I"⟩ : MethodName) jdk_29_method_69_code 2 (some .int) :: ws) ({ frames := 0, cells := 0, slots := 0, locals := 0 } : Room)) (fun a U => a = #[(.int x0), (.int x1)] ∧ Z.Warmed39 U.vm ∧ U.heap = h0) (fun _ _ _ _ _ => True) (fun _ U o U' => ∃ v L, o = .returned v ∧ Q1 Z x0 x1 h0 n0 v U'.heap L ∧ FrameEnd U o U' L ({ frames := 0, cells := 0, slots := 0, locals := 0 } : Room).cells ({ frames := 0, cells := 0, slots := 0, locals := 0 } : Room).slots) := by
  refine MetFree.of_bodySF (Jvm.Free.JP.mathPlain rfl (by decide +kernel)) hisR ?_
  intro p e s m args below meth c s₁ Bd hml0 hP hK
  obtain ⟨rfl, hZ, hh⟩ := hP
  have hx := Bd.exec
  have hby := Bd.bytes
  have hown : s.vm.findClass "java/lang/Math" = some m.cls := findClass_of_methodNamed Bd.named
  have X0 : Stand p l e ({ frames := 0, cells := 0, slots := 0, locals := 0 } : Room) s m #[(.int x0), (.int x1)] below meth c s₁ [] 0 0 := Stand.of_body Bd
  have e0 : s₁.heap = h0 := by rw [← hh, Bd.state]; rfl
  have N0 := Fr.nil n0
  have pre0 : ∀ t, Steps p.tables e below (s₁.setTop (mkF m 0 #[.val (.int x0), .val (.int x1)] [])) t → Steps p.tables e below (s₁.setTop (entryFrame m #[(.int x0), (.int x1)] 2)) t := fun t k => castTop (ef_1 m x0 x1) k
  obtain ⟨fs, hr, hrun, hended, hW, hsame⟩ := X0.leave (v := some (.int (f1_0 x0 x1))) (fun h => by rw [Bd.returns] at h; cases h)
  refine ⟨_, _, pre0 _ ?_, hrun, hended, _, _, rfl, ?_, ⟨_, rfl⟩, hW, hsame.mono (by decide) (by decide)⟩
  · exact b1_0 X0 hx hby Bd.returns x0 x1 hr
  · show Q1 Z x0 x1 h0 n0 _ s₁.heap _
    rw [e0]
    exact ⟨rfl, N0, rfl⟩
theorem d2_0 : decode jdk_29_method_65_code 0 = .ok (.iload_n 0, 1) := by decide +kernel
theorem d2_1 : decode jdk_29_method_65_code 1 = .ok (.iload_n 1, 1) := by decide +kernel
theorem d2_2 : decode jdk_29_method_65_code 2 = .ok (.if_icmp .lt 7, 3) := by decide +kernel
theorem d2_5 : decode jdk_29_method_65_code 5 = .ok (.iload_n 0, 1) := by decide +kernel
theorem d2_6 : decode jdk_29_method_65_code 6 = .ok (.goto 4, 3) := by decide +kernel
theorem d2_9 : decode jdk_29_method_65_code 9 = .ok (.iload_n 1, 1) := by decide +kernel
theorem d2_10 : decode jdk_29_method_65_code 10 = .ok (.ireturn, 1) := by decide +kernel
def f2_10 (x0 : Int32) (x1 : Int32) (s0 : Int32) : Int32 := s0
set_option maxRecDepth 65536 in
theorem b2_10 {p : Program} {l : Launch} {e : Env} {R : Room} {s : State} {m : MethodId} {args : Array Value} {below : List Frame} {meth : Method} {c : Code} {T : State} {locs : List Loc} {cells slots : Nat} (X : Stand p l e R s m args below meth c T locs cells slots) (hx : p.tables.exec = Jvm.exec) (hby : c.code = jdk_29_method_65_code) (hret : meth.sig.returnType = some .int) (x0 : Int32) (x1 : Int32) (s0 : Int32) {fs : List Frame} (hr : ∀ (f : JFrame) (acts : List Action), f.method = m → f.locked = none → f.entered = [] → (doReturn e (T.setTop f) acts (some (.int (f2_10 x0 x1 s0)))).1 = T.setFrames fs) :
    Steps p.tables e below (T.setTop (mkF m 10 #[.val (.int x0), .val (.int x1)] [(.int s0)])) (T.setFrames fs) := by
  show Steps p.tables e below (T.setTop (mkF m 10 #[.val (.int x0), .val (.int x1)] [(.int s0)])) _
  exact retI X hx hret (hb hby d2_10) hr
def f2_9 (x0 : Int32) (x1 : Int32) : Int32 := f2_10 x0 x1 x1
set_option maxRecDepth 65536 in
theorem b2_9 {p : Program} {l : Launch} {e : Env} {R : Room} {s : State} {m : MethodId} {args : Array Value} {below : List Frame} {meth : Method} {c : Code} {T : State} {locs : List Loc} {cells slots : Nat} (X : Stand p l e R s m args below meth c T locs cells slots) (hx : p.tables.exec = Jvm.exec) (hby : c.code = jdk_29_method_65_code) (hret : meth.sig.returnType = some .int) (x0 : Int32) (x1 : Int32) {fs : List Frame} (hr : ∀ (f : JFrame) (acts : List Action), f.method = m → f.locked = none → f.entered = [] → (doReturn e (T.setTop f) acts (some (.int (f2_9 x0 x1)))).1 = T.setFrames fs) :
    Steps p.tables e below (T.setTop (mkF m 9 #[.val (.int x0), .val (.int x1)] [])) (T.setFrames fs) := by
  show Steps p.tables e below (T.setTop (mkF m 9 #[.val (.int x0), .val (.int x1)] [])) _
  refine XS.iloadN X.here hx rfl (hb hby d2_9) rfl ?_
  exact b2_10 X hx hby hret x0 x1 x1 hr
def f2_5 (x0 : Int32) (x1 : Int32) : Int32 := f2_10 x0 x1 x0
set_option maxRecDepth 65536 in
theorem b2_5 {p : Program} {l : Launch} {e : Env} {R : Room} {s : State} {m : MethodId} {args : Array Value} {below : List Frame} {meth : Method} {c : Code} {T : State} {locs : List Loc} {cells slots : Nat} (X : Stand p l e R s m args below meth c T locs cells slots) (hx : p.tables.exec = Jvm.exec) (hby : c.code = jdk_29_method_65_code) (hret : meth.sig.returnType = some .int) (x0 : Int32) (x1 : Int32) {fs : List Frame} (hr : ∀ (f : JFrame) (acts : List Action), f.method = m → f.locked = none → f.entered = [] → (doReturn e (T.setTop f) acts (some (.int (f2_5 x0 x1)))).1 = T.setFrames fs) :
    Steps p.tables e below (T.setTop (mkF m 5 #[.val (.int x0), .val (.int x1)] [])) (T.setFrames fs) := by
  show Steps p.tables e below (T.setTop (mkF m 5 #[.val (.int x0), .val (.int x1)] [])) _
  refine XS.iloadN X.here hx rfl (hb hby d2_5) rfl ?_
  show Steps p.tables e below (T.setTop (mkF m 6 #[.val (.int x0), .val (.int x1)] [(.int x0)])) _
  refine XS.goto X.here hx rfl (pc0 := 6) (pc' := 10) rfl (hb hby d2_6) (by decide) (by decide) ?_
  exact b2_10 X hx hby hret x0 x1 x0 hr
def f2_0 (x0 : Int32) (x1 : Int32) : Int32 := if x0 < x1 then f2_9 x0 x1 else f2_5 x0 x1
set_option maxRecDepth 65536 in
theorem b2_0 {p : Program} {l : Launch} {e : Env} {R : Room} {s : State} {m : MethodId} {args : Array Value} {below : List Frame} {meth : Method} {c : Code} {T : State} {locs : List Loc} {cells slots : Nat} (X : Stand p l e R s m args below meth c T locs cells slots) (hx : p.tables.exec = Jvm.exec) (hby : c.code = jdk_29_method_65_code) (hret : meth.sig.returnType = some .int) (x0 : Int32) (x1 : Int32) {fs : List Frame} (hr : ∀ (f : JFrame) (acts : List Action), f.method = m → f.locked = none → f.entered = [] → (doReturn e (T.setTop f) acts (some (.int (f2_0 x0 x1)))).1 = T.setFrames fs) :
    Steps p.tables e below (T.setTop (mkF m 0 #[.val (.int x0), .val (.int x1)] [])) (T.setFrames fs) := by
  show Steps p.tables e below (T.setTop (mkF m 0 #[.val (.int x0), .val (.int x1)] [])) _
  refine XS.iloadN X.here hx rfl (hb hby d2_0) rfl ?_
  show Steps p.tables e below (T.setTop (mkF m 1 #[.val (.int x0), .val (.int x1)] [(.int x0)])) _
  refine XS.iloadN X.here hx rfl (hb hby d2_1) rfl ?_
  show Steps p.tables e below (T.setTop (mkF m 2 #[.val (.int x0), .val (.int x1)] [(.int x1), (.int x0)])) _
  by_cases hc : x0 < x1
  · refine XS.icmpYes X.here hx rfl (pc0 := 2) (pc' := 9) rfl (hb hby d2_2) rfl (tlt hc).1 (by decide) (by decide) ?_
    rw [show f2_0 x0 x1 = f2_9 x0 x1 from if_pos hc] at hr; exact b2_9 X hx hby hret x0 x1 hr
  · refine XS.icmpNo X.here hx rfl (hb hby d2_2) rfl (flt hc).1 ?_
    rw [show f2_0 x0 x1 = f2_5 x0 x1 from if_neg hc] at hr; exact b2_5 X hx hby hret x0 x1 hr
theorem ef_2 (m : MethodId) (x0 : Int32) (x1 : Int32) : entryFrame m #[(.int x0), (.int x1)] 2 = (mkF m 0 #[.val (.int x0), .val (.int x1)] []) := by first | (simp [entryFrame, mkF, argsToLocals, Value.category]; done) | rfl
def Q2 (Z : State) (x0 : Int32) (x1 : Int32) (h0 : Heap) (n0 : Nat) (v : Option Value) (h : Heap) (L : List Loc) : Prop := v = some (.int (f2_0 x0 x1)) ∧ Fr n0 L ∧ h = h0
set_option maxRecDepth 65536 in
set_option maxHeartbeats 40000000 in
theorem rm2 (l : Launch) (Z : State) (a0 : Array Value) (hw : ∀ d ∈ tables_1, d.before a0 Z = true) (ws : List Jvm.Cond) (x0 : Int32) (x1 : Int32) (h0 : Heap) (n0 : Nat) (Z0 : n0 ≤ h0.size) :
    MetFree l (⟨"java/lang/Math", "max", "(II)I"⟩ : MethodName) (head1 (Jvm.Cond.code (⟨"java/lang/Math", "max", "(II)I"⟩ : MethodName) jdk_29_method_65_code 2 (some .int) :: ws) ({ frames := 0, cells := 0, slots := 0, locals := 0 } : Room)) (fun a U => a = #[(.int x0), (.int x1)] ∧ Z.Warmed39 U.vm ∧ U.heap = h0) (fun _ _ _ _ _ => True) (fun _ U o U' => ∃ v L, o = .returned v ∧ Q2 Z x0 x1 h0 n0 v U'.heap L ∧ FrameEnd U o U' L ({ frames := 0, cells := 0, slots := 0, locals := 0 } : Room).cells ({ frames := 0, cells := 0, slots := 0, locals := 0 } : Room).slots) := by
  refine MetFree.of_bodySF (Jvm.Free.JP.mathPlain rfl (by decide +kernel)) hisR ?_
  intro p e s m args below meth c s₁ Bd hml0 hP hK
  obtain ⟨rfl, hZ, hh⟩ := hP
  have hx := Bd.exec
  have hby := Bd.bytes
  have hown : s.vm.findClass "java/lang/Math" = some m.cls := findClass_of_methodNamed Bd.named
  have X0 : Stand p l e ({ frames := 0, cells := 0, slots := 0, locals := 0 } : Room) s m #[(.int x0), (.int x1)] below meth c s₁ [] 0 0 := Stand.of_body Bd
  have e0 : s₁.heap = h0 := by rw [← hh, Bd.state]; rfl
  have N0 := Fr.nil n0
  have pre0 : ∀ t, Steps p.tables e below (s₁.setTop (mkF m 0 #[.val (.int x0), .val (.int x1)] [])) t → Steps p.tables e below (s₁.setTop (entryFrame m #[(.int x0), (.int x1)] 2)) t := fun t k => castTop (ef_2 m x0 x1) k
  obtain ⟨fs, hr, hrun, hended, hW, hsame⟩ := X0.leave (v := some (.int (f2_0 x0 x1))) (fun h => by rw [Bd.returns] at h; cases h)
  refine ⟨_, _, pre0 _ ?_, hrun, hended, _, _, rfl, ?_, ⟨_, rfl⟩, hW, hsame.mono (by decide) (by decide)⟩
  · exact b2_0 X0 hx hby Bd.returns x0 x1 hr
  · show Q2 Z x0 x1 h0 n0 _ s₁.heap _
    rw [e0]
    exact ⟨rfl, N0, rfl⟩
theorem d3_0 : decode prog_51_method_4_code 0 = .ok (.iload_n 0, 1) := by decide +kernel
theorem d3_1 : decode prog_51_method_4_code 1 = .ok (.bipush 9, 2) := by decide +kernel
theorem d3_3 : decode prog_51_method_4_code 3 = .ok (.if_icmp .eq 45, 3) := by decide +kernel
theorem d3_6 : decode prog_51_method_4_code 6 = .ok (.iload_n 0, 1) := by decide +kernel
theorem d3_7 : decode prog_51_method_4_code 7 = .ok (.bipush 10, 2) := by decide +kernel
theorem d3_9 : decode prog_51_method_4_code 9 = .ok (.if_icmp .eq 39, 3) := by decide +kernel
theorem d3_12 : decode prog_51_method_4_code 12 = .ok (.iload_n 0, 1) := by decide +kernel
theorem d3_13 : decode prog_51_method_4_code 13 = .ok (.bipush 13, 2) := by decide +kernel
theorem d3_15 : decode prog_51_method_4_code 15 = .ok (.if_icmp .eq 33, 3) := by decide +kernel
theorem d3_18 : decode prog_51_method_4_code 18 = .ok (.iload_n 0, 1) := by decide +kernel
theorem d3_19 : decode prog_51_method_4_code 19 = .ok (.bipush 32, 2) := by decide +kernel
theorem d3_21 : decode prog_51_method_4_code 21 = .ok (.if_icmp .lt 9, 3) := by decide +kernel
theorem d3_24 : decode prog_51_method_4_code 24 = .ok (.iload_n 0, 1) := by decide +kernel
theorem d3_25 : decode prog_51_method_4_code 25 = .ok (.ldc 31, 2) := by decide +kernel
theorem d3_27 : decode prog_51_method_4_code 27 = .ok (.if_icmp .le 21, 3) := by decide +kernel
theorem d3_30 : decode prog_51_method_4_code 30 = .ok (.iload_n 0, 1) := by decide +kernel
theorem d3_31 : decode prog_51_method_4_code 31 = .ok (.ldc 32, 2) := by decide +kernel
theorem d3_33 : decode prog_51_method_4_code 33 = .ok (.if_icmp .lt 9, 3) := by decide +kernel
theorem d3_36 : decode prog_51_method_4_code 36 = .ok (.iload_n 0, 1) := by decide +kernel
theorem d3_37 : decode prog_51_method_4_code 37 = .ok (.ldc 33, 2) := by decide +kernel
theorem d3_39 : decode prog_51_method_4_code 39 = .ok (.if_icmp .le 9, 3) := by decide +kernel
theorem d3_42 : decode prog_51_method_4_code 42 = .ok (.iload_n 0, 1) := by decide +kernel
theorem d3_43 : decode prog_51_method_4_code 43 = .ok (.ldc 34, 2) := by decide +kernel
theorem d3_45 : decode prog_51_method_4_code 45 = .ok (.if_icmp .lt 7, 3) := by decide +kernel
theorem d3_48 : decode prog_51_method_4_code 48 = .ok (.iconst 1, 1) := by decide +kernel
theorem d3_49 : decode prog_51_method_4_code 49 = .ok (.goto 4, 3) := by decide +kernel
theorem d3_52 : decode prog_51_method_4_code 52 = .ok (.iconst 0, 1) := by decide +kernel
theorem d3_53 : decode prog_51_method_4_code 53 = .ok (.ireturn, 1) := by decide +kernel
def f3_53 (x0 : Int32) (s0 : Int32) : Int32 := nar .boolean s0
set_option maxRecDepth 65536 in
theorem b3_53 {p : Program} {l : Launch} {e : Env} {R : Room} {s : State} {m : MethodId} {args : Array Value} {below : List Frame} {meth : Method} {c : Code} {T : State} {locs : List Loc} {cells slots : Nat} (X : Stand p l e R s m args below meth c T locs cells slots) (hx : p.tables.exec = Jvm.exec) (hby : c.code = prog_51_method_4_code) {Z : State} {a0 : Array Value} (hw : ∀ d ∈ tables_1, d.before a0 Z = true) (hZ : Z.Warmed39 s.vm) (hown : s.vm.findClass "com/example/wardrelay/wardrelay/transport/XmlWriter" = some m.cls) (hret : meth.sig.returnType = some .boolean) (x0 : Int32) (s0 : Int32) {fs : List Frame} (hr : ∀ (f : JFrame) (acts : List Action), f.method = m → f.locked = none → f.entered = [] → (doReturn e (T.setTop f) acts (some (.int (f3_53 x0 s0)))).1 = T.setFrames fs) :
    Steps p.tables e below (T.setTop (mkF m 53 #[.val (.int x0)] [(.int s0)])) (T.setFrames fs) := by
  show Steps p.tables e below (T.setTop (mkF m 53 #[.val (.int x0)] [(.int s0)])) _
  exact retN X hx (t := .boolean) hret (by simp) (hb hby d3_53) hr
def f3_52 (x0 : Int32) : Int32 := f3_53 x0 (0 : Int32)
set_option maxRecDepth 65536 in
theorem b3_52 {p : Program} {l : Launch} {e : Env} {R : Room} {s : State} {m : MethodId} {args : Array Value} {below : List Frame} {meth : Method} {c : Code} {T : State} {locs : List Loc} {cells slots : Nat} (X : Stand p l e R s m args below meth c T locs cells slots) (hx : p.tables.exec = Jvm.exec) (hby : c.code = prog_51_method_4_code) {Z : State} {a0 : Array Value} (hw : ∀ d ∈ tables_1, d.before a0 Z = true) (hZ : Z.Warmed39 s.vm) (hown : s.vm.findClass "com/example/wardrelay/wardrelay/transport/XmlWriter" = some m.cls) (hret : meth.sig.returnType = some .boolean) (x0 : Int32) {fs : List Frame} (hr : ∀ (f : JFrame) (acts : List Action), f.method = m → f.locked = none → f.entered = [] → (doReturn e (T.setTop f) acts (some (.int (f3_52 x0)))).1 = T.setFrames fs) :
    Steps p.tables e below (T.setTop (mkF m 52 #[.val (.int x0)] [])) (T.setFrames fs) := by
  show Steps p.tables e below (T.setTop (mkF m 52 #[.val (.int x0)] [])) _
  refine XS.iconst X.here hx rfl (hb hby d3_52) ?_
  exact b3_53 X hx hby hw hZ hown hret x0 (0 : Int32) hr
def f3_48 (x0 : Int32) : Int32 := f3_53 x0 (1 : Int32)
set_option maxRecDepth 65536 in
theorem b3_48 {p : Program} {l : Launch} {e : Env} {R : Room} {s : State} {m : MethodId} {args : Array Value} {below : List Frame} {meth : Method} {c : Code} {T : State} {locs : List Loc} {cells slots : Nat} (X : Stand p l e R s m args below meth c T locs cells slots) (hx : p.tables.exec = Jvm.exec) (hby : c.code = prog_51_method_4_code) {Z : State} {a0 : Array Value} (hw : ∀ d ∈ tables_1, d.before a0 Z = true) (hZ : Z.Warmed39 s.vm) (hown : s.vm.findClass "com/example/wardrelay/wardrelay/transport/XmlWriter" = some m.cls) (hret : meth.sig.returnType = some .boolean) (x0 : Int32) {fs : List Frame} (hr : ∀ (f : JFrame) (acts : List Action), f.method = m → f.locked = none → f.entered = [] → (doReturn e (T.setTop f) acts (some (.int (f3_48 x0)))).1 = T.setFrames fs) :
    Steps p.tables e below (T.setTop (mkF m 48 #[.val (.int x0)] [])) (T.setFrames fs) := by
  show Steps p.tables e below (T.setTop (mkF m 48 #[.val (.int x0)] [])) _
  refine XS.iconst X.here hx rfl (hb hby d3_48) ?_
  show Steps p.tables e below (T.setTop (mkF m 49 #[.val (.int x0)] [(.int (1 : Int32))])) _
  refine XS.goto X.here hx rfl (pc0 := 49) (pc' := 53) rfl (hb hby d3_49) (by decide) (by decide) ?_
  exact b3_53 X hx hby hw hZ hown hret x0 (1 : Int32) hr
def f3_42 (x0 : Int32) : Int32 := if x0 < (65536 : Int32) then f3_52 x0 else f3_48 x0
set_option maxRecDepth 65536 in
theorem b3_42 {p : Program} {l : Launch} {e : Env} {R : Room} {s : State} {m : MethodId} {args : Array Value} {below : List Frame} {meth : Method} {c : Code} {T : State} {locs : List Loc} {cells slots : Nat} (X : Stand p l e R s m args below meth c T locs cells slots) (hx : p.tables.exec = Jvm.exec) (hby : c.code = prog_51_method_4_code) {Z : State} {a0 : Array Value} (hw : ∀ d ∈ tables_1, d.before a0 Z = true) (hZ : Z.Warmed39 s.vm) (hown : s.vm.findClass "com/example/wardrelay/wardrelay/transport/XmlWriter" = some m.cls) (hret : meth.sig.returnType = some .boolean) (x0 : Int32) {fs : List Frame} (hr : ∀ (f : JFrame) (acts : List Action), f.method = m → f.locked = none → f.entered = [] → (doReturn e (T.setTop f) acts (some (.int (f3_42 x0)))).1 = T.setFrames fs) :
    Steps p.tables e below (T.setTop (mkF m 42 #[.val (.int x0)] [])) (T.setFrames fs) := by
  show Steps p.tables e below (T.setTop (mkF m 42 #[.val (.int x0)] [])) _
  refine XS.iloadN X.here hx rfl (hb hby d3_42) rfl ?_
  show Steps p.tables e below (T.setTop (mkF m 43 #[.val (.int x0)] [(.int x0)])) _
  refine X.ldcInt hx hown (mvT hZ (hw _ (List.mem_of_getElem? (i := 18) rfl))) (g := (mkF m 43 #[.val (.int x0)] [(.int x0)])) rfl (hb hby d3_43) _ ?_
  show Steps p.tables e below (T.setTop (mkF m 45 #[.val (.int x0)] [(.int (65536 : Int32)), (.int x0)])) _
  by_cases hc : x0 < (65536 : Int32)
  · refine XS.icmpYes X.here hx rfl (pc0 := 45) (pc' := 52) rfl (hb hby d3_45) rfl (tlt hc).1 (by decide) (by decide) ?_
    rw [show f3_42 x0 = f3_52 x0 from if_pos hc] at hr; exact b3_52 X hx hby hw hZ hown hret x0 hr
  · refine XS.icmpNo X.here hx rfl (hb hby d3_45) rfl (flt hc).1 ?_
    rw [show f3_42 x0 = f3_48 x0 from if_neg hc] at hr; exact b3_48 X hx hby hw hZ hown hret x0 hr
def f3_36 (x0 : Int32) : Int32 := if (65533 : Int32) < x0 then f3_42 x0 else f3_48 x0
set_option maxRecDepth 65536 in
theorem b3_36 {p : Program} {l : Launch} {e : Env} {R : Room} {s : State} {m : MethodId} {args : Array Value} {below : List Frame} {meth : Method} {c : Code} {T : State} {locs : List Loc} {cells slots : Nat} (X : Stand p l e R s m args below meth c T locs cells slots) (hx : p.tables.exec = Jvm.exec) (hby : c.code = prog_51_method_4_code) {Z : State} {a0 : Array Value} (hw : ∀ d ∈ tables_1, d.before a0 Z = true) (hZ : Z.Warmed39 s.vm) (hown : s.vm.findClass "com/example/wardrelay/wardrelay/transport/XmlWriter" = some m.cls) (hret : meth.sig.returnType = some .boolean) (x0 : Int32) {fs : List Frame} (hr : ∀ (f : JFrame) (acts : List Action), f.method = m → f.locked = none → f.entered = [] → (doReturn e (T.setTop f) acts (some (.int (f3_36 x0)))).1 = T.setFrames fs) :
    Steps p.tables e below (T.setTop (mkF m 36 #[.val (.int x0)] [])) (T.setFrames fs) := by
  show Steps p.tables e below (T.setTop (mkF m 36 #[.val (.int x0)] [])) _
  refine XS.iloadN X.here hx rfl (hb hby d3_36) rfl ?_
  show Steps p.tables e below (T.setTop (mkF m 37 #[.val (.int x0)] [(.int x0)])) _
  refine X.ldcInt hx hown (mvT hZ (hw _ (List.mem_of_getElem? (i := 25) rfl))) (g := (mkF m 37 #[.val (.int x0)] [(.int x0)])) rfl (hb hby d3_37) _ ?_
  show Steps p.tables e below (T.setTop (mkF m 39 #[.val (.int x0)] [(.int (65533 : Int32)), (.int x0)])) _
  by_cases hc : (65533 : Int32) < x0
  · refine XS.icmpNo X.here hx rfl (hb hby d3_39) rfl (tlt hc).2.2.2 ?_
    rw [show f3_36 x0 = f3_42 x0 from if_pos hc] at hr; exact b3_42 X hx hby hw hZ hown hret x0 hr
  · refine XS.icmpYes X.here hx rfl (pc0 := 39) (pc' := 48) rfl (hb hby d3_39) rfl (flt hc).2.2.2 (by decide) (by decide) ?_
    rw [show f3_36 x0 = f3_48 x0 from if_neg hc] at hr; exact b3_48 X hx hby hw hZ hown hret x0 hr
def f3_30 (x0 : Int32) : Int32 := if x0 < (57344 : Int32) then f3_42 x0 else f3_36 x0
set_option maxRecDepth 65536 in
theorem b3_30 {p : Program} {l : Launch} {e : Env} {R : Room} {s : State} {m : MethodId} {args : Array Value} {below : List Frame} {meth : Method} {c : Code} {T : State} {locs : List Loc} {cells slots : Nat} (X : Stand p l e R s m args below meth c T locs cells slots) (hx : p.tables.exec = Jvm.exec) (hby : c.code = prog_51_method_4_code) {Z : State} {a0 : Array Value} (hw : ∀ d ∈ tables_1, d.before a0 Z = true) (hZ : Z.Warmed39 s.vm) (hown : s.vm.findClass "com/example/wardrelay/wardrelay/transport/XmlWriter" = some m.cls) (hret : meth.sig.returnType = some .boolean) (x0 : Int32) {fs : List Frame} (hr : ∀ (f : JFrame) (acts : List Action), f.method = m → f.locked = none → f.entered = [] → (doReturn e (T.setTop f) acts (some (.int (f3_30 x0)))).1 = T.setFrames fs) :
    Steps p.tables e below (T.setTop (mkF m 30 #[.val (.int x0)] [])) (T.setFrames fs) := by
  show Steps p.tables e below (T.setTop (mkF m 30 #[.val (.int x0)] [])) _
  refine XS.iloadN X.here hx rfl (hb hby d3_30) rfl ?_
  show Steps p.tables e below (T.setTop (mkF m 31 #[.val (.int x0)] [(.int x0)])) _
  refine X.ldcInt hx hown (mvT hZ (hw _ (List.mem_of_getElem? (i := 17) rfl))) (g := (mkF m 31 #[.val (.int x0)] [(.int x0)])) rfl (hb hby d3_31) _ ?_
  show Steps p.tables e below (T.setTop (mkF m 33 #[.val (.int x0)] [(.int (57344 : Int32)), (.int x0)])) _
  by_cases hc : x0 < (57344 : Int32)
  · refine XS.icmpYes X.here hx rfl (pc0 := 33) (pc' := 42) rfl (hb hby d3_33) rfl (tlt hc).1 (by decide) (by decide) ?_
    rw [show f3_30 x0 = f3_42 x0 from if_pos hc] at hr; exact b3_42 X hx hby hw hZ hown hret x0 hr
  · refine XS.icmpNo X.here hx rfl (hb hby d3_33) rfl (flt hc).1 ?_
    rw [show f3_30 x0 = f3_36 x0 from if_neg hc] at hr; exact b3_36 X hx hby hw hZ hown hret x0 hr
def f3_24 (x0 : Int32) : Int32 := if (55295 : Int32) < x0 then f3_30 x0 else f3_48 x0
set_option maxRecDepth 65536 in
theorem b3_24 {p : Program} {l : Launch} {e : Env} {R : Room} {s : State} {m : MethodId} {args : Array Value} {below : List Frame} {meth : Method} {c : Code} {T : State} {locs : List Loc} {cells slots : Nat} (X : Stand p l e R s m args below meth c T locs cells slots) (hx : p.tables.exec = Jvm.exec) (hby : c.code = prog_51_method_4_code) {Z : State} {a0 : Array Value} (hw : ∀ d ∈ tables_1, d.before a0 Z = true) (hZ : Z.Warmed39 s.vm) (hown : s.vm.findClass "com/example/wardrelay/wardrelay/transport/XmlWriter" = some m.cls) (hret : meth.sig.returnType = some .boolean) (x0 : Int32) {fs : List Frame} (hr : ∀ (f : JFrame) (acts : List Action), f.method = m → f.locked = none → f.entered = [] → (doReturn e (T.setTop f) acts (some (.int (f3_24 x0)))).1 = T.setFrames fs) :
    Steps p.tables e below (T.setTop (mkF m 24 #[.val (.int x0)] [])) (T.setFrames fs) := by
  show Steps p.tables e below (T.setTop (mkF m 24 #[.val (.int x0)] [])) _
  refine XS.iloadN X.here hx rfl (hb hby d3_24) rfl ?_
  show Steps p.tables e below (T.setTop (mkF m 25 #[.val (.int x0)] [(.int x0)])) _
  refine X.ldcInt hx hown (mvT hZ (hw _ (List.mem_of_getElem? (i := 24) rfl))) (g := (mkF m 25 #[.val (.int x0)] [(.int x0)])) rfl (hb hby d3_25) _ ?_
  show Steps p.tables e below (T.setTop (mkF m 27 #[.val (.int x0)] [(.int (55295 : Int32)), (.int x0)])) _
  by_cases hc : (55295 : Int32) < x0
  · refine XS.icmpNo X.here hx rfl (hb hby d3_27) rfl (tlt hc).2.2.2 ?_
    rw [show f3_24 x0 = f3_30 x0 from if_pos hc] at hr; exact b3_30 X hx hby hw hZ hown hret x0 hr
  · refine XS.icmpYes X.here hx rfl (pc0 := 27) (pc' := 48) rfl (hb hby d3_27) rfl (flt hc).2.2.2 (by decide) (by decide) ?_
    rw [show f3_24 x0 = f3_48 x0 from if_neg hc] at hr; exact b3_48 X hx hby hw hZ hown hret x0 hr
def f3_18 (x0 : Int32) : Int32 := if x0 < (32 : Int32) then f3_30 x0 else f3_24 x0
set_option maxRecDepth 65536 in
theorem b3_18 {p : Program} {l : Launch} {e : Env} {R : Room} {s : State} {m : MethodId} {args : Array Value} {below : List Frame} {meth : Method} {c : Code} {T : State} {locs : List Loc} {cells slots : Nat} (X : Stand p l e R s m args below meth c T locs cells slots) (hx : p.tables.exec = Jvm.exec) (hby : c.code = prog_51_method_4_code) {Z : State} {a0 : Array Value} (hw : ∀ d ∈ tables_1, d.before a0 Z = true) (hZ : Z.Warmed39 s.vm) (hown : s.vm.findClass "com/example/wardrelay/wardrelay/transport/XmlWriter" = some m.cls) (hret : meth.sig.returnType = some .boolean) (x0 : Int32) {fs : List Frame} (hr : ∀ (f : JFrame) (acts : List Action), f.method = m → f.locked = none → f.entered = [] → (doReturn e (T.setTop f) acts (some (.int (f3_18 x0)))).1 = T.setFrames fs) :
    Steps p.tables e below (T.setTop (mkF m 18 #[.val (.int x0)] [])) (T.setFrames fs) := by
  show Steps p.tables e below (T.setTop (mkF m 18 #[.val (.int x0)] [])) _
  refine XS.iloadN X.here hx rfl (hb hby d3_18) rfl ?_
  show Steps p.tables e below (T.setTop (mkF m 19 #[.val (.int x0)] [(.int x0)])) _
  refine XS.bipush X.here hx rfl (hb hby d3_19) ?_
  show Steps p.tables e below (T.setTop (mkF m 21 #[.val (.int x0)] [(.int (32 : Int32)), (.int x0)])) _
  by_cases hc : x0 < (32 : Int32)
  · refine XS.icmpYes X.here hx rfl (pc0 := 21) (pc' := 30) rfl (hb hby d3_21) rfl (tlt hc).1 (by decide) (by decide) ?_
    rw [show f3_18 x0 = f3_30 x0 from if_pos hc] at hr; exact b3_30 X hx hby hw hZ hown hret x0 hr
  · refine XS.icmpNo X.here hx rfl (hb hby d3_21) rfl (flt hc).1 ?_
    rw [show f3_18 x0 = f3_24 x0 from if_neg hc] at hr; exact b3_24 X hx hby hw hZ hown hret x0 hr
def f3_12 (x0 : Int32) : Int32 := if x0 = (13 : Int32) then f3_48 x0 else f3_18 x0
set_option maxRecDepth 65536 in
theorem b3_12 {p : Program} {l : Launch} {e : Env} {R : Room} {s : State} {m : MethodId} {args : Array Value} {below : List Frame} {meth : Method} {c : Code} {T : State} {locs : List Loc} {cells slots : Nat} (X : Stand p l e R s m args below meth c T locs cells slots) (hx : p.tables.exec = Jvm.exec) (hby : c.code = prog_51_method_4_code) {Z : State} {a0 : Array Value} (hw : ∀ d ∈ tables_1, d.before a0 Z = true) (hZ : Z.Warmed39 s.vm) (hown : s.vm.findClass "com/example/wardrelay/wardrelay/transport/XmlWriter" = some m.cls) (hret : meth.sig.returnType = some .boolean) (x0 : Int32) {fs : List Frame} (hr : ∀ (f : JFrame) (acts : List Action), f.method = m → f.locked = none → f.entered = [] → (doReturn e (T.setTop f) acts (some (.int (f3_12 x0)))).1 = T.setFrames fs) :
    Steps p.tables e below (T.setTop (mkF m 12 #[.val (.int x0)] [])) (T.setFrames fs) := by
  show Steps p.tables e below (T.setTop (mkF m 12 #[.val (.int x0)] [])) _
  refine XS.iloadN X.here hx rfl (hb hby d3_12) rfl ?_
  show Steps p.tables e below (T.setTop (mkF m 13 #[.val (.int x0)] [(.int x0)])) _
  refine XS.bipush X.here hx rfl (hb hby d3_13) ?_
  show Steps p.tables e below (T.setTop (mkF m 15 #[.val (.int x0)] [(.int (13 : Int32)), (.int x0)])) _
  by_cases hc : x0 = (13 : Int32)
  · refine XS.icmpYes X.here hx rfl (pc0 := 15) (pc' := 48) rfl (hb hby d3_15) rfl (teq hc).1 (by decide) (by decide) ?_
    rw [show f3_12 x0 = f3_48 x0 from if_pos hc] at hr; exact b3_48 X hx hby hw hZ hown hret x0 hr
  · refine XS.icmpNo X.here hx rfl (hb hby d3_15) rfl (feq hc).1 ?_
    rw [show f3_12 x0 = f3_18 x0 from if_neg hc] at hr; exact b3_18 X hx hby hw hZ hown hret x0 hr
def f3_6 (x0 : Int32) : Int32 := if x0 = (10 : Int32) then f3_48 x0 else f3_12 x0
set_option maxRecDepth 65536 in
theorem b3_6 {p : Program} {l : Launch} {e : Env} {R : Room} {s : State} {m : MethodId} {args : Array Value} {below : List Frame} {meth : Method} {c : Code} {T : State} {locs : List Loc} {cells slots : Nat} (X : Stand p l e R s m args below meth c T locs cells slots) (hx : p.tables.exec = Jvm.exec) (hby : c.code = prog_51_method_4_code) {Z : State} {a0 : Array Value} (hw : ∀ d ∈ tables_1, d.before a0 Z = true) (hZ : Z.Warmed39 s.vm) (hown : s.vm.findClass "com/example/wardrelay/wardrelay/transport/XmlWriter" = some m.cls) (hret : meth.sig.returnType = some .boolean) (x0 : Int32) {fs : List Frame} (hr : ∀ (f : JFrame) (acts : List Action), f.method = m → f.locked = none → f.entered = [] → (doReturn e (T.setTop f) acts (some (.int (f3_6 x0)))).1 = T.setFrames fs) :
    Steps p.tables e below (T.setTop (mkF m 6 #[.val (.int x0)] [])) (T.setFrames fs) := by
  show Steps p.tables e below (T.setTop (mkF m 6 #[.val (.int x0)] [])) _
  refine XS.iloadN X.here hx rfl (hb hby d3_6) rfl ?_
  show Steps p.tables e below (T.setTop (mkF m 7 #[.val (.int x0)] [(.int x0)])) _
  refine XS.bipush X.here hx rfl (hb hby d3_7) ?_
  show Steps p.tables e below (T.setTop (mkF m 9 #[.val (.int x0)] [(.int (10 : Int32)), (.int x0)])) _
  by_cases hc : x0 = (10 : Int32)
  · refine XS.icmpYes X.here hx rfl (pc0 := 9) (pc' := 48) rfl (hb hby d3_9) rfl (teq hc).1 (by decide) (by decide) ?_
    rw [show f3_6 x0 = f3_48 x0 from if_pos hc] at hr; exact b3_48 X hx hby hw hZ hown hret x0 hr
  · refine XS.icmpNo X.here hx rfl (hb hby d3_9) rfl (feq hc).1 ?_
    rw [show f3_6 x0 = f3_12 x0 from if_neg hc] at hr; exact b3_12 X hx hby hw hZ hown hret x0 hr
def f3_0 (x0 : Int32) : Int32 := if x0 = (9 : Int32) then f3_48 x0 else f3_6 x0
set_option maxRecDepth 65536 in
theorem b3_0 {p : Program} {l : Launch} {e : Env} {R : Room} {s : State} {m : MethodId} {args : Array Value} {below : List Frame} {meth : Method} {c : Code} {T : State} {locs : List Loc} {cells slots : Nat} (X : Stand p l e R s m args below meth c T locs cells slots) (hx : p.tables.exec = Jvm.exec) (hby : c.code = prog_51_method_4_code) {Z : State} {a0 : Array Value} (hw : ∀ d ∈ tables_1, d.before a0 Z = true) (hZ : Z.Warmed39 s.vm) (hown : s.vm.findClass "com/example/wardrelay/wardrelay/transport/XmlWriter" = some m.cls) (hret : meth.sig.returnType = some .boolean) (x0 : Int32) {fs : List Frame} (hr : ∀ (f : JFrame) (acts : List Action), f.method = m → f.locked = none → f.entered = [] → (doReturn e (T.setTop f) acts (some (.int (f3_0 x0)))).1 = T.setFrames fs) :
    Steps p.tables e below (T.setTop (mkF m 0 #[.val (.int x0)] [])) (T.setFrames fs) := by
  show Steps p.tables e below (T.setTop (mkF m 0 #[.val (.int x0)] [])) _
  refine XS.iloadN X.here hx rfl (hb hby d3_0) rfl ?_
  show Steps p.tables e below (T.setTop (mkF m 1 #[.val (.int x0)] [(.int x0)])) _
  refine XS.bipush X.here hx rfl (hb hby d3_1) ?_
  show Steps p.tables e below (T.setTop (mkF m 3 #[.val (.int x0)] [(.int (9 : Int32)), (.int x0)])) _
  by_cases hc : x0 = (9 : Int32)
  · refine XS.icmpYes X.here hx rfl (pc0 := 3) (pc' := 48) rfl (hb hby d3_3) rfl (teq hc).1 (by decide) (by decide) ?_
    rw [show f3_0 x0 = f3_48 x0 from if_pos hc] at hr; exact b3_48 X hx hby hw hZ hown hret x0 hr
  · refine XS.icmpNo X.here hx rfl (hb hby d3_3) rfl (feq hc).1 ?_
    rw [show f3_0 x0 = f3_6 x0 from if_neg hc] at hr; exact b3_6 X hx hby hw hZ hown hret x0 hr
theorem pn_3 : plainName "com/example/wardrelay/wardrelay/transport/XmlWriter" = true := by first | (simp [plainName, overriddenIn]; done) | decide +kernel
theorem ef_3 (m : MethodId) (x0 : Int32) : entryFrame m #[(.int x0)] 1 = (mkF m 0 #[.val (.int x0)] []) := by first | (simp [entryFrame, mkF, argsToLocals, Value.category]; done) | rfl
def Q3 (Z : State) (x0 : Int32) (h0 : Heap) (n0 : Nat) (v : Option Value) (h : Heap) (L : List Loc) : Prop := v = some (.int (f3_0 x0)) ∧ Fr n0 L ∧ h = h0
set_option maxRecDepth 65536 in
set_option maxHeartbeats 40000000 in
theorem rm3 (l : Launch) (Z : State) (a0 : Array Value) (hw : ∀ d ∈ tables_1, d.before a0 Z = true) (ws : List Jvm.Cond) (x0 : Int32) (h0 : Heap) (n0 : Nat) (Z0 : n0 ≤ h0.size) :
    MetFree l (⟨"com/example/wardrelay/wardrelay/transport/XmlWriter", "carries", "(I)Z"⟩ : MethodName) (head1 (Jvm.Cond.code (⟨"com/example/wardrelay/wardrelay/transport/XmlWriter", "carries", "(I)Z"⟩ : MethodName) prog_51_method_4_code 1 (some .boolean) :: ws) ({ frames := 0, cells := 0, slots := 0, locals := 0 } : Room)) (fun a U => a = #[(.int x0)] ∧ Z.Warmed39 U.vm ∧ U.heap = h0) (fun _ _ _ _ _ => True) (fun _ U o U' => ∃ v L, o = .returned v ∧ Q3 Z x0 h0 n0 v U'.heap L ∧ FrameEnd U o U' L ({ frames := 0, cells := 0, slots := 0, locals := 0 } : Room).cells ({ frames := 0, cells := 0, slots := 0, locals := 0 } : Room).slots) := by
  refine MetFree.of_bodySF (plainFor_of_name pn_3) hisR ?_
  intro p e s m args below meth c s₁ Bd hml0 hP hK
  obtain ⟨rfl, hZ, hh⟩ := hP
  have hx := Bd.exec
  have hby := Bd.bytes
  have hown : s.vm.findClass "com/example/wardrelay/wardrelay/transport/XmlWriter" = some m.cls := findClass_of_methodNamed Bd.named
  have X0 : Stand p l e ({ frames := 0, cells := 0, slots := 0, locals := 0 } : Room) s m #[(.int x0)] below meth c s₁ [] 0 0 := Stand.of_body Bd
  have e0 : s₁.heap = h0 := by rw [← hh, Bd.state]; rfl
  have N0 := Fr.nil n0
  have pre0 : ∀ t, Steps p.tables e below (s₁.setTop (mkF m 0 #[.val (.int x0)] [])) t → Steps p.tables e below (s₁.setTop (entryFrame m #[(.int x0)] 1)) t := fun t k => castTop (ef_3 m x0) k
  obtain ⟨fs, hr, hrun, hended, hW, hsame⟩ := X0.leave (v := some (.int (f3_0 x0))) (fun h => by rw [Bd.returns] at h; cases h)
  refine ⟨_, _, pre0 _ ?_, hrun, hended, _, _, rfl, ?_, ⟨_, rfl⟩, hW, hsame.mono (by decide) (by decide)⟩
  · exact b3_0 X0 hx hby hw hZ hown Bd.returns x0 hr
  · show Q3 Z x0 h0 n0 _ s₁.heap _
    rw [e0]
    exact ⟨rfl, N0, rfl⟩
theorem d4_0 : decode method_3_code 0 = .ok (.iload_n 0, 1) := by decide +kernel
theorem d4_1 : decode method_3_code 1 = .ok (.bipush 32, 2) := by decide +kernel
theorem d4_3 : decode method_3_code 3 = .ok (.if_icmp .ge 25, 3) := by decide +kernel
theorem d4_6 : decode method_3_code 6 = .ok (.iload_n 0, 1) := by decide +kernel
theorem d4_7 : decode method_3_code 7 = .ok (.bipush 9, 2) := by decide +kernel
theorem d4_9 : decode method_3_code 9 = .ok (.if_icmp .eq 19, 3) := by decide +kernel
theorem d4_12 : decode method_3_code 12 = .ok (.iload_n 0, 1) := by decide +kernel
theorem d4_13 : decode method_3_code 13 = .ok (.bipush 10, 2) := by decide +kernel
theorem d4_15 : decode method_3_code 15 = .ok (.if_icmp .eq 13, 3) := by decide +kernel
theorem d4_18 : decode method_3_code 18 = .ok (.iload_n 0, 1) := by decide +kernel
theorem d4_19 : decode method_3_code 19 = .ok (.bipush 13, 2) := by decide +kernel
theorem d4_21 : decode method_3_code 21 = .ok (.if_icmp .eq 7, 3) := by decide +kernel
theorem d4_24 : decode method_3_code 24 = .ok (.iconst 1, 1) := by decide +kernel
theorem d4_25 : decode method_3_code 25 = .ok (.goto 4, 3) := by decide +kernel
theorem d4_28 : decode method_3_code 28 = .ok (.iconst 0, 1) := by decide +kernel
theorem d4_29 : decode method_3_code 29 = .ok (.istore_n 1, 1) := by decide +kernel
theorem d4_30 : decode method_3_code 30 = .ok (.iload_n 0, 1) := by decide +kernel
theorem d4_31 : decode method_3_code 31 = .ok (.ldc 9, 2) := by decide +kernel
theorem d4_33 : decode method_3_code 33 = .ok (.if_icmp .lt 13, 3) := by decide +kernel
theorem d4_36 : decode method_3_code 36 = .ok (.iload_n 0, 1) := by decide +kernel
theorem d4_37 : decode method_3_code 37 = .ok (.ldc 34, 2) := by decide +kernel
theorem d4_39 : decode method_3_code 39 = .ok (.if_icmp .gt 7, 3) := by decide +kernel
theorem d4_42 : decode method_3_code 42 = .ok (.iconst 1, 1) := by decide +kernel
theorem d4_43 : decode method_3_code 43 = .ok (.goto 4, 3) := by decide +kernel
theorem d4_46 : decode method_3_code 46 = .ok (.iconst 0, 1) := by decide +kernel
theorem d4_47 : decode method_3_code 47 = .ok (.istore_n 2, 1) := by decide +kernel
theorem d4_48 : decode method_3_code 48 = .ok (.iload_n 0, 1) := by decide +kernel
theorem d4_49 : decode method_3_code 49 = .ok (.ldc 11, 2) := by decide +kernel
theorem d4_51 : decode method_3_code 51 = .ok (.if_icmp .eq 9, 3) := by decide +kernel
theorem d4_54 : decode method_3_code 54 = .ok (.iload_n 0, 1) := by decide +kernel
theorem d4_55 : decode method_3_code 55 = .ok (.ldc 35, 2) := by decide +kernel
theorem d4_57 : decode method_3_code 57 = .ok (.if_icmp .ne 7, 3) := by decide +kernel
theorem d4_60 : decode method_3_code 60 = .ok (.iconst 1, 1) := by decide +kernel
theorem d4_61 : decode method_3_code 61 = .ok (.goto 4, 3) := by decide +kernel
theorem d4_64 : decode method_3_code 64 = .ok (.iconst 0, 1) := by decide +kernel
theorem d4_65 : decode method_3_code 65 = .ok (.istore_n 3, 1) := by decide +kernel
theorem d4_66 : decode method_3_code 66 = .ok (.iload_n 1, 1) := by decide +kernel
theorem d4_67 : decode method_3_code 67 = .ok (.ifCond .ne 15, 3) := by decide +kernel
theorem d4_70 : decode method_3_code 70 = .ok (.iload_n 2, 1) := by decide +kernel
theorem d4_71 : decode method_3_code 71 = .ok (.ifCond .ne 11, 3) := by decide +kernel
theorem d4_74 : decode method_3_code 74 = .ok (.iload_n 3, 1) := by decide +kernel
theorem d4_75 : decode method_3_code 75 = .ok (.ifCond .ne 7, 3) := by decide +kernel
theorem d4_78 : decode method_3_code 78 = .ok (.iconst 1, 1) := by decide +kernel
theorem d4_79 : decode method_3_code 79 = .ok (.goto 4, 3) := by decide +kernel
theorem d4_82 : decode method_3_code 82 = .ok (.iconst 0, 1) := by decide +kernel
theorem d4_83 : decode method_3_code 83 = .ok (.ireturn, 1) := by decide +kernel
def f4_83 (x0 : Int32) (x1 : Int32) (x2 : Int32) (x3 : Int32) (s0 : Int32) : Int32 := nar .boolean s0
set_option maxRecDepth 65536 in
theorem b4_83 {p : Program} {l : Launch} {e : Env} {R : Room} {s : State} {m : MethodId} {args : Array Value} {below : List Frame} {meth : Method} {c : Code} {T : State} {locs : List Loc} {cells slots : Nat} (X : Stand p l e R s m args below meth c T locs cells slots) (hx : p.tables.exec = Jvm.exec) (hby : c.code = method_3_code) {Z : State} {a0 : Array Value} (hw : ∀ d ∈ tables_1, d.before a0 Z = true) (hZ : Z.Warmed39 s.vm) (hown : s.vm.findClass "com/example/wardrelay/wardrelay/transport/XmlWriterCarriesPinLaw" = some m.cls) (hret : meth.sig.returnType = some .boolean) (x0 : Int32) (x1 : Int32) (x2 : Int32) (x3 : Int32) (s0 : Int32) {fs : List Frame} (hr : ∀ (f : JFrame) (acts : List Action), f.method = m → f.locked = none → f.entered = [] → (doReturn e (T.setTop f) acts (some (.int (f4_83 x0 x1 x2 x3 s0)))).1 = T.setFrames fs) :
    Steps p.tables e below (T.setTop (mkF m 83 #[.val (.int x0), .val (.int x1), .val (.int x2), .val (.int x3)] [(.int s0)])) (T.setFrames fs) := by
  show Steps p.tables e below (T.setTop (mkF m 83 #[.val (.int x0), .val (.int x1), .val (.int x2), .val (.int x3)] [(.int s0)])) _
  exact retN X hx (t := .boolean) hret (by simp) (hb hby d4_83) hr
def f4_82 (x0 : Int32) (x1 : Int32) (x2 : Int32) (x3 : Int32) : Int32 := f4_83 x0 x1 x2 x3 (0 : Int32)
set_option maxRecDepth 65536 in
theorem b4_82 {p : Program} {l : Launch} {e : Env} {R : Room} {s : State} {m : MethodId} {args : Array Value} {below : List Frame} {meth : Method} {c : Code} {T : State} {locs : List Loc} {cells slots : Nat} (X : Stand p l e R s m args below meth c T locs cells slots) (hx : p.tables.exec = Jvm.exec) (hby : c.code = method_3_code) {Z : State} {a0 : Array Value} (hw : ∀ d ∈ tables_1, d.before a0 Z = true) (hZ : Z.Warmed39 s.vm) (hown : s.vm.findClass "com/example/wardrelay/wardrelay/transport/XmlWriterCarriesPinLaw" = some m.cls) (hret : meth.sig.returnType = some .boolean) (x0 : Int32) (x1 : Int32) (x2 : Int32) (x3 : Int32) {fs : List Frame} (hr : ∀ (f : JFrame) (acts : List Action), f.method = m → f.locked = none → f.entered = [] → (doReturn e (T.setTop f) acts (some (.int (f4_82 x0 x1 x2 x3)))).1 = T.setFrames fs) :
    Steps p.tables e below (T.setTop (mkF m 82 #[.val (.int x0), .val (.int x1), .val (.int x2), .val (.int x3)] [])) (T.setFrames fs) := by
  show Steps p.tables e below (T.setTop (mkF m 82 #[.val (.int x0), .val (.int x1), .val (.int x2), .val (.int x3)] [])) _
  refine XS.iconst X.here hx rfl (hb hby d4_82) ?_
  exact b4_83 X hx hby hw hZ hown hret x0 x1 x2 x3 (0 : Int32) hr
def f4_78 (x0 : Int32) (x1 : Int32) (x2 : Int32) (x3 : Int32) : Int32 := f4_83 x0 x1 x2 x3 (1 : Int32)
set_option maxRecDepth 65536 in
theorem b4_78 {p : Program} {l : Launch} {e : Env} {R : Room} {s : State} {m : MethodId} {args : Array Value} {below : List Frame} {meth : Method} {c : Code} {T : State} {locs : List Loc} {cells slots : Nat} (X : Stand p l e R s m args below meth c T locs cells slots) (hx : p.tables.exec = Jvm.exec) (hby : c.code = method_3_code) {Z : State} {a0 : Array Value} (hw : ∀ d ∈ tables_1, d.before a0 Z = true) (hZ : Z.Warmed39 s.vm) (hown : s.vm.findClass "com/example/wardrelay/wardrelay/transport/XmlWriterCarriesPinLaw" = some m.cls) (hret : meth.sig.returnType = some .boolean) (x0 : Int32) (x1 : Int32) (x2 : Int32) (x3 : Int32) {fs : List Frame} (hr : ∀ (f : JFrame) (acts : List Action), f.method = m → f.locked = none → f.entered = [] → (doReturn e (T.setTop f) acts (some (.int (f4_78 x0 x1 x2 x3)))).1 = T.setFrames fs) :
    Steps p.tables e below (T.setTop (mkF m 78 #[.val (.int x0), .val (.int x1), .val (.int x2), .val (.int x3)] [])) (T.setFrames fs) := by
  show Steps p.tables e below (T.setTop (mkF m 78 #[.val (.int x0), .val (.int x1), .val (.int x2), .val (.int x3)] [])) _
  refine XS.iconst X.here hx rfl (hb hby d4_78) ?_
  show Steps p.tables e below (T.setTop (mkF m 79 #[.val (.int x0), .val (.int x1), .val (.int x2), .val (.int x3)] [(.int (1 : Int32))])) _
  refine XS.goto X.here hx rfl (pc0 := 79) (pc' := 83) rfl (hb hby d4_79) (by decide) (by decide) ?_
  exact b4_83 X hx hby hw hZ hown hret x0 x1 x2 x3 (1 : Int32) hr
def f4_74 (x0 : Int32) (x1 : Int32) (x2 : Int32) (x3 : Int32) : Int32 := if x3 = (0 : Int32) then f4_78 x0 x1 x2 x3 else f4_82 x0 x1 x2 x3
set_option maxRecDepth 65536 in
theorem b4_74 {p : Program} {l : Launch} {e : Env} {R : Room} {s : State} {m : MethodId} {args : Array Value} {below : List Frame} {meth : Method} {c : Code} {T : State} {locs : List Loc} {cells slots : Nat} (X : Stand p l e R s m args below meth c T locs cells slots) (hx : p.tables.exec = Jvm.exec) (hby : c.code = method_3_code) {Z : State} {a0 : Array Value} (hw : ∀ d ∈ tables_1, d.before a0 Z = true) (hZ : Z.Warmed39 s.vm) (hown : s.vm.findClass "com/example/wardrelay/wardrelay/transport/XmlWriterCarriesPinLaw" = some m.cls) (hret : meth.sig.returnType = some .boolean) (x0 : Int32) (x1 : Int32) (x2 : Int32) (x3 : Int32) {fs : List Frame} (hr : ∀ (f : JFrame) (acts : List Action), f.method = m → f.locked = none → f.entered = [] → (doReturn e (T.setTop f) acts (some (.int (f4_74 x0 x1 x2 x3)))).1 = T.setFrames fs) :
    Steps p.tables e below (T.setTop (mkF m 74 #[.val (.int x0), .val (.int x1), .val (.int x2), .val (.int x3)] [])) (T.setFrames fs) := by
  show Steps p.tables e below (T.setTop (mkF m 74 #[.val (.int x0), .val (.int x1), .val (.int x2), .val (.int x3)] [])) _
  refine XS.iloadN X.here hx rfl (hb hby d4_74) rfl ?_
  show Steps p.tables e below (T.setTop (mkF m 75 #[.val (.int x0), .val (.int x1), .val (.int x2), .val (.int x3)] [(.int x3)])) _
  by_cases hc : x3 = (0 : Int32)
  · refine XS.ifNo X.here hx rfl (hb hby d4_75) rfl ((if0 _ _).trans (teq hc).2) ?_
    rw [show f4_74 x0 x1 x2 x3 = f4_78 x0 x1 x2 x3 from if_pos hc] at hr; exact b4_78 X hx hby hw hZ hown hret x0 x1 x2 x3 hr
  · refine XS.ifYes X.here hx rfl (pc0 := 75) (pc' := 82) rfl (hb hby d4_75) rfl ((if0 _ _).trans (feq hc).2) (by decide) (by decide) ?_
    rw [show f4_74 x0 x1 x2 x3 = f4_82 x0 x1 x2 x3 from if_neg hc] at hr; exact b4_82 X hx hby hw hZ hown hret x0 x1 x2 x3 hr
def f4_70 (x0 : Int32) (x1 : Int32) (x2 : Int32) (x3 : Int32) : Int32 := if x2 = (0 : Int32) then f4_74 x0 x1 x2 x3 else f4_82 x0 x1 x2 x3
set_option maxRecDepth 65536 in
theorem b4_70 {p : Program} {l : Launch} {e : Env} {R : Room} {s : State} {m : MethodId} {args : Array Value} {below : List Frame} {meth : Method} {c : Code} {T : State} {locs : List Loc} {cells slots : Nat} (X : Stand p l e R s m args below meth c T locs cells slots) (hx : p.tables.exec = Jvm.exec) (hby : c.code = method_3_code) {Z : State} {a0 : Array Value} (hw : ∀ d ∈ tables_1, d.before a0 Z = true) (hZ : Z.Warmed39 s.vm) (hown : s.vm.findClass "com/example/wardrelay/wardrelay/transport/XmlWriterCarriesPinLaw" = some m.cls) (hret : meth.sig.returnType = some .boolean) (x0 : Int32) (x1 : Int32) (x2 : Int32) (x3 : Int32) {fs : List Frame} (hr : ∀ (f : JFrame) (acts : List Action), f.method = m → f.locked = none → f.entered = [] → (doReturn e (T.setTop f) acts (some (.int (f4_70 x0 x1 x2 x3)))).1 = T.setFrames fs) :
    Steps p.tables e below (T.setTop (mkF m 70 #[.val (.int x0), .val (.int x1), .val (.int x2), .val (.int x3)] [])) (T.setFrames fs) := by
  show Steps p.tables e below (T.setTop (mkF m 70 #[.val (.int x0), .val (.int x1), .val (.int x2), .val (.int x3)] [])) _
  refine XS.iloadN X.here hx rfl (hb hby d4_70) rfl ?_
  show Steps p.tables e below (T.setTop (mkF m 71 #[.val (.int x0), .val (.int x1), .val (.int x2), .val (.int x3)] [(.int x2)])) _
  by_cases hc : x2 = (0 : Int32)
  · refine XS.ifNo X.here hx rfl (hb hby d4_71) rfl ((if0 _ _).trans (teq hc).2) ?_
    rw [show f4_70 x0 x1 x2 x3 = f4_74 x0 x1 x2 x3 from if_pos hc] at hr; exact b4_74 X hx hby hw hZ hown hret x0 x1 x2 x3 hr
  · refine XS.ifYes X.here hx rfl (pc0 := 71) (pc' := 82) rfl (hb hby d4_71) rfl ((if0 _ _).trans (feq hc).2) (by decide) (by decide) ?_
    rw [show f4_70 x0 x1 x2 x3 = f4_82 x0 x1 x2 x3 from if_neg hc] at hr; exact b4_82 X hx hby hw hZ hown hret x0 x1 x2 x3 hr
def f4_65 (x0 : Int32) (x1 : Int32) (x2 : Int32) (s0 : Int32) : Int32 := if x1 = (0 : Int32) then f4_70 x0 x1 x2 s0 else f4_82 x0 x1 x2 s0
set_option maxRecDepth 65536 in
theorem b4_65 {p : Program} {l : Launch} {e : Env} {R : Room} {s : State} {m : MethodId} {args : Array Value} {below : List Frame} {meth : Method} {c : Code} {T : State} {locs : List Loc} {cells slots : Nat} (X : Stand p l e R s m args below meth c T locs cells slots) (hx : p.tables.exec = Jvm.exec) (hby : c.code = method_3_code) {Z : State} {a0 : Array Value} (hw : ∀ d ∈ tables_1, d.before a0 Z = true) (hZ : Z.Warmed39 s.vm) (hown : s.vm.findClass "com/example/wardrelay/wardrelay/transport/XmlWriterCarriesPinLaw" = some m.cls) (hret : meth.sig.returnType = some .boolean) (x0 : Int32) (x1 : Int32) (x2 : Int32) (s0 : Int32) {fs : List Frame} (hr : ∀ (f : JFrame) (acts : List Action), f.method = m → f.locked = none → f.entered = [] → (doReturn e (T.setTop f) acts (some (.int (f4_65 x0 x1 x2 s0)))).1 = T.setFrames fs) :
    Steps p.tables e below (T.setTop (mkF m 65 #[.val (.int x0), .val (.int x1), .val (.int x2), .unset] [(.int s0)])) (T.setFrames fs) := by
  show Steps p.tables e below (T.setTop (mkF m 65 #[.val (.int x0), .val (.int x1), .val (.int x2), .unset] [(.int s0)])) _
  refine XS.istoreN X.here hx rfl (hb hby d4_65) rfl (l' := #[.val (.int x0), .val (.int x1), .val (.int x2), .val (.int s0)]) rfl ?_
  show Steps p.tables e below (T.setTop (mkF m 66 #[.val (.int x0), .val (.int x1), .val (.int x2), .val (.int s0)] [])) _
  refine XS.iloadN X.here hx rfl (hb hby d4_66) rfl ?_
  show Steps p.tables e below (T.setTop (mkF m 67 #[.val (.int x0), .val (.int x1), .val (.int x2), .val (.int s0)] [(.int x1)])) _
  by_cases hc : x1 = (0 : Int32)
  · refine XS.ifNo X.here hx rfl (hb hby d4_67) rfl ((if0 _ _).trans (teq hc).2) ?_
    rw [show f4_65 x0 x1 x2 s0 = f4_70 x0 x1 x2 s0 from if_pos hc] at hr; exact b4_70 X hx hby hw hZ hown hret x0 x1 x2 s0 hr
  · refine XS.ifYes X.here hx rfl (pc0 := 67) (pc' := 82) rfl (hb hby d4_67) rfl ((if0 _ _).trans (feq hc).2) (by decide) (by decide) ?_
    rw [show f4_65 x0 x1 x2 s0 = f4_82 x0 x1 x2 s0 from if_neg hc] at hr; exact b4_82 X hx hby hw hZ hown hret x0 x1 x2 s0 hr
def f4_64 (x0 : Int32) (x1 : Int32) (x2 : Int32) : Int32 := f4_65 x0 x1 x2 (0 : Int32)
set_option maxRecDepth 65536 in
theorem b4_64 {p : Program} {l : Launch} {e : Env} {R : Room} {s : State} {m : MethodId} {args : Array Value} {below : List Frame} {meth : Method} {c : Code} {T : State} {locs : List Loc} {cells slots : Nat} (X : Stand p l e R s m args below meth c T locs cells slots) (hx : p.tables.exec = Jvm.exec) (hby : c.code = method_3_code) {Z : State} {a0 : Array Value} (hw : ∀ d ∈ tables_1, d.before a0 Z = true) (hZ : Z.Warmed39 s.vm) (hown : s.vm.findClass "com/example/wardrelay/wardrelay/transport/XmlWriterCarriesPinLaw" = some m.cls) (hret : meth.sig.returnType = some .boolean) (x0 : Int32) (x1 : Int32) (x2 : Int32) {fs : List Frame} (hr : ∀ (f : JFrame) (acts : List Action), f.method = m → f.locked = none → f.entered = [] → (doReturn e (T.setTop f) acts (some (.int (f4_64 x0 x1 x2)))).1 = T.setFrames fs) :
    Steps p.tables e below (T.setTop (mkF m 64 #[.val (.int x0), .val (.int x1), .val (.int x2), .unset] [])) (T.setFrames fs) := by
  show Steps p.tables e below (T.setTop (mkF m 64 #[.val (.int x0), .val (.int x1), .val (.int x2), .unset] [])) _
  refine XS.iconst X.here hx rfl (hb hby d4_64) ?_
  exact b4_65 X hx hby hw hZ hown hret x0 x1 x2 (0 : Int32) hr
def f4_60 (x0 : Int32) (x1 : Int32) (x2 : Int32) : Int32 := f4_65 x0 x1 x2 (1 : Int32)
set_option maxRecDepth 65536 in
theorem b4_60 {p : Program} {l : Launch} {e : Env} {R : Room} {s : State} {m : MethodId} {args : Array Value} {below : List Frame} {meth : Method} {c : Code} {T : State} {locs : List Loc} {cells slots : Nat} (X : Stand p l e R s m args below meth c T locs cells slots) (hx : p.tables.exec = Jvm.exec) (hby : c.code = method_3_code) {Z : State} {a0 : Array Value} (hw : ∀ d ∈ tables_1, d.before a0 Z = true) (hZ : Z.Warmed39 s.vm) (hown : s.vm.findClass "com/example/wardrelay/wardrelay/transport/XmlWriterCarriesPinLaw" = some m.cls) (hret : meth.sig.returnType = some .boolean) (x0 : Int32) (x1 : Int32) (x2 : Int32) {fs : List Frame} (hr : ∀ (f : JFrame) (acts : List Action), f.method = m → f.locked = none → f.entered = [] → (doReturn e (T.setTop f) acts (some (.int (f4_60 x0 x1 x2)))).1 = T.setFrames fs) :
    Steps p.tables e below (T.setTop (mkF m 60 #[.val (.int x0), .val (.int x1), .val (.int x2), .unset] [])) (T.setFrames fs) := by
  show Steps p.tables e below (T.setTop (mkF m 60 #[.val (.int x0), .val (.int x1), .val (.int x2), .unset] [])) _
  refine XS.iconst X.here hx rfl (hb hby d4_60) ?_
  show Steps p.tables e below (T.setTop (mkF m 61 #[.val (.int x0), .val (.int x1), .val (.int x2), .unset] [(.int (1 : Int32))])) _
  refine XS.goto X.here hx rfl (pc0 := 61) (pc' := 65) rfl (hb hby d4_61) (by decide) (by decide) ?_
  exact b4_65 X hx hby hw hZ hown hret x0 x1 x2 (1 : Int32) hr
def f4_54 (x0 : Int32) (x1 : Int32) (x2 : Int32) : Int32 := if x0 = (65535 : Int32) then f4_60 x0 x1 x2 else f4_64 x0 x1 x2
set_option maxRecDepth 65536 in
theorem b4_54 {p : Program} {l : Launch} {e : Env} {R : Room} {s : State} {m : MethodId} {args : Array Value} {below : List Frame} {meth : Method} {c : Code} {T : State} {locs : List Loc} {cells slots : Nat} (X : Stand p l e R s m args below meth c T locs cells slots) (hx : p.tables.exec = Jvm.exec) (hby : c.code = method_3_code) {Z : State} {a0 : Array Value} (hw : ∀ d ∈ tables_1, d.before a0 Z = true) (hZ : Z.Warmed39 s.vm) (hown : s.vm.findClass "com/example/wardrelay/wardrelay/transport/XmlWriterCarriesPinLaw" = some m.cls) (hret : meth.sig.returnType = some .boolean) (x0 : Int32) (x1 : Int32) (x2 : Int32) {fs : List Frame} (hr : ∀ (f : JFrame) (acts : List Action), f.method = m → f.locked = none → f.entered = [] → (doReturn e (T.setTop f) acts (some (.int (f4_54 x0 x1 x2)))).1 = T.setFrames fs) :
    Steps p.tables e below (T.setTop (mkF m 54 #[.val (.int x0), .val (.int x1), .val (.int x2), .unset] [])) (T.setFrames fs) := by
  show Steps p.tables e below (T.setTop (mkF m 54 #[.val (.int x0), .val (.int x1), .val (.int x2), .unset] [])) _
  refine XS.iloadN X.here hx rfl (hb hby d4_54) rfl ?_
  show Steps p.tables e below (T.setTop (mkF m 55 #[.val (.int x0), .val (.int x1), .val (.int x2), .unset] [(.int x0)])) _
  refine X.ldcInt hx hown (mvT hZ (hw _ (List.mem_of_getElem? (i := 23) rfl))) (g := (mkF m 55 #[.val (.int x0), .val (.int x1), .val (.int x2), .unset] [(.int x0)])) rfl (hb hby d4_55) _ ?_
  show Steps p.tables e below (T.setTop (mkF m 57 #[.val (.int x0), .val (.int x1), .val (.int x2), .unset] [(.int (65535 : Int32)), (.int x0)])) _
  by_cases hc : x0 = (65535 : Int32)
  · refine XS.icmpNo X.here hx rfl (hb hby d4_57) rfl (teq hc).2 ?_
    rw [show f4_54 x0 x1 x2 = f4_60 x0 x1 x2 from if_pos hc] at hr; exact b4_60 X hx hby hw hZ hown hret x0 x1 x2 hr
  · refine XS.icmpYes X.here hx rfl (pc0 := 57) (pc' := 64) rfl (hb hby d4_57) rfl (feq hc).2 (by decide) (by decide) ?_
    rw [show f4_54 x0 x1 x2 = f4_64 x0 x1 x2 from if_neg hc] at hr; exact b4_64 X hx hby hw hZ hown hret x0 x1 x2 hr
def f4_47 (x0 : Int32) (x1 : Int32) (s0 : Int32) : Int32 := if x0 = (65534 : Int32) then f4_60 x0 x1 s0 else f4_54 x0 x1 s0
set_option maxRecDepth 65536 in
theorem b4_47 {p : Program} {l : Launch} {e : Env} {R : Room} {s : State} {m : MethodId} {args : Array Value} {below : List Frame} {meth : Method} {c : Code} {T : State} {locs : List Loc} {cells slots : Nat} (X : Stand p l e R s m args below meth c T locs cells slots) (hx : p.tables.exec = Jvm.exec) (hby : c.code = method_3_code) {Z : State} {a0 : Array Value} (hw : ∀ d ∈ tables_1, d.before a0 Z = true) (hZ : Z.Warmed39 s.vm) (hown : s.vm.findClass "com/example/wardrelay/wardrelay/transport/XmlWriterCarriesPinLaw" = some m.cls) (hret : meth.sig.returnType = some .boolean) (x0 : Int32) (x1 : Int32) (s0 : Int32) {fs : List Frame} (hr : ∀ (f : JFrame) (acts : List Action), f.method = m → f.locked = none → f.entered = [] → (doReturn e (T.setTop f) acts (some (.int (f4_47 x0 x1 s0)))).1 = T.setFrames fs) :
    Steps p.tables e below (T.setTop (mkF m 47 #[.val (.int x0), .val (.int x1), .unset, .unset] [(.int s0)])) (T.setFrames fs) := by
  show Steps p.tables e below (T.setTop (mkF m 47 #[.val (.int x0), .val (.int x1), .unset, .unset] [(.int s0)])) _
  refine XS.istoreN X.here hx rfl (hb hby d4_47) rfl (l' := #[.val (.int x0), .val (.int x1), .val (.int s0), .unset]) rfl ?_
  show Steps p.tables e below (T.setTop (mkF m 48 #[.val (.int x0), .val (.int x1), .val (.int s0), .unset] [])) _
  refine XS.iloadN X.here hx rfl (hb hby d4_48) rfl ?_
  show Steps p.tables e below (T.setTop (mkF m 49 #[.val (.int x0), .val (.int x1), .val (.int s0), .unset] [(.int x0)])) _
  refine X.ldcInt hx hown (mvT hZ (hw _ (List.mem_of_getElem? (i := 3) rfl))) (g := (mkF m 49 #[.val (.int x0), .val (.int x1), .val (.int s0), .unset] [(.int x0)])) rfl (hb hby d4_49) _ ?_
  show Steps p.tables e below (T.setTop (mkF m 51 #[.val (.int x0), .val (.int x1), .val (.int s0), .unset] [(.int (65534 : Int32)), (.int x0)])) _
  by_cases hc : x0 = (65534 : Int32)
  · refine XS.icmpYes X.here hx rfl (pc0 := 51) (pc' := 60) rfl (hb hby d4_51) rfl (teq hc).1 (by decide) (by decide) ?_
    rw [show f4_47 x0 x1 s0 = f4_60 x0 x1 s0 from if_pos hc] at hr; exact b4_60 X hx hby hw hZ hown hret x0 x1 s0 hr
  · refine XS.icmpNo X.here hx rfl (hb hby d4_51) rfl (feq hc).1 ?_
    rw [show f4_47 x0 x1 s0 = f4_54 x0 x1 s0 from if_neg hc] at hr; exact b4_54 X hx hby hw hZ hown hret x0 x1 s0 hr
def f4_46 (x0 : Int32) (x1 : Int32) : Int32 := f4_47 x0 x1 (0 : Int32)
set_option maxRecDepth 65536 in
theorem b4_46 {p : Program} {l : Launch} {e : Env} {R : Room} {s : State} {m : MethodId} {args : Array Value} {below : List Frame} {meth : Method} {c : Code} {T : State} {locs : List Loc} {cells slots : Nat} (X : Stand p l e R s m args below meth c T locs cells slots) (hx : p.tables.exec = Jvm.exec) (hby : c.code = method_3_code) {Z : State} {a0 : Array Value} (hw : ∀ d ∈ tables_1, d.before a0 Z = true) (hZ : Z.Warmed39 s.vm) (hown : s.vm.findClass "com/example/wardrelay/wardrelay/transport/XmlWriterCarriesPinLaw" = some m.cls) (hret : meth.sig.returnType = some .boolean) (x0 : Int32) (x1 : Int32) {fs : List Frame} (hr : ∀ (f : JFrame) (acts : List Action), f.method = m → f.locked = none → f.entered = [] → (doReturn e (T.setTop f) acts (some (.int (f4_46 x0 x1)))).1 = T.setFrames fs) :
    Steps p.tables e below (T.setTop (mkF m 46 #[.val (.int x0), .val (.int x1), .unset, .unset] [])) (T.setFrames fs) := by
  show Steps p.tables e below (T.setTop (mkF m 46 #[.val (.int x0), .val (.int x1), .unset, .unset] [])) _
  refine XS.iconst X.here hx rfl (hb hby d4_46) ?_
  exact b4_47 X hx hby hw hZ hown hret x0 x1 (0 : Int32) hr
def f4_42 (x0 : Int32) (x1 : Int32) : Int32 := f4_47 x0 x1 (1 : Int32)
set_option maxRecDepth 65536 in
theorem b4_42 {p : Program} {l : Launch} {e : Env} {R : Room} {s : State} {m : MethodId} {args : Array Value} {below : List Frame} {meth : Method} {c : Code} {T : State} {locs : List Loc} {cells slots : Nat} (X : Stand p l e R s m args below meth c T locs cells slots) (hx : p.tables.exec = Jvm.exec) (hby : c.code = method_3_code) {Z : State} {a0 : Array Value} (hw : ∀ d ∈ tables_1, d.before a0 Z = true) (hZ : Z.Warmed39 s.vm) (hown : s.vm.findClass "com/example/wardrelay/wardrelay/transport/XmlWriterCarriesPinLaw" = some m.cls) (hret : meth.sig.returnType = some .boolean) (x0 : Int32) (x1 : Int32) {fs : List Frame} (hr : ∀ (f : JFrame) (acts : List Action), f.method = m → f.locked = none → f.entered = [] → (doReturn e (T.setTop f) acts (some (.int (f4_42 x0 x1)))).1 = T.setFrames fs) :
    Steps p.tables e below (T.setTop (mkF m 42 #[.val (.int x0), .val (.int x1), .unset, .unset] [])) (T.setFrames fs) := by
  show Steps p.tables e below (T.setTop (mkF m 42 #[.val (.int x0), .val (.int x1), .unset, .unset] [])) _
  refine XS.iconst X.here hx rfl (hb hby d4_42) ?_
  show Steps p.tables e below (T.setTop (mkF m 43 #[.val (.int x0), .val (.int x1), .unset, .unset] [(.int (1 : Int32))])) _
  refine XS.goto X.here hx rfl (pc0 := 43) (pc' := 47) rfl (hb hby d4_43) (by decide) (by decide) ?_
  exact b4_47 X hx hby hw hZ hown hret x0 x1 (1 : Int32) hr
def f4_36 (x0 : Int32) (x1 : Int32) : Int32 := if (57343 : Int32) < x0 then f4_46 x0 x1 else f4_42 x0 x1
set_option maxRecDepth 65536 in
theorem b4_36 {p : Program} {l : Launch} {e : Env} {R : Room} {s : State} {m : MethodId} {args : Array Value} {below : List Frame} {meth : Method} {c : Code} {T : State} {locs : List Loc} {cells slots : Nat} (X : Stand p l e R s m args below meth c T locs cells slots) (hx : p.tables.exec = Jvm.exec) (hby : c.code = method_3_code) {Z : State} {a0 : Array Value} (hw : ∀ d ∈ tables_1, d.before a0 Z = true) (hZ : Z.Warmed39 s.vm) (hown : s.vm.findClass "com/example/wardrelay/wardrelay/transport/XmlWriterCarriesPinLaw" = some m.cls) (hret : meth.sig.returnType = some .boolean) (x0 : Int32) (x1 : Int32) {fs : List Frame} (hr : ∀ (f : JFrame) (acts : List Action), f.method = m → f.locked = none → f.entered = [] → (doReturn e (T.setTop f) acts (some (.int (f4_36 x0 x1)))).1 = T.setFrames fs) :
    Steps p.tables e below (T.setTop (mkF m 36 #[.val (.int x0), .val (.int x1), .unset, .unset] [])) (T.setFrames fs) := by
  show Steps p.tables e below (T.setTop (mkF m 36 #[.val (.int x0), .val (.int x1), .unset, .unset] [])) _
  refine XS.iloadN X.here hx rfl (hb hby d4_36) rfl ?_
  show Steps p.tables e below (T.setTop (mkF m 37 #[.val (.int x0), .val (.int x1), .unset, .unset] [(.int x0)])) _
  refine X.ldcInt hx hown (mvT hZ (hw _ (List.mem_of_getElem? (i := 26) rfl))) (g := (mkF m 37 #[.val (.int x0), .val (.int x1), .unset, .unset] [(.int x0)])) rfl (hb hby d4_37) _ ?_
  show Steps p.tables e below (T.setTop (mkF m 39 #[.val (.int x0), .val (.int x1), .unset, .unset] [(.int (57343 : Int32)), (.int x0)])) _
  by_cases hc : (57343 : Int32) < x0
  · refine XS.icmpYes X.here hx rfl (pc0 := 39) (pc' := 46) rfl (hb hby d4_39) rfl (tlt hc).2.2.1 (by decide) (by decide) ?_
    rw [show f4_36 x0 x1 = f4_46 x0 x1 from if_pos hc] at hr; exact b4_46 X hx hby hw hZ hown hret x0 x1 hr
  · refine XS.icmpNo X.here hx rfl (hb hby d4_39) rfl (flt hc).2.2.1 ?_
    rw [show f4_36 x0 x1 = f4_42 x0 x1 from if_neg hc] at hr; exact b4_42 X hx hby hw hZ hown hret x0 x1 hr
def f4_29 (x0 : Int32) (s0 : Int32) : Int32 := if x0 < (55296 : Int32) then f4_46 x0 s0 else f4_36 x0 s0
set_option maxRecDepth 65536 in
theorem b4_29 {p : Program} {l : Launch} {e : Env} {R : Room} {s : State} {m : MethodId} {args : Array Value} {below : List Frame} {meth : Method} {c : Code} {T : State} {locs : List Loc} {cells slots : Nat} (X : Stand p l e R s m args below meth c T locs cells slots) (hx : p.tables.exec = Jvm.exec) (hby : c.code = method_3_code) {Z : State} {a0 : Array Value} (hw : ∀ d ∈ tables_1, d.before a0 Z = true) (hZ : Z.Warmed39 s.vm) (hown : s.vm.findClass "com/example/wardrelay/wardrelay/transport/XmlWriterCarriesPinLaw" = some m.cls) (hret : meth.sig.returnType = some .boolean) (x0 : Int32) (s0 : Int32) {fs : List Frame} (hr : ∀ (f : JFrame) (acts : List Action), f.method = m → f.locked = none → f.entered = [] → (doReturn e (T.setTop f) acts (some (.int (f4_29 x0 s0)))).1 = T.setFrames fs) :
    Steps p.tables e below (T.setTop (mkF m 29 #[.val (.int x0), .unset, .unset, .unset] [(.int s0)])) (T.setFrames fs) := by
  show Steps p.tables e below (T.setTop (mkF m 29 #[.val (.int x0), .unset, .unset, .unset] [(.int s0)])) _
  refine XS.istoreN X.here hx rfl (hb hby d4_29) rfl (l' := #[.val (.int x0), .val (.int s0), .unset, .unset]) rfl ?_
  show Steps p.tables e below (T.setTop (mkF m 30 #[.val (.int x0), .val (.int s0), .unset, .unset] [])) _
  refine XS.iloadN X.here hx rfl (hb hby d4_30) rfl ?_
  show Steps p.tables e below (T.setTop (mkF m 31 #[.val (.int x0), .val (.int s0), .unset, .unset] [(.int x0)])) _
  refine X.ldcInt hx hown (mvT hZ (hw _ (List.mem_of_getElem? (i := 1) rfl))) (g := (mkF m 31 #[.val (.int x0), .val (.int s0), .unset, .unset] [(.int x0)])) rfl (hb hby d4_31) _ ?_
  show Steps p.tables e below (T.setTop (mkF m 33 #[.val (.int x0), .val (.int s0), .unset, .unset] [(.int (55296 : Int32)), (.int x0)])) _
  by_cases hc : x0 < (55296 : Int32)
  · refine XS.icmpYes X.here hx rfl (pc0 := 33) (pc' := 46) rfl (hb hby d4_33) rfl (tlt hc).1 (by decide) (by decide) ?_
    rw [show f4_29 x0 s0 = f4_46 x0 s0 from if_pos hc] at hr; exact b4_46 X hx hby hw hZ hown hret x0 s0 hr
  · refine XS.icmpNo X.here hx rfl (hb hby d4_33) rfl (flt hc).1 ?_
    rw [show f4_29 x0 s0 = f4_36 x0 s0 from if_neg hc] at hr; exact b4_36 X hx hby hw hZ hown hret x0 s0 hr
def f4_28 (x0 : Int32) : Int32 := f4_29 x0 (0 : Int32)
set_option maxRecDepth 65536 in
theorem b4_28 {p : Program} {l : Launch} {e : Env} {R : Room} {s : State} {m : MethodId} {args : Array Value} {below : List Frame} {meth : Method} {c : Code} {T : State} {locs : List Loc} {cells slots : Nat} (X : Stand p l e R s m args below meth c T locs cells slots) (hx : p.tables.exec = Jvm.exec) (hby : c.code = method_3_code) {Z : State} {a0 : Array Value} (hw : ∀ d ∈ tables_1, d.before a0 Z = true) (hZ : Z.Warmed39 s.vm) (hown : s.vm.findClass "com/example/wardrelay/wardrelay/transport/XmlWriterCarriesPinLaw" = some m.cls) (hret : meth.sig.returnType = some .boolean) (x0 : Int32) {fs : List Frame} (hr : ∀ (f : JFrame) (acts : List Action), f.method = m → f.locked = none → f.entered = [] → (doReturn e (T.setTop f) acts (some (.int (f4_28 x0)))).1 = T.setFrames fs) :
    Steps p.tables e below (T.setTop (mkF m 28 #[.val (.int x0), .unset, .unset, .unset] [])) (T.setFrames fs) := by
  show Steps p.tables e below (T.setTop (mkF m 28 #[.val (.int x0), .unset, .unset, .unset] [])) _
  refine XS.iconst X.here hx rfl (hb hby d4_28) ?_
  exact b4_29 X hx hby hw hZ hown hret x0 (0 : Int32) hr
def f4_24 (x0 : Int32) : Int32 := f4_29 x0 (1 : Int32)
set_option maxRecDepth 65536 in
theorem b4_24 {p : Program} {l : Launch} {e : Env} {R : Room} {s : State} {m : MethodId} {args : Array Value} {below : List Frame} {meth : Method} {c : Code} {T : State} {locs : List Loc} {cells slots : Nat} (X : Stand p l e R s m args below meth c T locs cells slots) (hx : p.tables.exec = Jvm.exec) (hby : c.code = method_3_code) {Z : State} {a0 : Array Value} (hw : ∀ d ∈ tables_1, d.before a0 Z = true) (hZ : Z.Warmed39 s.vm) (hown : s.vm.findClass "com/example/wardrelay/wardrelay/transport/XmlWriterCarriesPinLaw" = some m.cls) (hret : meth.sig.returnType = some .boolean) (x0 : Int32) {fs : List Frame} (hr : ∀ (f : JFrame) (acts : List Action), f.method = m → f.locked = none → f.entered = [] → (doReturn e (T.setTop f) acts (some (.int (f4_24 x0)))).1 = T.setFrames fs) :
    Steps p.tables e below (T.setTop (mkF m 24 #[.val (.int x0), .unset, .unset, .unset] [])) (T.setFrames fs) := by
  show Steps p.tables e below (T.setTop (mkF m 24 #[.val (.int x0), .unset, .unset, .unset] [])) _
  refine XS.iconst X.here hx rfl (hb hby d4_24) ?_
  show Steps p.tables e below (T.setTop (mkF m 25 #[.val (.int x0), .unset, .unset, .unset] [(.int (1 : Int32))])) _
  refine XS.goto X.here hx rfl (pc0 := 25) (pc' := 29) rfl (hb hby d4_25) (by decide) (by decide) ?_
  exact b4_29 X hx hby hw hZ hown hret x0 (1 : Int32) hr
def f4_18 (x0 : Int32) : Int32 := if x0 = (13 : Int32) then f4_28 x0 else f4_24 x0
set_option maxRecDepth 65536 in
theorem b4_18 {p : Program} {l : Launch} {e : Env} {R : Room} {s : State} {m : MethodId} {args : Array Value} {below : List Frame} {meth : Method} {c : Code} {T : State} {locs : List Loc} {cells slots : Nat} (X : Stand p l e R s m args below meth c T locs cells slots) (hx : p.tables.exec = Jvm.exec) (hby : c.code = method_3_code) {Z : State} {a0 : Array Value} (hw : ∀ d ∈ tables_1, d.before a0 Z = true) (hZ : Z.Warmed39 s.vm) (hown : s.vm.findClass "com/example/wardrelay/wardrelay/transport/XmlWriterCarriesPinLaw" = some m.cls) (hret : meth.sig.returnType = some .boolean) (x0 : Int32) {fs : List Frame} (hr : ∀ (f : JFrame) (acts : List Action), f.method = m → f.locked = none → f.entered = [] → (doReturn e (T.setTop f) acts (some (.int (f4_18 x0)))).1 = T.setFrames fs) :
    Steps p.tables e below (T.setTop (mkF m 18 #[.val (.int x0), .unset, .unset, .unset] [])) (T.setFrames fs) := by
  show Steps p.tables e below (T.setTop (mkF m 18 #[.val (.int x0), .unset, .unset, .unset] [])) _
  refine XS.iloadN X.here hx rfl (hb hby d4_18) rfl ?_
  show Steps p.tables e below (T.setTop (mkF m 19 #[.val (.int x0), .unset, .unset, .unset] [(.int x0)])) _
  refine XS.bipush X.here hx rfl (hb hby d4_19) ?_
  show Steps p.tables e below (T.setTop (mkF m 21 #[.val (.int x0), .unset, .unset, .unset] [(.int (13 : Int32)), (.int x0)])) _
  by_cases hc : x0 = (13 : Int32)
  · refine XS.icmpYes X.here hx rfl (pc0 := 21) (pc' := 28) rfl (hb hby d4_21) rfl (teq hc).1 (by decide) (by decide) ?_
    rw [show f4_18 x0 = f4_28 x0 from if_pos hc] at hr; exact b4_28 X hx hby hw hZ hown hret x0 hr
  · refine XS.icmpNo X.here hx rfl (hb hby d4_21) rfl (feq hc).1 ?_
    rw [show f4_18 x0 = f4_24 x0 from if_neg hc] at hr; exact b4_24 X hx hby hw hZ hown hret x0 hr
def f4_12 (x0 : Int32) : Int32 := if x0 = (10 : Int32) then f4_28 x0 else f4_18 x0
set_option maxRecDepth 65536 in
theorem b4_12 {p : Program} {l : Launch} {e : Env} {R : Room} {s : State} {m : MethodId} {args : Array Value} {below : List Frame} {meth : Method} {c : Code} {T : State} {locs : List Loc} {cells slots : Nat} (X : Stand p l e R s m args below meth c T locs cells slots) (hx : p.tables.exec = Jvm.exec) (hby : c.code = method_3_code) {Z : State} {a0 : Array Value} (hw : ∀ d ∈ tables_1, d.before a0 Z = true) (hZ : Z.Warmed39 s.vm) (hown : s.vm.findClass "com/example/wardrelay/wardrelay/transport/XmlWriterCarriesPinLaw" = some m.cls) (hret : meth.sig.returnType = some .boolean) (x0 : Int32) {fs : List Frame} (hr : ∀ (f : JFrame) (acts : List Action), f.method = m → f.locked = none → f.entered = [] → (doReturn e (T.setTop f) acts (some (.int (f4_12 x0)))).1 = T.setFrames fs) :
    Steps p.tables e below (T.setTop (mkF m 12 #[.val (.int x0), .unset, .unset, .unset] [])) (T.setFrames fs) := by
  show Steps p.tables e below (T.setTop (mkF m 12 #[.val (.int x0), .unset, .unset, .unset] [])) _
  refine XS.iloadN X.here hx rfl (hb hby d4_12) rfl ?_
  show Steps p.tables e below (T.setTop (mkF m 13 #[.val (.int x0), .unset, .unset, .unset] [(.int x0)])) _
  refine XS.bipush X.here hx rfl (hb hby d4_13) ?_
  show Steps p.tables e below (T.setTop (mkF m 15 #[.val (.int x0), .unset, .unset, .unset] [(.int (10 : Int32)), (.int x0)])) _
  by_cases hc : x0 = (10 : Int32)
  · refine XS.icmpYes X.here hx rfl (pc0 := 15) (pc' := 28) rfl (hb hby d4_15) rfl (teq hc).1 (by decide) (by decide) ?_
    rw [show f4_12 x0 = f4_28 x0 from if_pos hc] at hr; exact b4_28 X hx hby hw hZ hown hret x0 hr
  · refine XS.icmpNo X.here hx rfl (hb hby d4_15) rfl (feq hc).1 ?_
    rw [show f4_12 x0 = f4_18 x0 from if_neg hc] at hr; exact b4_18 X hx hby hw hZ hown hret x0 hr
def f4_6 (x0 : Int32) : Int32 := if x0 = (9 : Int32) then f4_28 x0 else f4_12 x0
set_option maxRecDepth 65536 in
theorem b4_6 {p : Program} {l : Launch} {e : Env} {R : Room} {s : State} {m : MethodId} {args : Array Value} {below : List Frame} {meth : Method} {c : Code} {T : State} {locs : List Loc} {cells slots : Nat} (X : Stand p l e R s m args below meth c T locs cells slots) (hx : p.tables.exec = Jvm.exec) (hby : c.code = method_3_code) {Z : State} {a0 : Array Value} (hw : ∀ d ∈ tables_1, d.before a0 Z = true) (hZ : Z.Warmed39 s.vm) (hown : s.vm.findClass "com/example/wardrelay/wardrelay/transport/XmlWriterCarriesPinLaw" = some m.cls) (hret : meth.sig.returnType = some .boolean) (x0 : Int32) {fs : List Frame} (hr : ∀ (f : JFrame) (acts : List Action), f.method = m → f.locked = none → f.entered = [] → (doReturn e (T.setTop f) acts (some (.int (f4_6 x0)))).1 = T.setFrames fs) :
    Steps p.tables e below (T.setTop (mkF m 6 #[.val (.int x0), .unset, .unset, .unset] [])) (T.setFrames fs) := by
  show Steps p.tables e below (T.setTop (mkF m 6 #[.val (.int x0), .unset, .unset, .unset] [])) _
  refine XS.iloadN X.here hx rfl (hb hby d4_6) rfl ?_
  show Steps p.tables e below (T.setTop (mkF m 7 #[.val (.int x0), .unset, .unset, .unset] [(.int x0)])) _
  refine XS.bipush X.here hx rfl (hb hby d4_7) ?_
  show Steps p.tables e below (T.setTop (mkF m 9 #[.val (.int x0), .unset, .unset, .unset] [(.int (9 : Int32)), (.int x0)])) _
  by_cases hc : x0 = (9 : Int32)
  · refine XS.icmpYes X.here hx rfl (pc0 := 9) (pc' := 28) rfl (hb hby d4_9) rfl (teq hc).1 (by decide) (by decide) ?_
    rw [show f4_6 x0 = f4_28 x0 from if_pos hc] at hr; exact b4_28 X hx hby hw hZ hown hret x0 hr
  · refine XS.icmpNo X.here hx rfl (hb hby d4_9) rfl (feq hc).1 ?_
    rw [show f4_6 x0 = f4_12 x0 from if_neg hc] at hr; exact b4_12 X hx hby hw hZ hown hret x0 hr
def f4_0 (x0 : Int32) : Int32 := if x0 < (32 : Int32) then f4_6 x0 else f4_28 x0
set_option maxRecDepth 65536 in
theorem b4_0 {p : Program} {l : Launch} {e : Env} {R : Room} {s : State} {m : MethodId} {args : Array Value} {below : List Frame} {meth : Method} {c : Code} {T : State} {locs : List Loc} {cells slots : Nat} (X : Stand p l e R s m args below meth c T locs cells slots) (hx : p.tables.exec = Jvm.exec) (hby : c.code = method_3_code) {Z : State} {a0 : Array Value} (hw : ∀ d ∈ tables_1, d.before a0 Z = true) (hZ : Z.Warmed39 s.vm) (hown : s.vm.findClass "com/example/wardrelay/wardrelay/transport/XmlWriterCarriesPinLaw" = some m.cls) (hret : meth.sig.returnType = some .boolean) (x0 : Int32) {fs : List Frame} (hr : ∀ (f : JFrame) (acts : List Action), f.method = m → f.locked = none → f.entered = [] → (doReturn e (T.setTop f) acts (some (.int (f4_0 x0)))).1 = T.setFrames fs) :
    Steps p.tables e below (T.setTop (mkF m 0 #[.val (.int x0), .unset, .unset, .unset] [])) (T.setFrames fs) := by
  show Steps p.tables e below (T.setTop (mkF m 0 #[.val (.int x0), .unset, .unset, .unset] [])) _
  refine XS.iloadN X.here hx rfl (hb hby d4_0) rfl ?_
  show Steps p.tables e below (T.setTop (mkF m 1 #[.val (.int x0), .unset, .unset, .unset] [(.int x0)])) _
  refine XS.bipush X.here hx rfl (hb hby d4_1) ?_
  show Steps p.tables e below (T.setTop (mkF m 3 #[.val (.int x0), .unset, .unset, .unset] [(.int (32 : Int32)), (.int x0)])) _
  by_cases hc : x0 < (32 : Int32)
  · refine XS.icmpNo X.here hx rfl (hb hby d4_3) rfl (tlt hc).2.1 ?_
    rw [show f4_0 x0 = f4_6 x0 from if_pos hc] at hr; exact b4_6 X hx hby hw hZ hown hret x0 hr
  · refine XS.icmpYes X.here hx rfl (pc0 := 3) (pc' := 28) rfl (hb hby d4_3) rfl (flt hc).2.1 (by decide) (by decide) ?_
    rw [show f4_0 x0 = f4_28 x0 from if_neg hc] at hr; exact b4_28 X hx hby hw hZ hown hret x0 hr
theorem pn_4 : plainName "com/example/wardrelay/wardrelay/transport/XmlWriterCarriesPinLaw" = true := by first | (simp [plainName, overriddenIn]; done) | decide +kernel
theorem ef_4 (m : MethodId) (x0 : Int32) : entryFrame m #[(.int x0)] 4 = (mkF m 0 #[.val (.int x0), .unset, .unset, .unset] []) := by first | (simp [entryFrame, mkF, argsToLocals, Value.category]; done) | rfl
def Q4 (Z : State) (x0 : Int32) (h0 : Heap) (n0 : Nat) (v : Option Value) (h : Heap) (L : List Loc) : Prop := v = some (.int (f4_0 x0)) ∧ Fr n0 L ∧ h = h0
set_option maxRecDepth 65536 in
set_option maxHeartbeats 40000000 in
theorem rm4 (l : Launch) (Z : State) (a0 : Array Value) (hw : ∀ d ∈ tables_1, d.before a0 Z = true) (ws : List Jvm.Cond) (x0 : Int32) (h0 : Heap) (n0 : Nat) (Z0 : n0 ≤ h0.size) :
    MetFree l (⟨"com/example/wardrelay/wardrelay/transport/XmlWriterCarriesPinLaw", "expected", "(I)Z"⟩ : MethodName) (head1 (Jvm.Cond.code (⟨"com/example/wardrelay/wardrelay/transport/XmlWriterCarriesPinLaw", "expected", "(I)Z"⟩ : MethodName) method_3_code 4 (some .boolean) :: ws) ({ frames := 0, cells := 0, slots := 0, locals := 0 } : Room)) (fun a U => a = #[(.int x0)] ∧ Z.Warmed39 U.vm ∧ U.heap = h0) (fun _ _ _ _ _ => True) (fun _ U o U' => ∃ v L, o = .returned v ∧ Q4 Z x0 h0 n0 v U'.heap L ∧ FrameEnd U o U' L ({ frames := 0, cells := 0, slots := 0, locals := 0 } : Room).cells ({ frames := 0, cells := 0, slots := 0, locals := 0 } : Room).slots) := by
  refine MetFree.of_bodySF (plainFor_of_name pn_4) hisR ?_
  intro p e s m args below meth c s₁ Bd hml0 hP hK
  obtain ⟨rfl, hZ, hh⟩ := hP
  have hx := Bd.exec
  have hby := Bd.bytes
  have hown : s.vm.findClass "com/example/wardrelay/wardrelay/transport/XmlWriterCarriesPinLaw" = some m.cls := findClass_of_methodNamed Bd.named
  have X0 : Stand p l e ({ frames := 0, cells := 0, slots := 0, locals := 0 } : Room) s m #[(.int x0)] below meth c s₁ [] 0 0 := Stand.of_body Bd
  have e0 : s₁.heap = h0 := by rw [← hh, Bd.state]; rfl
  have N0 := Fr.nil n0
  have pre0 : ∀ t, Steps p.tables e below (s₁.setTop (mkF m 0 #[.val (.int x0), .unset, .unset, .unset] [])) t → Steps p.tables e below (s₁.setTop (entryFrame m #[(.int x0)] 4)) t := fun t k => castTop (ef_4 m x0) k
  obtain ⟨fs, hr, hrun, hended, hW, hsame⟩ := X0.leave (v := some (.int (f4_0 x0))) (fun h => by rw [Bd.returns] at h; cases h)
  refine ⟨_, _, pre0 _ ?_, hrun, hended, _, _, rfl, ?_, ⟨_, rfl⟩, hW, hsame.mono (by decide) (by decide)⟩
  · exact b4_0 X0 hx hby hw hZ hown Bd.returns x0 hr
  · show Q4 Z x0 h0 n0 _ s₁.heap _
    rw [e0]
    exact ⟨rfl, N0, rfl⟩
theorem own_isint {v : Value} (h : fits .int v = true) : ∃ w, v = .int w := by
  cases v with
  | int w => exact ⟨w, rfl⟩
  | _ => exact Bool.noConfusion (show false = true from h)
theorem own_place (x : Int32) : ¬ (((x.toUInt32 >>> ((3 : Int32) &&& 31).toUInt32).toInt32) &&& (7 : Int32)) < 0 ∧ (((x.toUInt32 >>> ((3 : Int32) &&& 31).toUInt32).toInt32) &&& (7 : Int32)) < (8 : Int32) := by
  generalize ((x.toUInt32 >>> ((3 : Int32) &&& 31).toUInt32).toInt32) = y
  have e : (y &&& 7).toInt = y.toInt % 2 ^ 3 := Jvm.Kit.i32_mask y 7 (k := 3) (by decide) (by decide)
  have e0 : (0 : Int32).toInt = 0 := by decide
  have e8 : (8 : Int32).toInt = 8 := by decide
  rw [Int32.lt_iff_toInt_lt, Int32.lt_iff_toInt_lt]
  omega
theorem own_low (n : Fin 32) : f3_0 (Int32.ofNat n.val) = f4_0 (Int32.ofNat n.val) := by
  revert n
  decide +kernel
theorem own_law (c : Int32) : f3_0 c = f4_0 c := by
  by_cases h32 : c < 32
  · by_cases h0 : 0 ≤ c.toInt
    · have hl : c.toInt < 32 := by have := Int32.lt_iff_toInt_lt.mp h32; simpa using this
      have hn : c = Int32.ofNat c.toInt.toNat := by
        apply Int32.toInt_inj.mp
        rw [Int32.toInt_ofNat_of_lt (by omega)]
        omega
      rw [hn]
      exact own_low ⟨c.toInt.toNat, by omega⟩
    · have ne : ∀ k : Int32, 0 ≤ k.toInt → ¬ c = k := fun k hk e => h0 (e ▸ hk)
      have l2 : c < 57344 := by rw [Int32.lt_iff_toInt_lt]; have : (57344 : Int32).toInt = 57344 := by decide
                                omega
      have l3 : c < 65536 := by rw [Int32.lt_iff_toInt_lt]; have : (65536 : Int32).toInt = 65536 := by decide
                                omega
      have l4 : c < 55296 := by rw [Int32.lt_iff_toInt_lt]; have : (55296 : Int32).toInt = 55296 := by decide
                                omega
      simp only [f3_0, f3_6, f3_12, f3_18, f3_24, f3_30, f3_36, f3_42, f3_48, f3_52, f3_53, f4_0, f4_6, f4_12, f4_18, f4_24, f4_28, f4_29, f4_36, f4_42, f4_46, f4_47, f4_54, f4_60, f4_64, f4_65, f4_70, f4_74, f4_78, f4_82, f4_83, h32, l2, l3, l4, ne 9 (by decide), ne 10 (by decide), ne 13 (by decide), ne 65534 (by decide), ne 65535 (by decide), if_true, if_false] <;> rfl
  · have ne : ∀ k : Int32, k < 32 → ¬ c = k := fun k hk e => h32 (e ▸ hk)
    have g32 := h32
    rw [Int32.lt_iff_toInt_lt] at g32
    have k0 : (32 : Int32).toInt = 32 := by decide
    have k1 : (55295 : Int32).toInt = 55295 := by decide
    have k2 : (55296 : Int32).toInt = 55296 := by decide
    have k3 : (57343 : Int32).toInt = 57343 := by decide
    have k4 : (57344 : Int32).toInt = 57344 := by decide
    have k5 : (65533 : Int32).toInt = 65533 := by decide
    have k6 : (65534 : Int32).toInt = 65534 := by decide
    have k7 : (65535 : Int32).toInt = 65535 := by decide
    have k8 : (65536 : Int32).toInt = 65536 := by decide
    have n9 := ne 9 (by decide)
    have n10 := ne 10 (by decide)
    have n13 := ne 13 (by decide)
    by_cases a1 : (55295 : Int32) < c
    · have b1 : ¬ c < 55296 := by rw [Int32.lt_iff_toInt_lt] at a1 ⊢; omega
      by_cases a2 : c < 57344
      · have b2 : ¬ (57343 : Int32) < c := by rw [Int32.lt_iff_toInt_lt] at a2 ⊢; omega
        have b3 : c < 65536 := by rw [Int32.lt_iff_toInt_lt] at a2 ⊢; omega
        have b4 : ¬ c = 65534 := fun e => by subst e; exact absurd a2 (by decide)
        have b5 : ¬ c = 65535 := fun e => by subst e; exact absurd a2 (by decide)
        simp only [f3_0, f3_6, f3_12, f3_18, f3_24, f3_30, f3_36, f3_42, f3_48, f3_52, f3_53, f4_0, f4_6, f4_12, f4_18, f4_24, f4_28, f4_29, f4_36, f4_42, f4_46, f4_47, f4_54, f4_60, f4_64, f4_65, f4_70, f4_74, f4_78, f4_82, f4_83, h32, n9, n10, n13, a1, b1, a2, b2, b3, b4, b5, if_true, if_false] <;> rfl
      · have b2 : (57343 : Int32) < c := by rw [Int32.lt_iff_toInt_lt] at a2 ⊢; omega
        by_cases a3 : (65533 : Int32) < c
        · by_cases a4 : c < 65536
          · by_cases a5 : c = 65534
            · subst a5; decide
            · have a6 : c = 65535 := by
                apply Int32.toInt_inj.mp
                have a7 : ¬ c.toInt = 65534 := fun e => a5 (Int32.toInt_inj.mp (e.trans k6.symm))
                rw [Int32.lt_iff_toInt_lt] at a3 a4; omega
              subst a6; decide
          · have b4 : ¬ c = 65534 := fun e => by subst e; exact absurd (by decide) a4
            have b5 : ¬ c = 65535 := fun e => by subst e; exact absurd (by decide) a4
            simp only [f3_0, f3_6, f3_12, f3_18, f3_24, f3_30, f3_36, f3_42, f3_48, f3_52, f3_53, f4_0, f4_6, f4_12, f4_18, f4_24, f4_28, f4_29, f4_36, f4_42, f4_46, f4_47, f4_54, f4_60, f4_64, f4_65, f4_70, f4_74, f4_78, f4_82, f4_83, h32, n9, n10, n13, a1, b1, a2, b2, a3, a4, b4, b5, if_true, if_false] <;> rfl
        · have b4 : ¬ c = 65534 := fun e => by subst e; exact absurd (by decide) a3
          have b5 : ¬ c = 65535 := fun e => by subst e; exact absurd (by decide) a3
          simp only [f3_0, f3_6, f3_12, f3_18, f3_24, f3_30, f3_36, f3_42, f3_48, f3_52, f3_53, f4_0, f4_6, f4_12, f4_18, f4_24, f4_28, f4_29, f4_36, f4_42, f4_46, f4_47, f4_54, f4_60, f4_64, f4_65, f4_70, f4_74, f4_78, f4_82, f4_83, h32, n9, n10, n13, a1, b1, a2, b2, a3, b4, b5, if_true, if_false] <;> rfl
    · have b1 : c < 55296 := by rw [Int32.lt_iff_toInt_lt] at a1 ⊢; omega
      have b2 : c < 57344 := by rw [Int32.lt_iff_toInt_lt] at a1 ⊢; omega
      have b3 : c < 65536 := by rw [Int32.lt_iff_toInt_lt] at a1 ⊢; omega
      have b4 : ¬ c = 65534 := fun e => by subst e; exact absurd (by decide) a1
      have b5 : ¬ c = 65535 := fun e => by subst e; exact absurd (by decide) a1
      simp only [f3_0, f3_6, f3_12, f3_18, f3_24, f3_30, f3_36, f3_42, f3_48, f3_52, f3_53, f4_0, f4_6, f4_12, f4_18, f4_24, f4_28, f4_29, f4_36, f4_42, f4_46, f4_47, f4_54, f4_60, f4_64, f4_65, f4_70, f4_74, f4_78, f4_82, f4_83, h32, n9, n10, n13, a1, b1, b2, b3, b4, b5, if_true, if_false] <;> rfl
theorem pdA_0 : parseMethodDescriptor "(I)Z" = some ⟨[.int], some .boolean⟩ := by decide +kernel
theorem pn_0 : plainName "com/example/wardrelay/wardrelay/transport/XmlWriterCarriesPinLaw" = true := by first | (simp [plainName, overriddenIn]; done) | decide +kernel
theorem ef_0 (m : MethodId) (x0 : Int32) (x1 : Int32) : entryFrame m #[(.int x0), (.int x1)] maxLocals = (mkF m 0 #[.val (.int x0), .val (.int x1), .unset, .unset, .unset, .unset] []) := by first | (simp [entryFrame, mkF, argsToLocals, Value.category, maxLocals]; done) | rfl
def Q0 (Z : State) (x0 : Int32) (x1 : Int32) (h0 : Heap) (n0 : Nat) (v : Option Value) (h : Heap) (L : List Loc) : Prop := v = some (.int (1 : Int32)) ∧ Fr n0 L
set_option maxRecDepth 65536 in
set_option maxHeartbeats 40000000 in
theorem rm0A (l : Launch) (Z : State) (a0 : Array Value) (hw : ∀ d ∈ tables_1, d.before a0 Z = true) (ws : List Jvm.Cond) (x0 : Int32) (x1 : Int32) (h0 : Heap) (n0 : Nat) (Z0 : n0 ≤ h0.size) (hsel : (x1 &&& (1 : Int32)) = (0 : Int32)) :
    MetFree l x (head1 (Jvm.Cond.code x code maxLocals ret :: ws) room_1) (fun a U => a = #[(.int x0), (.int x1)] ∧ Z.Warmed39 U.vm ∧ U.heap = h0) (fun _ _ _ _ _ => True) (fun _ U o U' => ∃ v L, o = .returned v ∧ Q0 Z x0 x1 h0 n0 v U'.heap L ∧ FrameEnd U o U' L room_1.cells room_1.slots) := by
  refine MetFree.of_bodySF (plainFor_of_name pn_0) hisR ?_
  intro p e s m args below meth c s₁ Bd hml0 hP hK
  obtain ⟨rfl, hZ, hh⟩ := hP
  have hx := Bd.exec
  have hby := Bd.bytes
  have hml : c.maxLocals = 6 := hml0
  have hown : s.vm.findClass "com/example/wardrelay/wardrelay/transport/XmlWriterCarriesPinLaw" = some m.cls := findClass_of_methodNamed Bd.named
  have hnm := (name_of_methodNamed Bd.named Bd.method).1
  have X0 : Stand p l e room_1 s m #[(.int x0), (.int x1)] below meth c s₁ [] 0 0 := Stand.of_body Bd
  have e0 : s₁.heap = h0 := by rw [← hh, Bd.state]; rfl
  have N0 := Fr.nil n0
  have pre0 : ∀ t, Steps p.tables e below (s₁.setTop (mkF m 0 #[.val (.int x0), .val (.int x1), .unset, .unset, .unset, .unset] [])) t → Steps p.tables e below (s₁.setTop (entryFrame m #[(.int x0), (.int x1)] maxLocals)) t := fun t k => castTop (ef_0 m x0 x1) k
  obtain ⟨_, _, ⟨T1, L1, k1, n1⟩, -, X1, ⟨Lc1, hQ1, l1, y1, z1⟩, st1⟩ := Jvm.LawKit.callS X0 hx (y := (⟨"com/example/wardrelay/wardrelay/transport/XmlWriter", "carries", "(I)Z"⟩ : MethodName)) hown (mvT hZ (hw _ (List.mem_of_getElem? (i := 13) rfl))) (mvT hZ (hw _ (List.mem_of_getElem? (i := 14) rfl))) (mvT hZ (hw _ (List.mem_of_getElem? (i := 15) rfl))) (mvT hZ (hw _ (List.mem_of_getElem? (i := 16) rfl))) (by decide) (backOf (W := 0) (rm3 l Z a0 hw [] ((x0 &&& (2147483647 : Int32)) - ((x0 &&& (2147483647 : Int32)) / (1114112 : Int32)) * (1114112 : Int32)) h0 n0 Z0) hZ (hw _ (List.mem_of_getElem? (i := 16) rfl)) (hw _ (List.mem_of_getElem? (i := 15) rfl)) (by decide) (by decide)) (g := (mkF m 97 #[.val (.int x0), .val (.int x1), .val (.int ((x0 &&& (2147483647 : Int32)) - ((x0 &&& (2147483647 : Int32)) / (1114112 : Int32)) * (1114112 : Int32))), .unset, .unset, .unset] [(.int ((x0 &&& (2147483647 : Int32)) - ((x0 &&& (2147483647 : Int32)) / (1114112 : Int32)) * (1114112 : Int32)))])) rfl (by rw [hml]; rfl) (argsL := [(.int ((x0 &&& (2147483647 : Int32)) - ((x0 &&& (2147483647 : Int32)) / (1114112 : Int32)) * (1114112 : Int32)))]) (rest := []) (lenOf pdA_0 rfl) rfl (by show 2 * 0 + _ ≤ _; exact Nat.le_of_eq rfl) (hb hby at_97) (fun _ _ => ⟨rfl, e0, (by decide : 0 + 0 ≤ _), (by decide : 0 + 0 ≤ _)⟩)
  dsimp only [Pt.U, Pt.locs, Pt.cells, Pt.slots] at X1 l1 y1 z1 st1 hQ1
  subst l1 y1 z1
  obtain ⟨rfl, N1q, e1⟩ := hQ1
  have N1 := Fr.app N0 N1q
  obtain ⟨_, _, ⟨T2, L2, k2, n2⟩, -, X2, ⟨Lc2, hQ2, l2, y2, z2⟩, st2⟩ := Jvm.LawKit.callS X1 hx (y := (⟨"com/example/wardrelay/wardrelay/transport/XmlWriterCarriesPinLaw", "expected", "(I)Z"⟩ : MethodName)) hown (mvT hZ (hw _ (List.mem_of_getElem? (i := 19) rfl))) (mvT hZ (hw _ (List.mem_of_getElem? (i := 20) rfl))) (mvT hZ (hw _ (List.mem_of_getElem? (i := 21) rfl))) (mvT hZ (hw _ (List.mem_of_getElem? (i := 22) rfl))) (by decide) (backOf (W := 1) (rm4 l Z a0 hw [] ((x0 &&& (2147483647 : Int32)) - ((x0 &&& (2147483647 : Int32)) / (1114112 : Int32)) * (1114112 : Int32)) h0 n0 Z0) hZ (hw _ (List.mem_of_getElem? (i := 22) rfl)) (hw _ (List.mem_of_getElem? (i := 21) rfl)) (by decide) (by decide)) (g := (mkF m 101 #[.val (.int x0), .val (.int x1), .val (.int ((x0 &&& (2147483647 : Int32)) - ((x0 &&& (2147483647 : Int32)) / (1114112 : Int32)) * (1114112 : Int32))), .unset, .unset, .unset] [(.int ((x0 &&& (2147483647 : Int32)) - ((x0 &&& (2147483647 : Int32)) / (1114112 : Int32)) * (1114112 : Int32))), (.int (f3_0 ((x0 &&& (2147483647 : Int32)) - ((x0 &&& (2147483647 : Int32)) / (1114112 : Int32)) * (1114112 : Int32))))])) rfl (by rw [hml]; rfl) (argsL := [(.int ((x0 &&& (2147483647 : Int32)) - ((x0 &&& (2147483647 : Int32)) / (1114112 : Int32)) * (1114112 : Int32)))]) (rest := [(.int (f3_0 ((x0 &&& (2147483647 : Int32)) - ((x0 &&& (2147483647 : Int32)) / (1114112 : Int32)) * (1114112 : Int32))))]) (lenOf pdA_0 rfl) rfl (by show 2 * 0 + _ ≤ _; exact Nat.le_of_eq rfl) (hb hby at_101) (fun _ _ => ⟨rfl, e1, (by decide : 0 + 0 ≤ _), (by decide : 0 + 0 ≤ _)⟩)
  dsimp only [Pt.U, Pt.locs, Pt.cells, Pt.slots] at X2 l2 y2 z2 st2 hQ2
  subst l2 y2 z2
  obtain ⟨rfl, N2q, e2⟩ := hQ2
  have N2 := Fr.app N1 N2q
  obtain ⟨fs, hr, hrun, hended, hW, hsame⟩ := X2.leave (v := some (.int (1 : Int32))) (fun h => by rw [Bd.returns] at h; cases h)
  refine ⟨_, _, pre0 _ ?_, hrun, hended, _, _, rfl, ?_, ⟨_, rfl⟩, hW, hsame.mono (by decide) (by decide)⟩
  · show Steps p.tables e below (s₁.setTop (mkF m 0 #[.val (.int x0), .val (.int x1), .unset, .unset, .unset, .unset] [])) _
    refine XS.iloadN X0.here hx rfl (hb hby at_0) rfl ?_
    show Steps p.tables e below (s₁.setTop (mkF m 1 #[.val (.int x0), .val (.int x1), .unset, .unset, .unset, .unset] [(.int x1)])) _
    refine XS.iconst X0.here hx rfl (hb hby at_1) ?_
    show Steps p.tables e below (s₁.setTop (mkF m 2 #[.val (.int x0), .val (.int x1), .unset, .unset, .unset, .unset] [(.int (1 : Int32)), (.int x1)])) _
    refine XS.iand X0.here hx rfl (hb hby at_2) rfl ?_
    show Steps p.tables e below (s₁.setTop (mkF m 3 #[.val (.int x0), .val (.int x1), .unset, .unset, .unset, .unset] [(.int (x1 &&& (1 : Int32)))])) _
    refine XS.ifNo X0.here hx rfl (hb hby at_3) rfl ((if0 _ _).trans (teq (hsel : (x1 &&& (1 : Int32)) = (0 : Int32))).2) ?_
    show Steps p.tables e below (s₁.setTop (mkF m 6 #[.val (.int x0), .val (.int x1), .unset, .unset, .unset, .unset] [])) _
    refine XS.iloadN X0.here hx rfl (hb hby at_6) rfl ?_
    show Steps p.tables e below (s₁.setTop (mkF m 7 #[.val (.int x0), .val (.int x1), .unset, .unset, .unset, .unset] [(.int x0)])) _
    refine X0.ldcInt hx hown (mvT hZ (hw _ (List.mem_of_getElem? (i := 27) rfl))) (g := (mkF m 7 #[.val (.int x0), .val (.int x1), .unset, .unset, .unset, .unset] [(.int x0)])) rfl (hb hby at_7) _ ?_
    show Steps p.tables e below (s₁.setTop (mkF m 9 #[.val (.int x0), .val (.int x1), .unset, .unset, .unset, .unset] [(.int (2147483647 : Int32)), (.int x0)])) _
    refine XS.iand X0.here hx rfl (hb hby at_9) rfl ?_
    show Steps p.tables e below (s₁.setTop (mkF m 10 #[.val (.int x0), .val (.int x1), .unset, .unset, .unset, .unset] [(.int (x0 &&& (2147483647 : Int32)))])) _
    refine X0.ldcInt hx hown (mvT hZ (hw _ (List.mem_of_getElem? (i := 28) rfl))) (g := (mkF m 10 #[.val (.int x0), .val (.int x1), .unset, .unset, .unset, .unset] [(.int (x0 &&& (2147483647 : Int32)))])) rfl (hb hby at_10) _ ?_
    show Steps p.tables e below (s₁.setTop (mkF m 12 #[.val (.int x0), .val (.int x1), .unset, .unset, .unset, .unset] [(.int (1114112 : Int32)), (.int (x0 &&& (2147483647 : Int32)))])) _
    refine XS.irem X0.here hx rfl (hb hby at_12) rfl (by decide) ?_
    show Steps p.tables e below (s₁.setTop (mkF m 13 #[.val (.int x0), .val (.int x1), .unset, .unset, .unset, .unset] [(.int ((x0 &&& (2147483647 : Int32)) - ((x0 &&& (2147483647 : Int32)) / (1114112 : Int32)) * (1114112 : Int32)))])) _
    refine XS.istoreN X0.here hx rfl (hb hby at_13) rfl (l' := #[.val (.int x0), .val (.int x1), .val (.int ((x0 &&& (2147483647 : Int32)) - ((x0 &&& (2147483647 : Int32)) / (1114112 : Int32)) * (1114112 : Int32))), .unset, .unset, .unset]) rfl ?_
    show Steps p.tables e below (s₁.setTop (mkF m 14 #[.val (.int x0), .val (.int x1), .val (.int ((x0 &&& (2147483647 : Int32)) - ((x0 &&& (2147483647 : Int32)) / (1114112 : Int32)) * (1114112 : Int32))), .unset, .unset, .unset] [])) _
    refine XS.goto X0.here hx rfl (pc0 := 14) (pc' := 96) rfl (hb hby at_14) (by decide) (by decide) ?_
    show Steps p.tables e below (s₁.setTop (mkF m 96 #[.val (.int x0), .val (.int x1), .val (.int ((x0 &&& (2147483647 : Int32)) - ((x0 &&& (2147483647 : Int32)) / (1114112 : Int32)) * (1114112 : Int32))), .unset, .unset, .unset] [])) _
    refine XS.iloadN X0.here hx rfl (hb hby at_96) rfl ?_
    show Steps p.tables e below (s₁.setTop (mkF m 97 #[.val (.int x0), .val (.int x1), .val (.int ((x0 &&& (2147483647 : Int32)) - ((x0 &&& (2147483647 : Int32)) / (1114112 : Int32)) * (1114112 : Int32))), .unset, .unset, .unset] [(.int ((x0 &&& (2147483647 : Int32)) - ((x0 &&& (2147483647 : Int32)) / (1114112 : Int32)) * (1114112 : Int32)))])) _
    refine st1 _ ?_
    show Steps p.tables e below (T1.setTop (mkF m 100 #[.val (.int x0), .val (.int x1), .val (.int ((x0 &&& (2147483647 : Int32)) - ((x0 &&& (2147483647 : Int32)) / (1114112 : Int32)) * (1114112 : Int32))), .unset, .unset, .unset] [(.int (f3_0 ((x0 &&& (2147483647 : Int32)) - ((x0 &&& (2147483647 : Int32)) / (1114112 : Int32)) * (1114112 : Int32))))])) _
    refine XS.iloadN X1.here hx rfl (hb hby at_100) rfl ?_
    show Steps p.tables e below (T1.setTop (mkF m 101 #[.val (.int x0), .val (.int x1), .val (.int ((x0 &&& (2147483647 : Int32)) - ((x0 &&& (2147483647 : Int32)) / (1114112 : Int32)) * (1114112 : Int32))), .unset, .unset, .unset] [(.int ((x0 &&& (2147483647 : Int32)) - ((x0 &&& (2147483647 : Int32)) / (1114112 : Int32)) * (1114112 : Int32))), (.int (f3_0 ((x0 &&& (2147483647 : Int32)) - ((x0 &&& (2147483647 : Int32)) / (1114112 : Int32)) * (1114112 : Int32))))])) _
    refine st2 _ ?_
    show Steps p.tables e below (T2.setTop (mkF m 104 #[.val (.int x0), .val (.int x1), .val (.int ((x0 &&& (2147483647 : Int32)) - ((x0 &&& (2147483647 : Int32)) / (1114112 : Int32)) * (1114112 : Int32))), .unset, .unset, .unset] [(.int (f4_0 ((x0 &&& (2147483647 : Int32)) - ((x0 &&& (2147483647 : Int32)) / (1114112 : Int32)) * (1114112 : Int32)))), (.int (f3_0 ((x0 &&& (2147483647 : Int32)) - ((x0 &&& (2147483647 : Int32)) / (1114112 : Int32)) * (1114112 : Int32))))])) _
    refine XS.icmpNo X2.here hx rfl (hb hby at_104) rfl (teq (own_law _ : (f3_0 ((x0 &&& (2147483647 : Int32)) - ((x0 &&& (2147483647 : Int32)) / (1114112 : Int32)) * (1114112 : Int32))) = (f4_0 ((x0 &&& (2147483647 : Int32)) - ((x0 &&& (2147483647 : Int32)) / (1114112 : Int32)) * (1114112 : Int32))))).2 ?_
    show Steps p.tables e below (T2.setTop (mkF m 107 #[.val (.int x0), .val (.int x1), .val (.int ((x0 &&& (2147483647 : Int32)) - ((x0 &&& (2147483647 : Int32)) / (1114112 : Int32)) * (1114112 : Int32))), .unset, .unset, .unset] [])) _
    refine XS.iconst X2.here hx rfl (hb hby at_107) ?_
    show Steps p.tables e below (T2.setTop (mkF m 108 #[.val (.int x0), .val (.int x1), .val (.int ((x0 &&& (2147483647 : Int32)) - ((x0 &&& (2147483647 : Int32)) / (1114112 : Int32)) * (1114112 : Int32))), .unset, .unset, .unset] [(.int (1 : Int32))])) _
    refine XS.goto X2.here hx rfl (pc0 := 108) (pc' := 112) rfl (hb hby at_108) (by decide) (by decide) ?_
    show Steps p.tables e below (T2.setTop (mkF m 112 #[.val (.int x0), .val (.int x1), .val (.int ((x0 &&& (2147483647 : Int32)) - ((x0 &&& (2147483647 : Int32)) / (1114112 : Int32)) * (1114112 : Int32))), .unset, .unset, .unset] [(.int (1 : Int32))])) _
    exact retN X2 hx (t := .boolean) Bd.returns (by simp) (hb hby at_112) hr
  · exact ⟨rfl, N2⟩
theorem pdB_0 : parseMethodDescriptor "(II)I" = some ⟨[.int, .int], some .int⟩ := by decide +kernel
theorem pdB_1 : parseMethodDescriptor "(I)Z" = some ⟨[.int], some .boolean⟩ := by decide +kernel
set_option maxRecDepth 65536 in
set_option maxHeartbeats 40000000 in
theorem rm0B (l : Launch) (Z : State) (a0 : Array Value) (hw : ∀ d ∈ tables_1, d.before a0 Z = true) (ws : List Jvm.Cond) (x0 : Int32) (x1 : Int32) (h0 : Heap) (n0 : Nat) (Z0 : n0 ≤ h0.size) (hsel : ¬ ((x1 &&& (1 : Int32)) = (0 : Int32))) :
    MetFree l x (head1 (Jvm.Cond.code x code maxLocals ret :: ws) room_1) (fun a U => a = #[(.int x0), (.int x1)] ∧ Z.Warmed39 U.vm ∧ U.heap = h0) (fun _ _ _ _ _ => True) (fun _ U o U' => ∃ v L, o = .returned v ∧ Q0 Z x0 x1 h0 n0 v U'.heap L ∧ FrameEnd U o U' L room_1.cells room_1.slots) := by
  refine MetFree.of_bodySF (plainFor_of_name pn_0) hisR ?_
  intro p e s m args below meth c s₁ Bd hml0 hP hK
  obtain ⟨rfl, hZ, hh⟩ := hP
  have hx := Bd.exec
  have hby := Bd.bytes
  have hml : c.maxLocals = 6 := hml0
  have hown : s.vm.findClass "com/example/wardrelay/wardrelay/transport/XmlWriterCarriesPinLaw" = some m.cls := findClass_of_methodNamed Bd.named
  have hnm := (name_of_methodNamed Bd.named Bd.method).1
  have X0 : Stand p l e room_1 s m #[(.int x0), (.int x1)] below meth c s₁ [] 0 0 := Stand.of_body Bd
  have e0 : s₁.heap = h0 := by rw [← hh, Bd.state]; rfl
  have N0 := Fr.nil n0
  have pre0 : ∀ t, Steps p.tables e below (s₁.setTop (mkF m 0 #[.val (.int x0), .val (.int x1), .unset, .unset, .unset, .unset] [])) t → Steps p.tables e below (s₁.setTop (entryFrame m #[(.int x0), (.int x1)] maxLocals)) t := fun t k => castTop (ef_0 m x0 x1) k
  obtain ⟨T1, h1, k1, X1, e1, E1, A1, st1⟩ := newP X0 hx hZ (hw _ (List.mem_of_getElem? (i := 0) rfl)) e0 (g := (mkF m 19 #[.val (.int x0), .val (.int x1), .unset, .unset, .unset, .unset] [(.int (8 : Int32))])) rfl (hb hby at_19) rfl (by decide) (cap := 8) (by decide) (by decide) (by decide) (by decide)
  obtain ⟨b1, g1⟩ : ∃ z, z = h0.size := ⟨_, rfl⟩
  rw [← g1] at A1 st1
  have V1 : Arv Z h1 b1 k1 .int (8 : Int32) [(.int (0 : Int32)), (.int (0 : Int32)), (.int (0 : Int32)), (.int (0 : Int32)), (.int (0 : Int32)), (.int (0 : Int32)), (.int (0 : Int32)), (.int (0 : Int32))] (.int (0 : Int32)) := (Arv.new A1 (by decide)).pad (pad_rep [] (.int (0 : Int32)) 8)
  have gb1 : n0 ≤ b1 := Nat.le_trans Z0 (Nat.le_of_eq g1.symm)
  have Z1 : n0 ≤ h1.size := Nat.le_trans Z0 E1.1
  obtain ⟨c2, Ar2, q2, S2, M2, H2, G2⟩ := V1
  obtain ⟨T2, h2, X2, e2, W2, st2⟩ := stI X1 hx hZ e1 Ar2 (j := (0 : Int32)) (inb_of S2 ⟨by decide, by decide⟩) (g := (mkF m 25 #[.val (.int x0), .val (.int x1), .unset, .unset, .unset, .unset] [(.int (9 : Int32)), (.int (0 : Int32)), (.ref b1), (.ref b1)])) rfl rfl (hb hby at_25)
  have V2 : Arv Z h2 b1 k1 .int (8 : Int32) [(.int (9 : Int32)), (.int (0 : Int32)), (.int (0 : Int32)), (.int (0 : Int32)), (.int (0 : Int32)), (.int (0 : Int32)), (.int (0 : Int32)), (.int (0 : Int32))] (.int (0 : Int32)) := Arv.set Ar2 q2 S2 M2 H2 G2 rfl W2 0 rfl (Nat.le_of_ble_eq_true rfl)
  have N2 := Fr.snoc X2 N0 gb1
  have Z2 : n0 ≤ h2.size := Nat.le_trans Z1 (Keep.of_wr W2).1
  obtain ⟨c3, Ar3, q3, S3, M3, H3, G3⟩ := V2
  obtain ⟨T3, h3, X3, e3, W3, st3⟩ := stI X2 hx hZ e2 Ar3 (j := (1 : Int32)) (inb_of S3 ⟨by decide, by decide⟩) (g := (mkF m 30 #[.val (.int x0), .val (.int x1), .unset, .unset, .unset, .unset] [(.int (32 : Int32)), (.int (1 : Int32)), (.ref b1), (.ref b1)])) rfl rfl (hb hby at_30)
  have V3 : Arv Z h3 b1 k1 .int (8 : Int32) [(.int (9 : Int32)), (.int (32 : Int32)), (.int (0 : Int32)), (.int (0 : Int32)), (.int (0 : Int32)), (.int (0 : Int32)), (.int (0 : Int32)), (.int (0 : Int32))] (.int (0 : Int32)) := Arv.set Ar3 q3 S3 M3 H3 G3 rfl W3 1 rfl (Nat.le_of_ble_eq_true rfl)
  have N3 := Fr.snoc X3 N2 gb1
  have Z3 : n0 ≤ h3.size := Nat.le_trans Z2 (Keep.of_wr W3).1
  obtain ⟨c4, Ar4, q4, S4, M4, H4, G4⟩ := V3
  obtain ⟨T4, h4, X4, e4, W4, st4⟩ := stI X3 hx hZ e3 Ar4 (j := (2 : Int32)) (inb_of S4 ⟨by decide, by decide⟩) (g := (mkF m 35 #[.val (.int x0), .val (.int x1), .unset, .unset, .unset, .unset] [(.int (55296 : Int32)), (.int (2 : Int32)), (.ref b1), (.ref b1)])) rfl rfl (hb hby at_35)
  have V4 : Arv Z h4 b1 k1 .int (8 : Int32) [(.int (9 : Int32)), (.int (32 : Int32)), (.int (55296 : Int32)), (.int (0 : Int32)), (.int (0 : Int32)), (.int (0 : Int32)), (.int (0 : Int32)), (.int (0 : Int32))] (.int (0 : Int32)) := Arv.set Ar4 q4 S4 M4 H4 G4 rfl W4 2 rfl (Nat.le_of_ble_eq_true rfl)
  have N4 := Fr.snoc X4 N3 gb1
  have Z4 : n0 ≤ h4.size := Nat.le_trans Z3 (Keep.of_wr W4).1
  obtain ⟨c5, Ar5, q5, S5, M5, H5, G5⟩ := V4
  obtain ⟨T5, h5, X5, e5, W5, st5⟩ := stI X4 hx hZ e4 Ar5 (j := (3 : Int32)) (inb_of S5 ⟨by decide, by decide⟩) (g := (mkF m 40 #[.val (.int x0), .val (.int x1), .unset, .unset, .unset, .unset] [(.int (57344 : Int32)), (.int (3 : Int32)), (.ref b1), (.ref b1)])) rfl rfl (hb hby at_40)
  have V5 : Arv Z h5 b1 k1 .int (8 : Int32) [(.int (9 : Int32)), (.int (32 : Int32)), (.int (55296 : Int32)), (.int (57344 : Int32)), (.int (0 : Int32)), (.int (0 : Int32)), (.int (0 : Int32)), (.int (0 : Int32))] (.int (0 : Int32)) := Arv.set Ar5 q5 S5 M5 H5 G5 rfl W5 3 rfl (Nat.le_of_ble_eq_true rfl)
  have N5 := Fr.snoc X5 N4 gb1
  have Z5 : n0 ≤ h5.size := Nat.le_trans Z4 (Keep.of_wr W5).1
  obtain ⟨c6, Ar6, q6, S6, M6, H6, G6⟩ := V5
  obtain ⟨T6, h6, X6, e6, W6, st6⟩ := stI X5 hx hZ e5 Ar6 (j := (4 : Int32)) (inb_of S6 ⟨by decide, by decide⟩) (g := (mkF m 45 #[.val (.int x0), .val (.int x1), .unset, .unset, .unset, .unset] [(.int (65534 : Int32)), (.int (4 : Int32)), (.ref b1), (.ref b1)])) rfl rfl (hb hby at_45)
  have V6 : Arv Z h6 b1 k1 .int (8 : Int32) [(.int (9 : Int32)), (.int (32 : Int32)), (.int (55296 : Int32)), (.int (57344 : Int32)), (.int (65534 : Int32)), (.int (0 : Int32)), (.int (0 : Int32)), (.int (0 : Int32))] (.int (0 : Int32)) := Arv.set Ar6 q6 S6 M6 H6 G6 rfl W6 4 rfl (Nat.le_of_ble_eq_true rfl)
  have N6 := Fr.snoc X6 N5 gb1
  have Z6 : n0 ≤ h6.size := Nat.le_trans Z5 (Keep.of_wr W6).1
  obtain ⟨c7, Ar7, q7, S7, M7, H7, G7⟩ := V6
  obtain ⟨T7, h7, X7, e7, W7, st7⟩ := stI X6 hx hZ e6 Ar7 (j := (5 : Int32)) (inb_of S7 ⟨by decide, by decide⟩) (g := (mkF m 50 #[.val (.int x0), .val (.int x1), .unset, .unset, .unset, .unset] [(.int (65536 : Int32)), (.int (5 : Int32)), (.ref b1), (.ref b1)])) rfl rfl (hb hby at_50)
  have V7 : Arv Z h7 b1 k1 .int (8 : Int32) [(.int (9 : Int32)), (.int (32 : Int32)), (.int (55296 : Int32)), (.int (57344 : Int32)), (.int (65534 : Int32)), (.int (65536 : Int32)), (.int (0 : Int32)), (.int (0 : Int32))] (.int (0 : Int32)) := Arv.set Ar7 q7 S7 M7 H7 G7 rfl W7 5 rfl (Nat.le_of_ble_eq_true rfl)
  have N7 := Fr.snoc X7 N6 gb1
  have Z7 : n0 ≤ h7.size := Nat.le_trans Z6 (Keep.of_wr W7).1
  obtain ⟨c8, Ar8, q8, S8, M8, H8, G8⟩ := V7
  obtain ⟨T8, h8, X8, e8, W8, st8⟩ := stI X7 hx hZ e7 Ar8 (j := (6 : Int32)) (inb_of S8 ⟨by decide, by decide⟩) (g := (mkF m 56 #[.val (.int x0), .val (.int x1), .unset, .unset, .unset, .unset] [(.int (1114111 : Int32)), (.int (6 : Int32)), (.ref b1), (.ref b1)])) rfl rfl (hb hby at_56)
  have V8 : Arv Z h8 b1 k1 .int (8 : Int32) [(.int (9 : Int32)), (.int (32 : Int32)), (.int (55296 : Int32)), (.int (57344 : Int32)), (.int (65534 : Int32)), (.int (65536 : Int32)), (.int (1114111 : Int32)), (.int (0 : Int32))] (.int (0 : Int32)) := Arv.set Ar8 q8 S8 M8 H8 G8 rfl W8 6 rfl (Nat.le_of_ble_eq_true rfl)
  have N8 := Fr.snoc X8 N7 gb1
  have Z8 : n0 ≤ h8.size := Nat.le_trans Z7 (Keep.of_wr W8).1
  obtain ⟨c9, Ar9, q9, S9, M9, H9, G9⟩ := V8
  obtain ⟨T9, h9, X9, e9, W9, st9⟩ := stI X8 hx hZ e8 Ar9 (j := (7 : Int32)) (inb_of S9 ⟨by decide, by decide⟩) (g := (mkF m 61 #[.val (.int x0), .val (.int x1), .unset, .unset, .unset, .unset] [(.int (0 : Int32)), (.int (7 : Int32)), (.ref b1), (.ref b1)])) rfl rfl (hb hby at_61)
  have V9 : Arv Z h9 b1 k1 .int (8 : Int32) [(.int (9 : Int32)), (.int (32 : Int32)), (.int (55296 : Int32)), (.int (57344 : Int32)), (.int (65534 : Int32)), (.int (65536 : Int32)), (.int (1114111 : Int32)), (.int (0 : Int32))] (.int (0 : Int32)) := Arv.set Ar9 q9 S9 M9 H9 G9 rfl W9 7 rfl (Nat.le_of_ble_eq_true rfl)
  have N9 := Fr.snoc X9 N8 gb1
  have Z9 : n0 ≤ h9.size := Nat.le_trans Z8 (Keep.of_wr W9).1
  obtain ⟨c10, Ar10, q10, S10, M10, H10, G10⟩ := V9
  have hin10 := inb_of S10 (j := (((x0.toUInt32 >>> ((3 : Int32) &&& 31).toUInt32).toInt32) &&& (7 : Int32))) (own_place x0)
  have hlt10 : ((((x0.toUInt32 >>> ((3 : Int32) &&& 31).toUInt32).toInt32) &&& (7 : Int32))).toNatClampNeg < c10.slots.size := Nat.lt_of_not_le fun y => hin10 (Or.inr y)
  obtain ⟨w10, hw10⟩ := own_isint (G10 _ hlt10)
  have hat10 := H10 _ hlt10
  rw [hw10] at hat10
  obtain ⟨_, _, ⟨T11, L11, k11, n11⟩, -, X11, ⟨Lc11, hQ11, l11, y11, z11⟩, st11⟩ := Jvm.LawKit.callS X9 hx (y := (⟨"java/lang/Math", "min", "(II)I"⟩ : MethodName)) hown (mvT hZ (hw _ (List.mem_of_getElem? (i := 6) rfl))) (mvT hZ (hw _ (List.mem_of_getElem? (i := 7) rfl))) (mvT hZ (hw _ (List.mem_of_getElem? (i := 8) rfl))) (mvT hZ (hw _ (List.mem_of_getElem? (i := 9) rfl))) (by decide) (backOf (W := 1) (rm1 l Z a0 hw [] (1114111 : Int32) (w10 + ((x0 &&& (7 : Int32)) - (4 : Int32))) h9 n0 Z9) hZ (hw _ (List.mem_of_getElem? (i := 9) rfl)) (hw _ (List.mem_of_getElem? (i := 8) rfl)) (by decide) (by decide)) (g := (mkF m 89 #[.val (.int x0), .val (.int x1), .unset, .val (.ref b1), .val (.int w10), .val (.int ((x0 &&& (7 : Int32)) - (4 : Int32)))] [(.int (w10 + ((x0 &&& (7 : Int32)) - (4 : Int32)))), (.int (1114111 : Int32)), (.int (0 : Int32))])) rfl (by rw [hml]; rfl) (argsL := [(.int (1114111 : Int32)), (.int (w10 + ((x0 &&& (7 : Int32)) - (4 : Int32))))]) (rest := [(.int (0 : Int32))]) (lenOf pdB_0 rfl) rfl (by show 2 * 0 + _ ≤ _; exact Nat.le_of_eq rfl) (hb hby at_89) (fun _ _ => ⟨rfl, e9, (by decide : 1 + 0 ≤ _), (by decide : 8 + 0 ≤ _)⟩)
  dsimp only [Pt.U, Pt.locs, Pt.cells, Pt.slots] at X11 l11 y11 z11 st11 hQ11
  subst l11 y11 z11
  obtain ⟨rfl, N11q, e11⟩ := hQ11
  have N11 := Fr.app N9 N11q
  obtain ⟨_, _, ⟨T12, L12, k12, n12⟩, -, X12, ⟨Lc12, hQ12, l12, y12, z12⟩, st12⟩ := Jvm.LawKit.callS X11 hx (y := (⟨"java/lang/Math", "max", "(II)I"⟩ : MethodName)) hown (mvT hZ (hw _ (List.mem_of_getElem? (i := 10) rfl))) (mvT hZ (hw _ (List.mem_of_getElem? (i := 11) rfl))) (mvT hZ (hw _ (List.mem_of_getElem? (i := 8) rfl))) (mvT hZ (hw _ (List.mem_of_getElem? (i := 12) rfl))) (by decide) (backOf (W := 0) (rm2 l Z a0 hw [] (0 : Int32) (f1_0 (1114111 : Int32) (w10 + ((x0 &&& (7 : Int32)) - (4 : Int32)))) h9 n0 Z9) hZ (hw _ (List.mem_of_getElem? (i := 12) rfl)) (hw _ (List.mem_of_getElem? (i := 8) rfl)) (by decide) (by decide)) (g := (mkF m 92 #[.val (.int x0), .val (.int x1), .unset, .val (.ref b1), .val (.int w10), .val (.int ((x0 &&& (7 : Int32)) - (4 : Int32)))] [(.int (f1_0 (1114111 : Int32) (w10 + ((x0 &&& (7 : Int32)) - (4 : Int32))))), (.int (0 : Int32))])) rfl (by rw [hml]; rfl) (argsL := [(.int (0 : Int32)), (.int (f1_0 (1114111 : Int32) (w10 + ((x0 &&& (7 : Int32)) - (4 : Int32)))))]) (rest := []) (lenOf pdB_0 rfl) rfl (by show 2 * 0 + _ ≤ _; exact Nat.le_of_eq rfl) (hb hby at_92) (fun _ _ => ⟨rfl, e11, (by decide : 1 + 0 ≤ _), (by decide : 8 + 0 ≤ _)⟩)
  dsimp only [Pt.U, Pt.locs, Pt.cells, Pt.slots] at X12 l12 y12 z12 st12 hQ12
  subst l12 y12 z12
  obtain ⟨rfl, N12q, e12⟩ := hQ12
  have N12 := Fr.app N11 N12q
  obtain ⟨_, _, ⟨T13, L13, k13, n13⟩, -, X13, ⟨Lc13, hQ13, l13, y13, z13⟩, st13⟩ := Jvm.LawKit.callS X12 hx (y := (⟨"com/example/wardrelay/wardrelay/transport/XmlWriter", "carries", "(I)Z"⟩ : MethodName)) hown (mvT hZ (hw _ (List.mem_of_getElem? (i := 13) rfl))) (mvT hZ (hw _ (List.mem_of_getElem? (i := 14) rfl))) (mvT hZ (hw _ (List.mem_of_getElem? (i := 15) rfl))) (mvT hZ (hw _ (List.mem_of_getElem? (i := 16) rfl))) (by decide) (backOf (W := 0) (rm3 l Z a0 hw [] (f2_0 (0 : Int32) (f1_0 (1114111 : Int32) (w10 + ((x0 &&& (7 : Int32)) - (4 : Int32))))) h9 n0 Z9) hZ (hw _ (List.mem_of_getElem? (i := 16) rfl)) (hw _ (List.mem_of_getElem? (i := 15) rfl)) (by decide) (by decide)) (g := (mkF m 97 #[.val (.int x0), .val (.int x1), .val (.int (f2_0 (0 : Int32) (f1_0 (1114111 : Int32) (w10 + ((x0 &&& (7 : Int32)) - (4 : Int32)))))), .val (.ref b1), .val (.int w10), .val (.int ((x0 &&& (7 : Int32)) - (4 : Int32)))] [(.int (f2_0 (0 : Int32) (f1_0 (1114111 : Int32) (w10 + ((x0 &&& (7 : Int32)) - (4 : Int32))))))])) rfl (by rw [hml]; rfl) (argsL := [(.int (f2_0 (0 : Int32) (f1_0 (1114111 : Int32) (w10 + ((x0 &&& (7 : Int32)) - (4 : Int32))))))]) (rest := []) (lenOf pdB_1 rfl) rfl (by show 2 * 0 + _ ≤ _; exact Nat.le_of_eq rfl) (hb hby at_97) (fun _ _ => ⟨rfl, e12, (by decide : 1 + 0 ≤ _), (by decide : 8 + 0 ≤ _)⟩)
  dsimp only [Pt.U, Pt.locs, Pt.cells, Pt.slots] at X13 l13 y13 z13 st13 hQ13
  subst l13 y13 z13
  obtain ⟨rfl, N13q, e13⟩ := hQ13
  have N13 := Fr.app N12 N13q
  obtain ⟨_, _, ⟨T14, L14, k14, n14⟩, -, X14, ⟨Lc14, hQ14, l14, y14, z14⟩, st14⟩ := Jvm.LawKit.callS X13 hx (y := (⟨"com/example/wardrelay/wardrelay/transport/XmlWriterCarriesPinLaw", "expected", "(I)Z"⟩ : MethodName)) hown (mvT hZ (hw _ (List.mem_of_getElem? (i := 19) rfl))) (mvT hZ (hw _ (List.mem_of_getElem? (i := 20) rfl))) (mvT hZ (hw _ (List.mem_of_getElem? (i := 21) rfl))) (mvT hZ (hw _ (List.mem_of_getElem? (i := 22) rfl))) (by decide) (backOf (W := 1) (rm4 l Z a0 hw [] (f2_0 (0 : Int32) (f1_0 (1114111 : Int32) (w10 + ((x0 &&& (7 : Int32)) - (4 : Int32))))) h9 n0 Z9) hZ (hw _ (List.mem_of_getElem? (i := 22) rfl)) (hw _ (List.mem_of_getElem? (i := 21) rfl)) (by decide) (by decide)) (g := (mkF m 101 #[.val (.int x0), .val (.int x1), .val (.int (f2_0 (0 : Int32) (f1_0 (1114111 : Int32) (w10 + ((x0 &&& (7 : Int32)) - (4 : Int32)))))), .val (.ref b1), .val (.int w10), .val (.int ((x0 &&& (7 : Int32)) - (4 : Int32)))] [(.int (f2_0 (0 : Int32) (f1_0 (1114111 : Int32) (w10 + ((x0 &&& (7 : Int32)) - (4 : Int32)))))), (.int (f3_0 (f2_0 (0 : Int32) (f1_0 (1114111 : Int32) (w10 + ((x0 &&& (7 : Int32)) - (4 : Int32)))))))])) rfl (by rw [hml]; rfl) (argsL := [(.int (f2_0 (0 : Int32) (f1_0 (1114111 : Int32) (w10 + ((x0 &&& (7 : Int32)) - (4 : Int32))))))]) (rest := [(.int (f3_0 (f2_0 (0 : Int32) (f1_0 (1114111 : Int32) (w10 + ((x0 &&& (7 : Int32)) - (4 : Int32)))))))]) (lenOf pdB_1 rfl) rfl (by show 2 * 0 + _ ≤ _; exact Nat.le_of_eq rfl) (hb hby at_101) (fun _ _ => ⟨rfl, e13, (by decide : 1 + 0 ≤ _), (by decide : 8 + 0 ≤ _)⟩)
  dsimp only [Pt.U, Pt.locs, Pt.cells, Pt.slots] at X14 l14 y14 z14 st14 hQ14
  subst l14 y14 z14
  obtain ⟨rfl, N14q, e14⟩ := hQ14
  have N14 := Fr.app N13 N14q
  obtain ⟨fs, hr, hrun, hended, hW, hsame⟩ := X14.leave (v := some (.int (1 : Int32))) (fun h => by rw [Bd.returns] at h; cases h)
  refine ⟨_, _, pre0 _ ?_, hrun, hended, _, _, rfl, ?_, ⟨_, rfl⟩, hW, hsame.mono (by decide) (by decide)⟩
  · show Steps p.tables e below (s₁.setTop (mkF m 0 #[.val (.int x0), .val (.int x1), .unset, .unset, .unset, .unset] [])) _
    refine XS.iloadN X0.here hx rfl (hb hby at_0) rfl ?_
    show Steps p.tables e below (s₁.setTop (mkF m 1 #[.val (.int x0), .val (.int x1), .unset, .unset, .unset, .unset] [(.int x1)])) _
    refine XS.iconst X0.here hx rfl (hb hby at_1) ?_
    show Steps p.tables e below (s₁.setTop (mkF m 2 #[.val (.int x0), .val (.int x1), .unset, .unset, .unset, .unset] [(.int (1 : Int32)), (.int x1)])) _
    refine XS.iand X0.here hx rfl (hb hby at_2) rfl ?_
    show Steps p.tables e below (s₁.setTop (mkF m 3 #[.val (.int x0), .val (.int x1), .unset, .unset, .unset, .unset] [(.int (x1 &&& (1 : Int32)))])) _
    refine XS.ifYes X0.here hx rfl (pc0 := 3) (pc' := 17) rfl (hb hby at_3) rfl ((if0 _ _).trans (feq (hsel : ¬ ((x1 &&& (1 : Int32)) = (0 : Int32)))).2) (by decide) (by decide) ?_
    show Steps p.tables e below (s₁.setTop (mkF m 17 #[.val (.int x0), .val (.int x1), .unset, .unset, .unset, .unset] [])) _
    refine XS.bipush X0.here hx rfl (hb hby at_17) ?_
    show Steps p.tables e below (s₁.setTop (mkF m 19 #[.val (.int x0), .val (.int x1), .unset, .unset, .unset, .unset] [(.int (8 : Int32))])) _
    refine st1 _ ?_
    show Steps p.tables e below (T1.setTop (mkF m 21 #[.val (.int x0), .val (.int x1), .unset, .unset, .unset, .unset] [(.ref b1)])) _
    refine XS.dup X1.here hx rfl (hb hby at_21) rfl rfl ?_
    show Steps p.tables e below (T1.setTop (mkF m 22 #[.val (.int x0), .val (.int x1), .unset, .unset, .unset, .unset] [(.ref b1), (.ref b1)])) _
    refine XS.iconst X1.here hx rfl (hb hby at_22) ?_
    show Steps p.tables e below (T1.setTop (mkF m 23 #[.val (.int x0), .val (.int x1), .unset, .unset, .unset, .unset] [(.int (0 : Int32)), (.ref b1), (.ref b1)])) _
    refine XS.bipush X1.here hx rfl (hb hby at_23) ?_
    show Steps p.tables e below (T1.setTop (mkF m 25 #[.val (.int x0), .val (.int x1), .unset, .unset, .unset, .unset] [(.int (9 : Int32)), (.int (0 : Int32)), (.ref b1), (.ref b1)])) _
    refine st2 _ ?_
    show Steps p.tables e below (T2.setTop (mkF m 26 #[.val (.int x0), .val (.int x1), .unset, .unset, .unset, .unset] [(.ref b1)])) _
    refine XS.dup X2.here hx rfl (hb hby at_26) rfl rfl ?_
    show Steps p.tables e below (T2.setTop (mkF m 27 #[.val (.int x0), .val (.int x1), .unset, .unset, .unset, .unset] [(.ref b1), (.ref b1)])) _
    refine XS.iconst X2.here hx rfl (hb hby at_27) ?_
    show Steps p.tables e below (T2.setTop (mkF m 28 #[.val (.int x0), .val (.int x1), .unset, .unset, .unset, .unset] [(.int (1 : Int32)), (.ref b1), (.ref b1)])) _
    refine XS.bipush X2.here hx rfl (hb hby at_28) ?_
    show Steps p.tables e below (T2.setTop (mkF m 30 #[.val (.int x0), .val (.int x1), .unset, .unset, .unset, .unset] [(.int (32 : Int32)), (.int (1 : Int32)), (.ref b1), (.ref b1)])) _
    refine st3 _ ?_
    show Steps p.tables e below (T3.setTop (mkF m 31 #[.val (.int x0), .val (.int x1), .unset, .unset, .unset, .unset] [(.ref b1)])) _
    refine XS.dup X3.here hx rfl (hb hby at_31) rfl rfl ?_
    show Steps p.tables e below (T3.setTop (mkF m 32 #[.val (.int x0), .val (.int x1), .unset, .unset, .unset, .unset] [(.ref b1), (.ref b1)])) _
    refine XS.iconst X3.here hx rfl (hb hby at_32) ?_
    show Steps p.tables e below (T3.setTop (mkF m 33 #[.val (.int x0), .val (.int x1), .unset, .unset, .unset, .unset] [(.int (2 : Int32)), (.ref b1), (.ref b1)])) _
    refine X3.ldcInt hx hown (mvT hZ (hw _ (List.mem_of_getElem? (i := 1) rfl))) (g := (mkF m 33 #[.val (.int x0), .val (.int x1), .unset, .unset, .unset, .unset] [(.int (2 : Int32)), (.ref b1), (.ref b1)])) rfl (hb hby at_33) _ ?_
    show Steps p.tables e below (T3.setTop (mkF m 35 #[.val (.int x0), .val (.int x1), .unset, .unset, .unset, .unset] [(.int (55296 : Int32)), (.int (2 : Int32)), (.ref b1), (.ref b1)])) _
    refine st4 _ ?_
    show Steps p.tables e below (T4.setTop (mkF m 36 #[.val (.int x0), .val (.int x1), .unset, .unset, .unset, .unset] [(.ref b1)])) _
    refine XS.dup X4.here hx rfl (hb hby at_36) rfl rfl ?_
    show Steps p.tables e below (T4.setTop (mkF m 37 #[.val (.int x0), .val (.int x1), .unset, .unset, .unset, .unset] [(.ref b1), (.ref b1)])) _
    refine XS.iconst X4.here hx rfl (hb hby at_37) ?_
    show Steps p.tables e below (T4.setTop (mkF m 38 #[.val (.int x0), .val (.int x1), .unset, .unset, .unset, .unset] [(.int (3 : Int32)), (.ref b1), (.ref b1)])) _
    refine X4.ldcInt hx hown (mvT hZ (hw _ (List.mem_of_getElem? (i := 2) rfl))) (g := (mkF m 38 #[.val (.int x0), .val (.int x1), .unset, .unset, .unset, .unset] [(.int (3 : Int32)), (.ref b1), (.ref b1)])) rfl (hb hby at_38) _ ?_
    show Steps p.tables e below (T4.setTop (mkF m 40 #[.val (.int x0), .val (.int x1), .unset, .unset, .unset, .unset] [(.int (57344 : Int32)), (.int (3 : Int32)), (.ref b1), (.ref b1)])) _
    refine st5 _ ?_
    show Steps p.tables e below (T5.setTop (mkF m 41 #[.val (.int x0), .val (.int x1), .unset, .unset, .unset, .unset] [(.ref b1)])) _
    refine XS.dup X5.here hx rfl (hb hby at_41) rfl rfl ?_
    show Steps p.tables e below (T5.setTop (mkF m 42 #[.val (.int x0), .val (.int x1), .unset, .unset, .unset, .unset] [(.ref b1), (.ref b1)])) _
    refine XS.iconst X5.here hx rfl (hb hby at_42) ?_
    show Steps p.tables e below (T5.setTop (mkF m 43 #[.val (.int x0), .val (.int x1), .unset, .unset, .unset, .unset] [(.int (4 : Int32)), (.ref b1), (.ref b1)])) _
    refine X5.ldcInt hx hown (mvT hZ (hw _ (List.mem_of_getElem? (i := 3) rfl))) (g := (mkF m 43 #[.val (.int x0), .val (.int x1), .unset, .unset, .unset, .unset] [(.int (4 : Int32)), (.ref b1), (.ref b1)])) rfl (hb hby at_43) _ ?_
    show Steps p.tables e below (T5.setTop (mkF m 45 #[.val (.int x0), .val (.int x1), .unset, .unset, .unset, .unset] [(.int (65534 : Int32)), (.int (4 : Int32)), (.ref b1), (.ref b1)])) _
    refine st6 _ ?_
    show Steps p.tables e below (T6.setTop (mkF m 46 #[.val (.int x0), .val (.int x1), .unset, .unset, .unset, .unset] [(.ref b1)])) _
    refine XS.dup X6.here hx rfl (hb hby at_46) rfl rfl ?_
    show Steps p.tables e below (T6.setTop (mkF m 47 #[.val (.int x0), .val (.int x1), .unset, .unset, .unset, .unset] [(.ref b1), (.ref b1)])) _
    refine XS.iconst X6.here hx rfl (hb hby at_47) ?_
    show Steps p.tables e below (T6.setTop (mkF m 48 #[.val (.int x0), .val (.int x1), .unset, .unset, .unset, .unset] [(.int (5 : Int32)), (.ref b1), (.ref b1)])) _
    refine X6.ldcInt hx hown (mvT hZ (hw _ (List.mem_of_getElem? (i := 4) rfl))) (g := (mkF m 48 #[.val (.int x0), .val (.int x1), .unset, .unset, .unset, .unset] [(.int (5 : Int32)), (.ref b1), (.ref b1)])) rfl (hb hby at_48) _ ?_
    show Steps p.tables e below (T6.setTop (mkF m 50 #[.val (.int x0), .val (.int x1), .unset, .unset, .unset, .unset] [(.int (65536 : Int32)), (.int (5 : Int32)), (.ref b1), (.ref b1)])) _
    refine st7 _ ?_
    show Steps p.tables e below (T7.setTop (mkF m 51 #[.val (.int x0), .val (.int x1), .unset, .unset, .unset, .unset] [(.ref b1)])) _
    refine XS.dup X7.here hx rfl (hb hby at_51) rfl rfl ?_
    show Steps p.tables e below (T7.setTop (mkF m 52 #[.val (.int x0), .val (.int x1), .unset, .unset, .unset, .unset] [(.ref b1), (.ref b1)])) _
    refine XS.bipush X7.here hx rfl (hb hby at_52) ?_
    show Steps p.tables e below (T7.setTop (mkF m 54 #[.val (.int x0), .val (.int x1), .unset, .unset, .unset, .unset] [(.int (6 : Int32)), (.ref b1), (.ref b1)])) _
    refine X7.ldcInt hx hown (mvT hZ (hw _ (List.mem_of_getElem? (i := 5) rfl))) (g := (mkF m 54 #[.val (.int x0), .val (.int x1), .unset, .unset, .unset, .unset] [(.int (6 : Int32)), (.ref b1), (.ref b1)])) rfl (hb hby at_54) _ ?_
    show Steps p.tables e below (T7.setTop (mkF m 56 #[.val (.int x0), .val (.int x1), .unset, .unset, .unset, .unset] [(.int (1114111 : Int32)), (.int (6 : Int32)), (.ref b1), (.ref b1)])) _
    refine st8 _ ?_
    show Steps p.tables e below (T8.setTop (mkF m 57 #[.val (.int x0), .val (.int x1), .unset, .unset, .unset, .unset] [(.ref b1)])) _
    refine XS.dup X8.here hx rfl (hb hby at_57) rfl rfl ?_
    show Steps p.tables e below (T8.setTop (mkF m 58 #[.val (.int x0), .val (.int x1), .unset, .unset, .unset, .unset] [(.ref b1), (.ref b1)])) _
    refine XS.bipush X8.here hx rfl (hb hby at_58) ?_
    show Steps p.tables e below (T8.setTop (mkF m 60 #[.val (.int x0), .val (.int x1), .unset, .unset, .unset, .unset] [(.int (7 : Int32)), (.ref b1), (.ref b1)])) _
    refine XS.iconst X8.here hx rfl (hb hby at_60) ?_
    show Steps p.tables e below (T8.setTop (mkF m 61 #[.val (.int x0), .val (.int x1), .unset, .unset, .unset, .unset] [(.int (0 : Int32)), (.int (7 : Int32)), (.ref b1), (.ref b1)])) _
    refine st9 _ ?_
    show Steps p.tables e below (T9.setTop (mkF m 62 #[.val (.int x0), .val (.int x1), .unset, .unset, .unset, .unset] [(.ref b1)])) _
    refine XS.astoreN X9.here hx rfl (hb hby at_62) rfl rfl (l' := #[.val (.int x0), .val (.int x1), .unset, .val (.ref b1), .unset, .unset]) rfl ?_
    show Steps p.tables e below (T9.setTop (mkF m 63 #[.val (.int x0), .val (.int x1), .unset, .val (.ref b1), .unset, .unset] [])) _
    refine XS.aloadN X9.here hx rfl (hb hby at_63) rfl rfl ?_
    show Steps p.tables e below (T9.setTop (mkF m 64 #[.val (.int x0), .val (.int x1), .unset, .val (.ref b1), .unset, .unset] [(.ref b1)])) _
    refine XS.iloadN X9.here hx rfl (hb hby at_64) rfl ?_
    show Steps p.tables e below (T9.setTop (mkF m 65 #[.val (.int x0), .val (.int x1), .unset, .val (.ref b1), .unset, .unset] [(.int x0), (.ref b1)])) _
    refine XS.iconst X9.here hx rfl (hb hby at_65) ?_
    show Steps p.tables e below (T9.setTop (mkF m 66 #[.val (.int x0), .val (.int x1), .unset, .val (.ref b1), .unset, .unset] [(.int (3 : Int32)), (.int x0), (.ref b1)])) _
    refine XS.iushr X9.here hx rfl (hb hby at_66) rfl ?_
    show Steps p.tables e below (T9.setTop (mkF m 67 #[.val (.int x0), .val (.int x1), .unset, .val (.ref b1), .unset, .unset] [(.int ((x0.toUInt32 >>> ((3 : Int32) &&& 31).toUInt32).toInt32)), (.ref b1)])) _
    refine XS.bipush X9.here hx rfl (hb hby at_67) ?_
    show Steps p.tables e below (T9.setTop (mkF m 69 #[.val (.int x0), .val (.int x1), .unset, .val (.ref b1), .unset, .unset] [(.int (7 : Int32)), (.int ((x0.toUInt32 >>> ((3 : Int32) &&& 31).toUInt32).toInt32)), (.ref b1)])) _
    refine XS.iand X9.here hx rfl (hb hby at_69) rfl ?_
    show Steps p.tables e below (T9.setTop (mkF m 70 #[.val (.int x0), .val (.int x1), .unset, .val (.ref b1), .unset, .unset] [(.int (((x0.toUInt32 >>> ((3 : Int32) &&& 31).toUInt32).toInt32) &&& (7 : Int32))), (.ref b1)])) _
    refine X9.iaload hx (j := (((x0.toUInt32 >>> ((3 : Int32) &&& 31).toUInt32).toInt32) &&& (7 : Int32))) (v := (.int w10)) (by rw [e9]; exact Ar10.1) (State.isArrayOf_alike hZ.alike Ar10.2.1) Ar10.2.2 hin10 hat10 (g := (mkF m 70 #[.val (.int x0), .val (.int x1), .unset, .val (.ref b1), .unset, .unset] [(.int (((x0.toUInt32 >>> ((3 : Int32) &&& 31).toUInt32).toInt32) &&& (7 : Int32))), (.ref b1)])) rfl rfl (hb hby at_70) _ ?_
    show Steps p.tables e below (T9.setTop (mkF m 71 #[.val (.int x0), .val (.int x1), .unset, .val (.ref b1), .unset, .unset] [(.int w10)])) _
    refine XS.istore X9.here hx rfl (hb hby at_71) rfl (l' := #[.val (.int x0), .val (.int x1), .unset, .val (.ref b1), .val (.int w10), .unset]) rfl ?_
    show Steps p.tables e below (T9.setTop (mkF m 73 #[.val (.int x0), .val (.int x1), .unset, .val (.ref b1), .val (.int w10), .unset] [])) _
    refine XS.iloadN X9.here hx rfl (hb hby at_73) rfl ?_
    show Steps p.tables e below (T9.setTop (mkF m 74 #[.val (.int x0), .val (.int x1), .unset, .val (.ref b1), .val (.int w10), .unset] [(.int x0)])) _
    refine XS.bipush X9.here hx rfl (hb hby at_74) ?_
    show Steps p.tables e below (T9.setTop (mkF m 76 #[.val (.int x0), .val (.int x1), .unset, .val (.ref b1), .val (.int w10), .unset] [(.int (7 : Int32)), (.int x0)])) _
    refine XS.iand X9.here hx rfl (hb hby at_76) rfl ?_
    show Steps p.tables e below (T9.setTop (mkF m 77 #[.val (.int x0), .val (.int x1), .unset, .val (.ref b1), .val (.int w10), .unset] [(.int (x0 &&& (7 : Int32)))])) _
    refine XS.iconst X9.here hx rfl (hb hby at_77) ?_
    show Steps p.tables e below (T9.setTop (mkF m 78 #[.val (.int x0), .val (.int x1), .unset, .val (.ref b1), .val (.int w10), .unset] [(.int (4 : Int32)), (.int (x0 &&& (7 : Int32)))])) _
    refine XS.isub X9.here hx rfl (hb hby at_78) rfl ?_
    show Steps p.tables e below (T9.setTop (mkF m 79 #[.val (.int x0), .val (.int x1), .unset, .val (.ref b1), .val (.int w10), .unset] [(.int ((x0 &&& (7 : Int32)) - (4 : Int32)))])) _
    refine XS.istore X9.here hx rfl (hb hby at_79) rfl (l' := #[.val (.int x0), .val (.int x1), .unset, .val (.ref b1), .val (.int w10), .val (.int ((x0 &&& (7 : Int32)) - (4 : Int32)))]) rfl ?_
    show Steps p.tables e below (T9.setTop (mkF m 81 #[.val (.int x0), .val (.int x1), .unset, .val (.ref b1), .val (.int w10), .val (.int ((x0 &&& (7 : Int32)) - (4 : Int32)))] [])) _
    refine XS.iconst X9.here hx rfl (hb hby at_81) ?_
    show Steps p.tables e below (T9.setTop (mkF m 82 #[.val (.int x0), .val (.int x1), .unset, .val (.ref b1), .val (.int w10), .val (.int ((x0 &&& (7 : Int32)) - (4 : Int32)))] [(.int (0 : Int32))])) _
    refine X9.ldcInt hx hown (mvT hZ (hw _ (List.mem_of_getElem? (i := 5) rfl))) (g := (mkF m 82 #[.val (.int x0), .val (.int x1), .unset, .val (.ref b1), .val (.int w10), .val (.int ((x0 &&& (7 : Int32)) - (4 : Int32)))] [(.int (0 : Int32))])) rfl (hb hby at_82) _ ?_
    show Steps p.tables e below (T9.setTop (mkF m 84 #[.val (.int x0), .val (.int x1), .unset, .val (.ref b1), .val (.int w10), .val (.int ((x0 &&& (7 : Int32)) - (4 : Int32)))] [(.int (1114111 : Int32)), (.int (0 : Int32))])) _
    refine XS.iload X9.here hx rfl (hb hby at_84) rfl ?_
    show Steps p.tables e below (T9.setTop (mkF m 86 #[.val (.int x0), .val (.int x1), .unset, .val (.ref b1), .val (.int w10), .val (.int ((x0 &&& (7 : Int32)) - (4 : Int32)))] [(.int w10), (.int (1114111 : Int32)), (.int (0 : Int32))])) _
    refine XS.iload X9.here hx rfl (hb hby at_86) rfl ?_
    show Steps p.tables e below (T9.setTop (mkF m 88 #[.val (.int x0), .val (.int x1), .unset, .val (.ref b1), .val (.int w10), .val (.int ((x0 &&& (7 : Int32)) - (4 : Int32)))] [(.int ((x0 &&& (7 : Int32)) - (4 : Int32))), (.int w10), (.int (1114111 : Int32)), (.int (0 : Int32))])) _
    refine XS.iadd X9.here hx rfl (hb hby at_88) rfl ?_
    show Steps p.tables e below (T9.setTop (mkF m 89 #[.val (.int x0), .val (.int x1), .unset, .val (.ref b1), .val (.int w10), .val (.int ((x0 &&& (7 : Int32)) - (4 : Int32)))] [(.int (w10 + ((x0 &&& (7 : Int32)) - (4 : Int32)))), (.int (1114111 : Int32)), (.int (0 : Int32))])) _
    refine st11 _ ?_
    show Steps p.tables e below (T11.setTop (mkF m 92 #[.val (.int x0), .val (.int x1), .unset, .val (.ref b1), .val (.int w10), .val (.int ((x0 &&& (7 : Int32)) - (4 : Int32)))] [(.int (f1_0 (1114111 : Int32) (w10 + ((x0 &&& (7 : Int32)) - (4 : Int32))))), (.int (0 : Int32))])) _
    refine st12 _ ?_
    show Steps p.tables e below (T12.setTop (mkF m 95 #[.val (.int x0), .val (.int x1), .unset, .val (.ref b1), .val (.int w10), .val (.int ((x0 &&& (7 : Int32)) - (4 : Int32)))] [(.int (f2_0 (0 : Int32) (f1_0 (1114111 : Int32) (w10 + ((x0 &&& (7 : Int32)) - (4 : Int32))))))])) _
    refine XS.istoreN X12.here hx rfl (hb hby at_95) rfl (l' := #[.val (.int x0), .val (.int x1), .val (.int (f2_0 (0 : Int32) (f1_0 (1114111 : Int32) (w10 + ((x0 &&& (7 : Int32)) - (4 : Int32)))))), .val (.ref b1), .val (.int w10), .val (.int ((x0 &&& (7 : Int32)) - (4 : Int32)))]) rfl ?_
    show Steps p.tables e below (T12.setTop (mkF m 96 #[.val (.int x0), .val (.int x1), .val (.int (f2_0 (0 : Int32) (f1_0 (1114111 : Int32) (w10 + ((x0 &&& (7 : Int32)) - (4 : Int32)))))), .val (.ref b1), .val (.int w10), .val (.int ((x0 &&& (7 : Int32)) - (4 : Int32)))] [])) _
    refine XS.iloadN X12.here hx rfl (hb hby at_96) rfl ?_
    show Steps p.tables e below (T12.setTop (mkF m 97 #[.val (.int x0), .val (.int x1), .val (.int (f2_0 (0 : Int32) (f1_0 (1114111 : Int32) (w10 + ((x0 &&& (7 : Int32)) - (4 : Int32)))))), .val (.ref b1), .val (.int w10), .val (.int ((x0 &&& (7 : Int32)) - (4 : Int32)))] [(.int (f2_0 (0 : Int32) (f1_0 (1114111 : Int32) (w10 + ((x0 &&& (7 : Int32)) - (4 : Int32))))))])) _
    refine st13 _ ?_
    show Steps p.tables e below (T13.setTop (mkF m 100 #[.val (.int x0), .val (.int x1), .val (.int (f2_0 (0 : Int32) (f1_0 (1114111 : Int32) (w10 + ((x0 &&& (7 : Int32)) - (4 : Int32)))))), .val (.ref b1), .val (.int w10), .val (.int ((x0 &&& (7 : Int32)) - (4 : Int32)))] [(.int (f3_0 (f2_0 (0 : Int32) (f1_0 (1114111 : Int32) (w10 + ((x0 &&& (7 : Int32)) - (4 : Int32)))))))])) _
    refine XS.iloadN X13.here hx rfl (hb hby at_100) rfl ?_
    show Steps p.tables e below (T13.setTop (mkF m 101 #[.val (.int x0), .val (.int x1), .val (.int (f2_0 (0 : Int32) (f1_0 (1114111 : Int32) (w10 + ((x0 &&& (7 : Int32)) - (4 : Int32)))))), .val (.ref b1), .val (.int w10), .val (.int ((x0 &&& (7 : Int32)) - (4 : Int32)))] [(.int (f2_0 (0 : Int32) (f1_0 (1114111 : Int32) (w10 + ((x0 &&& (7 : Int32)) - (4 : Int32)))))), (.int (f3_0 (f2_0 (0 : Int32) (f1_0 (1114111 : Int32) (w10 + ((x0 &&& (7 : Int32)) - (4 : Int32)))))))])) _
    refine st14 _ ?_
    show Steps p.tables e below (T14.setTop (mkF m 104 #[.val (.int x0), .val (.int x1), .val (.int (f2_0 (0 : Int32) (f1_0 (1114111 : Int32) (w10 + ((x0 &&& (7 : Int32)) - (4 : Int32)))))), .val (.ref b1), .val (.int w10), .val (.int ((x0 &&& (7 : Int32)) - (4 : Int32)))] [(.int (f4_0 (f2_0 (0 : Int32) (f1_0 (1114111 : Int32) (w10 + ((x0 &&& (7 : Int32)) - (4 : Int32))))))), (.int (f3_0 (f2_0 (0 : Int32) (f1_0 (1114111 : Int32) (w10 + ((x0 &&& (7 : Int32)) - (4 : Int32)))))))])) _
    refine XS.icmpNo X14.here hx rfl (hb hby at_104) rfl (teq (own_law _ : (f3_0 (f2_0 (0 : Int32) (f1_0 (1114111 : Int32) (w10 + ((x0 &&& (7 : Int32)) - (4 : Int32)))))) = (f4_0 (f2_0 (0 : Int32) (f1_0 (1114111 : Int32) (w10 + ((x0 &&& (7 : Int32)) - (4 : Int32)))))))).2 ?_
    show Steps p.tables e below (T14.setTop (mkF m 107 #[.val (.int x0), .val (.int x1), .val (.int (f2_0 (0 : Int32) (f1_0 (1114111 : Int32) (w10 + ((x0 &&& (7 : Int32)) - (4 : Int32)))))), .val (.ref b1), .val (.int w10), .val (.int ((x0 &&& (7 : Int32)) - (4 : Int32)))] [])) _
    refine XS.iconst X14.here hx rfl (hb hby at_107) ?_
    show Steps p.tables e below (T14.setTop (mkF m 108 #[.val (.int x0), .val (.int x1), .val (.int (f2_0 (0 : Int32) (f1_0 (1114111 : Int32) (w10 + ((x0 &&& (7 : Int32)) - (4 : Int32)))))), .val (.ref b1), .val (.int w10), .val (.int ((x0 &&& (7 : Int32)) - (4 : Int32)))] [(.int (1 : Int32))])) _
    refine XS.goto X14.here hx rfl (pc0 := 108) (pc' := 112) rfl (hb hby at_108) (by decide) (by decide) ?_
    show Steps p.tables e below (T14.setTop (mkF m 112 #[.val (.int x0), .val (.int x1), .val (.int (f2_0 (0 : Int32) (f1_0 (1114111 : Int32) (w10 + ((x0 &&& (7 : Int32)) - (4 : Int32)))))), .val (.ref b1), .val (.int w10), .val (.int ((x0 &&& (7 : Int32)) - (4 : Int32)))] [(.int (1 : Int32))])) _
    exact retN X14 hx (t := .boolean) Bd.returns (by simp) (hb hby at_112) hr
  · exact ⟨rfl, N14⟩
set_option maxRecDepth 65536 in
theorem rm0 (l : Launch) (Z : State) (a0 : Array Value) (hw : ∀ d ∈ tables_1, d.before a0 Z = true) (ws : List Jvm.Cond) (x0 : Int32) (x1 : Int32) (h0 : Heap) (n0 : Nat) (Z0 : n0 ≤ h0.size) :
    MetFree l x (head1 (Jvm.Cond.code x code maxLocals ret :: ws) room_1) (fun a U => a = #[(.int x0), (.int x1)] ∧ Z.Warmed39 U.vm ∧ U.heap = h0) (fun _ _ _ _ _ => True) (fun _ U o U' => ∃ v L, o = .returned v ∧ Q0 Z x0 x1 h0 n0 v U'.heap L ∧ FrameEnd U o U' L room_1.cells room_1.slots) := by
  by_cases hsel : (x1 &&& (1 : Int32)) = (0 : Int32)
  · exact rm0A l Z a0 hw ws x0 x1 h0 n0 Z0 hsel
  · exact rm0B l Z a0 hw ws x0 x1 h0 n0 Z0 hsel
set_option maxRecDepth 65536 in
set_option maxHeartbeats 40000000 in
theorem comes_1 {Post : Tables → Env → Array Value → State → Outcome → State → Prop} (hpost : ∀ tb e args s v u, (limb_1_1.after args s (.returned v) u = true ∧ limb_1_2.after args s (.returned v) u = true ∧ True) → FrameEnd s (.returned v) u (Jvm.fieldLocs frame_1_writes args s ++ Jvm.arrayLocs frame_1_arrays args s ++ Jvm.staticLocs frame_1_statics s) 16 128 → Post tb e args s (.returned v) u) :
    ArmFor flags0 classFile x code maxLocals ret World_1 tables_1 room_1 Calls_1 rest_1 Pre_1 Post := by
  intro l hfl _ _ p e ha hc hk s m args below hf hA hF happ hP
  obtain ⟨hcalls, hrest, hpre⟩ := hP
  obtain ⟨-, -, -, hnamed, -, -, -, hat⟩ := (Spec.applies_iff hf).mp happ
  obtain ⟨hg, hn⟩ := and_e (Cond.before_iff.mp (show (Jvm.Cond.and given_1 narrow_1).before args s = true from hpre))
  obtain ⟨g0, r0⟩ := and_e hg
  obtain ⟨g1, r1⟩ := and_e r0
  obtain ⟨w0, w1, rfl⟩ : ∃ w0 w1 : Value, args = #[w0, w1] := by
    have hs : args.size = 2 := by simpa [Cond.value, given_1] using g0
    obtain ⟨L⟩ := args
    match L, hs with
    | [w0, w1], _ => exact ⟨w0, w1, rfl⟩
  have hw := fun d (hd : d ∈ tables_1) => atoms_spec (ws := Jvm.Cond.code x code maxLocals ret :: tables_1) hat d (List.mem_cons_of_mem _ hd)
  obtain ⟨i0, ei0⟩ := is_v g1
  obtain rfl : w0 = (.int i0) := Option.some.inj ei0
  obtain ⟨i1, ei1⟩ := is_v r1
  obtain rfl : w1 = (.int i1) := Option.some.inj ei1
  obtain ⟨n, o, h1, h2, h3, _, L, rfl, ⟨rfl, N⟩, hq⟩ := rm0 l s _ hw tables_1 i0 i1 s.heap s.heap.size (Nat.le_refl _) p e ha hc hk s m _ below hf ((Spec.applies_iff_loose hf).mp happ).1 ⟨rfl, State.Warmed39.refl s, rfl⟩ trivial
  refine ⟨n, _, h1, h2, h3, hpost _ _ _ _ _ _ ⟨Cond.after_iff.mpr rfl, Cond.after_iff.mpr (eq_i res_at (Term.int_eval (1)) rfl), trivial⟩ ⟨hq.1, hq.2.1, (hq.2.2.sift fun y hy => Or.inr (N y hy)).mono (by decide) (by decide)⟩⟩
theorem main_1_1 : Claimed_1_1 := comes_1 fun _ _ _ _ _ _ h hF => ⟨h.1, hF⟩
theorem main_1_2 : Claimed_1_2 := comes_1 fun _ _ _ _ _ _ h hF => ⟨h.2.1, hF⟩
end Jvm.Pilot.@@N@@
namespace Jvm.Pilot.@@N@@
open Jvm Jvm.ClassFile Sem Op Lib Jvm.Free Jvm.Stand Jvm.Pilot.@@N@@.Jvm.D
/-! MADE BY PROGRAM (witnessworld.py) out of the Statement's table words and the real class files: 10 classes; the members and pool entries that the words name. The judged class is class 1, her method 1. -/
namespace start1
open Jvm.ClassFile
def u (s : String) : CpInfo := .utf8 (stringToUtf16 s)
/-- a pool by its gaps: so many unusable entries, then the entry; so many at the end -/
def gap : Nat → List CpInfo → List CpInfo
  | 0, r => r
  | n + 1, r => .unusable :: gap n r
def poolList (es : List (Nat × CpInfo)) (last : Nat) : List CpInfo := es.foldr (fun e r => gap e.1 (e.2 :: r)) (gap last [])
def pool (es : List (Nat × CpInfo)) (last : Nat) : Array CpInfo := ⟨poolList es last⟩
def fileOf (pool : Array CpInfo) (this : Nat) (attrs : Array Attribute := #[]) (ms : Array MethodInfo := #[]) (fl : Nat := 33) (sup : Nat := 0) (ifs : Array Nat := #[]) (fds : Array FieldInfo := #[]) : ClassFile where
  minorVersion := 0
  majorVersion := 65
  constantPool := pool
  accessFlags := fl
  thisClass := this
  superClass := sup
  interfaces := ifs
  fields := fds
  methods := ms
  attributes := attrs
def plain (name : String) (sup : Option ClassId) : Class where
  name := name
  kind := .ordinary
  loader := none
  accessFlags := 33
  super := sup
  interfaces := #[]
  cf := none
  fields := #[]
  methods := #[]
  instanceTypes := #[]
  staticTypes := #[]
  resolved := #[]
  callSites := []
  init := .initialized
  statics := none
  mirror := none

def pool0 : Array CpInfo := pool [(5, u "<init>"), (0, u "()V"), (1, .class_ 10), (1, u "java/lang/Object")] 113

def k0m0 : Method := { name := "<init>", desc := "()V", sig := { parameters := [], returnType := none }, accessFlags := 1, code := none }
/-- java/lang/Object -/
def k0 : Class := { plain "java/lang/Object" none with
  accessFlags := 33
  interfaces := #[]
  cf := some (fileOf pool0 8 #[] #[{ accessFlags := 1, nameIndex := 5, descriptorIndex := 6, attributes := #[] }] 33 0 #[] #[])
  fields := #[]
  methods := #[k0m0]
  instanceTypes := #[]
  staticTypes := #[]
  resolved := Array.replicate 124 none
  statics := none }

def pool1 : Array CpInfo := pool [(2, .class_ 4), (1, u "java/lang/Object"), (0, u "<init>"), (0, u "()V"), (0, .integer 2147483647), (0, .integer 1114112), (0, .integer 55296), (0, .integer 57344), (0, .integer 65534), (0, .integer 65536), (0, .integer 1114111), (0, .methodref 15 16), (0, .class_ 17), (0, .nameAndType 18 19), (0, u "java/lang/Math"), (0, u "min"), (0, u "(II)I"), (0, .methodref 15 21), (0, .nameAndType 22 19), (0, u "max"), (0, .methodref 24 25), (0, .class_ 26), (0, .nameAndType 27 28), (0, u "com/example/wardrelay/wardrelay/transport/XmlWriter"), (0, u "carries"), (0, u "(I)Z"), (0, .methodref 30 31), (0, .class_ 32), (0, .nameAndType 33 28), (0, u "com/example/wardrelay/wardrelay/transport/XmlWriterCarriesPinLaw"), (0, u "expected"), (0, .integer 57343), (0, .integer 65535), (2, u "law"), (0, u "(II)Z")] 3

def k1m0 : Method := { name := "<init>", desc := "()V", sig := { parameters := [], returnType := none }, accessFlags := 2, code := none }
def k1c1 : Code := { maxStack := 4, maxLocals := 6, code := code, exceptionTable := #[], attributes := #[] }
def k1m1 : Method := { name := "law", desc := "(II)Z", sig := { parameters := [.int, .int], returnType := some .boolean }, accessFlags := 9, code := some k1c1 }
def k1c2 : Code := { maxStack := 2, maxLocals := 4, code := method_3_code, exceptionTable := #[], attributes := #[] }
def k1m2 : Method := { name := "expected", desc := "(I)Z", sig := { parameters := [.int], returnType := some .boolean }, accessFlags := 10, code := some k1c2 }
/-- com/example/wardrelay/wardrelay/transport/XmlWriterCarriesPinLaw -/
def k1 : Class := { plain "com/example/wardrelay/wardrelay/transport/XmlWriterCarriesPinLaw" (some 0) with
  accessFlags := 49
  interfaces := #[]
  cf := some (fileOf pool1 30 #[] #[{ accessFlags := 2, nameIndex := 5, descriptorIndex := 6, attributes := #[] }, { accessFlags := 9, nameIndex := 38, descriptorIndex := 39, attributes := #[] }, { accessFlags := 10, nameIndex := 33, descriptorIndex := 28, attributes := #[] }] 49 2 #[] #[])
  fields := #[]
  methods := #[k1m0, k1m1, k1m2]
  instanceTypes := #[]
  staticTypes := #[]
  resolved := Array.replicate 43 none
  statics := none }

def pool2 : Array CpInfo := pool [(1, .class_ 2), (0, u "java/lang/Math"), (1, .class_ 6), (1, u "java/lang/Object"), (0, u "<init>"), (0, u "()V"), (89, .class_ 100), (1, u "java/lang/Math$RandomNumberGeneratorHolder"), (71, u "negativeZeroFloatBits"), (0, u "J"), (2, u "negativeZeroDoubleBits"), (21, u "max"), (2, u "min"), (43, u "$assertionsDisabled"), (0, u "Z"), (88, u "(II)I"), (2, u "twoToTheDoubleScaleDown"), (0, u "D"), (4, u "twoToTheDoubleScaleUp"), (9, u "E"), (3, u "PI"), (2, u "TAU"), (2, u "DEGREES_TO_RADIANS"), (0, u "RADIANS_TO_DEGREES")] 94

def k2m0 : Method := { name := "<init>", desc := "()V", sig := { parameters := [], returnType := none }, accessFlags := 2, code := none }
def k2c1 : Code := { maxStack := 2, maxLocals := 2, code := jdk_29_method_65_code, exceptionTable := #[], attributes := #[] }
def k2m1 : Method := { name := "max", desc := "(II)I", sig := { parameters := [.int, .int], returnType := some .int }, accessFlags := 9, code := some k2c1 }
def k2c2 : Code := { maxStack := 2, maxLocals := 2, code := jdk_29_method_69_code, exceptionTable := #[], attributes := #[] }
def k2m2 : Method := { name := "min", desc := "(II)I", sig := { parameters := [.int, .int], returnType := some .int }, accessFlags := 9, code := some k2c2 }
/-- java/lang/Math -/
def k2 : Class := { plain "java/lang/Math" (some 0) with
  accessFlags := 49
  interfaces := #[]
  cf := some (fileOf pool2 1 #[.nestMembers #[98]] #[{ accessFlags := 2, nameIndex := 7, descriptorIndex := 8, attributes := #[] }, { accessFlags := 9, nameIndex := 198, descriptorIndex := 335, attributes := #[] }, { accessFlags := 9, nameIndex := 201, descriptorIndex := 335, attributes := #[] }] 49 4 #[] #[{ accessFlags := 25, nameIndex := 354, descriptorIndex := 339, attributes := #[] }, { accessFlags := 25, nameIndex := 358, descriptorIndex := 339, attributes := #[] }, { accessFlags := 25, nameIndex := 361, descriptorIndex := 339, attributes := #[] }, { accessFlags := 26, nameIndex := 364, descriptorIndex := 339, attributes := #[] }, { accessFlags := 26, nameIndex := 365, descriptorIndex := 339, attributes := #[] }, { accessFlags := 26, nameIndex := 172, descriptorIndex := 173, attributes := #[] }, { accessFlags := 26, nameIndex := 176, descriptorIndex := 173, attributes := #[] }, { accessFlags := 8, nameIndex := 344, descriptorIndex := 339, attributes := #[] }, { accessFlags := 8, nameIndex := 338, descriptorIndex := 339, attributes := #[] }, { accessFlags := 4120, nameIndex := 245, descriptorIndex := 246, attributes := #[] }])
  fields := #[{ name := "E", type := .double, accessFlags := 25, slot := 0, constantValue := 0 }, { name := "PI", type := .double, accessFlags := 25, slot := 1, constantValue := 0 }, { name := "TAU", type := .double, accessFlags := 25, slot := 2, constantValue := 0 }, { name := "DEGREES_TO_RADIANS", type := .double, accessFlags := 26, slot := 3, constantValue := 0 }, { name := "RADIANS_TO_DEGREES", type := .double, accessFlags := 26, slot := 4, constantValue := 0 }, { name := "negativeZeroFloatBits", type := .long, accessFlags := 26, slot := 5, constantValue := 0 }, { name := "negativeZeroDoubleBits", type := .long, accessFlags := 26, slot := 6, constantValue := 0 }, { name := "twoToTheDoubleScaleUp", type := .double, accessFlags := 8, slot := 7, constantValue := 0 }, { name := "twoToTheDoubleScaleDown", type := .double, accessFlags := 8, slot := 8, constantValue := 0 }, { name := "$assertionsDisabled", type := .boolean, accessFlags := 4120, slot := 9, constantValue := 0 }]
  methods := #[k2m0, k2m1, k2m2]
  instanceTypes := #[]
  staticTypes := #[.double, .double, .double, .double, .double, .long, .long, .double, .double, .boolean]
  resolved := Array.replicate 460 none
  statics := none }

def pool3 : Array CpInfo := pool [(2, .class_ 4), (1, u "java/lang/Object"), (6, .class_ 13), (1, u "com/example/wardrelay/wardrelay/transport/XmlWriter"), (0, u "open"), (0, u "Ljava/util/Deque;"), (5, u "attributes"), (0, u "Lorg/xml/sax/helpers/AttributesImpl;"), (2, u "serializer"), (0, u "Ljavax/xml/transform/sax/TransformerHandler;"), (4, .integer 55295), (0, .integer 57344), (0, .integer 65533), (0, .integer 65536), (6, u "starting"), (0, u "Ljava/lang/String;"), (45, u "startingEmpty"), (0, u "Z"), (10, .class_ 102), (1, u "com/example/wardrelay/wardrelay/transport/XmlWriter$Step"), (12, u "SERIALIZERS"), (0, u "Ljava/lang/ThreadLocal;"), (130, u "carries"), (0, u "(I)Z")] 70

def k3c0 : Code := { maxStack := 2, maxLocals := 1, code := prog_51_method_4_code, exceptionTable := #[], attributes := #[] }
def k3m0 : Method := { name := "carries", desc := "(I)Z", sig := { parameters := [.int], returnType := some .boolean }, accessFlags := 9, code := some k3c0 }
/-- com/example/wardrelay/wardrelay/transport/XmlWriter -/
def k3 : Class := { plain "com/example/wardrelay/wardrelay/transport/XmlWriter" (some 0) with
  accessFlags := 49
  interfaces := #[]
  cf := some (fileOf pool3 11 #[.nestMembers #[100]] #[{ accessFlags := 9, nameIndex := 247, descriptorIndex := 248, attributes := #[] }] 49 2 #[] #[{ accessFlags := 26, nameIndex := 115, descriptorIndex := 116, attributes := #[] }, { accessFlags := 18, nameIndex := 25, descriptorIndex := 26, attributes := #[] }, { accessFlags := 18, nameIndex := 14, descriptorIndex := 15, attributes := #[] }, { accessFlags := 2, nameIndex := 41, descriptorIndex := 42, attributes := #[] }, { accessFlags := 2, nameIndex := 88, descriptorIndex := 89, attributes := #[] }, { accessFlags := 18, nameIndex := 21, descriptorIndex := 22, attributes := #[] }])
  fields := #[{ name := "SERIALIZERS", type := (.object "java/lang/ThreadLocal"), accessFlags := 26, slot := 0, constantValue := 0 }, { name := "serializer", type := (.object "javax/xml/transform/sax/TransformerHandler"), accessFlags := 18, slot := 0, constantValue := 0 }, { name := "open", type := (.object "java/util/Deque"), accessFlags := 18, slot := 1, constantValue := 0 }, { name := "starting", type := (.object "java/lang/String"), accessFlags := 2, slot := 2, constantValue := 0 }, { name := "startingEmpty", type := .boolean, accessFlags := 2, slot := 3, constantValue := 0 }, { name := "attributes", type := (.object "org/xml/sax/helpers/AttributesImpl"), accessFlags := 18, slot := 4, constantValue := 0 }]
  methods := #[k3m0]
  instanceTypes := #[(.object "javax/xml/transform/sax/TransformerHandler"), (.object "java/util/Deque"), (.object "java/lang/String"), .boolean, (.object "org/xml/sax/helpers/AttributesImpl")]
  staticTypes := #[(.object "java/lang/ThreadLocal")]
  resolved := Array.replicate 319 none
  statics := none }

def pool4 : Array CpInfo := pool [(1, u "java/lang/Cloneable"), (0, .class_ 1), (0, u "java/lang/Object"), (0, .class_ 3)] 3

/-- java/lang/Cloneable -/
def k4 : Class := { plain "java/lang/Cloneable" (some 0) with
  accessFlags := 1537
  interfaces := #[]
  cf := some (fileOf pool4 2 #[] #[] 1537 4 #[] #[])
  fields := #[]
  methods := #[]
  instanceTypes := #[]
  staticTypes := #[]
  resolved := Array.replicate 8 none
  statics := none }

def pool5 : Array CpInfo := pool [(1, u "java/io/Serializable"), (0, .class_ 1), (0, u "java/lang/Object"), (0, .class_ 3)] 3

/-- java/io/Serializable -/
def k5 : Class := { plain "java/io/Serializable" (some 0) with
  accessFlags := 1537
  interfaces := #[]
  cf := some (fileOf pool5 2 #[] #[] 1537 4 #[] #[])
  fields := #[]
  methods := #[]
  instanceTypes := #[]
  staticTypes := #[]
  resolved := Array.replicate 8 none
  statics := none }

/-- the primitive byte -/
def k6 : Class := { plain "byte" none with kind := .primitive 'B', accessFlags := 0x411 }
/-- [B -/
def k7 : Class := { plain "[B" (some 0) with kind := .array 6 .byte, interfaces := #[4, 5], accessFlags := 1041 }

/-- the primitive int -/
def k8 : Class := { plain "int" none with kind := .primitive 'I', accessFlags := 0x411 }
/-- [I -/
def k9 : Class := { plain "[I" (some 0) with kind := .array 8 .int, interfaces := #[4, 5], accessFlags := 1041 }

def heap : Heap := #[]
def classes : Array Class := #[k0, k1, k2, k3, k4, k5, k6, k7, k8, k9]
def interned : List (Array UInt16 × Addr) := []
def slotsUsed : Nat := 0
def theMethod : MethodId := ⟨1, 1⟩
def args0 : Array Value := #[.int 5, .int 3]
def aboutOver (below : List Frame) : State where
  vm := { classes := classes, interned := interned.toArray }
  heap := heap
  slotsUsed := slotsUsed
  threads := #[{ frames := .invoking theMethod args0 :: below }]
def below0 : List Frame := [.native { method := ⟨0, 0⟩, args := #[] }]
def about1 : State := aboutOver below0
def p0 : Program := .bare "" "" ""
def e0 : Env := launch0.env 0 0 0
theorem w_frames : about1.frames = Frame.invoking theMethod args0 :: below0 := rfl
set_option maxRecDepth 65536 in
theorem w_args : argsFit about1.vm theMethod args0 = true := by decide +kernel
set_option maxRecDepth 65536 in
theorem w_heap : heapFits about1 = true := by decide +kernel
set_option maxRecDepth 65536 in
theorem w_runnable : about1.curStatus? = some .runnable := by decide +kernel
set_option maxRecDepth 65536 in
theorem w_alone : about1.alone = true := by decide +kernel
set_option maxRecDepth 65536 in
theorem w_named : about1.methodNamed? x = some theMethod := by decide +kernel
set_option maxRecDepth 65536 in
theorem w_hears : about1.hears theMethod below0 = true := by decide +kernel
set_option maxRecDepth 65536 in
theorem w_ripe : about1.ripe theMethod args0 below0 = true := by decide +kernel
theorem w_running : about1.status = .running := rfl
set_option maxRecDepth 65536 in
theorem w_room : about1.hasRoom e0.platform room_1 = true :=
  launch0.hasRoom_least _ room_1 (by decide +kernel) (by decide +kernel) (by decide +kernel) (by decide +kernel) (by decide +kernel) (by decide +kernel)
theorem allAtoms_all (ts : List Jvm.Cond) (a : Array Jvm.Value) (st : Jvm.State) : (allAtoms ts).before a st = ts.all (fun c => c.before a st) := by
  induction ts with
  | nil => rfl
  | cons c t ih =>
    show (Jvm.Cond.and c (allAtoms t)).before a st = _
    rw [Jvm.Cond.before_and, ih, List.all_cons]
def words1 : List Jvm.Cond := Jvm.Cond.code x code maxLocals ret :: tables_1
/-- a 'code' word, met by the world's own term for the bytes: nothing is compared byte by byte -/
theorem code_word {y : MethodName} {bytes : ByteArray} {mx : Nat} {rt : Option FieldType} {a : Array Value} {s : State} {m : MethodId} {meth : Method} {c : Code} (h1 : s.methodNamed? y = some m) (h2 : s.vm.method? m = some meth) (h3 : meth.code = some c) (h4 : c.code = bytes)
    (h5 : (c.maxLocals == mx && c.exceptionTable.isEmpty && decide (c.maxStack ≤ mostOperands) && decide (meth.sig.returnType = rt) && !meth.locks && decide (parseMethodDescriptor y.desc = some meth.sig)) = true) : (Jvm.Cond.code y bytes mx rt).before a s = true := by
  simp only [Bool.and_eq_true, beq_iff_eq, Bool.not_eq_true', decide_eq_true_eq] at h5
  obtain ⟨⟨⟨⟨⟨g1, g2⟩, g3⟩, g4⟩, g5⟩, g6⟩ := h5
  simp [Cond.before, Cond.holds, Cond.value, h1, h2, h3, h4, g1, g2, g3, g4, g5, g6]
def isCode : Jvm.Cond → Bool
  | .code _ _ _ _ => true
  | _ => false
theorem all_split {L : List Jvm.Cond} {P : Jvm.Cond → Bool} (h1 : L.all (fun c => isCode c || P c) = true) (h2 : ∀ c ∈ L.filter isCode, P c = true) : L.all P = true := by
  refine List.all_eq_true.mpr fun c hc => ?_
  have h := List.all_eq_true.mp h1 c hc
  rcases Bool.eq_false_or_eq_true (isCode c) with hi | hi
  · exact h2 c (List.mem_filter.mpr ⟨hc, hi⟩)
  · simpa [hi] using h
set_option maxRecDepth 65536 in
theorem w_c0 : (Jvm.Cond.code x code maxLocals ret).before args0 about1 = true := code_word (m := ⟨1, 1⟩) (meth := k1m1) (c := k1c1) (by decide +kernel) rfl rfl rfl (by decide +kernel)
set_option maxRecDepth 65536 in
theorem w_c1 : (Jvm.Cond.code ({ cls := "java/lang/Math", name := "min", desc := "(II)I" } : Jvm.MethodName) jdk_29_method_69_code (2 : Nat) (Option.some Jvm.ClassFile.FieldType.int)).before args0 about1 = true := code_word (m := ⟨2, 2⟩) (meth := k2m2) (c := k2c2) (by decide +kernel) rfl rfl rfl (by decide +kernel)
set_option maxRecDepth 65536 in
theorem w_c2 : (Jvm.Cond.code ({ cls := "java/lang/Math", name := "max", desc := "(II)I" } : Jvm.MethodName) jdk_29_method_65_code (2 : Nat) (Option.some Jvm.ClassFile.FieldType.int)).before args0 about1 = true := code_word (m := ⟨2, 1⟩) (meth := k2m1) (c := k2c1) (by decide +kernel) rfl rfl rfl (by decide +kernel)
set_option maxRecDepth 65536 in
theorem w_c3 : (Jvm.Cond.code ({ cls := "com/example/wardrelay/wardrelay/transport/XmlWriter", name := "carries", desc := "(I)Z" } : Jvm.MethodName) prog_51_method_4_code (1 : Nat) (Option.some Jvm.ClassFile.FieldType.boolean)).before args0 about1 = true := code_word (m := ⟨3, 0⟩) (meth := k3m0) (c := k3c0) (by decide +kernel) rfl rfl rfl (by decide +kernel)
set_option maxRecDepth 65536 in
theorem w_c4 : (Jvm.Cond.code ({ cls := "com/example/wardrelay/wardrelay/transport/XmlWriterCarriesPinLaw", name := "expected", desc := "(I)Z" } : Jvm.MethodName) method_3_code (4 : Nat) (Option.some Jvm.ClassFile.FieldType.boolean)).before args0 about1 = true := code_word (m := ⟨1, 2⟩) (meth := k1m2) (c := k1c2) (by decide +kernel) rfl rfl rfl (by decide +kernel)
def codes1 : List Jvm.Cond := [Jvm.Cond.code x code maxLocals ret, Jvm.Cond.code ({ cls := "java/lang/Math", name := "min", desc := "(II)I" } : Jvm.MethodName) jdk_29_method_69_code (2 : Nat) (Option.some Jvm.ClassFile.FieldType.int), Jvm.Cond.code ({ cls := "java/lang/Math", name := "max", desc := "(II)I" } : Jvm.MethodName) jdk_29_method_65_code (2 : Nat) (Option.some Jvm.ClassFile.FieldType.int), Jvm.Cond.code ({ cls := "com/example/wardrelay/wardrelay/transport/XmlWriter", name := "carries", desc := "(I)Z" } : Jvm.MethodName) prog_51_method_4_code (1 : Nat) (Option.some Jvm.ClassFile.FieldType.boolean), Jvm.Cond.code ({ cls := "com/example/wardrelay/wardrelay/transport/XmlWriterCarriesPinLaw", name := "expected", desc := "(I)Z" } : Jvm.MethodName) method_3_code (4 : Nat) (Option.some Jvm.ClassFile.FieldType.boolean)]
set_option maxRecDepth 65536 in
theorem codes_eq : words1.filter isCode = codes1 := rfl
theorem w_codes : ∀ c ∈ words1.filter isCode, c.before args0 about1 = true := by
  rw [codes_eq]
  intro c hc
  simp only [codes1, List.mem_cons, List.not_mem_nil, or_false] at hc
  rcases hc with rfl | rfl | rfl | rfl | rfl
  · exact w_c0
  · exact w_c1
  · exact w_c2
  · exact w_c3
  · exact w_c4
set_option maxRecDepth 65536 in
theorem w_t1 : (words1.take 24).all (fun c => isCode c || c.before args0 about1) = true := by decide +kernel
set_option maxRecDepth 65536 in
theorem w_t2 : (words1.drop 24).all (fun c => isCode c || c.before args0 about1) = true := by decide +kernel
theorem w_tables : (allAtoms (Jvm.Cond.code x code maxLocals ret :: tables_1)).before args0 about1 = true := by
  rw [allAtoms_all]
  show words1.all (fun c => c.before args0 about1) = true
  refine all_split ?_ w_codes
  rw [← List.take_append_drop 24 words1, List.all_append, w_t1, w_t2]
  rfl
set_option maxRecDepth 65536 in
theorem w_case : (Jvm.Cond.and given_1 narrow_1).before args0 about1 = true := by decide +kernel
theorem w_applies : (headSpec (Jvm.Cond.code x code maxLocals ret :: tables_1) room_1).applies x e0.platform about1 = true :=
  (Spec.applies_iff w_frames).mpr ⟨w_running, w_runnable, w_alone, w_named, w_hears, w_ripe, w_room, w_tables⟩
theorem atStart : AtStart classFile x code maxLocals ret World_1 tables_1 room_1 Calls_1 rest_1 Pre_1 launch0 p0 e0 about1 theMethod args0 below0 :=
  ⟨lists_1, trivial, launch0.admits_env _ _ _, launch0.least_env, fairChoices_fair.cas, fairChoices_fair.clock, w_frames, w_args, w_heap, w_applies, trivial, trivial, w_case⟩
end start1
theorem witness_1 : WitnessClaimed_1 := ⟨start1.p0, start1.e0, start1.about1, start1.theMethod, start1.args0, start1.below0, start1.atStart⟩
end Jvm.Pilot.@@N@@
