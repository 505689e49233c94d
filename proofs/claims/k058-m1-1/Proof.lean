import JvmDerived
import JvmDerived.Pilot.@@N@@Statement
import JvmDerived.Pilot.@@N@@Code
set_option linter.unusedVariables false
set_option linter.unusedSimpArgs false
namespace Jvm.RoadKit
open Sem ClassFile Op Lib Jvm.Stand Jvm.Free Jvm.LawKit
section New
variable {p : Program} {l : Launch} {e : Env} {R : Room} {s : State} {m : MethodId} {args : Array Value} {below : List Frame} {meth : Method} {c : Code} {T : State} {locs : List Loc} {cells slots : Nat}
theorem retI (X : Stand p l e R s m args below meth c T locs cells slots) (hx : p.tables.exec = Jvm.exec) {pc : Nat} {Ls : Array Slot} {z : Int32} {rest : List Value} (hret : meth.sig.returnType = some .int) (hd : decode c.code pc = .ok (.ireturn, 1)) {fs : List Frame}
    (hl : ∀ (f : JFrame) (acts : List Action), f.method = m → f.locked = none → f.entered = [] → (doReturn e (T.setTop f) acts (some (.int z))).1 = T.setFrames fs) : Steps p.tables e below (T.setTop (mkF m pc Ls (.int z :: rest))) (T.setFrames fs) := by
  have hm' : T.vm.method? m = some meth := X.method'
  have hn : narrow .int (.int z) = .int z := rfl
  show Steps p.tables e below (T.setTop { method := m, pc := pc, locals := Ls, stack := _ :: rest, locked := none }) _
  jvm_step X.here [X.here.top, hx, hd, hm', hret, hn]
  first | (intro acts; rw [hl _ acts rfl rfl rfl]) | rw [hl _ _ rfl rfl rfl]
  exact Steps.refl _
end New
end Jvm.RoadKit
namespace Jvm.Pilot.@@N@@
open Jvm Jvm.ClassFile Sem Op Lib Jvm.Free Jvm.Stand Jvm.LawKit Jvm.RoadKit Bundle Jvm.Pilot.@@N@@.Jvm.D
theorem own_ne {k : Int32} {n : Int} (c : Int32) (hc : c.toInt = n) (h : ¬ k = c) : ¬ k.toInt = n := fun e => h (Int32.toInt_inj.mp (e.trans hc.symm))
theorem own_miss {k : Int32} (h : ¬ k = (34 : Int32) ∧ ¬ k = (60 : Int32) ∧ ¬ k = (62 : Int32) ∧ ¬ k = (92 : Int32) ∧ ¬ k = (94 : Int32) ∧ ¬ k = (96 : Int32) ∧ ¬ k = (123 : Int32) ∧ ¬ k = (124 : Int32) ∧ ¬ k = (125 : Int32)) : (#[(34, 83), (60, 83), (62, 83), (92, 83), (94, 83), (96, 83), (123, 83), (124, 83), (125, 83)] : Array (Int × Int)).find? (·.1 == k.toInt) = none := by
  obtain ⟨h34, h60, h62, h92, h94, h96, h123, h124, h125⟩ := h
  rw [Array.find?_eq_none]
  intro q hq
  simp only [List.mem_toArray, List.mem_cons, List.not_mem_nil, or_false] at hq
  simp only [beq_iff_eq]
  rcases hq with rfl | rfl | rfl | rfl | rfl | rfl | rfl | rfl | rfl
  · exact fun e => own_ne (34 : Int32) (by decide) h34 e.symm
  · exact fun e => own_ne (60 : Int32) (by decide) h60 e.symm
  · exact fun e => own_ne (62 : Int32) (by decide) h62 e.symm
  · exact fun e => own_ne (92 : Int32) (by decide) h92 e.symm
  · exact fun e => own_ne (94 : Int32) (by decide) h94 e.symm
  · exact fun e => own_ne (96 : Int32) (by decide) h96 e.symm
  · exact fun e => own_ne (123 : Int32) (by decide) h123 e.symm
  · exact fun e => own_ne (124 : Int32) (by decide) h124 e.symm
  · exact fun e => own_ne (125 : Int32) (by decide) h125 e.symm
theorem d1_0 : decode prog_44_method_9_code 0 = .ok (.iload_n 0, 1) := by decide +kernel
theorem d1_1 : decode prog_44_method_9_code 1 = .ok (.lookupswitch 85 #[(34, 83), (60, 83), (62, 83), (92, 83), (94, 83), (96, 83), (123, 83), (124, 83), (125, 83)], 83) := by decide +kernel
theorem d1_84 : decode prog_44_method_9_code 84 = .ok (.iconst 1, 1) := by decide +kernel
theorem d1_85 : decode prog_44_method_9_code 85 = .ok (.ireturn, 1) := by decide +kernel
theorem d1_86 : decode prog_44_method_9_code 86 = .ok (.iload_n 0, 1) := by decide +kernel
theorem d1_87 : decode prog_44_method_9_code 87 = .ok (.bipush 32, 2) := by decide +kernel
theorem d1_89 : decode prog_44_method_9_code 89 = .ok (.if_icmp .gt 7, 3) := by decide +kernel
theorem d1_92 : decode prog_44_method_9_code 92 = .ok (.iconst 1, 1) := by decide +kernel
theorem d1_93 : decode prog_44_method_9_code 93 = .ok (.goto 4, 3) := by decide +kernel
theorem d1_96 : decode prog_44_method_9_code 96 = .ok (.iconst 0, 1) := by decide +kernel
theorem d1_97 : decode prog_44_method_9_code 97 = .ok (.ireturn, 1) := by decide +kernel
def f1_97 (x0 : Int32) (s0 : Int32) : Int32 := nar .boolean s0
set_option maxRecDepth 65536 in
theorem b1_97 {p : Program} {l : Launch} {e : Env} {R : Room} {s : State} {m : MethodId} {args : Array Value} {below : List Frame} {meth : Method} {c : Code} {T : State} {locs : List Loc} {cells slots : Nat} (X : Stand p l e R s m args below meth c T locs cells slots) (hx : p.tables.exec = Jvm.exec) (hby : c.code = prog_44_method_9_code) (hret : meth.sig.returnType = some .boolean) (x0 : Int32) (s0 : Int32) {fs : List Frame} (hr : ∀ (f : JFrame) (acts : List Action), f.method = m → f.locked = none → f.entered = [] → (doReturn e (T.setTop f) acts (some (.int (f1_97 x0 s0)))).1 = T.setFrames fs) :
    Steps p.tables e below (T.setTop (mkF m 97 #[.val (.int x0)] [(.int s0)])) (T.setFrames fs) := by
  show Steps p.tables e below (T.setTop (mkF m 97 #[.val (.int x0)] [(.int s0)])) _
  exact retN X hx (t := .boolean) hret (by simp) (hb hby d1_97) hr
def f1_96 (x0 : Int32) : Int32 := f1_97 x0 (0 : Int32)
set_option maxRecDepth 65536 in
theorem b1_96 {p : Program} {l : Launch} {e : Env} {R : Room} {s : State} {m : MethodId} {args : Array Value} {below : List Frame} {meth : Method} {c : Code} {T : State} {locs : List Loc} {cells slots : Nat} (X : Stand p l e R s m args below meth c T locs cells slots) (hx : p.tables.exec = Jvm.exec) (hby : c.code = prog_44_method_9_code) (hret : meth.sig.returnType = some .boolean) (x0 : Int32) {fs : List Frame} (hr : ∀ (f : JFrame) (acts : List Action), f.method = m → f.locked = none → f.entered = [] → (doReturn e (T.setTop f) acts (some (.int (f1_96 x0)))).1 = T.setFrames fs) :
    Steps p.tables e below (T.setTop (mkF m 96 #[.val (.int x0)] [])) (T.setFrames fs) := by
  show Steps p.tables e below (T.setTop (mkF m 96 #[.val (.int x0)] [])) _
  refine XS.iconst X.here hx rfl (hb hby d1_96) ?_
  exact b1_97 X hx hby hret x0 (0 : Int32) hr
def f1_92 (x0 : Int32) : Int32 := f1_97 x0 (1 : Int32)
set_option maxRecDepth 65536 in
theorem b1_92 {p : Program} {l : Launch} {e : Env} {R : Room} {s : State} {m : MethodId} {args : Array Value} {below : List Frame} {meth : Method} {c : Code} {T : State} {locs : List Loc} {cells slots : Nat} (X : Stand p l e R s m args below meth c T locs cells slots) (hx : p.tables.exec = Jvm.exec) (hby : c.code = prog_44_method_9_code) (hret : meth.sig.returnType = some .boolean) (x0 : Int32) {fs : List Frame} (hr : ∀ (f : JFrame) (acts : List Action), f.method = m → f.locked = none → f.entered = [] → (doReturn e (T.setTop f) acts (some (.int (f1_92 x0)))).1 = T.setFrames fs) :
    Steps p.tables e below (T.setTop (mkF m 92 #[.val (.int x0)] [])) (T.setFrames fs) := by
  show Steps p.tables e below (T.setTop (mkF m 92 #[.val (.int x0)] [])) _
  refine XS.iconst X.here hx rfl (hb hby d1_92) ?_
  show Steps p.tables e below (T.setTop (mkF m 93 #[.val (.int x0)] [(.int (1 : Int32))])) _
  refine XS.goto X.here hx rfl (pc0 := 93) (pc' := 97) rfl (hb hby d1_93) (by decide) (by decide) ?_
  exact b1_97 X hx hby hret x0 (1 : Int32) hr
def f1_86 (x0 : Int32) : Int32 := if (32 : Int32) < x0 then f1_96 x0 else f1_92 x0
set_option maxRecDepth 65536 in
theorem b1_86 {p : Program} {l : Launch} {e : Env} {R : Room} {s : State} {m : MethodId} {args : Array Value} {below : List Frame} {meth : Method} {c : Code} {T : State} {locs : List Loc} {cells slots : Nat} (X : Stand p l e R s m args below meth c T locs cells slots) (hx : p.tables.exec = Jvm.exec) (hby : c.code = prog_44_method_9_code) (hret : meth.sig.returnType = some .boolean) (x0 : Int32) {fs : List Frame} (hr : ∀ (f : JFrame) (acts : List Action), f.method = m → f.locked = none → f.entered = [] → (doReturn e (T.setTop f) acts (some (.int (f1_86 x0)))).1 = T.setFrames fs) :
    Steps p.tables e below (T.setTop (mkF m 86 #[.val (.int x0)] [])) (T.setFrames fs) := by
  show Steps p.tables e below (T.setTop (mkF m 86 #[.val (.int x0)] [])) _
  refine XS.iloadN X.here hx rfl (hb hby d1_86) rfl ?_
  show Steps p.tables e below (T.setTop (mkF m 87 #[.val (.int x0)] [(.int x0)])) _
  refine XS.bipush X.here hx rfl (hb hby d1_87) ?_
  show Steps p.tables e below (T.setTop (mkF m 89 #[.val (.int x0)] [(.int (32 : Int32)), (.int x0)])) _
  by_cases hc : (32 : Int32) < x0
  · refine XS.icmpYes X.here hx rfl (pc0 := 89) (pc' := 96) rfl (hb hby d1_89) rfl (tlt hc).2.2.1 (by decide) (by decide) ?_
    rw [show f1_86 x0 = f1_96 x0 from if_pos hc] at hr; exact b1_96 X hx hby hret x0 hr
  · refine XS.icmpNo X.here hx rfl (hb hby d1_89) rfl (flt hc).2.2.1 ?_
    rw [show f1_86 x0 = f1_92 x0 from if_neg hc] at hr; exact b1_92 X hx hby hret x0 hr
def f1_84 (x0 : Int32) : Int32 := nar .boolean (1 : Int32)
set_option maxRecDepth 65536 in
theorem b1_84 {p : Program} {l : Launch} {e : Env} {R : Room} {s : State} {m : MethodId} {args : Array Value} {below : List Frame} {meth : Method} {c : Code} {T : State} {locs : List Loc} {cells slots : Nat} (X : Stand p l e R s m args below meth c T locs cells slots) (hx : p.tables.exec = Jvm.exec) (hby : c.code = prog_44_method_9_code) (hret : meth.sig.returnType = some .boolean) (x0 : Int32) {fs : List Frame} (hr : ∀ (f : JFrame) (acts : List Action), f.method = m → f.locked = none → f.entered = [] → (doReturn e (T.setTop f) acts (some (.int (f1_84 x0)))).1 = T.setFrames fs) :
    Steps p.tables e below (T.setTop (mkF m 84 #[.val (.int x0)] [])) (T.setFrames fs) := by
  show Steps p.tables e below (T.setTop (mkF m 84 #[.val (.int x0)] [])) _
  refine XS.iconst X.here hx rfl (hb hby d1_84) ?_
  show Steps p.tables e below (T.setTop (mkF m 85 #[.val (.int x0)] [(.int (1 : Int32))])) _
  exact retN X hx (t := .boolean) hret (by simp) (hb hby d1_85) hr
def f1_0 (x0 : Int32) : Int32 := if x0 = (34 : Int32) then f1_84 x0 else if x0 = (60 : Int32) then f1_84 x0 else if x0 = (62 : Int32) then f1_84 x0 else if x0 = (92 : Int32) then f1_84 x0 else if x0 = (94 : Int32) then f1_84 x0 else if x0 = (96 : Int32) then f1_84 x0 else if x0 = (123 : Int32) then f1_84 x0 else if x0 = (124 : Int32) then f1_84 x0 else if x0 = (125 : Int32) then f1_84 x0 else f1_86 x0
set_option maxRecDepth 65536 in
theorem b1_0 {p : Program} {l : Launch} {e : Env} {R : Room} {s : State} {m : MethodId} {args : Array Value} {below : List Frame} {meth : Method} {c : Code} {T : State} {locs : List Loc} {cells slots : Nat} (X : Stand p l e R s m args below meth c T locs cells slots) (hx : p.tables.exec = Jvm.exec) (hby : c.code = prog_44_method_9_code) (hret : meth.sig.returnType = some .boolean) (x0 : Int32) {fs : List Frame} (hr : ∀ (f : JFrame) (acts : List Action), f.method = m → f.locked = none → f.entered = [] → (doReturn e (T.setTop f) acts (some (.int (f1_0 x0)))).1 = T.setFrames fs) :
    Steps p.tables e below (T.setTop (mkF m 0 #[.val (.int x0)] [])) (T.setFrames fs) := by
  show Steps p.tables e below (T.setTop (mkF m 0 #[.val (.int x0)] [])) _
  refine XS.iloadN X.here hx rfl (hb hby d1_0) rfl ?_
  show Steps p.tables e below (T.setTop (mkF m 1 #[.val (.int x0)] [(.int x0)])) _
  by_cases hc0 : x0 = (34 : Int32)
  · refine X.lookupswitchHit hx (g := (mkF m 1 #[.val (.int x0)] [(.int x0)])) rfl rfl (hb hby d1_1) (by decide) (k := x0) (a := 34) (off := 83) (by rw [hc0]; decide) (by show (0 : Int) ≤ 1 + (83); decide) _ ?_
    rw [show f1_0 x0 = f1_84 x0 from if_pos hc0] at hr; exact b1_84 X hx hby hret x0 hr
  by_cases hc1 : x0 = (60 : Int32)
  · refine X.lookupswitchHit hx (g := (mkF m 1 #[.val (.int x0)] [(.int x0)])) rfl rfl (hb hby d1_1) (by decide) (k := x0) (a := 60) (off := 83) (by rw [hc1]; decide) (by show (0 : Int) ≤ 1 + (83); decide) _ ?_
    rw [show f1_0 x0 = f1_84 x0 from (if_neg hc0).trans (if_pos hc1)] at hr; exact b1_84 X hx hby hret x0 hr
  by_cases hc2 : x0 = (62 : Int32)
  · refine X.lookupswitchHit hx (g := (mkF m 1 #[.val (.int x0)] [(.int x0)])) rfl rfl (hb hby d1_1) (by decide) (k := x0) (a := 62) (off := 83) (by rw [hc2]; decide) (by show (0 : Int) ≤ 1 + (83); decide) _ ?_
    rw [show f1_0 x0 = f1_84 x0 from (if_neg hc0).trans ((if_neg hc1).trans (if_pos hc2))] at hr; exact b1_84 X hx hby hret x0 hr
  by_cases hc3 : x0 = (92 : Int32)
  · refine X.lookupswitchHit hx (g := (mkF m 1 #[.val (.int x0)] [(.int x0)])) rfl rfl (hb hby d1_1) (by decide) (k := x0) (a := 92) (off := 83) (by rw [hc3]; decide) (by show (0 : Int) ≤ 1 + (83); decide) _ ?_
    rw [show f1_0 x0 = f1_84 x0 from (if_neg hc0).trans ((if_neg hc1).trans ((if_neg hc2).trans (if_pos hc3)))] at hr; exact b1_84 X hx hby hret x0 hr
  by_cases hc4 : x0 = (94 : Int32)
  · refine X.lookupswitchHit hx (g := (mkF m 1 #[.val (.int x0)] [(.int x0)])) rfl rfl (hb hby d1_1) (by decide) (k := x0) (a := 94) (off := 83) (by rw [hc4]; decide) (by show (0 : Int) ≤ 1 + (83); decide) _ ?_
    rw [show f1_0 x0 = f1_84 x0 from (if_neg hc0).trans ((if_neg hc1).trans ((if_neg hc2).trans ((if_neg hc3).trans (if_pos hc4))))] at hr; exact b1_84 X hx hby hret x0 hr
  by_cases hc5 : x0 = (96 : Int32)
  · refine X.lookupswitchHit hx (g := (mkF m 1 #[.val (.int x0)] [(.int x0)])) rfl rfl (hb hby d1_1) (by decide) (k := x0) (a := 96) (off := 83) (by rw [hc5]; decide) (by show (0 : Int) ≤ 1 + (83); decide) _ ?_
    rw [show f1_0 x0 = f1_84 x0 from (if_neg hc0).trans ((if_neg hc1).trans ((if_neg hc2).trans ((if_neg hc3).trans ((if_neg hc4).trans (if_pos hc5)))))] at hr; exact b1_84 X hx hby hret x0 hr
  by_cases hc6 : x0 = (123 : Int32)
  · refine X.lookupswitchHit hx (g := (mkF m 1 #[.val (.int x0)] [(.int x0)])) rfl rfl (hb hby d1_1) (by decide) (k := x0) (a := 123) (off := 83) (by rw [hc6]; decide) (by show (0 : Int) ≤ 1 + (83); decide) _ ?_
    rw [show f1_0 x0 = f1_84 x0 from (if_neg hc0).trans ((if_neg hc1).trans ((if_neg hc2).trans ((if_neg hc3).trans ((if_neg hc4).trans ((if_neg hc5).trans (if_pos hc6))))))] at hr; exact b1_84 X hx hby hret x0 hr
  by_cases hc7 : x0 = (124 : Int32)
  · refine X.lookupswitchHit hx (g := (mkF m 1 #[.val (.int x0)] [(.int x0)])) rfl rfl (hb hby d1_1) (by decide) (k := x0) (a := 124) (off := 83) (by rw [hc7]; decide) (by show (0 : Int) ≤ 1 + (83); decide) _ ?_
    rw [show f1_0 x0 = f1_84 x0 from (if_neg hc0).trans ((if_neg hc1).trans ((if_neg hc2).trans ((if_neg hc3).trans ((if_neg hc4).trans ((if_neg hc5).trans ((if_neg hc6).trans (if_pos hc7)))))))] at hr; exact b1_84 X hx hby hret x0 hr
  by_cases hc8 : x0 = (125 : Int32)
  · refine X.lookupswitchHit hx (g := (mkF m 1 #[.val (.int x0)] [(.int x0)])) rfl rfl (hb hby d1_1) (by decide) (k := x0) (a := 125) (off := 83) (by rw [hc8]; decide) (by show (0 : Int) ≤ 1 + (83); decide) _ ?_
    rw [show f1_0 x0 = f1_84 x0 from (if_neg hc0).trans ((if_neg hc1).trans ((if_neg hc2).trans ((if_neg hc3).trans ((if_neg hc4).trans ((if_neg hc5).trans ((if_neg hc6).trans ((if_neg hc7).trans (if_pos hc8))))))))] at hr; exact b1_84 X hx hby hret x0 hr
  refine X.lookupswitchMiss hx (g := (mkF m 1 #[.val (.int x0)] [(.int x0)])) rfl rfl (hb hby d1_1) (by decide) (k := x0) (own_miss ⟨hc0, hc1, hc2, hc3, hc4, hc5, hc6, hc7, hc8⟩) (by show (0 : Int) ≤ 1 + (85); decide) _ ?_
  rw [show f1_0 x0 = f1_86 x0 from (if_neg hc0).trans ((if_neg hc1).trans ((if_neg hc2).trans ((if_neg hc3).trans ((if_neg hc4).trans ((if_neg hc5).trans ((if_neg hc6).trans ((if_neg hc7).trans (if_neg hc8))))))))] at hr; exact b1_86 X hx hby hret x0 hr
theorem pn_1 : plainName "com/example/quadrille/quadrille/rdfio/RdfGrammar" = true := by first | (simp [plainName, overriddenIn]; done) | decide +kernel
theorem ef_1 (m : MethodId) (x0 : Int32) : entryFrame m #[(.int x0)] 1 = (mkF m 0 #[.val (.int x0)] []) := by first | (simp [entryFrame, mkF, argsToLocals, Value.category]; done) | rfl
def Q1 (Z : State) (x0 : Int32) (h0 : Heap) (n0 : Nat) (v : Option Value) (h : Heap) (L : List Loc) : Prop := v = some (.int (f1_0 x0)) ∧ Fr n0 L ∧ h = h0
set_option maxRecDepth 65536 in
set_option maxHeartbeats 40000000 in
theorem rm1 (l : Launch) (Z : State) (a0 : Array Value) (hw : ∀ d ∈ tables_1, d.before a0 Z = true) (ws : List Jvm.Cond) (x0 : Int32) (h0 : Heap) (n0 : Nat) (Z0 : n0 ≤ h0.size) :
    MetFree l (⟨"com/example/quadrille/quadrille/rdfio/RdfGrammar", "isExcludedFromIri", "(I)Z"⟩ : MethodName) (head1 (Jvm.Cond.code (⟨"com/example/quadrille/quadrille/rdfio/RdfGrammar", "isExcludedFromIri", "(I)Z"⟩ : MethodName) prog_44_method_9_code 1 (some .boolean) :: ws) ({ frames := 0, cells := 0, slots := 0, locals := 0 } : Room)) (fun a U => a = #[(.int x0)] ∧ Z.Warmed39 U.vm ∧ U.heap = h0) (fun _ _ _ _ _ => True) (fun _ U o U' => ∃ v L, o = .returned v ∧ Q1 Z x0 h0 n0 v U'.heap L ∧ FrameEnd U o U' L ({ frames := 0, cells := 0, slots := 0, locals := 0 } : Room).cells ({ frames := 0, cells := 0, slots := 0, locals := 0 } : Room).slots) := by
  refine MetFree.of_bodySF (plainFor_of_name pn_1) hisR ?_
  intro p e s m args below meth c s₁ Bd hml0 hP hK
  obtain ⟨rfl, hZ, hh⟩ := hP
  have hx := Bd.exec
  have hby := Bd.bytes
  have hown : s.vm.findClass "com/example/quadrille/quadrille/rdfio/RdfGrammar" = some m.cls := findClass_of_methodNamed Bd.named
  have X0 : Stand p l e ({ frames := 0, cells := 0, slots := 0, locals := 0 } : Room) s m #[(.int x0)] below meth c s₁ [] 0 0 := Stand.of_body Bd
  have e0 : s₁.heap = h0 := by rw [← hh, Bd.state]; rfl
  have N0 := Fr.nil n0
  have pre0 : ∀ t, Steps p.tables e below (s₁.setTop (mkF m 0 #[.val (.int x0)] [])) t → Steps p.tables e below (s₁.setTop (entryFrame m #[(.int x0)] 1)) t := fun t k => castTop (ef_1 m x0) k
  obtain ⟨fs, hr, hrun, hended, hW, hsame⟩ := X0.leave (v := some (.int (f1_0 x0))) (fun h => by rw [Bd.returns] at h; cases h)
  refine ⟨_, _, pre0 _ ?_, hrun, hended, _, _, rfl, ?_, ⟨_, rfl⟩, hW, hsame.mono (by decide) (by decide)⟩
  · exact b1_0 X0 hx hby Bd.returns x0 hr
  · show Q1 Z x0 h0 n0 _ s₁.heap _
    rw [e0]
    exact ⟨rfl, N0, rfl⟩
theorem d2_0 : decode method_3_code 0 = .ok (.iload_n 0, 1) := by decide +kernel
theorem d2_1 : decode method_3_code 1 = .ok (.bipush 32, 2) := by decide +kernel
theorem d2_3 : decode method_3_code 3 = .ok (.if_icmp .gt 5, 3) := by decide +kernel
theorem d2_6 : decode method_3_code 6 = .ok (.iconst 1, 1) := by decide +kernel
theorem d2_7 : decode method_3_code 7 = .ok (.ireturn, 1) := by decide +kernel
theorem d2_8 : decode method_3_code 8 = .ok (.iload_n 0, 1) := by decide +kernel
theorem d2_9 : decode method_3_code 9 = .ok (.bipush 127, 2) := by decide +kernel
theorem d2_11 : decode method_3_code 11 = .ok (.if_icmp .le 5, 3) := by decide +kernel
theorem d2_14 : decode method_3_code 14 = .ok (.iconst 0, 1) := by decide +kernel
theorem d2_15 : decode method_3_code 15 = .ok (.ireturn, 1) := by decide +kernel
theorem d2_16 : decode method_3_code 16 = .ok (.iload_n 0, 1) := by decide +kernel
theorem d2_17 : decode method_3_code 17 = .ok (.bipush 34, 2) := by decide +kernel
theorem d2_19 : decode method_3_code 19 = .ok (.if_icmp .eq 51, 3) := by decide +kernel
theorem d2_22 : decode method_3_code 22 = .ok (.iload_n 0, 1) := by decide +kernel
theorem d2_23 : decode method_3_code 23 = .ok (.bipush 60, 2) := by decide +kernel
theorem d2_25 : decode method_3_code 25 = .ok (.if_icmp .eq 45, 3) := by decide +kernel
theorem d2_28 : decode method_3_code 28 = .ok (.iload_n 0, 1) := by decide +kernel
theorem d2_29 : decode method_3_code 29 = .ok (.bipush 62, 2) := by decide +kernel
theorem d2_31 : decode method_3_code 31 = .ok (.if_icmp .eq 39, 3) := by decide +kernel
theorem d2_34 : decode method_3_code 34 = .ok (.iload_n 0, 1) := by decide +kernel
theorem d2_35 : decode method_3_code 35 = .ok (.bipush 92, 2) := by decide +kernel
theorem d2_37 : decode method_3_code 37 = .ok (.if_icmp .eq 33, 3) := by decide +kernel
theorem d2_40 : decode method_3_code 40 = .ok (.iload_n 0, 1) := by decide +kernel
theorem d2_41 : decode method_3_code 41 = .ok (.bipush 94, 2) := by decide +kernel
theorem d2_43 : decode method_3_code 43 = .ok (.if_icmp .eq 27, 3) := by decide +kernel
theorem d2_46 : decode method_3_code 46 = .ok (.iload_n 0, 1) := by decide +kernel
theorem d2_47 : decode method_3_code 47 = .ok (.bipush 96, 2) := by decide +kernel
theorem d2_49 : decode method_3_code 49 = .ok (.if_icmp .eq 21, 3) := by decide +kernel
theorem d2_52 : decode method_3_code 52 = .ok (.iload_n 0, 1) := by decide +kernel
theorem d2_53 : decode method_3_code 53 = .ok (.bipush 123, 2) := by decide +kernel
theorem d2_55 : decode method_3_code 55 = .ok (.if_icmp .eq 15, 3) := by decide +kernel
theorem d2_58 : decode method_3_code 58 = .ok (.iload_n 0, 1) := by decide +kernel
theorem d2_59 : decode method_3_code 59 = .ok (.bipush 124, 2) := by decide +kernel
theorem d2_61 : decode method_3_code 61 = .ok (.if_icmp .eq 9, 3) := by decide +kernel
theorem d2_64 : decode method_3_code 64 = .ok (.iload_n 0, 1) := by decide +kernel
theorem d2_65 : decode method_3_code 65 = .ok (.bipush 125, 2) := by decide +kernel
theorem d2_67 : decode method_3_code 67 = .ok (.if_icmp .ne 7, 3) := by decide +kernel
theorem d2_70 : decode method_3_code 70 = .ok (.iconst 1, 1) := by decide +kernel
theorem d2_71 : decode method_3_code 71 = .ok (.goto 4, 3) := by decide +kernel
theorem d2_74 : decode method_3_code 74 = .ok (.iconst 0, 1) := by decide +kernel
theorem d2_75 : decode method_3_code 75 = .ok (.ireturn, 1) := by decide +kernel
def f2_75 (x0 : Int32) (s0 : Int32) : Int32 := nar .boolean s0
set_option maxRecDepth 65536 in
theorem b2_75 {p : Program} {l : Launch} {e : Env} {R : Room} {s : State} {m : MethodId} {args : Array Value} {below : List Frame} {meth : Method} {c : Code} {T : State} {locs : List Loc} {cells slots : Nat} (X : Stand p l e R s m args below meth c T locs cells slots) (hx : p.tables.exec = Jvm.exec) (hby : c.code = method_3_code) (hret : meth.sig.returnType = some .boolean) (x0 : Int32) (s0 : Int32) {fs : List Frame} (hr : ∀ (f : JFrame) (acts : List Action), f.method = m → f.locked = none → f.entered = [] → (doReturn e (T.setTop f) acts (some (.int (f2_75 x0 s0)))).1 = T.setFrames fs) :
    Steps p.tables e below (T.setTop (mkF m 75 #[.val (.int x0)] [(.int s0)])) (T.setFrames fs) := by
  show Steps p.tables e below (T.setTop (mkF m 75 #[.val (.int x0)] [(.int s0)])) _
  exact retN X hx (t := .boolean) hret (by simp) (hb hby d2_75) hr
def f2_74 (x0 : Int32) : Int32 := f2_75 x0 (0 : Int32)
set_option maxRecDepth 65536 in
theorem b2_74 {p : Program} {l : Launch} {e : Env} {R : Room} {s : State} {m : MethodId} {args : Array Value} {below : List Frame} {meth : Method} {c : Code} {T : State} {locs : List Loc} {cells slots : Nat} (X : Stand p l e R s m args below meth c T locs cells slots) (hx : p.tables.exec = Jvm.exec) (hby : c.code = method_3_code) (hret : meth.sig.returnType = some .boolean) (x0 : Int32) {fs : List Frame} (hr : ∀ (f : JFrame) (acts : List Action), f.method = m → f.locked = none → f.entered = [] → (doReturn e (T.setTop f) acts (some (.int (f2_74 x0)))).1 = T.setFrames fs) :
    Steps p.tables e below (T.setTop (mkF m 74 #[.val (.int x0)] [])) (T.setFrames fs) := by
  show Steps p.tables e below (T.setTop (mkF m 74 #[.val (.int x0)] [])) _
  refine XS.iconst X.here hx rfl (hb hby d2_74) ?_
  exact b2_75 X hx hby hret x0 (0 : Int32) hr
def f2_70 (x0 : Int32) : Int32 := f2_75 x0 (1 : Int32)
set_option maxRecDepth 65536 in
theorem b2_70 {p : Program} {l : Launch} {e : Env} {R : Room} {s : State} {m : MethodId} {args : Array Value} {below : List Frame} {meth : Method} {c : Code} {T : State} {locs : List Loc} {cells slots : Nat} (X : Stand p l e R s m args below meth c T locs cells slots) (hx : p.tables.exec = Jvm.exec) (hby : c.code = method_3_code) (hret : meth.sig.returnType = some .boolean) (x0 : Int32) {fs : List Frame} (hr : ∀ (f : JFrame) (acts : List Action), f.method = m → f.locked = none → f.entered = [] → (doReturn e (T.setTop f) acts (some (.int (f2_70 x0)))).1 = T.setFrames fs) :
    Steps p.tables e below (T.setTop (mkF m 70 #[.val (.int x0)] [])) (T.setFrames fs) := by
  show Steps p.tables e below (T.setTop (mkF m 70 #[.val (.int x0)] [])) _
  refine XS.iconst X.here hx rfl (hb hby d2_70) ?_
  show Steps p.tables e below (T.setTop (mkF m 71 #[.val (.int x0)] [(.int (1 : Int32))])) _
  refine XS.goto X.here hx rfl (pc0 := 71) (pc' := 75) rfl (hb hby d2_71) (by decide) (by decide) ?_
  exact b2_75 X hx hby hret x0 (1 : Int32) hr
def f2_64 (x0 : Int32) : Int32 := if x0 = (125 : Int32) then f2_70 x0 else f2_74 x0
set_option maxRecDepth 65536 in
theorem b2_64 {p : Program} {l : Launch} {e : Env} {R : Room} {s : State} {m : MethodId} {args : Array Value} {below : List Frame} {meth : Method} {c : Code} {T : State} {locs : List Loc} {cells slots : Nat} (X : Stand p l e R s m args below meth c T locs cells slots) (hx : p.tables.exec = Jvm.exec) (hby : c.code = method_3_code) (hret : meth.sig.returnType = some .boolean) (x0 : Int32) {fs : List Frame} (hr : ∀ (f : JFrame) (acts : List Action), f.method = m → f.locked = none → f.entered = [] → (doReturn e (T.setTop f) acts (some (.int (f2_64 x0)))).1 = T.setFrames fs) :
    Steps p.tables e below (T.setTop (mkF m 64 #[.val (.int x0)] [])) (T.setFrames fs) := by
  show Steps p.tables e below (T.setTop (mkF m 64 #[.val (.int x0)] [])) _
  refine XS.iloadN X.here hx rfl (hb hby d2_64) rfl ?_
  show Steps p.tables e below (T.setTop (mkF m 65 #[.val (.int x0)] [(.int x0)])) _
  refine XS.bipush X.here hx rfl (hb hby d2_65) ?_
  show Steps p.tables e below (T.setTop (mkF m 67 #[.val (.int x0)] [(.int (125 : Int32)), (.int x0)])) _
  by_cases hc : x0 = (125 : Int32)
  · refine XS.icmpNo X.here hx rfl (hb hby d2_67) rfl (teq hc).2 ?_
    rw [show f2_64 x0 = f2_70 x0 from if_pos hc] at hr; exact b2_70 X hx hby hret x0 hr
  · refine XS.icmpYes X.here hx rfl (pc0 := 67) (pc' := 74) rfl (hb hby d2_67) rfl (feq hc).2 (by decide) (by decide) ?_
    rw [show f2_64 x0 = f2_74 x0 from if_neg hc] at hr; exact b2_74 X hx hby hret x0 hr
def f2_58 (x0 : Int32) : Int32 := if x0 = (124 : Int32) then f2_70 x0 else f2_64 x0
set_option maxRecDepth 65536 in
theorem b2_58 {p : Program} {l : Launch} {e : Env} {R : Room} {s : State} {m : MethodId} {args : Array Value} {below : List Frame} {meth : Method} {c : Code} {T : State} {locs : List Loc} {cells slots : Nat} (X : Stand p l e R s m args below meth c T locs cells slots) (hx : p.tables.exec = Jvm.exec) (hby : c.code = method_3_code) (hret : meth.sig.returnType = some .boolean) (x0 : Int32) {fs : List Frame} (hr : ∀ (f : JFrame) (acts : List Action), f.method = m → f.locked = none → f.entered = [] → (doReturn e (T.setTop f) acts (some (.int (f2_58 x0)))).1 = T.setFrames fs) :
    Steps p.tables e below (T.setTop (mkF m 58 #[.val (.int x0)] [])) (T.setFrames fs) := by
  show Steps p.tables e below (T.setTop (mkF m 58 #[.val (.int x0)] [])) _
  refine XS.iloadN X.here hx rfl (hb hby d2_58) rfl ?_
  show Steps p.tables e below (T.setTop (mkF m 59 #[.val (.int x0)] [(.int x0)])) _
  refine XS.bipush X.here hx rfl (hb hby d2_59) ?_
  show Steps p.tables e below (T.setTop (mkF m 61 #[.val (.int x0)] [(.int (124 : Int32)), (.int x0)])) _
  by_cases hc : x0 = (124 : Int32)
  · refine XS.icmpYes X.here hx rfl (pc0 := 61) (pc' := 70) rfl (hb hby d2_61) rfl (teq hc).1 (by decide) (by decide) ?_
    rw [show f2_58 x0 = f2_70 x0 from if_pos hc] at hr; exact b2_70 X hx hby hret x0 hr
  · refine XS.icmpNo X.here hx rfl (hb hby d2_61) rfl (feq hc).1 ?_
    rw [show f2_58 x0 = f2_64 x0 from if_neg hc] at hr; exact b2_64 X hx hby hret x0 hr
def f2_52 (x0 : Int32) : Int32 := if x0 = (123 : Int32) then f2_70 x0 else f2_58 x0
set_option maxRecDepth 65536 in
theorem b2_52 {p : Program} {l : Launch} {e : Env} {R : Room} {s : State} {m : MethodId} {args : Array Value} {below : List Frame} {meth : Method} {c : Code} {T : State} {locs : List Loc} {cells slots : Nat} (X : Stand p l e R s m args below meth c T locs cells slots) (hx : p.tables.exec = Jvm.exec) (hby : c.code = method_3_code) (hret : meth.sig.returnType = some .boolean) (x0 : Int32) {fs : List Frame} (hr : ∀ (f : JFrame) (acts : List Action), f.method = m → f.locked = none → f.entered = [] → (doReturn e (T.setTop f) acts (some (.int (f2_52 x0)))).1 = T.setFrames fs) :
    Steps p.tables e below (T.setTop (mkF m 52 #[.val (.int x0)] [])) (T.setFrames fs) := by
  show Steps p.tables e below (T.setTop (mkF m 52 #[.val (.int x0)] [])) _
  refine XS.iloadN X.here hx rfl (hb hby d2_52) rfl ?_
  show Steps p.tables e below (T.setTop (mkF m 53 #[.val (.int x0)] [(.int x0)])) _
  refine XS.bipush X.here hx rfl (hb hby d2_53) ?_
  show Steps p.tables e below (T.setTop (mkF m 55 #[.val (.int x0)] [(.int (123 : Int32)), (.int x0)])) _
  by_cases hc : x0 = (123 : Int32)
  · refine XS.icmpYes X.here hx rfl (pc0 := 55) (pc' := 70) rfl (hb hby d2_55) rfl (teq hc).1 (by decide) (by decide) ?_
    rw [show f2_52 x0 = f2_70 x0 from if_pos hc] at hr; exact b2_70 X hx hby hret x0 hr
  · refine XS.icmpNo X.here hx rfl (hb hby d2_55) rfl (feq hc).1 ?_
    rw [show f2_52 x0 = f2_58 x0 from if_neg hc] at hr; exact b2_58 X hx hby hret x0 hr
def f2_46 (x0 : Int32) : Int32 := if x0 = (96 : Int32) then f2_70 x0 else f2_52 x0
set_option maxRecDepth 65536 in
theorem b2_46 {p : Program} {l : Launch} {e : Env} {R : Room} {s : State} {m : MethodId} {args : Array Value} {below : List Frame} {meth : Method} {c : Code} {T : State} {locs : List Loc} {cells slots : Nat} (X : Stand p l e R s m args below meth c T locs cells slots) (hx : p.tables.exec = Jvm.exec) (hby : c.code = method_3_code) (hret : meth.sig.returnType = some .boolean) (x0 : Int32) {fs : List Frame} (hr : ∀ (f : JFrame) (acts : List Action), f.method = m → f.locked = none → f.entered = [] → (doReturn e (T.setTop f) acts (some (.int (f2_46 x0)))).1 = T.setFrames fs) :
    Steps p.tables e below (T.setTop (mkF m 46 #[.val (.int x0)] [])) (T.setFrames fs) := by
  show Steps p.tables e below (T.setTop (mkF m 46 #[.val (.int x0)] [])) _
  refine XS.iloadN X.here hx rfl (hb hby d2_46) rfl ?_
  show Steps p.tables e below (T.setTop (mkF m 47 #[.val (.int x0)] [(.int x0)])) _
  refine XS.bipush X.here hx rfl (hb hby d2_47) ?_
  show Steps p.tables e below (T.setTop (mkF m 49 #[.val (.int x0)] [(.int (96 : Int32)), (.int x0)])) _
  by_cases hc : x0 = (96 : Int32)
  · refine XS.icmpYes X.here hx rfl (pc0 := 49) (pc' := 70) rfl (hb hby d2_49) rfl (teq hc).1 (by decide) (by decide) ?_
    rw [show f2_46 x0 = f2_70 x0 from if_pos hc] at hr; exact b2_70 X hx hby hret x0 hr
  · refine XS.icmpNo X.here hx rfl (hb hby d2_49) rfl (feq hc).1 ?_
    rw [show f2_46 x0 = f2_52 x0 from if_neg hc] at hr; exact b2_52 X hx hby hret x0 hr
def f2_40 (x0 : Int32) : Int32 := if x0 = (94 : Int32) then f2_70 x0 else f2_46 x0
set_option maxRecDepth 65536 in
theorem b2_40 {p : Program} {l : Launch} {e : Env} {R : Room} {s : State} {m : MethodId} {args : Array Value} {below : List Frame} {meth : Method} {c : Code} {T : State} {locs : List Loc} {cells slots : Nat} (X : Stand p l e R s m args below meth c T locs cells slots) (hx : p.tables.exec = Jvm.exec) (hby : c.code = method_3_code) (hret : meth.sig.returnType = some .boolean) (x0 : Int32) {fs : List Frame} (hr : ∀ (f : JFrame) (acts : List Action), f.method = m → f.locked = none → f.entered = [] → (doReturn e (T.setTop f) acts (some (.int (f2_40 x0)))).1 = T.setFrames fs) :
    Steps p.tables e below (T.setTop (mkF m 40 #[.val (.int x0)] [])) (T.setFrames fs) := by
  show Steps p.tables e below (T.setTop (mkF m 40 #[.val (.int x0)] [])) _
  refine XS.iloadN X.here hx rfl (hb hby d2_40) rfl ?_
  show Steps p.tables e below (T.setTop (mkF m 41 #[.val (.int x0)] [(.int x0)])) _
  refine XS.bipush X.here hx rfl (hb hby d2_41) ?_
  show Steps p.tables e below (T.setTop (mkF m 43 #[.val (.int x0)] [(.int (94 : Int32)), (.int x0)])) _
  by_cases hc : x0 = (94 : Int32)
  · refine XS.icmpYes X.here hx rfl (pc0 := 43) (pc' := 70) rfl (hb hby d2_43) rfl (teq hc).1 (by decide) (by decide) ?_
    rw [show f2_40 x0 = f2_70 x0 from if_pos hc] at hr; exact b2_70 X hx hby hret x0 hr
  · refine XS.icmpNo X.here hx rfl (hb hby d2_43) rfl (feq hc).1 ?_
    rw [show f2_40 x0 = f2_46 x0 from if_neg hc] at hr; exact b2_46 X hx hby hret x0 hr
def f2_34 (x0 : Int32) : Int32 := if x0 = (92 : Int32) then f2_70 x0 else f2_40 x0
set_option maxRecDepth 65536 in
theorem b2_34 {p : Program} {l : Launch} {e : Env} {R : Room} {s : State} {m : MethodId} {args : Array Value} {below : List Frame} {meth : Method} {c : Code} {T : State} {locs : List Loc} {cells slots : Nat} (X : Stand p l e R s m args below meth c T locs cells slots) (hx : p.tables.exec = Jvm.exec) (hby : c.code = method_3_code) (hret : meth.sig.returnType = some .boolean) (x0 : Int32) {fs : List Frame} (hr : ∀ (f : JFrame) (acts : List Action), f.method = m → f.locked = none → f.entered = [] → (doReturn e (T.setTop f) acts (some (.int (f2_34 x0)))).1 = T.setFrames fs) :
    Steps p.tables e below (T.setTop (mkF m 34 #[.val (.int x0)] [])) (T.setFrames fs) := by
  show Steps p.tables e below (T.setTop (mkF m 34 #[.val (.int x0)] [])) _
  refine XS.iloadN X.here hx rfl (hb hby d2_34) rfl ?_
  show Steps p.tables e below (T.setTop (mkF m 35 #[.val (.int x0)] [(.int x0)])) _
  refine XS.bipush X.here hx rfl (hb hby d2_35) ?_
  show Steps p.tables e below (T.setTop (mkF m 37 #[.val (.int x0)] [(.int (92 : Int32)), (.int x0)])) _
  by_cases hc : x0 = (92 : Int32)
  · refine XS.icmpYes X.here hx rfl (pc0 := 37) (pc' := 70) rfl (hb hby d2_37) rfl (teq hc).1 (by decide) (by decide) ?_
    rw [show f2_34 x0 = f2_70 x0 from if_pos hc] at hr; exact b2_70 X hx hby hret x0 hr
  · refine XS.icmpNo X.here hx rfl (hb hby d2_37) rfl (feq hc).1 ?_
    rw [show f2_34 x0 = f2_40 x0 from if_neg hc] at hr; exact b2_40 X hx hby hret x0 hr
def f2_28 (x0 : Int32) : Int32 := if x0 = (62 : Int32) then f2_70 x0 else f2_34 x0
set_option maxRecDepth 65536 in
theorem b2_28 {p : Program} {l : Launch} {e : Env} {R : Room} {s : State} {m : MethodId} {args : Array Value} {below : List Frame} {meth : Method} {c : Code} {T : State} {locs : List Loc} {cells slots : Nat} (X : Stand p l e R s m args below meth c T locs cells slots) (hx : p.tables.exec = Jvm.exec) (hby : c.code = method_3_code) (hret : meth.sig.returnType = some .boolean) (x0 : Int32) {fs : List Frame} (hr : ∀ (f : JFrame) (acts : List Action), f.method = m → f.locked = none → f.entered = [] → (doReturn e (T.setTop f) acts (some (.int (f2_28 x0)))).1 = T.setFrames fs) :
    Steps p.tables e below (T.setTop (mkF m 28 #[.val (.int x0)] [])) (T.setFrames fs) := by
  show Steps p.tables e below (T.setTop (mkF m 28 #[.val (.int x0)] [])) _
  refine XS.iloadN X.here hx rfl (hb hby d2_28) rfl ?_
  show Steps p.tables e below (T.setTop (mkF m 29 #[.val (.int x0)] [(.int x0)])) _
  refine XS.bipush X.here hx rfl (hb hby d2_29) ?_
  show Steps p.tables e below (T.setTop (mkF m 31 #[.val (.int x0)] [(.int (62 : Int32)), (.int x0)])) _
  by_cases hc : x0 = (62 : Int32)
  · refine XS.icmpYes X.here hx rfl (pc0 := 31) (pc' := 70) rfl (hb hby d2_31) rfl (teq hc).1 (by decide) (by decide) ?_
    rw [show f2_28 x0 = f2_70 x0 from if_pos hc] at hr; exact b2_70 X hx hby hret x0 hr
  · refine XS.icmpNo X.here hx rfl (hb hby d2_31) rfl (feq hc).1 ?_
    rw [show f2_28 x0 = f2_34 x0 from if_neg hc] at hr; exact b2_34 X hx hby hret x0 hr
def f2_22 (x0 : Int32) : Int32 := if x0 = (60 : Int32) then f2_70 x0 else f2_28 x0
set_option maxRecDepth 65536 in
theorem b2_22 {p : Program} {l : Launch} {e : Env} {R : Room} {s : State} {m : MethodId} {args : Array Value} {below : List Frame} {meth : Method} {c : Code} {T : State} {locs : List Loc} {cells slots : Nat} (X : Stand p l e R s m args below meth c T locs cells slots) (hx : p.tables.exec = Jvm.exec) (hby : c.code = method_3_code) (hret : meth.sig.returnType = some .boolean) (x0 : Int32) {fs : List Frame} (hr : ∀ (f : JFrame) (acts : List Action), f.method = m → f.locked = none → f.entered = [] → (doReturn e (T.setTop f) acts (some (.int (f2_22 x0)))).1 = T.setFrames fs) :
    Steps p.tables e below (T.setTop (mkF m 22 #[.val (.int x0)] [])) (T.setFrames fs) := by
  show Steps p.tables e below (T.setTop (mkF m 22 #[.val (.int x0)] [])) _
  refine XS.iloadN X.here hx rfl (hb hby d2_22) rfl ?_
  show Steps p.tables e below (T.setTop (mkF m 23 #[.val (.int x0)] [(.int x0)])) _
  refine XS.bipush X.here hx rfl (hb hby d2_23) ?_
  show Steps p.tables e below (T.setTop (mkF m 25 #[.val (.int x0)] [(.int (60 : Int32)), (.int x0)])) _
  by_cases hc : x0 = (60 : Int32)
  · refine XS.icmpYes X.here hx rfl (pc0 := 25) (pc' := 70) rfl (hb hby d2_25) rfl (teq hc).1 (by decide) (by decide) ?_
    rw [show f2_22 x0 = f2_70 x0 from if_pos hc] at hr; exact b2_70 X hx hby hret x0 hr
  · refine XS.icmpNo X.here hx rfl (hb hby d2_25) rfl (feq hc).1 ?_
    rw [show f2_22 x0 = f2_28 x0 from if_neg hc] at hr; exact b2_28 X hx hby hret x0 hr
def f2_16 (x0 : Int32) : Int32 := if x0 = (34 : Int32) then f2_70 x0 else f2_22 x0
set_option maxRecDepth 65536 in
theorem b2_16 {p : Program} {l : Launch} {e : Env} {R : Room} {s : State} {m : MethodId} {args : Array Value} {below : List Frame} {meth : Method} {c : Code} {T : State} {locs : List Loc} {cells slots : Nat} (X : Stand p l e R s m args below meth c T locs cells slots) (hx : p.tables.exec = Jvm.exec) (hby : c.code = method_3_code) (hret : meth.sig.returnType = some .boolean) (x0 : Int32) {fs : List Frame} (hr : ∀ (f : JFrame) (acts : List Action), f.method = m → f.locked = none → f.entered = [] → (doReturn e (T.setTop f) acts (some (.int (f2_16 x0)))).1 = T.setFrames fs) :
    Steps p.tables e below (T.setTop (mkF m 16 #[.val (.int x0)] [])) (T.setFrames fs) := by
  show Steps p.tables e below (T.setTop (mkF m 16 #[.val (.int x0)] [])) _
  refine XS.iloadN X.here hx rfl (hb hby d2_16) rfl ?_
  show Steps p.tables e below (T.setTop (mkF m 17 #[.val (.int x0)] [(.int x0)])) _
  refine XS.bipush X.here hx rfl (hb hby d2_17) ?_
  show Steps p.tables e below (T.setTop (mkF m 19 #[.val (.int x0)] [(.int (34 : Int32)), (.int x0)])) _
  by_cases hc : x0 = (34 : Int32)
  · refine XS.icmpYes X.here hx rfl (pc0 := 19) (pc' := 70) rfl (hb hby d2_19) rfl (teq hc).1 (by decide) (by decide) ?_
    rw [show f2_16 x0 = f2_70 x0 from if_pos hc] at hr; exact b2_70 X hx hby hret x0 hr
  · refine XS.icmpNo X.here hx rfl (hb hby d2_19) rfl (feq hc).1 ?_
    rw [show f2_16 x0 = f2_22 x0 from if_neg hc] at hr; exact b2_22 X hx hby hret x0 hr
def f2_14 (x0 : Int32) : Int32 := nar .boolean (0 : Int32)
set_option maxRecDepth 65536 in
theorem b2_14 {p : Program} {l : Launch} {e : Env} {R : Room} {s : State} {m : MethodId} {args : Array Value} {below : List Frame} {meth : Method} {c : Code} {T : State} {locs : List Loc} {cells slots : Nat} (X : Stand p l e R s m args below meth c T locs cells slots) (hx : p.tables.exec = Jvm.exec) (hby : c.code = method_3_code) (hret : meth.sig.returnType = some .boolean) (x0 : Int32) {fs : List Frame} (hr : ∀ (f : JFrame) (acts : List Action), f.method = m → f.locked = none → f.entered = [] → (doReturn e (T.setTop f) acts (some (.int (f2_14 x0)))).1 = T.setFrames fs) :
    Steps p.tables e below (T.setTop (mkF m 14 #[.val (.int x0)] [])) (T.setFrames fs) := by
  show Steps p.tables e below (T.setTop (mkF m 14 #[.val (.int x0)] [])) _
  refine XS.iconst X.here hx rfl (hb hby d2_14) ?_
  show Steps p.tables e below (T.setTop (mkF m 15 #[.val (.int x0)] [(.int (0 : Int32))])) _
  exact retN X hx (t := .boolean) hret (by simp) (hb hby d2_15) hr
def f2_8 (x0 : Int32) : Int32 := if (127 : Int32) < x0 then f2_14 x0 else f2_16 x0
set_option maxRecDepth 65536 in
theorem b2_8 {p : Program} {l : Launch} {e : Env} {R : Room} {s : State} {m : MethodId} {args : Array Value} {below : List Frame} {meth : Method} {c : Code} {T : State} {locs : List Loc} {cells slots : Nat} (X : Stand p l e R s m args below meth c T locs cells slots) (hx : p.tables.exec = Jvm.exec) (hby : c.code = method_3_code) (hret : meth.sig.returnType = some .boolean) (x0 : Int32) {fs : List Frame} (hr : ∀ (f : JFrame) (acts : List Action), f.method = m → f.locked = none → f.entered = [] → (doReturn e (T.setTop f) acts (some (.int (f2_8 x0)))).1 = T.setFrames fs) :
    Steps p.tables e below (T.setTop (mkF m 8 #[.val (.int x0)] [])) (T.setFrames fs) := by
  show Steps p.tables e below (T.setTop (mkF m 8 #[.val (.int x0)] [])) _
  refine XS.iloadN X.here hx rfl (hb hby d2_8) rfl ?_
  show Steps p.tables e below (T.setTop (mkF m 9 #[.val (.int x0)] [(.int x0)])) _
  refine XS.bipush X.here hx rfl (hb hby d2_9) ?_
  show Steps p.tables e below (T.setTop (mkF m 11 #[.val (.int x0)] [(.int (127 : Int32)), (.int x0)])) _
  by_cases hc : (127 : Int32) < x0
  · refine XS.icmpNo X.here hx rfl (hb hby d2_11) rfl (tlt hc).2.2.2 ?_
    rw [show f2_8 x0 = f2_14 x0 from if_pos hc] at hr; exact b2_14 X hx hby hret x0 hr
  · refine XS.icmpYes X.here hx rfl (pc0 := 11) (pc' := 16) rfl (hb hby d2_11) rfl (flt hc).2.2.2 (by decide) (by decide) ?_
    rw [show f2_8 x0 = f2_16 x0 from if_neg hc] at hr; exact b2_16 X hx hby hret x0 hr
def f2_6 (x0 : Int32) : Int32 := nar .boolean (1 : Int32)
set_option maxRecDepth 65536 in
theorem b2_6 {p : Program} {l : Launch} {e : Env} {R : Room} {s : State} {m : MethodId} {args : Array Value} {below : List Frame} {meth : Method} {c : Code} {T : State} {locs : List Loc} {cells slots : Nat} (X : Stand p l e R s m args below meth c T locs cells slots) (hx : p.tables.exec = Jvm.exec) (hby : c.code = method_3_code) (hret : meth.sig.returnType = some .boolean) (x0 : Int32) {fs : List Frame} (hr : ∀ (f : JFrame) (acts : List Action), f.method = m → f.locked = none → f.entered = [] → (doReturn e (T.setTop f) acts (some (.int (f2_6 x0)))).1 = T.setFrames fs) :
    Steps p.tables e below (T.setTop (mkF m 6 #[.val (.int x0)] [])) (T.setFrames fs) := by
  show Steps p.tables e below (T.setTop (mkF m 6 #[.val (.int x0)] [])) _
  refine XS.iconst X.here hx rfl (hb hby d2_6) ?_
  show Steps p.tables e below (T.setTop (mkF m 7 #[.val (.int x0)] [(.int (1 : Int32))])) _
  exact retN X hx (t := .boolean) hret (by simp) (hb hby d2_7) hr
def f2_0 (x0 : Int32) : Int32 := if (32 : Int32) < x0 then f2_8 x0 else f2_6 x0
set_option maxRecDepth 65536 in
theorem b2_0 {p : Program} {l : Launch} {e : Env} {R : Room} {s : State} {m : MethodId} {args : Array Value} {below : List Frame} {meth : Method} {c : Code} {T : State} {locs : List Loc} {cells slots : Nat} (X : Stand p l e R s m args below meth c T locs cells slots) (hx : p.tables.exec = Jvm.exec) (hby : c.code = method_3_code) (hret : meth.sig.returnType = some .boolean) (x0 : Int32) {fs : List Frame} (hr : ∀ (f : JFrame) (acts : List Action), f.method = m → f.locked = none → f.entered = [] → (doReturn e (T.setTop f) acts (some (.int (f2_0 x0)))).1 = T.setFrames fs) :
    Steps p.tables e below (T.setTop (mkF m 0 #[.val (.int x0)] [])) (T.setFrames fs) := by
  show Steps p.tables e below (T.setTop (mkF m 0 #[.val (.int x0)] [])) _
  refine XS.iloadN X.here hx rfl (hb hby d2_0) rfl ?_
  show Steps p.tables e below (T.setTop (mkF m 1 #[.val (.int x0)] [(.int x0)])) _
  refine XS.bipush X.here hx rfl (hb hby d2_1) ?_
  show Steps p.tables e below (T.setTop (mkF m 3 #[.val (.int x0)] [(.int (32 : Int32)), (.int x0)])) _
  by_cases hc : (32 : Int32) < x0
  · refine XS.icmpYes X.here hx rfl (pc0 := 3) (pc' := 8) rfl (hb hby d2_3) rfl (tlt hc).2.2.1 (by decide) (by decide) ?_
    rw [show f2_0 x0 = f2_8 x0 from if_pos hc] at hr; exact b2_8 X hx hby hret x0 hr
  · refine XS.icmpNo X.here hx rfl (hb hby d2_3) rfl (flt hc).2.2.1 ?_
    rw [show f2_0 x0 = f2_6 x0 from if_neg hc] at hr; exact b2_6 X hx hby hret x0 hr
theorem pn_2 : plainName "com/example/quadrille/quadrille/rdfio/RdfGrammarIsExcludedFromIriPinLaw" = true := by first | (simp [plainName, overriddenIn]; done) | decide +kernel
theorem ef_2 (m : MethodId) (x0 : Int32) : entryFrame m #[(.int x0)] 1 = (mkF m 0 #[.val (.int x0)] []) := by first | (simp [entryFrame, mkF, argsToLocals, Value.category]; done) | rfl
def Q2 (Z : State) (x0 : Int32) (h0 : Heap) (n0 : Nat) (v : Option Value) (h : Heap) (L : List Loc) : Prop := v = some (.int (f2_0 x0)) ∧ Fr n0 L ∧ h = h0
set_option maxRecDepth 65536 in
set_option maxHeartbeats 40000000 in
theorem rm2 (l : Launch) (Z : State) (a0 : Array Value) (hw : ∀ d ∈ tables_1, d.before a0 Z = true) (ws : List Jvm.Cond) (x0 : Int32) (h0 : Heap) (n0 : Nat) (Z0 : n0 ≤ h0.size) :
    MetFree l (⟨"com/example/quadrille/quadrille/rdfio/RdfGrammarIsExcludedFromIriPinLaw", "expected", "(I)Z"⟩ : MethodName) (head1 (Jvm.Cond.code (⟨"com/example/quadrille/quadrille/rdfio/RdfGrammarIsExcludedFromIriPinLaw", "expected", "(I)Z"⟩ : MethodName) method_3_code 1 (some .boolean) :: ws) ({ frames := 0, cells := 0, slots := 0, locals := 0 } : Room)) (fun a U => a = #[(.int x0)] ∧ Z.Warmed39 U.vm ∧ U.heap = h0) (fun _ _ _ _ _ => True) (fun _ U o U' => ∃ v L, o = .returned v ∧ Q2 Z x0 h0 n0 v U'.heap L ∧ FrameEnd U o U' L ({ frames := 0, cells := 0, slots := 0, locals := 0 } : Room).cells ({ frames := 0, cells := 0, slots := 0, locals := 0 } : Room).slots) := by
  refine MetFree.of_bodySF (plainFor_of_name pn_2) hisR ?_
  intro p e s m args below meth c s₁ Bd hml0 hP hK
  obtain ⟨rfl, hZ, hh⟩ := hP
  have hx := Bd.exec
  have hby := Bd.bytes
  have hown : s.vm.findClass "com/example/quadrille/quadrille/rdfio/RdfGrammarIsExcludedFromIriPinLaw" = some m.cls := findClass_of_methodNamed Bd.named
  have X0 : Stand p l e ({ frames := 0, cells := 0, slots := 0, locals := 0 } : Room) s m #[(.int x0)] below meth c s₁ [] 0 0 := Stand.of_body Bd
  have e0 : s₁.heap = h0 := by rw [← hh, Bd.state]; rfl
  have N0 := Fr.nil n0
  have pre0 : ∀ t, Steps p.tables e below (s₁.setTop (mkF m 0 #[.val (.int x0)] [])) t → Steps p.tables e below (s₁.setTop (entryFrame m #[(.int x0)] 1)) t := fun t k => castTop (ef_2 m x0) k
  obtain ⟨fs, hr, hrun, hended, hW, hsame⟩ := X0.leave (v := some (.int (f2_0 x0))) (fun h => by rw [Bd.returns] at h; cases h)
  refine ⟨_, _, pre0 _ ?_, hrun, hended, _, _, rfl, ?_, ⟨_, rfl⟩, hW, hsame.mono (by decide) (by decide)⟩
  · exact b2_0 X0 hx hby Bd.returns x0 hr
  · show Q2 Z x0 h0 n0 _ s₁.heap _
    rw [e0]
    exact ⟨rfl, N0, rfl⟩
def f0_46 (x0 : Int32) (x1 : Int32) (x3 : Int32) : Int32 := ((31 : Int32) + ((x0 &&& (2147483647 : Int32)) - ((x0 &&& (2147483647 : Int32)) / (3 : Int32)) * (3 : Int32)))
set_option maxRecDepth 65536 in
theorem b0_46 {p : Program} {l : Launch} {e : Env} {R : Room} {s : State} {m : MethodId} {args : Array Value} {below : List Frame} {meth : Method} {c : Code} {T : State} {locs : List Loc} {cells slots : Nat} (X : Stand p l e R s m args below meth c T locs cells slots) (hx : p.tables.exec = Jvm.exec) (hby : c.code = code) {Z : State} {a0 : Array Value} (hw : ∀ d ∈ tables_1, d.before a0 Z = true) (hZ : Z.Warmed39 s.vm) (hown : s.vm.findClass "com/example/quadrille/quadrille/rdfio/RdfGrammarIsExcludedFromIriPinLaw" = some m.cls) (x0 : Int32) (x1 : Int32) (x3 : Int32) {target : State} (hk : Steps p.tables e below (T.setTop (mkF m 56 #[.val (.int x0), .val (.int x1), .val (.int (f0_46 x0 x1 x3)), .val (.int x3), .unset] [])) target) :
    Steps p.tables e below (T.setTop (mkF m 46 #[.val (.int x0), .val (.int x1), .unset, .val (.int x3), .unset] [])) target := by
  show Steps p.tables e below (T.setTop (mkF m 46 #[.val (.int x0), .val (.int x1), .unset, .val (.int x3), .unset] [])) _
  refine XS.bipush X.here hx rfl (hb hby at_46) ?_
  show Steps p.tables e below (T.setTop (mkF m 48 #[.val (.int x0), .val (.int x1), .unset, .val (.int x3), .unset] [(.int (31 : Int32))])) _
  refine XS.iloadN X.here hx rfl (hb hby at_48) rfl ?_
  show Steps p.tables e below (T.setTop (mkF m 49 #[.val (.int x0), .val (.int x1), .unset, .val (.int x3), .unset] [(.int x0), (.int (31 : Int32))])) _
  refine X.ldcInt hx hown (mvT hZ (hw _ (List.mem_of_getElem? (i := 0) rfl))) (g := (mkF m 49 #[.val (.int x0), .val (.int x1), .unset, .val (.int x3), .unset] [(.int x0), (.int (31 : Int32))])) rfl (hb hby at_49) _ ?_
  show Steps p.tables e below (T.setTop (mkF m 51 #[.val (.int x0), .val (.int x1), .unset, .val (.int x3), .unset] [(.int (2147483647 : Int32)), (.int x0), (.int (31 : Int32))])) _
  refine XS.iand X.here hx rfl (hb hby at_51) rfl ?_
  show Steps p.tables e below (T.setTop (mkF m 52 #[.val (.int x0), .val (.int x1), .unset, .val (.int x3), .unset] [(.int (x0 &&& (2147483647 : Int32))), (.int (31 : Int32))])) _
  refine XS.iconst X.here hx rfl (hb hby at_52) ?_
  show Steps p.tables e below (T.setTop (mkF m 53 #[.val (.int x0), .val (.int x1), .unset, .val (.int x3), .unset] [(.int (3 : Int32)), (.int (x0 &&& (2147483647 : Int32))), (.int (31 : Int32))])) _
  refine XS.irem X.here hx rfl (hb hby at_53) rfl (by decide) ?_
  show Steps p.tables e below (T.setTop (mkF m 54 #[.val (.int x0), .val (.int x1), .unset, .val (.int x3), .unset] [(.int ((x0 &&& (2147483647 : Int32)) - ((x0 &&& (2147483647 : Int32)) / (3 : Int32)) * (3 : Int32))), (.int (31 : Int32))])) _
  refine XS.iadd X.here hx rfl (hb hby at_54) rfl ?_
  show Steps p.tables e below (T.setTop (mkF m 55 #[.val (.int x0), .val (.int x1), .unset, .val (.int x3), .unset] [(.int ((31 : Int32) + ((x0 &&& (2147483647 : Int32)) - ((x0 &&& (2147483647 : Int32)) / (3 : Int32)) * (3 : Int32))))])) _
  refine XS.istoreN X.here hx rfl (hb hby at_55) rfl (l' := #[.val (.int x0), .val (.int x1), .val (.int ((31 : Int32) + ((x0 &&& (2147483647 : Int32)) - ((x0 &&& (2147483647 : Int32)) / (3 : Int32)) * (3 : Int32)))), .val (.int x3), .unset]) rfl ?_
  exact hk
def f0_37 (x0 : Int32) (x1 : Int32) (x3 : Int32) : Int32 := (x0 &&& (255 : Int32))
set_option maxRecDepth 65536 in
theorem b0_37 {p : Program} {l : Launch} {e : Env} {R : Room} {s : State} {m : MethodId} {args : Array Value} {below : List Frame} {meth : Method} {c : Code} {T : State} {locs : List Loc} {cells slots : Nat} (X : Stand p l e R s m args below meth c T locs cells slots) (hx : p.tables.exec = Jvm.exec) (hby : c.code = code) {Z : State} {a0 : Array Value} (hw : ∀ d ∈ tables_1, d.before a0 Z = true) (hZ : Z.Warmed39 s.vm) (hown : s.vm.findClass "com/example/quadrille/quadrille/rdfio/RdfGrammarIsExcludedFromIriPinLaw" = some m.cls) (x0 : Int32) (x1 : Int32) (x3 : Int32) {target : State} (hk : Steps p.tables e below (T.setTop (mkF m 56 #[.val (.int x0), .val (.int x1), .val (.int (f0_37 x0 x1 x3)), .val (.int x3), .unset] [])) target) :
    Steps p.tables e below (T.setTop (mkF m 37 #[.val (.int x0), .val (.int x1), .unset, .val (.int x3), .unset] [])) target := by
  show Steps p.tables e below (T.setTop (mkF m 37 #[.val (.int x0), .val (.int x1), .unset, .val (.int x3), .unset] [])) _
  refine XS.iloadN X.here hx rfl (hb hby at_37) rfl ?_
  show Steps p.tables e below (T.setTop (mkF m 38 #[.val (.int x0), .val (.int x1), .unset, .val (.int x3), .unset] [(.int x0)])) _
  refine XS.sipush X.here hx rfl (hb hby at_38) ?_
  show Steps p.tables e below (T.setTop (mkF m 41 #[.val (.int x0), .val (.int x1), .unset, .val (.int x3), .unset] [(.int (255 : Int32)), (.int x0)])) _
  refine XS.iand X.here hx rfl (hb hby at_41) rfl ?_
  show Steps p.tables e below (T.setTop (mkF m 42 #[.val (.int x0), .val (.int x1), .unset, .val (.int x3), .unset] [(.int (x0 &&& (255 : Int32)))])) _
  refine XS.istoreN X.here hx rfl (hb hby at_42) rfl (l' := #[.val (.int x0), .val (.int x1), .val (.int (x0 &&& (255 : Int32))), .val (.int x3), .unset]) rfl ?_
  show Steps p.tables e below (T.setTop (mkF m 43 #[.val (.int x0), .val (.int x1), .val (.int (x0 &&& (255 : Int32))), .val (.int x3), .unset] [])) _
  refine XS.goto X.here hx rfl (pc0 := 43) (pc' := 56) rfl (hb hby at_43) (by decide) (by decide) ?_
  exact hk
def f0_32 (x0 : Int32) (x1 : Int32) (x3 : Int32) : Int32 := if x3 = (2 : Int32) then f0_37 x0 x1 x3 else f0_46 x0 x1 x3
set_option maxRecDepth 65536 in
theorem b0_32 {p : Program} {l : Launch} {e : Env} {R : Room} {s : State} {m : MethodId} {args : Array Value} {below : List Frame} {meth : Method} {c : Code} {T : State} {locs : List Loc} {cells slots : Nat} (X : Stand p l e R s m args below meth c T locs cells slots) (hx : p.tables.exec = Jvm.exec) (hby : c.code = code) {Z : State} {a0 : Array Value} (hw : ∀ d ∈ tables_1, d.before a0 Z = true) (hZ : Z.Warmed39 s.vm) (hown : s.vm.findClass "com/example/quadrille/quadrille/rdfio/RdfGrammarIsExcludedFromIriPinLaw" = some m.cls) (x0 : Int32) (x1 : Int32) (x3 : Int32) {target : State} (hk : Steps p.tables e below (T.setTop (mkF m 56 #[.val (.int x0), .val (.int x1), .val (.int (f0_32 x0 x1 x3)), .val (.int x3), .unset] [])) target) :
    Steps p.tables e below (T.setTop (mkF m 32 #[.val (.int x0), .val (.int x1), .unset, .val (.int x3), .unset] [])) target := by
  show Steps p.tables e below (T.setTop (mkF m 32 #[.val (.int x0), .val (.int x1), .unset, .val (.int x3), .unset] [])) _
  refine XS.iloadN X.here hx rfl (hb hby at_32) rfl ?_
  show Steps p.tables e below (T.setTop (mkF m 33 #[.val (.int x0), .val (.int x1), .unset, .val (.int x3), .unset] [(.int x3)])) _
  refine XS.iconst X.here hx rfl (hb hby at_33) ?_
  show Steps p.tables e below (T.setTop (mkF m 34 #[.val (.int x0), .val (.int x1), .unset, .val (.int x3), .unset] [(.int (2 : Int32)), (.int x3)])) _
  by_cases hc : x3 = (2 : Int32)
  · refine XS.icmpNo X.here hx rfl (hb hby at_34) rfl (teq hc).2 ?_
    rw [show f0_32 x0 x1 x3 = f0_37 x0 x1 x3 from if_pos hc] at hk; exact b0_37 X hx hby hw hZ hown x0 x1 x3 hk
  · refine XS.icmpYes X.here hx rfl (pc0 := 34) (pc' := 46) rfl (hb hby at_34) rfl (feq hc).2 (by decide) (by decide) ?_
    rw [show f0_32 x0 x1 x3 = f0_46 x0 x1 x3 from if_neg hc] at hk; exact b0_46 X hx hby hw hZ hown x0 x1 x3 hk
def f0_24 (x0 : Int32) (x1 : Int32) (x3 : Int32) : Int32 := (x0 &&& (127 : Int32))
set_option maxRecDepth 65536 in
theorem b0_24 {p : Program} {l : Launch} {e : Env} {R : Room} {s : State} {m : MethodId} {args : Array Value} {below : List Frame} {meth : Method} {c : Code} {T : State} {locs : List Loc} {cells slots : Nat} (X : Stand p l e R s m args below meth c T locs cells slots) (hx : p.tables.exec = Jvm.exec) (hby : c.code = code) {Z : State} {a0 : Array Value} (hw : ∀ d ∈ tables_1, d.before a0 Z = true) (hZ : Z.Warmed39 s.vm) (hown : s.vm.findClass "com/example/quadrille/quadrille/rdfio/RdfGrammarIsExcludedFromIriPinLaw" = some m.cls) (x0 : Int32) (x1 : Int32) (x3 : Int32) {target : State} (hk : Steps p.tables e below (T.setTop (mkF m 56 #[.val (.int x0), .val (.int x1), .val (.int (f0_24 x0 x1 x3)), .val (.int x3), .unset] [])) target) :
    Steps p.tables e below (T.setTop (mkF m 24 #[.val (.int x0), .val (.int x1), .unset, .val (.int x3), .unset] [])) target := by
  show Steps p.tables e below (T.setTop (mkF m 24 #[.val (.int x0), .val (.int x1), .unset, .val (.int x3), .unset] [])) _
  refine XS.iloadN X.here hx rfl (hb hby at_24) rfl ?_
  show Steps p.tables e below (T.setTop (mkF m 25 #[.val (.int x0), .val (.int x1), .unset, .val (.int x3), .unset] [(.int x0)])) _
  refine XS.bipush X.here hx rfl (hb hby at_25) ?_
  show Steps p.tables e below (T.setTop (mkF m 27 #[.val (.int x0), .val (.int x1), .unset, .val (.int x3), .unset] [(.int (127 : Int32)), (.int x0)])) _
  refine XS.iand X.here hx rfl (hb hby at_27) rfl ?_
  show Steps p.tables e below (T.setTop (mkF m 28 #[.val (.int x0), .val (.int x1), .unset, .val (.int x3), .unset] [(.int (x0 &&& (127 : Int32)))])) _
  refine XS.istoreN X.here hx rfl (hb hby at_28) rfl (l' := #[.val (.int x0), .val (.int x1), .val (.int (x0 &&& (127 : Int32))), .val (.int x3), .unset]) rfl ?_
  show Steps p.tables e below (T.setTop (mkF m 29 #[.val (.int x0), .val (.int x1), .val (.int (x0 &&& (127 : Int32))), .val (.int x3), .unset] [])) _
  refine XS.goto X.here hx rfl (pc0 := 29) (pc' := 56) rfl (hb hby at_29) (by decide) (by decide) ?_
  exact hk
def f0_19 (x0 : Int32) (x1 : Int32) (x3 : Int32) : Int32 := if x3 = (1 : Int32) then f0_24 x0 x1 x3 else f0_32 x0 x1 x3
set_option maxRecDepth 65536 in
theorem b0_19 {p : Program} {l : Launch} {e : Env} {R : Room} {s : State} {m : MethodId} {args : Array Value} {below : List Frame} {meth : Method} {c : Code} {T : State} {locs : List Loc} {cells slots : Nat} (X : Stand p l e R s m args below meth c T locs cells slots) (hx : p.tables.exec = Jvm.exec) (hby : c.code = code) {Z : State} {a0 : Array Value} (hw : ∀ d ∈ tables_1, d.before a0 Z = true) (hZ : Z.Warmed39 s.vm) (hown : s.vm.findClass "com/example/quadrille/quadrille/rdfio/RdfGrammarIsExcludedFromIriPinLaw" = some m.cls) (x0 : Int32) (x1 : Int32) (x3 : Int32) {target : State} (hk : Steps p.tables e below (T.setTop (mkF m 56 #[.val (.int x0), .val (.int x1), .val (.int (f0_19 x0 x1 x3)), .val (.int x3), .unset] [])) target) :
    Steps p.tables e below (T.setTop (mkF m 19 #[.val (.int x0), .val (.int x1), .unset, .val (.int x3), .unset] [])) target := by
  show Steps p.tables e below (T.setTop (mkF m 19 #[.val (.int x0), .val (.int x1), .unset, .val (.int x3), .unset] [])) _
  refine XS.iloadN X.here hx rfl (hb hby at_19) rfl ?_
  show Steps p.tables e below (T.setTop (mkF m 20 #[.val (.int x0), .val (.int x1), .unset, .val (.int x3), .unset] [(.int x3)])) _
  refine XS.iconst X.here hx rfl (hb hby at_20) ?_
  show Steps p.tables e below (T.setTop (mkF m 21 #[.val (.int x0), .val (.int x1), .unset, .val (.int x3), .unset] [(.int (1 : Int32)), (.int x3)])) _
  by_cases hc : x3 = (1 : Int32)
  · refine XS.icmpNo X.here hx rfl (hb hby at_21) rfl (teq hc).2 ?_
    rw [show f0_19 x0 x1 x3 = f0_24 x0 x1 x3 from if_pos hc] at hk; exact b0_24 X hx hby hw hZ hown x0 x1 x3 hk
  · refine XS.icmpYes X.here hx rfl (pc0 := 21) (pc' := 32) rfl (hb hby at_21) rfl (feq hc).2 (by decide) (by decide) ?_
    rw [show f0_19 x0 x1 x3 = f0_32 x0 x1 x3 from if_neg hc] at hk; exact b0_32 X hx hby hw hZ hown x0 x1 x3 hk
def f0_8 (x0 : Int32) (x1 : Int32) (x3 : Int32) : Int32 := ((x0 &&& (2147483647 : Int32)) - ((x0 &&& (2147483647 : Int32)) / (1114112 : Int32)) * (1114112 : Int32))
set_option maxRecDepth 65536 in
theorem b0_8 {p : Program} {l : Launch} {e : Env} {R : Room} {s : State} {m : MethodId} {args : Array Value} {below : List Frame} {meth : Method} {c : Code} {T : State} {locs : List Loc} {cells slots : Nat} (X : Stand p l e R s m args below meth c T locs cells slots) (hx : p.tables.exec = Jvm.exec) (hby : c.code = code) {Z : State} {a0 : Array Value} (hw : ∀ d ∈ tables_1, d.before a0 Z = true) (hZ : Z.Warmed39 s.vm) (hown : s.vm.findClass "com/example/quadrille/quadrille/rdfio/RdfGrammarIsExcludedFromIriPinLaw" = some m.cls) (x0 : Int32) (x1 : Int32) (x3 : Int32) {target : State} (hk : Steps p.tables e below (T.setTop (mkF m 56 #[.val (.int x0), .val (.int x1), .val (.int (f0_8 x0 x1 x3)), .val (.int x3), .unset] [])) target) :
    Steps p.tables e below (T.setTop (mkF m 8 #[.val (.int x0), .val (.int x1), .unset, .val (.int x3), .unset] [])) target := by
  show Steps p.tables e below (T.setTop (mkF m 8 #[.val (.int x0), .val (.int x1), .unset, .val (.int x3), .unset] [])) _
  refine XS.iloadN X.here hx rfl (hb hby at_8) rfl ?_
  show Steps p.tables e below (T.setTop (mkF m 9 #[.val (.int x0), .val (.int x1), .unset, .val (.int x3), .unset] [(.int x0)])) _
  refine X.ldcInt hx hown (mvT hZ (hw _ (List.mem_of_getElem? (i := 0) rfl))) (g := (mkF m 9 #[.val (.int x0), .val (.int x1), .unset, .val (.int x3), .unset] [(.int x0)])) rfl (hb hby at_9) _ ?_
  show Steps p.tables e below (T.setTop (mkF m 11 #[.val (.int x0), .val (.int x1), .unset, .val (.int x3), .unset] [(.int (2147483647 : Int32)), (.int x0)])) _
  refine XS.iand X.here hx rfl (hb hby at_11) rfl ?_
  show Steps p.tables e below (T.setTop (mkF m 12 #[.val (.int x0), .val (.int x1), .unset, .val (.int x3), .unset] [(.int (x0 &&& (2147483647 : Int32)))])) _
  refine X.ldcInt hx hown (mvT hZ (hw _ (List.mem_of_getElem? (i := 9) rfl))) (g := (mkF m 12 #[.val (.int x0), .val (.int x1), .unset, .val (.int x3), .unset] [(.int (x0 &&& (2147483647 : Int32)))])) rfl (hb hby at_12) _ ?_
  show Steps p.tables e below (T.setTop (mkF m 14 #[.val (.int x0), .val (.int x1), .unset, .val (.int x3), .unset] [(.int (1114112 : Int32)), (.int (x0 &&& (2147483647 : Int32)))])) _
  refine XS.irem X.here hx rfl (hb hby at_14) rfl (by decide) ?_
  show Steps p.tables e below (T.setTop (mkF m 15 #[.val (.int x0), .val (.int x1), .unset, .val (.int x3), .unset] [(.int ((x0 &&& (2147483647 : Int32)) - ((x0 &&& (2147483647 : Int32)) / (1114112 : Int32)) * (1114112 : Int32)))])) _
  refine XS.istoreN X.here hx rfl (hb hby at_15) rfl (l' := #[.val (.int x0), .val (.int x1), .val (.int ((x0 &&& (2147483647 : Int32)) - ((x0 &&& (2147483647 : Int32)) / (1114112 : Int32)) * (1114112 : Int32))), .val (.int x3), .unset]) rfl ?_
  show Steps p.tables e below (T.setTop (mkF m 16 #[.val (.int x0), .val (.int x1), .val (.int ((x0 &&& (2147483647 : Int32)) - ((x0 &&& (2147483647 : Int32)) / (1114112 : Int32)) * (1114112 : Int32))), .val (.int x3), .unset] [])) _
  refine XS.goto X.here hx rfl (pc0 := 16) (pc' := 56) rfl (hb hby at_16) (by decide) (by decide) ?_
  exact hk
def f0_4 (x0 : Int32) (x1 : Int32) (x3 : Int32) : Int32 := if x3 = (0 : Int32) then f0_8 x0 x1 x3 else f0_19 x0 x1 x3
set_option maxRecDepth 65536 in
theorem b0_4 {p : Program} {l : Launch} {e : Env} {R : Room} {s : State} {m : MethodId} {args : Array Value} {below : List Frame} {meth : Method} {c : Code} {T : State} {locs : List Loc} {cells slots : Nat} (X : Stand p l e R s m args below meth c T locs cells slots) (hx : p.tables.exec = Jvm.exec) (hby : c.code = code) {Z : State} {a0 : Array Value} (hw : ∀ d ∈ tables_1, d.before a0 Z = true) (hZ : Z.Warmed39 s.vm) (hown : s.vm.findClass "com/example/quadrille/quadrille/rdfio/RdfGrammarIsExcludedFromIriPinLaw" = some m.cls) (x0 : Int32) (x1 : Int32) (x3 : Int32) {target : State} (hk : Steps p.tables e below (T.setTop (mkF m 56 #[.val (.int x0), .val (.int x1), .val (.int (f0_4 x0 x1 x3)), .val (.int x3), .unset] [])) target) :
    Steps p.tables e below (T.setTop (mkF m 4 #[.val (.int x0), .val (.int x1), .unset, .val (.int x3), .unset] [])) target := by
  show Steps p.tables e below (T.setTop (mkF m 4 #[.val (.int x0), .val (.int x1), .unset, .val (.int x3), .unset] [])) _
  refine XS.iloadN X.here hx rfl (hb hby at_4) rfl ?_
  show Steps p.tables e below (T.setTop (mkF m 5 #[.val (.int x0), .val (.int x1), .unset, .val (.int x3), .unset] [(.int x3)])) _
  by_cases hc : x3 = (0 : Int32)
  · refine XS.ifNo X.here hx rfl (hb hby at_5) rfl ((if0 _ _).trans (teq hc).2) ?_
    rw [show f0_4 x0 x1 x3 = f0_8 x0 x1 x3 from if_pos hc] at hk; exact b0_8 X hx hby hw hZ hown x0 x1 x3 hk
  · refine XS.ifYes X.here hx rfl (pc0 := 5) (pc' := 19) rfl (hb hby at_5) rfl ((if0 _ _).trans (feq hc).2) (by decide) (by decide) ?_
    rw [show f0_4 x0 x1 x3 = f0_19 x0 x1 x3 from if_neg hc] at hk; exact b0_19 X hx hby hw hZ hown x0 x1 x3 hk
theorem own_law (c : Int32) : f1_0 c = f2_0 c := by
  by_cases h1 : (32 : Int32) < c
  · by_cases h2 : (127 : Int32) < c
    · have ne : ∀ k : Int32, k ≤ 127 → ¬ c = k := fun k hk e => by
        subst e
        rw [Int32.le_iff_toInt_le] at hk
        rw [Int32.lt_iff_toInt_lt] at h2
        omega
      simp only [f1_0, f1_86, f2_0, f2_8, h1, h2, if_true, ne 34 (by decide), ne 60 (by decide), ne 62 (by decide), ne 92 (by decide), ne 94 (by decide), ne 96 (by decide), ne 123 (by decide), ne 124 (by decide), ne 125 (by decide), if_false]
      rfl
    · simp only [f1_0, f1_86, f2_0, f2_8, h1, h2, if_true, if_false, f2_16, f2_22, f2_28, f2_34, f2_40, f2_46, f2_52, f2_58, f2_64, f2_70, f2_74, f2_75]
      rfl
  · have ne : ∀ k : Int32, 32 < k → ¬ c = k := fun k hk e => h1 (e ▸ hk)
    simp only [f1_0, f1_86, f2_0, h1, if_false, ne 34 (by decide), ne 60 (by decide), ne 62 (by decide), ne 92 (by decide), ne 94 (by decide), ne 96 (by decide), ne 123 (by decide), ne 124 (by decide), ne 125 (by decide)]
    rfl
theorem pd_0 : parseMethodDescriptor "(I)Z" = some ⟨[.int], some .boolean⟩ := by decide +kernel
theorem pn_0 : plainName "com/example/quadrille/quadrille/rdfio/RdfGrammarIsExcludedFromIriPinLaw" = true := by first | (simp [plainName, overriddenIn]; done) | decide +kernel
theorem ef_0 (m : MethodId) (x0 : Int32) (x1 : Int32) : entryFrame m #[(.int x0), (.int x1)] maxLocals = (mkF m 0 #[.val (.int x0), .val (.int x1), .unset, .unset, .unset] []) := by first | (simp [entryFrame, mkF, argsToLocals, Value.category, maxLocals]; done) | rfl
def Q0 (Z : State) (x0 : Int32) (x1 : Int32) (h0 : Heap) (n0 : Nat) (v : Option Value) (h : Heap) (L : List Loc) : Prop := v = some (.int (1 : Int32)) ∧ Fr n0 L
set_option maxRecDepth 65536 in
set_option maxHeartbeats 40000000 in
theorem rm0 (l : Launch) (Z : State) (a0 : Array Value) (hw : ∀ d ∈ tables_1, d.before a0 Z = true) (ws : List Jvm.Cond) (x0 : Int32) (x1 : Int32) (h0 : Heap) (n0 : Nat) (Z0 : n0 ≤ h0.size) :
    MetFree l x (head1 (Jvm.Cond.code x code maxLocals ret :: ws) room_1) (fun a U => a = #[(.int x0), (.int x1)] ∧ Z.Warmed39 U.vm ∧ U.heap = h0) (fun _ _ _ _ _ => True) (fun _ U o U' => ∃ v L, o = .returned v ∧ Q0 Z x0 x1 h0 n0 v U'.heap L ∧ FrameEnd U o U' L room_1.cells room_1.slots) := by
  refine MetFree.of_bodySF (plainFor_of_name pn_0) hisR ?_
  intro p e s m args below meth c s₁ Bd hml0 hP hK
  obtain ⟨rfl, hZ, hh⟩ := hP
  have hx := Bd.exec
  have hby := Bd.bytes
  have hml : c.maxLocals = 5 := hml0
  have hown : s.vm.findClass "com/example/quadrille/quadrille/rdfio/RdfGrammarIsExcludedFromIriPinLaw" = some m.cls := findClass_of_methodNamed Bd.named
  have hnm := (name_of_methodNamed Bd.named Bd.method).1
  have X0 : Stand p l e room_1 s m #[(.int x0), (.int x1)] below meth c s₁ [] 0 0 := Stand.of_body Bd
  have e0 : s₁.heap = h0 := by rw [← hh, Bd.state]; rfl
  have N0 := Fr.nil n0
  have pre0 : ∀ t, Steps p.tables e below (s₁.setTop (mkF m 0 #[.val (.int x0), .val (.int x1), .unset, .unset, .unset] [])) t → Steps p.tables e below (s₁.setTop (entryFrame m #[(.int x0), (.int x1)] maxLocals)) t := fun t k => castTop (ef_0 m x0 x1) k
  obtain ⟨_, _, ⟨T1, L1, k1, n1⟩, -, X1, ⟨Lc1, hQ1, l1, y1, z1⟩, st1⟩ := Jvm.LawKit.callS X0 hx (y := (⟨"com/example/quadrille/quadrille/rdfio/RdfGrammar", "isExcludedFromIri", "(I)Z"⟩ : MethodName)) hown (mvT hZ (hw _ (List.mem_of_getElem? (i := 1) rfl))) (mvT hZ (hw _ (List.mem_of_getElem? (i := 2) rfl))) (mvT hZ (hw _ (List.mem_of_getElem? (i := 3) rfl))) (mvT hZ (hw _ (List.mem_of_getElem? (i := 4) rfl))) (by decide) (backOf (W := 0) (rm1 l Z a0 hw [] (f0_4 x0 x1 (x1 &&& (3 : Int32))) h0 n0 Z0) hZ (hw _ (List.mem_of_getElem? (i := 4) rfl)) (hw _ (List.mem_of_getElem? (i := 3) rfl)) (by decide) (by decide)) (g := (mkF m 57 #[.val (.int x0), .val (.int x1), .val (.int (f0_4 x0 x1 (x1 &&& (3 : Int32)))), .val (.int (x1 &&& (3 : Int32))), .unset] [(.int (f0_4 x0 x1 (x1 &&& (3 : Int32))))])) rfl (by rw [hml]; rfl) (argsL := [(.int (f0_4 x0 x1 (x1 &&& (3 : Int32))))]) (rest := []) (lenOf pd_0 rfl) rfl (by show 2 * 0 + _ ≤ _; exact Nat.le_of_eq rfl) (hb hby at_57) (fun _ _ => ⟨rfl, e0, (by decide : 0 + 0 ≤ _), (by decide : 0 + 0 ≤ _)⟩)
  dsimp only [Pt.U, Pt.locs, Pt.cells, Pt.slots] at X1 l1 y1 z1 st1 hQ1
  subst l1 y1 z1
  obtain ⟨rfl, N1q, e1⟩ := hQ1
  have N1 := Fr.app N0 N1q
  obtain ⟨_, _, ⟨T2, L2, k2, n2⟩, -, X2, ⟨Lc2, hQ2, l2, y2, z2⟩, st2⟩ := Jvm.LawKit.callS X1 hx (y := (⟨"com/example/quadrille/quadrille/rdfio/RdfGrammarIsExcludedFromIriPinLaw", "expected", "(I)Z"⟩ : MethodName)) hown (mvT hZ (hw _ (List.mem_of_getElem? (i := 5) rfl))) (mvT hZ (hw _ (List.mem_of_getElem? (i := 6) rfl))) (mvT hZ (hw _ (List.mem_of_getElem? (i := 7) rfl))) (mvT hZ (hw _ (List.mem_of_getElem? (i := 8) rfl))) (by decide) (backOf (W := 1) (rm2 l Z a0 hw [] (f0_4 x0 x1 (x1 &&& (3 : Int32))) h0 n0 Z0) hZ (hw _ (List.mem_of_getElem? (i := 8) rfl)) (hw _ (List.mem_of_getElem? (i := 7) rfl)) (by decide) (by decide)) (g := (mkF m 65 #[.val (.int x0), .val (.int x1), .val (.int (f0_4 x0 x1 (x1 &&& (3 : Int32)))), .val (.int (x1 &&& (3 : Int32))), .val (.int (f1_0 (f0_4 x0 x1 (x1 &&& (3 : Int32)))))] [(.int (f0_4 x0 x1 (x1 &&& (3 : Int32)))), (.int (f1_0 (f0_4 x0 x1 (x1 &&& (3 : Int32)))))])) rfl (by rw [hml]; rfl) (argsL := [(.int (f0_4 x0 x1 (x1 &&& (3 : Int32))))]) (rest := [(.int (f1_0 (f0_4 x0 x1 (x1 &&& (3 : Int32)))))]) (lenOf pd_0 rfl) rfl (by show 2 * 0 + _ ≤ _; exact Nat.le_of_eq rfl) (hb hby at_65) (fun _ _ => ⟨rfl, e1, (by decide : 0 + 0 ≤ _), (by decide : 0 + 0 ≤ _)⟩)
  dsimp only [Pt.U, Pt.locs, Pt.cells, Pt.slots] at X2 l2 y2 z2 st2 hQ2
  subst l2 y2 z2
  obtain ⟨rfl, N2q, e2⟩ := hQ2
  have N2 := Fr.app N1 N2q
  obtain ⟨fs, hr, hrun, hended, hW, hsame⟩ := X2.leave (v := some (.int (1 : Int32))) (fun h => by rw [Bd.returns] at h; cases h)
  refine ⟨_, _, pre0 _ ?_, hrun, hended, _, _, rfl, ?_, ⟨_, rfl⟩, hW, hsame.mono (by decide) (by decide)⟩
  · show Steps p.tables e below (s₁.setTop (mkF m 0 #[.val (.int x0), .val (.int x1), .unset, .unset, .unset] [])) _
    refine XS.iloadN X0.here hx rfl (hb hby at_0) rfl ?_
    show Steps p.tables e below (s₁.setTop (mkF m 1 #[.val (.int x0), .val (.int x1), .unset, .unset, .unset] [(.int x1)])) _
    refine XS.iconst X0.here hx rfl (hb hby at_1) ?_
    show Steps p.tables e below (s₁.setTop (mkF m 2 #[.val (.int x0), .val (.int x1), .unset, .unset, .unset] [(.int (3 : Int32)), (.int x1)])) _
    refine XS.iand X0.here hx rfl (hb hby at_2) rfl ?_
    show Steps p.tables e below (s₁.setTop (mkF m 3 #[.val (.int x0), .val (.int x1), .unset, .unset, .unset] [(.int (x1 &&& (3 : Int32)))])) _
    refine XS.istoreN X0.here hx rfl (hb hby at_3) rfl (l' := #[.val (.int x0), .val (.int x1), .unset, .val (.int (x1 &&& (3 : Int32))), .unset]) rfl ?_
    show Steps p.tables e below (s₁.setTop (mkF m 4 #[.val (.int x0), .val (.int x1), .unset, .val (.int (x1 &&& (3 : Int32))), .unset] [])) _
    refine b0_4 X0 hx hby hw hZ hown x0 x1 (x1 &&& (3 : Int32)) ?_
    show Steps p.tables e below (s₁.setTop (mkF m 56 #[.val (.int x0), .val (.int x1), .val (.int (f0_4 x0 x1 (x1 &&& (3 : Int32)))), .val (.int (x1 &&& (3 : Int32))), .unset] [])) _
    refine XS.iloadN X0.here hx rfl (hb hby at_56) rfl ?_
    show Steps p.tables e below (s₁.setTop (mkF m 57 #[.val (.int x0), .val (.int x1), .val (.int (f0_4 x0 x1 (x1 &&& (3 : Int32)))), .val (.int (x1 &&& (3 : Int32))), .unset] [(.int (f0_4 x0 x1 (x1 &&& (3 : Int32))))])) _
    refine st1 _ ?_
    show Steps p.tables e below (T1.setTop (mkF m 60 #[.val (.int x0), .val (.int x1), .val (.int (f0_4 x0 x1 (x1 &&& (3 : Int32)))), .val (.int (x1 &&& (3 : Int32))), .unset] [(.int (f1_0 (f0_4 x0 x1 (x1 &&& (3 : Int32)))))])) _
    refine XS.istore X1.here hx rfl (hb hby at_60) rfl (l' := #[.val (.int x0), .val (.int x1), .val (.int (f0_4 x0 x1 (x1 &&& (3 : Int32)))), .val (.int (x1 &&& (3 : Int32))), .val (.int (f1_0 (f0_4 x0 x1 (x1 &&& (3 : Int32)))))]) rfl ?_
    show Steps p.tables e below (T1.setTop (mkF m 62 #[.val (.int x0), .val (.int x1), .val (.int (f0_4 x0 x1 (x1 &&& (3 : Int32)))), .val (.int (x1 &&& (3 : Int32))), .val (.int (f1_0 (f0_4 x0 x1 (x1 &&& (3 : Int32)))))] [])) _
    refine XS.iload X1.here hx rfl (hb hby at_62) rfl ?_
    show Steps p.tables e below (T1.setTop (mkF m 64 #[.val (.int x0), .val (.int x1), .val (.int (f0_4 x0 x1 (x1 &&& (3 : Int32)))), .val (.int (x1 &&& (3 : Int32))), .val (.int (f1_0 (f0_4 x0 x1 (x1 &&& (3 : Int32)))))] [(.int (f1_0 (f0_4 x0 x1 (x1 &&& (3 : Int32)))))])) _
    refine XS.iloadN X1.here hx rfl (hb hby at_64) rfl ?_
    show Steps p.tables e below (T1.setTop (mkF m 65 #[.val (.int x0), .val (.int x1), .val (.int (f0_4 x0 x1 (x1 &&& (3 : Int32)))), .val (.int (x1 &&& (3 : Int32))), .val (.int (f1_0 (f0_4 x0 x1 (x1 &&& (3 : Int32)))))] [(.int (f0_4 x0 x1 (x1 &&& (3 : Int32)))), (.int (f1_0 (f0_4 x0 x1 (x1 &&& (3 : Int32)))))])) _
    refine st2 _ ?_
    show Steps p.tables e below (T2.setTop (mkF m 68 #[.val (.int x0), .val (.int x1), .val (.int (f0_4 x0 x1 (x1 &&& (3 : Int32)))), .val (.int (x1 &&& (3 : Int32))), .val (.int (f1_0 (f0_4 x0 x1 (x1 &&& (3 : Int32)))))] [(.int (f2_0 (f0_4 x0 x1 (x1 &&& (3 : Int32))))), (.int (f1_0 (f0_4 x0 x1 (x1 &&& (3 : Int32)))))])) _
    refine XS.icmpNo X2.here hx rfl (hb hby at_68) rfl (teq (own_law _ : (f1_0 (f0_4 x0 x1 (x1 &&& (3 : Int32)))) = (f2_0 (f0_4 x0 x1 (x1 &&& (3 : Int32)))))).2 ?_
    show Steps p.tables e below (T2.setTop (mkF m 71 #[.val (.int x0), .val (.int x1), .val (.int (f0_4 x0 x1 (x1 &&& (3 : Int32)))), .val (.int (x1 &&& (3 : Int32))), .val (.int (f1_0 (f0_4 x0 x1 (x1 &&& (3 : Int32)))))] [])) _
    refine XS.iconst X2.here hx rfl (hb hby at_71) ?_
    show Steps p.tables e below (T2.setTop (mkF m 72 #[.val (.int x0), .val (.int x1), .val (.int (f0_4 x0 x1 (x1 &&& (3 : Int32)))), .val (.int (x1 &&& (3 : Int32))), .val (.int (f1_0 (f0_4 x0 x1 (x1 &&& (3 : Int32)))))] [(.int (1 : Int32))])) _
    refine XS.goto X2.here hx rfl (pc0 := 72) (pc' := 76) rfl (hb hby at_72) (by decide) (by decide) ?_
    show Steps p.tables e below (T2.setTop (mkF m 76 #[.val (.int x0), .val (.int x1), .val (.int (f0_4 x0 x1 (x1 &&& (3 : Int32)))), .val (.int (x1 &&& (3 : Int32))), .val (.int (f1_0 (f0_4 x0 x1 (x1 &&& (3 : Int32)))))] [(.int (1 : Int32))])) _
    exact retN X2 hx (t := .boolean) Bd.returns (by simp) (hb hby at_76) hr
  · exact ⟨rfl, N2⟩
set_option maxRecDepth 65536 in
set_option maxHeartbeats 40000000 in
theorem comes_1 {Post : Tables → Env → Array Value → State → Outcome → State → Prop} (hpost : ∀ tb e args s v u, (limb_1_1.after args s (.returned v) u = true ∧ limb_1_2.after args s (.returned v) u = true ∧ True) → FrameEnd s (.returned v) u (Jvm.fieldLocs frame_1_writes args s ++ Jvm.arrayLocs frame_1_arrays args s ++ Jvm.staticLocs frame_1_statics s) 0 0 → Post tb e args s (.returned v) u) :
    ArmFor flags0 classFile x code maxLocals ret World_1 tables_1 room_1 Calls_1 rest_1 Pre_1 Post := by
  intro l hfl _ _ p e ha hc hk s m args below hf hA hF happ hP
  obtain ⟨hcalls, hrest, hpre⟩ := hP
  obtain ⟨-, -, -, hnamed, -, -, -, hat⟩ := (Spec.applies_iff hf).mp happ
  obtain ⟨hg, hn⟩ := and_e (Cond.before_iff.mp (show (Jvm.Cond.and given_1 narrow_1).before args s = true from hpre))
  obtain ⟨g0, r0⟩ := and_e hg
  obtain ⟨g1, r1⟩ := and_e r0
  obtain ⟨w0, w1, rfl⟩ : ∃ w0 w1 : Value, args = #[w0, w1] := by
    have hs : args.size = 2 := by simpa [Cond.value, given_1] using g0
    obtain ⟨L⟩ := args
    match L, hs with
    | [w0, w1], _ => exact ⟨w0, w1, rfl⟩
  have hw := fun d (hd : d ∈ tables_1) => atoms_spec (ws := Jvm.Cond.code x code maxLocals ret :: tables_1) hat d (List.mem_cons_of_mem _ hd)
  obtain ⟨i0, ei0⟩ := is_v g1
  obtain rfl : w0 = (.int i0) := Option.some.inj ei0
  obtain ⟨i1, ei1⟩ := is_v r1
  obtain rfl : w1 = (.int i1) := Option.some.inj ei1
  obtain ⟨n, o, h1, h2, h3, _, L, rfl, ⟨rfl, N⟩, hq⟩ := rm0 l s _ hw tables_1 i0 i1 s.heap s.heap.size (Nat.le_refl _) p e ha hc hk s m _ below hf ((Spec.applies_iff_loose hf).mp happ).1 ⟨rfl, State.Warmed39.refl s, rfl⟩ trivial
  refine ⟨n, _, h1, h2, h3, hpost _ _ _ _ _ _ ⟨Cond.after_iff.mpr rfl, Cond.after_iff.mpr (eq_i res_at (Term.int_eval (1)) rfl), trivial⟩ ⟨hq.1, hq.2.1, (hq.2.2.sift fun y hy => Or.inr (N y hy)).mono (by decide) (by decide)⟩⟩
theorem main_1_1 : Claimed_1_1 := comes_1 fun _ _ _ _ _ _ h hF => ⟨h.1, hF⟩
theorem main_1_2 : Claimed_1_2 := comes_1 fun _ _ _ _ _ _ h hF => ⟨h.2.1, hF⟩
end Jvm.Pilot.@@N@@
namespace Jvm.Pilot.@@N@@
open Jvm Jvm.ClassFile Sem Op Lib Jvm.Free Jvm.Stand Jvm.Pilot.@@N@@.Jvm.D
/-! MADE BY PROGRAM (witnessworld.py) out of the Statement's table words and the real class files: 9 classes; the members and pool entries that the words name. The judged class is class 1, her method 1. -/
namespace start1
open Jvm.ClassFile
def u (s : String) : CpInfo := .utf8 (stringToUtf16 s)
/-- a pool by its gaps: so many unusable entries, then the entry; so many at the end -/
def gap : Nat → List CpInfo → List CpInfo
  | 0, r => r
  | n + 1, r => .unusable :: gap n r
def poolList (es : List (Nat × CpInfo)) (last : Nat) : List CpInfo := es.foldr (fun e r => gap e.1 (e.2 :: r)) (gap last [])
def pool (es : List (Nat × CpInfo)) (last : Nat) : Array CpInfo := ⟨poolList es last⟩
def fileOf (pool : Array CpInfo) (this : Nat) (attrs : Array Attribute := #[]) (ms : Array MethodInfo := #[]) (fl : Nat := 33) (sup : Nat := 0) (ifs : Array Nat := #[]) (fds : Array FieldInfo := #[]) : ClassFile where
  minorVersion := 0
  majorVersion := 65
  constantPool := pool
  accessFlags := fl
  thisClass := this
  superClass := sup
  interfaces := ifs
  fields := fds
  methods := ms
  attributes := attrs
def plain (name : String) (sup : Option ClassId) : Class where
  name := name
  kind := .ordinary
  loader := none
  accessFlags := 33
  super := sup
  interfaces := #[]
  cf := none
  fields := #[]
  methods := #[]
  instanceTypes := #[]
  staticTypes := #[]
  resolved := #[]
  callSites := []
  init := .initialized
  statics := none
  mirror := none

def pool0 : Array CpInfo := pool [(5, u "<init>"), (0, u "()V"), (1, .class_ 10), (1, u "java/lang/Object")] 113

def k0m0 : Method := { name := "<init>", desc := "()V", sig := { parameters := [], returnType := none }, accessFlags := 1, code := none }
/-- java/lang/Object -/
def k0 : Class := { plain "java/lang/Object" none with
  accessFlags := 33
  interfaces := #[]
  cf := some (fileOf pool0 8 #[] #[{ accessFlags := 1, nameIndex := 5, descriptorIndex := 6, attributes := #[] }] 33 0 #[] #[])
  fields := #[]
  methods := #[k0m0]
  instanceTypes := #[]
  staticTypes := #[]
  resolved := Array.replicate 124 none
  statics := none }

def pool1 : Array CpInfo := pool [(2, .class_ 4), (1, u "java/lang/Object"), (0, u "<init>"), (0, u "()V"), (0, .integer 2147483647), (0, .integer 1114112), (0, .methodref 10 11), (0, .class_ 12), (0, .nameAndType 13 14), (0, u "com/example/quadrille/quadrille/rdfio/RdfGrammar"), (0, u "isExcludedFromIri"), (0, u "(I)Z"), (0, .methodref 16 17), (0, .class_ 18), (0, .nameAndType 19 14), (0, u "com/example/quadrille/quadrille/rdfio/RdfGrammarIsExcludedFromIriPinLaw"), (0, u "expected"), (2, u "law"), (0, u "(II)Z")] 3

def k1m0 : Method := { name := "<init>", desc := "()V", sig := { parameters := [], returnType := none }, accessFlags := 2, code := none }
def k1c1 : Code := { maxStack := 3, maxLocals := 5, code := code, exceptionTable := #[], attributes := #[] }
def k1m1 : Method := { name := "law", desc := "(II)Z", sig := { parameters := [.int, .int], returnType := some .boolean }, accessFlags := 9, code := some k1c1 }
def k1c2 : Code := { maxStack := 2, maxLocals := 1, code := method_3_code, exceptionTable := #[], attributes := #[] }
def k1m2 : Method := { name := "expected", desc := "(I)Z", sig := { parameters := [.int], returnType := some .boolean }, accessFlags := 10, code := some k1c2 }
/-- com/example/quadrille/quadrille/rdfio/RdfGrammarIsExcludedFromIriPinLaw -/
def k1 : Class := { plain "com/example/quadrille/quadrille/rdfio/RdfGrammarIsExcludedFromIriPinLaw" (some 0) with
  accessFlags := 49
  interfaces := #[]
  cf := some (fileOf pool1 16 #[] #[{ accessFlags := 2, nameIndex := 5, descriptorIndex := 6, attributes := #[] }, { accessFlags := 9, nameIndex := 22, descriptorIndex := 23, attributes := #[] }, { accessFlags := 10, nameIndex := 19, descriptorIndex := 14, attributes := #[] }] 49 2 #[] #[])
  fields := #[]
  methods := #[k1m0, k1m1, k1m2]
  instanceTypes := #[]
  staticTypes := #[]
  resolved := Array.replicate 27 none
  statics := none }

def pool2 : Array CpInfo := pool [(2, .class_ 4), (1, u "java/lang/Object"), (0, u "<init>"), (0, u "()V"), (44, .class_ 53), (1, u "com/example/quadrille/quadrille/rdfio/RdfGrammar"), (0, u "isExcludedFromIri"), (0, u "(I)Z"), (77, u "BARE_FORMS"), (0, u "Ljava/util/Map;"), (47, u "NAME_LETTERS"), (0, u "[I"), (39, u "QUOTED_TRIPLE"), (0, u "Ljava/lang/String;")] 63

def k2m0 : Method := { name := "<init>", desc := "()V", sig := { parameters := [], returnType := none }, accessFlags := 2, code := none }
def k2c1 : Code := { maxStack := 2, maxLocals := 1, code := prog_44_method_9_code, exceptionTable := #[], attributes := #[] }
def k2m1 : Method := { name := "isExcludedFromIri", desc := "(I)Z", sig := { parameters := [.int], returnType := some .boolean }, accessFlags := 8, code := some k2c1 }
/-- com/example/quadrille/quadrille/rdfio/RdfGrammar -/
def k2 : Class := { plain "com/example/quadrille/quadrille/rdfio/RdfGrammar" (some 0) with
  accessFlags := 49
  interfaces := #[]
  cf := some (fileOf pool2 51 #[] #[{ accessFlags := 2, nameIndex := 5, descriptorIndex := 6, attributes := #[] }, { accessFlags := 8, nameIndex := 54, descriptorIndex := 55, attributes := #[] }] 49 2 #[] #[{ accessFlags := 24, nameIndex := 223, descriptorIndex := 224, attributes := #[] }, { accessFlags := 26, nameIndex := 182, descriptorIndex := 183, attributes := #[] }, { accessFlags := 26, nameIndex := 133, descriptorIndex := 134, attributes := #[] }])
  fields := #[{ name := "QUOTED_TRIPLE", type := (.object "java/lang/String"), accessFlags := 24, slot := 0, constantValue := 0 }, { name := "NAME_LETTERS", type := (.array .int), accessFlags := 26, slot := 1, constantValue := 0 }, { name := "BARE_FORMS", type := (.object "java/util/Map"), accessFlags := 26, slot := 2, constantValue := 0 }]
  methods := #[k2m0, k2m1]
  instanceTypes := #[]
  staticTypes := #[(.object "java/lang/String"), (.array .int), (.object "java/util/Map")]
  resolved := Array.replicate 288 none
  statics := none }

def pool3 : Array CpInfo := pool [(1, u "java/lang/Cloneable"), (0, .class_ 1), (0, u "java/lang/Object"), (0, .class_ 3)] 3

/-- java/lang/Cloneable -/
def k3 : Class := { plain "java/lang/Cloneable" (some 0) with
  accessFlags := 1537
  interfaces := #[]
  cf := some (fileOf pool3 2 #[] #[] 1537 4 #[] #[])
  fields := #[]
  methods := #[]
  instanceTypes := #[]
  staticTypes := #[]
  resolved := Array.replicate 8 none
  statics := none }

def pool4 : Array CpInfo := pool [(1, u "java/io/Serializable"), (0, .class_ 1), (0, u "java/lang/Object"), (0, .class_ 3)] 3

/-- java/io/Serializable -/
def k4 : Class := { plain "java/io/Serializable" (some 0) with
  accessFlags := 1537
  interfaces := #[]
  cf := some (fileOf pool4 2 #[] #[] 1537 4 #[] #[])
  fields := #[]
  methods := #[]
  instanceTypes := #[]
  staticTypes := #[]
  resolved := Array.replicate 8 none
  statics := none }

/-- the primitive byte -/
def k5 : Class := { plain "byte" none with kind := .primitive 'B', accessFlags := 0x411 }
/-- [B -/
def k6 : Class := { plain "[B" (some 0) with kind := .array 5 .byte, interfaces := #[3, 4], accessFlags := 1041 }

/-- the primitive int -/
def k7 : Class := { plain "int" none with kind := .primitive 'I', accessFlags := 0x411 }
/-- [I -/
def k8 : Class := { plain "[I" (some 0) with kind := .array 7 .int, interfaces := #[3, 4], accessFlags := 1041 }

def heap : Heap := #[]
def classes : Array Class := #[k0, k1, k2, k3, k4, k5, k6, k7, k8]
def interned : List (Array UInt16 × Addr) := []
def slotsUsed : Nat := 0
def theMethod : MethodId := ⟨1, 1⟩
def args0 : Array Value := #[.int 5, .int 3]
def aboutOver (below : List Frame) : State where
  vm := { classes := classes, interned := interned.toArray }
  heap := heap
  slotsUsed := slotsUsed
  threads := #[{ frames := .invoking theMethod args0 :: below }]
def below0 : List Frame := [.native { method := ⟨0, 0⟩, args := #[] }]
def about1 : State := aboutOver below0
def p0 : Program := .bare "" "" ""
def e0 : Env := launch0.env 0 0 0
theorem w_frames : about1.frames = Frame.invoking theMethod args0 :: below0 := rfl
set_option maxRecDepth 65536 in
theorem w_args : argsFit about1.vm theMethod args0 = true := by decide +kernel
set_option maxRecDepth 65536 in
theorem w_heap : heapFits about1 = true := by decide +kernel
set_option maxRecDepth 65536 in
theorem w_runnable : about1.curStatus? = some .runnable := by decide +kernel
set_option maxRecDepth 65536 in
theorem w_alone : about1.alone = true := by decide +kernel
set_option maxRecDepth 65536 in
theorem w_named : about1.methodNamed? x = some theMethod := by decide +kernel
set_option maxRecDepth 65536 in
theorem w_hears : about1.hears theMethod below0 = true := by decide +kernel
set_option maxRecDepth 65536 in
theorem w_ripe : about1.ripe theMethod args0 below0 = true := by decide +kernel
theorem w_running : about1.status = .running := rfl
set_option maxRecDepth 65536 in
theorem w_room : about1.hasRoom e0.platform room_1 = true :=
  launch0.hasRoom_least _ room_1 (by decide +kernel) (by decide +kernel) (by decide +kernel) (by decide +kernel) (by decide +kernel) (by decide +kernel)
theorem allAtoms_all (ts : List Jvm.Cond) (a : Array Jvm.Value) (st : Jvm.State) : (allAtoms ts).before a st = ts.all (fun c => c.before a st) := by
  induction ts with
  | nil => rfl
  | cons c t ih =>
    show (Jvm.Cond.and c (allAtoms t)).before a st = _
    rw [Jvm.Cond.before_and, ih, List.all_cons]
def words1 : List Jvm.Cond := Jvm.Cond.code x code maxLocals ret :: tables_1
/-- a 'code' word, met by the world's own term for the bytes: nothing is compared byte by byte -/
theorem code_word {y : MethodName} {bytes : ByteArray} {mx : Nat} {rt : Option FieldType} {a : Array Value} {s : State} {m : MethodId} {meth : Method} {c : Code} (h1 : s.methodNamed? y = some m) (h2 : s.vm.method? m = some meth) (h3 : meth.code = some c) (h4 : c.code = bytes)
    (h5 : (c.maxLocals == mx && c.exceptionTable.isEmpty && decide (c.maxStack ≤ mostOperands) && decide (meth.sig.returnType = rt) && !meth.locks && decide (parseMethodDescriptor y.desc = some meth.sig)) = true) : (Jvm.Cond.code y bytes mx rt).before a s = true := by
  simp only [Bool.and_eq_true, beq_iff_eq, Bool.not_eq_true', decide_eq_true_eq] at h5
  obtain ⟨⟨⟨⟨⟨g1, g2⟩, g3⟩, g4⟩, g5⟩, g6⟩ := h5
  simp [Cond.before, Cond.holds, Cond.value, h1, h2, h3, h4, g1, g2, g3, g4, g5, g6]
def isCode : Jvm.Cond → Bool
  | .code _ _ _ _ => true
  | _ => false
theorem all_split {L : List Jvm.Cond} {P : Jvm.Cond → Bool} (h1 : L.all (fun c => isCode c || P c) = true) (h2 : ∀ c ∈ L.filter isCode, P c = true) : L.all P = true := by
  refine List.all_eq_true.mpr fun c hc => ?_
  have h := List.all_eq_true.mp h1 c hc
  rcases Bool.eq_false_or_eq_true (isCode c) with hi | hi
  · exact h2 c (List.mem_filter.mpr ⟨hc, hi⟩)
  · simpa [hi] using h
set_option maxRecDepth 65536 in
theorem w_c0 : (Jvm.Cond.code x code maxLocals ret).before args0 about1 = true := code_word (m := ⟨1, 1⟩) (meth := k1m1) (c := k1c1) (by decide +kernel) rfl rfl rfl (by decide +kernel)
set_option maxRecDepth 65536 in
theorem w_c1 : (Jvm.Cond.code ({ cls := "com/example/quadrille/quadrille/rdfio/RdfGrammar", name := "isExcludedFromIri", desc := "(I)Z" } : Jvm.MethodName) prog_44_method_9_code (1 : Nat) (Option.some Jvm.ClassFile.FieldType.boolean)).before args0 about1 = true := code_word (m := ⟨2, 1⟩) (meth := k2m1) (c := k2c1) (by decide +kernel) rfl rfl rfl (by decide +kernel)
set_option maxRecDepth 65536 in
theorem w_c2 : (Jvm.Cond.code ({ cls := "com/example/quadrille/quadrille/rdfio/RdfGrammarIsExcludedFromIriPinLaw", name := "expected", desc := "(I)Z" } : Jvm.MethodName) method_3_code (1 : Nat) (Option.some Jvm.ClassFile.FieldType.boolean)).before args0 about1 = true := code_word (m := ⟨1, 2⟩) (meth := k1m2) (c := k1c2) (by decide +kernel) rfl rfl rfl (by decide +kernel)
def codes1 : List Jvm.Cond := [Jvm.Cond.code x code maxLocals ret, Jvm.Cond.code ({ cls := "com/example/quadrille/quadrille/rdfio/RdfGrammar", name := "isExcludedFromIri", desc := "(I)Z" } : Jvm.MethodName) prog_44_method_9_code (1 : Nat) (Option.some Jvm.ClassFile.FieldType.boolean), Jvm.Cond.code ({ cls := "com/example/quadrille/quadrille/rdfio/RdfGrammarIsExcludedFromIriPinLaw", name := "expected", desc := "(I)Z" } : Jvm.MethodName) method_3_code (1 : Nat) (Option.some Jvm.ClassFile.FieldType.boolean)]
set_option maxRecDepth 65536 in
theorem codes_eq : words1.filter isCode = codes1 := rfl
theorem w_codes : ∀ c ∈ words1.filter isCode, c.before args0 about1 = true := by
  rw [codes_eq]
  intro c hc
  simp only [codes1, List.mem_cons, List.not_mem_nil, or_false] at hc
  rcases hc with rfl | rfl | rfl
  · exact w_c0
  · exact w_c1
  · exact w_c2
set_option maxRecDepth 65536 in
theorem w_t1 : words1.all (fun c => isCode c || c.before args0 about1) = true := by decide +kernel
theorem w_tables : (allAtoms (Jvm.Cond.code x code maxLocals ret :: tables_1)).before args0 about1 = true := by
  rw [allAtoms_all]
  show words1.all (fun c => c.before args0 about1) = true
  refine all_split ?_ w_codes
  rw [w_t1]
set_option maxRecDepth 65536 in
theorem w_case : (Jvm.Cond.and given_1 narrow_1).before args0 about1 = true := by decide +kernel
theorem w_applies : (headSpec (Jvm.Cond.code x code maxLocals ret :: tables_1) room_1).applies x e0.platform about1 = true :=
  (Spec.applies_iff w_frames).mpr ⟨w_running, w_runnable, w_alone, w_named, w_hears, w_ripe, w_room, w_tables⟩
theorem atStart : AtStart classFile x code maxLocals ret World_1 tables_1 room_1 Calls_1 rest_1 Pre_1 launch0 p0 e0 about1 theMethod args0 below0 :=
  ⟨lists_1, trivial, launch0.admits_env _ _ _, launch0.least_env, fairChoices_fair.cas, fairChoices_fair.clock, w_frames, w_args, w_heap, w_applies, trivial, trivial, w_case⟩
end start1
theorem witness_1 : WitnessClaimed_1 := ⟨start1.p0, start1.e0, start1.about1, start1.theMethod, start1.args0, start1.below0, start1.atStart⟩
end Jvm.Pilot.@@N@@
