import JvmDerived
import JvmDerived.Pilot.@@N@@Statement
import JvmDerived.Pilot.@@N@@Code
set_option linter.unusedVariables false
set_option linter.unusedSimpArgs false
namespace Jvm.RoadKit
open Sem ClassFile Op Lib Jvm.Stand Jvm.Free Jvm.LawKit
section New
variable {p : Program} {l : Launch} {e : Env} {R : Room} {s : State} {m : MethodId} {args : Array Value} {below : List Frame} {meth : Method} {c : Code} {T : State} {locs : List Loc} {cells slots : Nat}
theorem retI (X : Stand p l e R s m args below meth c T locs cells slots) (hx : p.tables.exec = Jvm.exec) {pc : Nat} {Ls : Array Slot} {z : Int32} {rest : List Value} (hret : meth.sig.returnType = some .int) (hd : decode c.code pc = .ok (.ireturn, 1)) {fs : List Frame}
    (hl : ∀ (f : JFrame) (acts : List Action), f.method = m → f.locked = none → f.entered = [] → (doReturn e (T.setTop f) acts (some (.int z))).1 = T.setFrames fs) : Steps p.tables e below (T.setTop (mkF m pc Ls (.int z :: rest))) (T.setFrames fs) := by
  have hm' : T.vm.method? m = some meth := X.method'
  have hn : narrow .int (.int z) = .int z := rfl
  show Steps p.tables e below (T.setTop { method := m, pc := pc, locals := Ls, stack := _ :: rest, locked := none }) _
  jvm_step X.here [X.here.top, hx, hd, hm', hret, hn]
  first | (intro acts; rw [hl _ acts rfl rfl rfl]) | rw [hl _ _ rfl rfl rfl]
  exact Steps.refl _
end New
end Jvm.RoadKit
namespace Jvm.Pilot.@@N@@
open Jvm Jvm.ClassFile Sem Op Lib Jvm.Free Jvm.Stand Jvm.LawKit Jvm.RoadKit Bundle Jvm.Pilot.@@N@@.Jvm.D
theorem d4_0 : decode prog_1_method_1_code 0 = .ok (.aload_n 0, 1) := by decide +kernel
theorem d4_1 : decode prog_1_method_1_code 1 = .ok (.invokespecial 1, 3) := by decide +kernel
theorem d4_4 : decode prog_1_method_1_code 4 = .ok (.return_, 1) := by decide +kernel
theorem pn_4 : plainName "com/example/subtree/subtree/AbstractNode" = true := by first | (simp [plainName, overriddenIn]; done) | decide +kernel
theorem ef_4 (m : MethodId) (x0 : Addr) : entryFrame m #[(.ref x0)] 1 = mkF m 0 #[.val (.ref x0)] [] := by first | (simp [entryFrame, mkF, argsToLocals, Value.category]; done) | rfl
def Q4 (Z : State) (a1 : Addr) (h0 : Heap) (n0 : Nat) (v : Option Value) (h : Heap) (L : List Loc) : Prop := v = none ∧ Fr n0 L ∧ h = h0
set_option maxRecDepth 65536 in
set_option maxHeartbeats 40000000 in
theorem rm4 (l : Launch) (Z : State) (a0 : Array Value) (hw : ∀ d ∈ tables_1, d.before a0 Z = true) (ws : List Jvm.Cond) (a1 : Addr) (h0 : Heap) (n0 : Nat) (Z0 : n0 ≤ h0.size) :
    MetFree l (⟨"com/example/subtree/subtree/AbstractNode", "<init>", "()V"⟩ : MethodName) (head1 (Jvm.Cond.code (⟨"com/example/subtree/subtree/AbstractNode", "<init>", "()V"⟩ : MethodName) prog_1_method_1_code 1 none :: ws) ({ frames := 1, cells := 0, slots := 0, locals := 12 } : Room)) (fun a U => a = #[(.ref a1)] ∧ Z.Warmed39 U.vm ∧ U.heap = h0) (fun _ _ _ _ _ => True) (fun _ U o U' => ∃ v L, o = .returned v ∧ Q4 Z a1 h0 n0 v U'.heap L ∧ FrameEnd U o U' L ({ frames := 1, cells := 0, slots := 0, locals := 12 } : Room).cells ({ frames := 1, cells := 0, slots := 0, locals := 12 } : Room).slots) := by
  refine MetFree.of_bodySF (plainFor_of_name pn_4) hisR ?_
  intro p e s m args below meth c s₁ Bd hml0 hP hK
  obtain ⟨rfl, hZ, hh⟩ := hP
  have hx := Bd.exec
  have hby := Bd.bytes
  have hml : c.maxLocals = 1 := hml0
  have hown : s.vm.findClass "com/example/subtree/subtree/AbstractNode" = some m.cls := findClass_of_methodNamed Bd.named
  have hnm := (name_of_methodNamed Bd.named Bd.method).1
  have X0 : Stand p l e ({ frames := 1, cells := 0, slots := 0, locals := 12 } : Room) s m #[(.ref a1)] below meth c s₁ [] 0 0 := Stand.of_body Bd
  have e0 : s₁.heap = h0 := by rw [← hh, Bd.state]; rfl
  have N0 := Fr.nil n0
  have pre0 : ∀ t, Steps p.tables e below (s₁.setTop (mkF m 0 #[.val (.ref a1)] [])) t → Steps p.tables e below (s₁.setTop (entryFrame m #[(.ref a1)] 1)) t := fun t k => castTop (ef_4 m a1) k
  obtain ⟨T2, X2, e2, st2⟩ := initO X0 hx hZ hown (hw _ (List.mem_of_getElem? (i := 21) rfl)) (hw _ (List.mem_of_getElem? (i := 22) rfl)) (hw _ (List.mem_of_getElem? (i := 23) rfl)) e0 (g := (mkF m 1 #[.val (.ref a1)] [(.ref a1)])) rfl (by rw [hml]; rfl) rfl (hb hby d4_1) (by decide) (W := 0) (by show 2 * 0 + _ ≤ _; exact Nat.le_of_eq rfl) (by decide)
  obtain ⟨fs, hr, hrun, hended, hW, hsame⟩ := X2.leave (v := none) (fun _ => rfl)
  refine ⟨_, _, pre0 _ ?_, hrun, hended, _, _, rfl, ?_, ⟨_, rfl⟩, hW, hsame.mono (by decide) (by decide)⟩
  · show Steps p.tables e below (s₁.setTop (mkF m 0 #[.val (.ref a1)] [])) _
    refine XS.aloadN X0.here hx rfl (hb hby d4_0) rfl rfl ?_
    show Steps p.tables e below (s₁.setTop (mkF m 1 #[.val (.ref a1)] [(.ref a1)])) _
    refine st2 _ ?_
    show Steps p.tables e below (T2.setTop (mkF m 4 #[.val (.ref a1)] [])) _
    exact X2.returnOut hx Bd.returns (hb hby d4_4) hr
  · show Q4 Z a1 h0 n0 _ T2.heap _
    rw [e2]
    exact ⟨rfl, N0, rfl⟩
theorem d3_0 : decode prog_45_method_1_code 0 = .ok (.aload_n 0, 1) := by decide +kernel
theorem d3_1 : decode prog_45_method_1_code 1 = .ok (.invokespecial 3, 3) := by decide +kernel
theorem d3_4 : decode prog_45_method_1_code 4 = .ok (.aload_n 0, 1) := by decide +kernel
theorem d3_5 : decode prog_45_method_1_code 5 = .ok (.aload_n 1, 1) := by decide +kernel
theorem d3_6 : decode prog_45_method_1_code 6 = .ok (.putfield 9, 3) := by decide +kernel
theorem d3_9 : decode prog_45_method_1_code 9 = .ok (.return_, 1) := by decide +kernel
theorem pn_3 : plainName "com/example/subtree/subtree/LinkedNode" = true := by first | (simp [plainName, overriddenIn]; done) | decide +kernel
theorem pd_3_1 : parseMethodDescriptor "()V" = some ⟨[], none⟩ := by decide +kernel
theorem ef_3 (m : MethodId) (x0 : Addr) : entryFrame m #[(.ref x0), .null] 2 = mkF m 0 #[.val (.ref x0), .val .null] [] := by first | (simp [entryFrame, mkF, argsToLocals, Value.category]; done) | rfl
def Q3 (Z : State) (a1 : Addr) (u_owner_a1 : Value) (h0 : Heap) (n0 : Nat) (v : Option Value) (h : Heap) (L : List Loc) : Prop := v = none ∧ Fr n0 L ∧ Keep h0 h [a1] ∧ Exa Z h a1 "com/example/subtree/subtree/DocumentFragmentNode"
set_option maxRecDepth 65536 in
set_option maxHeartbeats 40000000 in
theorem rm3 (l : Launch) (Z : State) (a0 : Array Value) (hw : ∀ d ∈ tables_1, d.before a0 Z = true) (ws : List Jvm.Cond) (a1 : Addr) (u_owner_a1 : Value) (h0 : Heap) (n0 : Nat) (Z0 : n0 ≤ h0.size) (E_a1 : Exa Z h0 a1 "com/example/subtree/subtree/DocumentFragmentNode") (F_owner_a1 : Fld Z h0 a1 "com/example/subtree/subtree/LinkedNode" "owner" "Lcom/example/subtree/subtree/DocumentNode;" u_owner_a1) (g_a1 : n0 ≤ a1) :
    MetFree l (⟨"com/example/subtree/subtree/LinkedNode", "<init>", "(Lcom/example/subtree/subtree/DocumentNode;)V"⟩ : MethodName) (head1 (Jvm.Cond.code (⟨"com/example/subtree/subtree/LinkedNode", "<init>", "(Lcom/example/subtree/subtree/DocumentNode;)V"⟩ : MethodName) prog_45_method_1_code 2 none :: ws) ({ frames := 2, cells := 0, slots := 0, locals := 24 } : Room)) (fun a U => a = #[(.ref a1), .null] ∧ Z.Warmed39 U.vm ∧ U.heap = h0) (fun _ _ _ _ _ => True) (fun _ U o U' => ∃ v L, o = .returned v ∧ Q3 Z a1 u_owner_a1 h0 n0 v U'.heap L ∧ FrameEnd U o U' L ({ frames := 2, cells := 0, slots := 0, locals := 24 } : Room).cells ({ frames := 2, cells := 0, slots := 0, locals := 24 } : Room).slots) := by
  refine MetFree.of_bodySF (plainFor_of_name pn_3) hisR ?_
  intro p e s m args below meth c s₁ Bd hml0 hP hK
  obtain ⟨rfl, hZ, hh⟩ := hP
  have hx := Bd.exec
  have hby := Bd.bytes
  have hml : c.maxLocals = 2 := hml0
  have hown : s.vm.findClass "com/example/subtree/subtree/LinkedNode" = some m.cls := findClass_of_methodNamed Bd.named
  have hnm := (name_of_methodNamed Bd.named Bd.method).1
  have X0 : Stand p l e ({ frames := 2, cells := 0, slots := 0, locals := 24 } : Room) s m #[(.ref a1), .null] below meth c s₁ [] 0 0 := Stand.of_body Bd
  have e0 : s₁.heap = h0 := by rw [← hh, Bd.state]; rfl
  have N0 := Fr.nil n0
  have pre0 : ∀ t, Steps p.tables e below (s₁.setTop (mkF m 0 #[.val (.ref a1), .val .null] [])) t → Steps p.tables e below (s₁.setTop (entryFrame m #[(.ref a1), .null] 2)) t := fun t k => castTop (ef_3 m a1) k
  obtain ⟨_, _, ⟨T2, L2, k2, n2⟩, -, X2, ⟨Lc2, hQ2, l2, y2, z2⟩, st2⟩ := X0.specialBack hx (y := (⟨"com/example/subtree/subtree/AbstractNode", "<init>", "()V"⟩ : MethodName)) rfl hown (mvT hZ (hw _ (List.mem_of_getElem? (i := 16) rfl))) (mvT hZ (hw _ (List.mem_of_getElem? (i := 17) rfl))) (mvT hZ (hw _ (List.mem_of_getElem? (i := 20) rfl))) (by decide) (backOf (W := 0) (rm4 l Z a0 hw [] a1 h0 n0 Z0) hZ (hw _ (List.mem_of_getElem? (i := 20) rfl)) (hw _ (List.mem_of_getElem? (i := 19) rfl)) (by decide) (by decide)) (g := (mkF m 1 #[.val (.ref a1), .val .null] [(.ref a1)])) rfl (by rw [hml]; rfl) (Steps.refl _) (a := a1) (argsL := []) (rest := []) (lenOf pd_3_1 rfl) rfl (by show 2 * 0 + _ ≤ _; exact Nat.le_of_eq rfl) (hb hby d3_1) (fun _ _ => ⟨rfl, e0, (by decide : 0 + 0 ≤ _), (by decide : 0 + 0 ≤ _)⟩)
  dsimp only [Pt.U, Pt.locs, Pt.cells, Pt.slots] at X2 l2 y2 z2 st2 hQ2
  subst l2 y2 z2
  obtain ⟨rfl, N2q, e2⟩ := hQ2
  have N2 := Fr.app N0 N2q
  obtain ⟨T3, h3, X3, e3, W3, st3⟩ := putF X2 hx hZ hown (host := "") (Or.inl (hw _ (List.mem_of_getElem? (i := 24) rfl))) Via.refl e2 F_owner_a1 E_a1 (Or.inl (hw _ (List.mem_of_getElem? (i := 25) rfl))) (hw _ (List.mem_of_getElem? (i := 1) rfl)) (ty := (.object "com/example/subtree/subtree/DocumentNode")) (by decide) rfl rfl (g := (mkF m 6 #[.val (.ref a1), .val .null] [.null, (.ref a1)])) rfl rfl (hb hby d3_6)
  have Fw3 := F_owner_a1.same W3
  have K3 : Keep h0 h3 [a1] := (Keep.refl h0 [a1]).wr W3 (Or.inl (List.mem_of_getElem? (i := 0) rfl))
  have N3 := Fr.snoc X3 N2 g_a1
  obtain ⟨fs, hr, hrun, hended, hW, hsame⟩ := X3.leave (v := none) (fun _ => rfl)
  refine ⟨_, _, pre0 _ ?_, hrun, hended, _, _, rfl, ?_, ⟨_, rfl⟩, hW, hsame.mono (by decide) (by decide)⟩
  · show Steps p.tables e below (s₁.setTop (mkF m 0 #[.val (.ref a1), .val .null] [])) _
    refine XS.aloadN X0.here hx rfl (hb hby d3_0) rfl rfl ?_
    show Steps p.tables e below (s₁.setTop (mkF m 1 #[.val (.ref a1), .val .null] [(.ref a1)])) _
    refine st2.trans ?_
    show Steps p.tables e below (T2.setTop (mkF m 4 #[.val (.ref a1), .val .null] [])) _
    refine XS.aloadN X2.here hx rfl (hb hby d3_4) rfl rfl ?_
    show Steps p.tables e below (T2.setTop (mkF m 5 #[.val (.ref a1), .val .null] [(.ref a1)])) _
    refine XS.aloadN X2.here hx rfl (hb hby d3_5) rfl rfl ?_
    show Steps p.tables e below (T2.setTop (mkF m 6 #[.val (.ref a1), .val .null] [.null, (.ref a1)])) _
    refine st3 _ ?_
    show Steps p.tables e below (T3.setTop (mkF m 9 #[.val (.ref a1), .val .null] [])) _
    exact X3.returnOut hx Bd.returns (hb hby d3_9) hr
  · show Q3 Z a1 u_owner_a1 h0 n0 _ T3.heap _
    rw [e3]
    exact ⟨rfl, N3, K3, E_a1.wr W3⟩
theorem d2_0 : decode prog_61_method_1_code 0 = .ok (.aload_n 0, 1) := by decide +kernel
theorem d2_1 : decode prog_61_method_1_code 1 = .ok (.aload_n 1, 1) := by decide +kernel
theorem d2_2 : decode prog_61_method_1_code 2 = .ok (.invokespecial 1, 3) := by decide +kernel
theorem d2_5 : decode prog_61_method_1_code 5 = .ok (.return_, 1) := by decide +kernel
theorem pn_2 : plainName "com/example/subtree/subtree/ParentNode" = true := by first | (simp [plainName, overriddenIn]; done) | decide +kernel
theorem pd_2_0 : parseMethodDescriptor "(Lcom/example/subtree/subtree/DocumentNode;)V" = some ⟨[(.object "com/example/subtree/subtree/DocumentNode")], none⟩ := by decide +kernel
theorem ef_2 (m : MethodId) (x0 : Addr) : entryFrame m #[(.ref x0), .null] 2 = mkF m 0 #[.val (.ref x0), .val .null] [] := by first | (simp [entryFrame, mkF, argsToLocals, Value.category]; done) | rfl
def Q2 (Z : State) (a1 : Addr) (h0 : Heap) (n0 : Nat) (v : Option Value) (h : Heap) (L : List Loc) : Prop := v = none ∧ Fr n0 L ∧ Keep h0 h [a1] ∧ Exa Z h a1 "com/example/subtree/subtree/DocumentFragmentNode"
set_option maxRecDepth 65536 in
set_option maxHeartbeats 40000000 in
theorem rm2 (l : Launch) (Z : State) (a0 : Array Value) (hw : ∀ d ∈ tables_1, d.before a0 Z = true) (ws : List Jvm.Cond) (a1 : Addr) (u_owner_a1 : Value) (h0 : Heap) (n0 : Nat) (Z0 : n0 ≤ h0.size) (E_a1 : Exa Z h0 a1 "com/example/subtree/subtree/DocumentFragmentNode") (F_owner_a1 : Fld Z h0 a1 "com/example/subtree/subtree/LinkedNode" "owner" "Lcom/example/subtree/subtree/DocumentNode;" u_owner_a1) (g_a1 : n0 ≤ a1) :
    MetFree l (⟨"com/example/subtree/subtree/ParentNode", "<init>", "(Lcom/example/subtree/subtree/DocumentNode;)V"⟩ : MethodName) (head1 (Jvm.Cond.code (⟨"com/example/subtree/subtree/ParentNode", "<init>", "(Lcom/example/subtree/subtree/DocumentNode;)V"⟩ : MethodName) prog_61_method_1_code 2 none :: ws) ({ frames := 3, cells := 0, slots := 0, locals := 37 } : Room)) (fun a U => a = #[(.ref a1), .null] ∧ Z.Warmed39 U.vm ∧ U.heap = h0) (fun _ _ _ _ _ => True) (fun _ U o U' => ∃ v L, o = .returned v ∧ Q2 Z a1 h0 n0 v U'.heap L ∧ FrameEnd U o U' L ({ frames := 3, cells := 0, slots := 0, locals := 37 } : Room).cells ({ frames := 3, cells := 0, slots := 0, locals := 37 } : Room).slots) := by
  refine MetFree.of_bodySF (plainFor_of_name pn_2) hisR ?_
  intro p e s m args below meth c s₁ Bd hml0 hP hK
  obtain ⟨rfl, hZ, hh⟩ := hP
  have hx := Bd.exec
  have hby := Bd.bytes
  have hml : c.maxLocals = 2 := hml0
  have hown : s.vm.findClass "com/example/subtree/subtree/ParentNode" = some m.cls := findClass_of_methodNamed Bd.named
  have hnm := (name_of_methodNamed Bd.named Bd.method).1
  have X0 : Stand p l e ({ frames := 3, cells := 0, slots := 0, locals := 37 } : Room) s m #[(.ref a1), .null] below meth c s₁ [] 0 0 := Stand.of_body Bd
  have e0 : s₁.heap = h0 := by rw [← hh, Bd.state]; rfl
  have N0 := Fr.nil n0
  have pre0 : ∀ t, Steps p.tables e below (s₁.setTop (mkF m 0 #[.val (.ref a1), .val .null] [])) t → Steps p.tables e below (s₁.setTop (entryFrame m #[(.ref a1), .null] 2)) t := fun t k => castTop (ef_2 m a1) k
  obtain ⟨_, _, ⟨T2, L2, k2, n2⟩, -, X2, ⟨Lc2, hQ2, l2, y2, z2⟩, st2⟩ := X0.specialBack hx (y := (⟨"com/example/subtree/subtree/LinkedNode", "<init>", "(Lcom/example/subtree/subtree/DocumentNode;)V"⟩ : MethodName)) rfl hown (mvT hZ (hw _ (List.mem_of_getElem? (i := 11) rfl))) (mvT hZ (hw _ (List.mem_of_getElem? (i := 12) rfl))) (mvT hZ (hw _ (List.mem_of_getElem? (i := 15) rfl))) (by decide) (backOf (W := 0) (rm3 l Z a0 hw [] a1 u_owner_a1 h0 n0 Z0 E_a1 F_owner_a1 g_a1) hZ (hw _ (List.mem_of_getElem? (i := 15) rfl)) (hw _ (List.mem_of_getElem? (i := 14) rfl)) (by decide) (by decide)) (g := (mkF m 2 #[.val (.ref a1), .val .null] [.null, (.ref a1)])) rfl (by rw [hml]; rfl) (Steps.refl _) (a := a1) (argsL := [.null]) (rest := []) (lenOf pd_2_0 rfl) rfl (by show 2 * 0 + _ ≤ _; exact Nat.le_of_eq rfl) (hb hby d2_2) (fun _ _ => ⟨rfl, e0, (by decide : 0 + 0 ≤ _), (by decide : 0 + 0 ≤ _)⟩)
  dsimp only [Pt.U, Pt.locs, Pt.cells, Pt.slots] at X2 l2 y2 z2 st2 hQ2
  subst l2 y2 z2
  obtain ⟨rfl, N2q, K2, E2⟩ := hQ2
  have N2 := Fr.app N0 N2q
  obtain ⟨fs, hr, hrun, hended, hW, hsame⟩ := X2.leave (v := none) (fun _ => rfl)
  refine ⟨_, _, pre0 _ ?_, hrun, hended, _, _, rfl, ?_, ⟨_, rfl⟩, hW, hsame.mono (by decide) (by decide)⟩
  · show Steps p.tables e below (s₁.setTop (mkF m 0 #[.val (.ref a1), .val .null] [])) _
    refine XS.aloadN X0.here hx rfl (hb hby d2_0) rfl rfl ?_
    show Steps p.tables e below (s₁.setTop (mkF m 1 #[.val (.ref a1), .val .null] [(.ref a1)])) _
    refine XS.aloadN X0.here hx rfl (hb hby d2_1) rfl rfl ?_
    show Steps p.tables e below (s₁.setTop (mkF m 2 #[.val (.ref a1), .val .null] [.null, (.ref a1)])) _
    refine st2.trans ?_
    show Steps p.tables e below (T2.setTop (mkF m 5 #[.val (.ref a1), .val .null] [])) _
    exact X2.returnOut hx Bd.returns (hb hby d2_5) hr
  · show Q2 Z a1 h0 n0 _ T2.heap _
    exact ⟨rfl, N2, K2, E2⟩
theorem d1_0 : decode prog_16_method_1_code 0 = .ok (.aload_n 0, 1) := by decide +kernel
theorem d1_1 : decode prog_16_method_1_code 1 = .ok (.aload_n 1, 1) := by decide +kernel
theorem d1_2 : decode prog_16_method_1_code 2 = .ok (.invokespecial 1, 3) := by decide +kernel
theorem d1_5 : decode prog_16_method_1_code 5 = .ok (.return_, 1) := by decide +kernel
theorem pn_1 : plainName "com/example/subtree/subtree/DocumentFragmentNode" = true := by first | (simp [plainName, overriddenIn]; done) | decide +kernel
theorem pd_1_0 : parseMethodDescriptor "(Lcom/example/subtree/subtree/DocumentNode;)V" = some ⟨[(.object "com/example/subtree/subtree/DocumentNode")], none⟩ := by decide +kernel
theorem ef_1 (m : MethodId) (x0 : Addr) : entryFrame m #[(.ref x0), .null] 2 = mkF m 0 #[.val (.ref x0), .val .null] [] := by first | (simp [entryFrame, mkF, argsToLocals, Value.category]; done) | rfl
def Q1 (Z : State) (a1 : Addr) (h0 : Heap) (n0 : Nat) (v : Option Value) (h : Heap) (L : List Loc) : Prop := v = none ∧ Fr n0 L ∧ Keep h0 h [a1] ∧ Exa Z h a1 "com/example/subtree/subtree/DocumentFragmentNode"
set_option maxRecDepth 65536 in
set_option maxHeartbeats 40000000 in
theorem rm1 (l : Launch) (Z : State) (a0 : Array Value) (hw : ∀ d ∈ tables_1, d.before a0 Z = true) (ws : List Jvm.Cond) (a1 : Addr) (u_owner_a1 : Value) (h0 : Heap) (n0 : Nat) (Z0 : n0 ≤ h0.size) (E_a1 : Exa Z h0 a1 "com/example/subtree/subtree/DocumentFragmentNode") (F_owner_a1 : Fld Z h0 a1 "com/example/subtree/subtree/LinkedNode" "owner" "Lcom/example/subtree/subtree/DocumentNode;" u_owner_a1) (g_a1 : n0 ≤ a1) :
    MetFree l (⟨"com/example/subtree/subtree/DocumentFragmentNode", "<init>", "(Lcom/example/subtree/subtree/DocumentNode;)V"⟩ : MethodName) (head1 (Jvm.Cond.code (⟨"com/example/subtree/subtree/DocumentFragmentNode", "<init>", "(Lcom/example/subtree/subtree/DocumentNode;)V"⟩ : MethodName) prog_16_method_1_code 2 none :: ws) ({ frames := 4, cells := 0, slots := 0, locals := 50 } : Room)) (fun a U => a = #[(.ref a1), .null] ∧ Z.Warmed39 U.vm ∧ U.heap = h0) (fun _ _ _ _ _ => True) (fun _ U o U' => ∃ v L, o = .returned v ∧ Q1 Z a1 h0 n0 v U'.heap L ∧ FrameEnd U o U' L ({ frames := 4, cells := 0, slots := 0, locals := 50 } : Room).cells ({ frames := 4, cells := 0, slots := 0, locals := 50 } : Room).slots) := by
  refine MetFree.of_bodySF (plainFor_of_name pn_1) hisR ?_
  intro p e s m args below meth c s₁ Bd hml0 hP hK
  obtain ⟨rfl, hZ, hh⟩ := hP
  have hx := Bd.exec
  have hby := Bd.bytes
  have hml : c.maxLocals = 2 := hml0
  have hown : s.vm.findClass "com/example/subtree/subtree/DocumentFragmentNode" = some m.cls := findClass_of_methodNamed Bd.named
  have hnm := (name_of_methodNamed Bd.named Bd.method).1
  have X0 : Stand p l e ({ frames := 4, cells := 0, slots := 0, locals := 50 } : Room) s m #[(.ref a1), .null] below meth c s₁ [] 0 0 := Stand.of_body Bd
  have e0 : s₁.heap = h0 := by rw [← hh, Bd.state]; rfl
  have N0 := Fr.nil n0
  have pre0 : ∀ t, Steps p.tables e below (s₁.setTop (mkF m 0 #[.val (.ref a1), .val .null] [])) t → Steps p.tables e below (s₁.setTop (entryFrame m #[(.ref a1), .null] 2)) t := fun t k => castTop (ef_1 m a1) k
  obtain ⟨_, _, ⟨T2, L2, k2, n2⟩, -, X2, ⟨Lc2, hQ2, l2, y2, z2⟩, st2⟩ := X0.specialBack hx (y := (⟨"com/example/subtree/subtree/ParentNode", "<init>", "(Lcom/example/subtree/subtree/DocumentNode;)V"⟩ : MethodName)) rfl hown (mvT hZ (hw _ (List.mem_of_getElem? (i := 6) rfl))) (mvT hZ (hw _ (List.mem_of_getElem? (i := 7) rfl))) (mvT hZ (hw _ (List.mem_of_getElem? (i := 10) rfl))) (by decide) (backOf (W := 0) (rm2 l Z a0 hw [] a1 u_owner_a1 h0 n0 Z0 E_a1 F_owner_a1 g_a1) hZ (hw _ (List.mem_of_getElem? (i := 10) rfl)) (hw _ (List.mem_of_getElem? (i := 9) rfl)) (by decide) (by decide)) (g := (mkF m 2 #[.val (.ref a1), .val .null] [.null, (.ref a1)])) rfl (by rw [hml]; rfl) (Steps.refl _) (a := a1) (argsL := [.null]) (rest := []) (lenOf pd_1_0 rfl) rfl (by show 2 * 0 + _ ≤ _; exact Nat.le_of_eq rfl) (hb hby d1_2) (fun _ _ => ⟨rfl, e0, (by decide : 0 + 0 ≤ _), (by decide : 0 + 0 ≤ _)⟩)
  dsimp only [Pt.U, Pt.locs, Pt.cells, Pt.slots] at X2 l2 y2 z2 st2 hQ2
  subst l2 y2 z2
  obtain ⟨rfl, N2q, K2, E2⟩ := hQ2
  have N2 := Fr.app N0 N2q
  obtain ⟨fs, hr, hrun, hended, hW, hsame⟩ := X2.leave (v := none) (fun _ => rfl)
  refine ⟨_, _, pre0 _ ?_, hrun, hended, _, _, rfl, ?_, ⟨_, rfl⟩, hW, hsame.mono (by decide) (by decide)⟩
  · show Steps p.tables e below (s₁.setTop (mkF m 0 #[.val (.ref a1), .val .null] [])) _
    refine XS.aloadN X0.here hx rfl (hb hby d1_0) rfl rfl ?_
    show Steps p.tables e below (s₁.setTop (mkF m 1 #[.val (.ref a1), .val .null] [(.ref a1)])) _
    refine XS.aloadN X0.here hx rfl (hb hby d1_1) rfl rfl ?_
    show Steps p.tables e below (s₁.setTop (mkF m 2 #[.val (.ref a1), .val .null] [.null, (.ref a1)])) _
    refine st2.trans ?_
    show Steps p.tables e below (T2.setTop (mkF m 5 #[.val (.ref a1), .val .null] [])) _
    exact X2.returnOut hx Bd.returns (hb hby d1_5) hr
  · show Q1 Z a1 h0 n0 _ T2.heap _
    exact ⟨rfl, N2, K2, E2⟩
theorem own_ne {k : Int32} {n : Int} (c : Int32) (hc : c.toInt = n) (h : ¬ k = c) : ¬ k.toInt = n := fun e => h (Int32.toInt_inj.mp (e.trans hc.symm))
theorem own_out {k : Int32} (h1 : ¬ k = (1 : Int32)) (h2 : ¬ k = (2 : Int32)) (h3 : ¬ k = (3 : Int32)) (h4 : ¬ k = (4 : Int32)) (h5 : ¬ k = (5 : Int32)) (h6 : ¬ k = (6 : Int32)) (h7 : ¬ k = (7 : Int32)) (h8 : ¬ k = (8 : Int32)) : k.toInt < 1 ∨ k.toInt > 8 := by
  have g1 := own_ne (n := 1) (1 : Int32) (by decide) h1
  have g2 := own_ne (n := 2) (2 : Int32) (by decide) h2
  have g3 := own_ne (n := 3) (3 : Int32) (by decide) h3
  have g4 := own_ne (n := 4) (4 : Int32) (by decide) h4
  have g5 := own_ne (n := 5) (5 : Int32) (by decide) h5
  have g6 := own_ne (n := 6) (6 : Int32) (by decide) h6
  have g7 := own_ne (n := 7) (7 : Int32) (by decide) h7
  have g8 := own_ne (n := 8) (8 : Int32) (by decide) h8
  omega
theorem d6_0 : decode prog_61_method_2_code 0 = .ok (.iload_n 1, 1) := by decide +kernel
theorem d6_1 : decode prog_61_method_2_code 1 = .ok (.tableswitch 49 1 8 #[47, 49, 47, 47, 47, 49, 47, 47], 47) := by decide +kernel
theorem d6_48 : decode prog_61_method_2_code 48 = .ok (.iconst 1, 1) := by decide +kernel
theorem d6_49 : decode prog_61_method_2_code 49 = .ok (.ireturn, 1) := by decide +kernel
theorem d6_50 : decode prog_61_method_2_code 50 = .ok (.iconst 0, 1) := by decide +kernel
theorem d6_51 : decode prog_61_method_2_code 51 = .ok (.ireturn, 1) := by decide +kernel
def f6_50 (x0 : Addr) (x1 : Int32) : Int32 := nar .boolean (0 : Int32)
set_option maxRecDepth 65536 in
theorem b6_50 {p : Program} {l : Launch} {e : Env} {R : Room} {s : State} {m : MethodId} {args : Array Value} {below : List Frame} {meth : Method} {c : Code} {T : State} {locs : List Loc} {cells slots : Nat} (X : Stand p l e R s m args below meth c T locs cells slots) (hx : p.tables.exec = Jvm.exec) (hby : c.code = prog_61_method_2_code) (hret : meth.sig.returnType = some .boolean) (x0 : Addr) (x1 : Int32) {fs : List Frame} (hr : ∀ (f : JFrame) (acts : List Action), f.method = m → f.locked = none → f.entered = [] → (doReturn e (T.setTop f) acts (some (.int (f6_50 x0 x1)))).1 = T.setFrames fs) :
    Steps p.tables e below (T.setTop (mkF m 50 #[.val (.ref x0), .val (.int x1)] [])) (T.setFrames fs) := by
  show Steps p.tables e below (T.setTop (mkF m 50 #[.val (.ref x0), .val (.int x1)] [])) _
  refine XS.iconst X.here hx rfl (hb hby d6_50) ?_
  show Steps p.tables e below (T.setTop (mkF m 51 #[.val (.ref x0), .val (.int x1)] [(.int (0 : Int32))])) _
  exact retN X hx (t := .boolean) hret (by simp) (hb hby d6_51) hr
def f6_48 (x0 : Addr) (x1 : Int32) : Int32 := nar .boolean (1 : Int32)
set_option maxRecDepth 65536 in
theorem b6_48 {p : Program} {l : Launch} {e : Env} {R : Room} {s : State} {m : MethodId} {args : Array Value} {below : List Frame} {meth : Method} {c : Code} {T : State} {locs : List Loc} {cells slots : Nat} (X : Stand p l e R s m args below meth c T locs cells slots) (hx : p.tables.exec = Jvm.exec) (hby : c.code = prog_61_method_2_code) (hret : meth.sig.returnType = some .boolean) (x0 : Addr) (x1 : Int32) {fs : List Frame} (hr : ∀ (f : JFrame) (acts : List Action), f.method = m → f.locked = none → f.entered = [] → (doReturn e (T.setTop f) acts (some (.int (f6_48 x0 x1)))).1 = T.setFrames fs) :
    Steps p.tables e below (T.setTop (mkF m 48 #[.val (.ref x0), .val (.int x1)] [])) (T.setFrames fs) := by
  show Steps p.tables e below (T.setTop (mkF m 48 #[.val (.ref x0), .val (.int x1)] [])) _
  refine XS.iconst X.here hx rfl (hb hby d6_48) ?_
  show Steps p.tables e below (T.setTop (mkF m 49 #[.val (.ref x0), .val (.int x1)] [(.int (1 : Int32))])) _
  exact retN X hx (t := .boolean) hret (by simp) (hb hby d6_49) hr
def f6_0 (x0 : Addr) (x1 : Int32) : Int32 := if x1 = (1 : Int32) then f6_48 x0 x1 else if x1 = (2 : Int32) then f6_50 x0 x1 else if x1 = (3 : Int32) then f6_48 x0 x1 else if x1 = (4 : Int32) then f6_48 x0 x1 else if x1 = (5 : Int32) then f6_48 x0 x1 else if x1 = (6 : Int32) then f6_50 x0 x1 else if x1 = (7 : Int32) then f6_48 x0 x1 else if x1 = (8 : Int32) then f6_48 x0 x1 else f6_50 x0 x1
set_option maxRecDepth 65536 in
theorem b6_0 {p : Program} {l : Launch} {e : Env} {R : Room} {s : State} {m : MethodId} {args : Array Value} {below : List Frame} {meth : Method} {c : Code} {T : State} {locs : List Loc} {cells slots : Nat} (X : Stand p l e R s m args below meth c T locs cells slots) (hx : p.tables.exec = Jvm.exec) (hby : c.code = prog_61_method_2_code) (hret : meth.sig.returnType = some .boolean) (x0 : Addr) (x1 : Int32) {fs : List Frame} (hr : ∀ (f : JFrame) (acts : List Action), f.method = m → f.locked = none → f.entered = [] → (doReturn e (T.setTop f) acts (some (.int (f6_0 x0 x1)))).1 = T.setFrames fs) :
    Steps p.tables e below (T.setTop (mkF m 0 #[.val (.ref x0), .val (.int x1)] [])) (T.setFrames fs) := by
  show Steps p.tables e below (T.setTop (mkF m 0 #[.val (.ref x0), .val (.int x1)] [])) _
  refine XS.iloadN X.here hx rfl (hb hby d6_0) rfl ?_
  show Steps p.tables e below (T.setTop (mkF m 1 #[.val (.ref x0), .val (.int x1)] [(.int x1)])) _
  by_cases hc0 : x1 = (1 : Int32)
  · refine XS.tswIn X.here hx rfl (pc0 := 1) (pc' := 48) rfl (hb hby d6_1) (i := x1) rfl (by rw [hc0]; decide) (by rw [hc0]; rfl) (by decide) (by decide) ?_
    rw [show f6_0 x0 x1 = f6_48 x0 x1 from if_pos hc0] at hr; exact b6_48 X hx hby hret x0 x1 hr
  by_cases hc1 : x1 = (2 : Int32)
  · refine XS.tswIn X.here hx rfl (pc0 := 1) (pc' := 50) rfl (hb hby d6_1) (i := x1) rfl (by rw [hc1]; decide) (by rw [hc1]; rfl) (by decide) (by decide) ?_
    rw [show f6_0 x0 x1 = f6_50 x0 x1 from (if_neg hc0).trans (if_pos hc1)] at hr; exact b6_50 X hx hby hret x0 x1 hr
  by_cases hc2 : x1 = (3 : Int32)
  · refine XS.tswIn X.here hx rfl (pc0 := 1) (pc' := 48) rfl (hb hby d6_1) (i := x1) rfl (by rw [hc2]; decide) (by rw [hc2]; rfl) (by decide) (by decide) ?_
    rw [show f6_0 x0 x1 = f6_48 x0 x1 from (if_neg hc0).trans ((if_neg hc1).trans (if_pos hc2))] at hr; exact b6_48 X hx hby hret x0 x1 hr
  by_cases hc3 : x1 = (4 : Int32)
  · refine XS.tswIn X.here hx rfl (pc0 := 1) (pc' := 48) rfl (hb hby d6_1) (i := x1) rfl (by rw [hc3]; decide) (by rw [hc3]; rfl) (by decide) (by decide) ?_
    rw [show f6_0 x0 x1 = f6_48 x0 x1 from (if_neg hc0).trans ((if_neg hc1).trans ((if_neg hc2).trans (if_pos hc3)))] at hr; exact b6_48 X hx hby hret x0 x1 hr
  by_cases hc4 : x1 = (5 : Int32)
  · refine XS.tswIn X.here hx rfl (pc0 := 1) (pc' := 48) rfl (hb hby d6_1) (i := x1) rfl (by rw [hc4]; decide) (by rw [hc4]; rfl) (by decide) (by decide) ?_
    rw [show f6_0 x0 x1 = f6_48 x0 x1 from (if_neg hc0).trans ((if_neg hc1).trans ((if_neg hc2).trans ((if_neg hc3).trans (if_pos hc4))))] at hr; exact b6_48 X hx hby hret x0 x1 hr
  by_cases hc5 : x1 = (6 : Int32)
  · refine XS.tswIn X.here hx rfl (pc0 := 1) (pc' := 50) rfl (hb hby d6_1) (i := x1) rfl (by rw [hc5]; decide) (by rw [hc5]; rfl) (by decide) (by decide) ?_
    rw [show f6_0 x0 x1 = f6_50 x0 x1 from (if_neg hc0).trans ((if_neg hc1).trans ((if_neg hc2).trans ((if_neg hc3).trans ((if_neg hc4).trans (if_pos hc5)))))] at hr; exact b6_50 X hx hby hret x0 x1 hr
  by_cases hc6 : x1 = (7 : Int32)
  · refine XS.tswIn X.here hx rfl (pc0 := 1) (pc' := 48) rfl (hb hby d6_1) (i := x1) rfl (by rw [hc6]; decide) (by rw [hc6]; rfl) (by decide) (by decide) ?_
    rw [show f6_0 x0 x1 = f6_48 x0 x1 from (if_neg hc0).trans ((if_neg hc1).trans ((if_neg hc2).trans ((if_neg hc3).trans ((if_neg hc4).trans ((if_neg hc5).trans (if_pos hc6))))))] at hr; exact b6_48 X hx hby hret x0 x1 hr
  by_cases hc7 : x1 = (8 : Int32)
  · refine XS.tswIn X.here hx rfl (pc0 := 1) (pc' := 48) rfl (hb hby d6_1) (i := x1) rfl (by rw [hc7]; decide) (by rw [hc7]; rfl) (by decide) (by decide) ?_
    rw [show f6_0 x0 x1 = f6_48 x0 x1 from (if_neg hc0).trans ((if_neg hc1).trans ((if_neg hc2).trans ((if_neg hc3).trans ((if_neg hc4).trans ((if_neg hc5).trans ((if_neg hc6).trans (if_pos hc7)))))))] at hr; exact b6_48 X hx hby hret x0 x1 hr
  refine XS.tswOut X.here hx rfl (pc0 := 1) (pc' := 50) rfl (hb hby d6_1) (i := x1) rfl (own_out hc0 hc1 hc2 hc3 hc4 hc5 hc6 hc7) (by decide) (by decide) ?_
  rw [show f6_0 x0 x1 = f6_50 x0 x1 from (if_neg hc0).trans ((if_neg hc1).trans ((if_neg hc2).trans ((if_neg hc3).trans ((if_neg hc4).trans ((if_neg hc5).trans ((if_neg hc6).trans (if_neg hc7)))))))] at hr; exact b6_50 X hx hby hret x0 x1 hr
theorem pn_6 : plainName "com/example/subtree/subtree/ParentNode" = true := by first | (simp [plainName, overriddenIn]; done) | decide +kernel
theorem ef_6 (m : MethodId) (x0 : Addr) (x1 : Int32) : entryFrame m #[(.ref x0), (.int x1)] 2 = (mkF m 0 #[.val (.ref x0), .val (.int x1)] []) := by first | (simp [entryFrame, mkF, argsToLocals, Value.category]; done) | rfl
def Q6 (Z : State) (x0 : Addr) (x1 : Int32) (h0 : Heap) (n0 : Nat) (v : Option Value) (h : Heap) (L : List Loc) : Prop := v = some (.int (f6_0 x0 x1)) ∧ Fr n0 L ∧ h = h0
set_option maxRecDepth 65536 in
set_option maxHeartbeats 40000000 in
theorem rm6 (l : Launch) (Z : State) (a0 : Array Value) (hw : ∀ d ∈ tables_1, d.before a0 Z = true) (ws : List Jvm.Cond) (x0 : Addr) (x1 : Int32) (h0 : Heap) (n0 : Nat) (Z0 : n0 ≤ h0.size) :
    MetFree l (⟨"com/example/subtree/subtree/ParentNode", "holds", "(S)Z"⟩ : MethodName) (head1 (Jvm.Cond.code (⟨"com/example/subtree/subtree/ParentNode", "holds", "(S)Z"⟩ : MethodName) prog_61_method_2_code 2 (some .boolean) :: ws) ({ frames := 0, cells := 0, slots := 0, locals := 0 } : Room)) (fun a U => a = #[(.ref x0), (.int x1)] ∧ Z.Warmed39 U.vm ∧ U.heap = h0) (fun _ _ _ _ _ => True) (fun _ U o U' => ∃ v L, o = .returned v ∧ Q6 Z x0 x1 h0 n0 v U'.heap L ∧ FrameEnd U o U' L ({ frames := 0, cells := 0, slots := 0, locals := 0 } : Room).cells ({ frames := 0, cells := 0, slots := 0, locals := 0 } : Room).slots) := by
  refine MetFree.of_bodySF (plainFor_of_name pn_6) hisR ?_
  intro p e s m args below meth c s₁ Bd hml0 hP hK
  obtain ⟨rfl, hZ, hh⟩ := hP
  have hx := Bd.exec
  have hby := Bd.bytes
  have hown : s.vm.findClass "com/example/subtree/subtree/ParentNode" = some m.cls := findClass_of_methodNamed Bd.named
  have X0 : Stand p l e ({ frames := 0, cells := 0, slots := 0, locals := 0 } : Room) s m #[(.ref x0), (.int x1)] below meth c s₁ [] 0 0 := Stand.of_body Bd
  have e0 : s₁.heap = h0 := by rw [← hh, Bd.state]; rfl
  have N0 := Fr.nil n0
  have pre0 : ∀ t, Steps p.tables e below (s₁.setTop (mkF m 0 #[.val (.ref x0), .val (.int x1)] [])) t → Steps p.tables e below (s₁.setTop (entryFrame m #[(.ref x0), (.int x1)] 2)) t := fun t k => castTop (ef_6 m x0 x1) k
  obtain ⟨fs, hr, hrun, hended, hW, hsame⟩ := X0.leave (v := some (.int (f6_0 x0 x1))) (fun h => by rw [Bd.returns] at h; cases h)
  refine ⟨_, _, pre0 _ ?_, hrun, hended, _, _, rfl, ?_, ⟨_, rfl⟩, hW, hsame.mono (by decide) (by decide)⟩
  · exact b6_0 X0 hx hby Bd.returns x0 x1 hr
  · show Q6 Z x0 x1 h0 n0 _ s₁.heap _
    rw [e0]
    exact ⟨rfl, N0, rfl⟩
def f0_17 (x0 : Int32) (x1 : Int32) : Int32 := (x0.toInt16.toInt32)
set_option maxRecDepth 65536 in
theorem b0_17 {p : Program} {l : Launch} {e : Env} {R : Room} {s : State} {m : MethodId} {args : Array Value} {below : List Frame} {meth : Method} {c : Code} {T : State} {locs : List Loc} {cells slots : Nat} (X : Stand p l e R s m args below meth c T locs cells slots) (hx : p.tables.exec = Jvm.exec) (hby : c.code = code) (x0 : Int32) (x1 : Int32) {target : State} (hk : Steps p.tables e below (T.setTop (mkF m 19 #[.val (.int x0), .val (.int x1), .unset, .unset, .unset, .unset] [(.int (f0_17 x0 x1))])) target) :
    Steps p.tables e below (T.setTop (mkF m 17 #[.val (.int x0), .val (.int x1), .unset, .unset, .unset, .unset] [])) target := by
  show Steps p.tables e below (T.setTop (mkF m 17 #[.val (.int x0), .val (.int x1), .unset, .unset, .unset, .unset] [])) _
  refine XS.iloadN X.here hx rfl (hb hby at_17) rfl ?_
  show Steps p.tables e below (T.setTop (mkF m 18 #[.val (.int x0), .val (.int x1), .unset, .unset, .unset, .unset] [(.int x0)])) _
  refine XS.i2s X.here hx rfl (hb hby at_18) rfl ?_
  exact hk
def f0_6 (x0 : Int32) (x1 : Int32) : Int32 := (((x0 &&& (31 : Int32)) - (8 : Int32)).toInt16.toInt32)
set_option maxRecDepth 65536 in
theorem b0_6 {p : Program} {l : Launch} {e : Env} {R : Room} {s : State} {m : MethodId} {args : Array Value} {below : List Frame} {meth : Method} {c : Code} {T : State} {locs : List Loc} {cells slots : Nat} (X : Stand p l e R s m args below meth c T locs cells slots) (hx : p.tables.exec = Jvm.exec) (hby : c.code = code) (x0 : Int32) (x1 : Int32) {target : State} (hk : Steps p.tables e below (T.setTop (mkF m 19 #[.val (.int x0), .val (.int x1), .unset, .unset, .unset, .unset] [(.int (f0_6 x0 x1))])) target) :
    Steps p.tables e below (T.setTop (mkF m 6 #[.val (.int x0), .val (.int x1), .unset, .unset, .unset, .unset] [])) target := by
  show Steps p.tables e below (T.setTop (mkF m 6 #[.val (.int x0), .val (.int x1), .unset, .unset, .unset, .unset] [])) _
  refine XS.iloadN X.here hx rfl (hb hby at_6) rfl ?_
  show Steps p.tables e below (T.setTop (mkF m 7 #[.val (.int x0), .val (.int x1), .unset, .unset, .unset, .unset] [(.int x0)])) _
  refine XS.bipush X.here hx rfl (hb hby at_7) ?_
  show Steps p.tables e below (T.setTop (mkF m 9 #[.val (.int x0), .val (.int x1), .unset, .unset, .unset, .unset] [(.int (31 : Int32)), (.int x0)])) _
  refine XS.iand X.here hx rfl (hb hby at_9) rfl ?_
  show Steps p.tables e below (T.setTop (mkF m 10 #[.val (.int x0), .val (.int x1), .unset, .unset, .unset, .unset] [(.int (x0 &&& (31 : Int32)))])) _
  refine XS.bipush X.here hx rfl (hb hby at_10) ?_
  show Steps p.tables e below (T.setTop (mkF m 12 #[.val (.int x0), .val (.int x1), .unset, .unset, .unset, .unset] [(.int (8 : Int32)), (.int (x0 &&& (31 : Int32)))])) _
  refine XS.isub X.here hx rfl (hb hby at_12) rfl ?_
  show Steps p.tables e below (T.setTop (mkF m 13 #[.val (.int x0), .val (.int x1), .unset, .unset, .unset, .unset] [(.int ((x0 &&& (31 : Int32)) - (8 : Int32)))])) _
  refine XS.i2s X.here hx rfl (hb hby at_13) rfl ?_
  show Steps p.tables e below (T.setTop (mkF m 14 #[.val (.int x0), .val (.int x1), .unset, .unset, .unset, .unset] [(.int (((x0 &&& (31 : Int32)) - (8 : Int32)).toInt16.toInt32))])) _
  refine XS.goto X.here hx rfl (pc0 := 14) (pc' := 19) rfl (hb hby at_14) (by decide) (by decide) ?_
  exact hk
def f0_0 (x0 : Int32) (x1 : Int32) : Int32 := if (x1 &&& (1 : Int32)) = (0 : Int32) then f0_17 x0 x1 else f0_6 x0 x1
set_option maxRecDepth 65536 in
theorem b0_0 {p : Program} {l : Launch} {e : Env} {R : Room} {s : State} {m : MethodId} {args : Array Value} {below : List Frame} {meth : Method} {c : Code} {T : State} {locs : List Loc} {cells slots : Nat} (X : Stand p l e R s m args below meth c T locs cells slots) (hx : p.tables.exec = Jvm.exec) (hby : c.code = code) (x0 : Int32) (x1 : Int32) {target : State} (hk : Steps p.tables e below (T.setTop (mkF m 19 #[.val (.int x0), .val (.int x1), .unset, .unset, .unset, .unset] [(.int (f0_0 x0 x1))])) target) :
    Steps p.tables e below (T.setTop (mkF m 0 #[.val (.int x0), .val (.int x1), .unset, .unset, .unset, .unset] [])) target := by
  show Steps p.tables e below (T.setTop (mkF m 0 #[.val (.int x0), .val (.int x1), .unset, .unset, .unset, .unset] [])) _
  refine XS.iloadN X.here hx rfl (hb hby at_0) rfl ?_
  show Steps p.tables e below (T.setTop (mkF m 1 #[.val (.int x0), .val (.int x1), .unset, .unset, .unset, .unset] [(.int x1)])) _
  refine XS.iconst X.here hx rfl (hb hby at_1) ?_
  show Steps p.tables e below (T.setTop (mkF m 2 #[.val (.int x0), .val (.int x1), .unset, .unset, .unset, .unset] [(.int (1 : Int32)), (.int x1)])) _
  refine XS.iand X.here hx rfl (hb hby at_2) rfl ?_
  show Steps p.tables e below (T.setTop (mkF m 3 #[.val (.int x0), .val (.int x1), .unset, .unset, .unset, .unset] [(.int (x1 &&& (1 : Int32)))])) _
  by_cases hc : (x1 &&& (1 : Int32)) = (0 : Int32)
  · refine XS.ifYes X.here hx rfl (pc0 := 3) (pc' := 17) rfl (hb hby at_3) rfl ((if0 _ _).trans (teq hc).1) (by decide) (by decide) ?_
    rw [show f0_0 x0 x1 = f0_17 x0 x1 from if_pos hc] at hk; exact b0_17 X hx hby x0 x1 hk
  · refine XS.ifNo X.here hx rfl (hb hby at_3) rfl ((if0 _ _).trans (feq hc).1) ?_
    rw [show f0_0 x0 x1 = f0_6 x0 x1 from if_neg hc] at hk; exact b0_6 X hx hby x0 x1 hk
def f0_77 (x0 : Int32) (x1 : Int32) (x2 : Int32) (x3 : Addr) (x4 : Int32) (x5 : Int32) (s0 : Int32) : Int32 := nar .boolean s0
set_option maxRecDepth 65536 in
theorem b0_77 {p : Program} {l : Launch} {e : Env} {R : Room} {s : State} {m : MethodId} {args : Array Value} {below : List Frame} {meth : Method} {c : Code} {T : State} {locs : List Loc} {cells slots : Nat} (X : Stand p l e R s m args below meth c T locs cells slots) (hx : p.tables.exec = Jvm.exec) (hby : c.code = code) (hret : meth.sig.returnType = some .boolean) (x0 : Int32) (x1 : Int32) (x2 : Int32) (x3 : Addr) (x4 : Int32) (x5 : Int32) (s0 : Int32) {fs : List Frame} (hr : ∀ (f : JFrame) (acts : List Action), f.method = m → f.locked = none → f.entered = [] → (doReturn e (T.setTop f) acts (some (.int (f0_77 x0 x1 x2 x3 x4 x5 s0)))).1 = T.setFrames fs) :
    Steps p.tables e below (T.setTop (mkF m 77 #[.val (.int x0), .val (.int x1), .val (.int x2), .val (.ref x3), .val (.int x4), .val (.int x5)] [(.int s0)])) (T.setFrames fs) := by
  show Steps p.tables e below (T.setTop (mkF m 77 #[.val (.int x0), .val (.int x1), .val (.int x2), .val (.ref x3), .val (.int x4), .val (.int x5)] [(.int s0)])) _
  exact retN X hx (t := .boolean) hret (by simp) (hb hby at_77) hr
def f0_76 (x0 : Int32) (x1 : Int32) (x2 : Int32) (x3 : Addr) (x4 : Int32) (x5 : Int32) : Int32 := f0_77 x0 x1 x2 x3 x4 x5 (0 : Int32)
set_option maxRecDepth 65536 in
theorem b0_76 {p : Program} {l : Launch} {e : Env} {R : Room} {s : State} {m : MethodId} {args : Array Value} {below : List Frame} {meth : Method} {c : Code} {T : State} {locs : List Loc} {cells slots : Nat} (X : Stand p l e R s m args below meth c T locs cells slots) (hx : p.tables.exec = Jvm.exec) (hby : c.code = code) (hret : meth.sig.returnType = some .boolean) (x0 : Int32) (x1 : Int32) (x2 : Int32) (x3 : Addr) (x4 : Int32) (x5 : Int32) {fs : List Frame} (hr : ∀ (f : JFrame) (acts : List Action), f.method = m → f.locked = none → f.entered = [] → (doReturn e (T.setTop f) acts (some (.int (f0_76 x0 x1 x2 x3 x4 x5)))).1 = T.setFrames fs) :
    Steps p.tables e below (T.setTop (mkF m 76 #[.val (.int x0), .val (.int x1), .val (.int x2), .val (.ref x3), .val (.int x4), .val (.int x5)] [])) (T.setFrames fs) := by
  show Steps p.tables e below (T.setTop (mkF m 76 #[.val (.int x0), .val (.int x1), .val (.int x2), .val (.ref x3), .val (.int x4), .val (.int x5)] [])) _
  refine XS.iconst X.here hx rfl (hb hby at_76) ?_
  exact b0_77 X hx hby hret x0 x1 x2 x3 x4 x5 (0 : Int32) hr
def f0_72 (x0 : Int32) (x1 : Int32) (x2 : Int32) (x3 : Addr) (x4 : Int32) (x5 : Int32) : Int32 := f0_77 x0 x1 x2 x3 x4 x5 (1 : Int32)
set_option maxRecDepth 65536 in
theorem b0_72 {p : Program} {l : Launch} {e : Env} {R : Room} {s : State} {m : MethodId} {args : Array Value} {below : List Frame} {meth : Method} {c : Code} {T : State} {locs : List Loc} {cells slots : Nat} (X : Stand p l e R s m args below meth c T locs cells slots) (hx : p.tables.exec = Jvm.exec) (hby : c.code = code) (hret : meth.sig.returnType = some .boolean) (x0 : Int32) (x1 : Int32) (x2 : Int32) (x3 : Addr) (x4 : Int32) (x5 : Int32) {fs : List Frame} (hr : ∀ (f : JFrame) (acts : List Action), f.method = m → f.locked = none → f.entered = [] → (doReturn e (T.setTop f) acts (some (.int (f0_72 x0 x1 x2 x3 x4 x5)))).1 = T.setFrames fs) :
    Steps p.tables e below (T.setTop (mkF m 72 #[.val (.int x0), .val (.int x1), .val (.int x2), .val (.ref x3), .val (.int x4), .val (.int x5)] [])) (T.setFrames fs) := by
  show Steps p.tables e below (T.setTop (mkF m 72 #[.val (.int x0), .val (.int x1), .val (.int x2), .val (.ref x3), .val (.int x4), .val (.int x5)] [])) _
  refine XS.iconst X.here hx rfl (hb hby at_72) ?_
  show Steps p.tables e below (T.setTop (mkF m 73 #[.val (.int x0), .val (.int x1), .val (.int x2), .val (.ref x3), .val (.int x4), .val (.int x5)] [(.int (1 : Int32))])) _
  refine XS.goto X.here hx rfl (pc0 := 73) (pc' := 77) rfl (hb hby at_73) (by decide) (by decide) ?_
  exact b0_77 X hx hby hret x0 x1 x2 x3 x4 x5 (1 : Int32) hr
def f0_63 (x0 : Int32) (x1 : Int32) (x2 : Int32) (x3 : Addr) (x4 : Int32) (s0 : Int32) : Int32 := if x4 = s0 then f0_72 x0 x1 x2 x3 x4 s0 else f0_76 x0 x1 x2 x3 x4 s0
set_option maxRecDepth 65536 in
theorem b0_63 {p : Program} {l : Launch} {e : Env} {R : Room} {s : State} {m : MethodId} {args : Array Value} {below : List Frame} {meth : Method} {c : Code} {T : State} {locs : List Loc} {cells slots : Nat} (X : Stand p l e R s m args below meth c T locs cells slots) (hx : p.tables.exec = Jvm.exec) (hby : c.code = code) (hret : meth.sig.returnType = some .boolean) (x0 : Int32) (x1 : Int32) (x2 : Int32) (x3 : Addr) (x4 : Int32) (s0 : Int32) {fs : List Frame} (hr : ∀ (f : JFrame) (acts : List Action), f.method = m → f.locked = none → f.entered = [] → (doReturn e (T.setTop f) acts (some (.int (f0_63 x0 x1 x2 x3 x4 s0)))).1 = T.setFrames fs) :
    Steps p.tables e below (T.setTop (mkF m 63 #[.val (.int x0), .val (.int x1), .val (.int x2), .val (.ref x3), .val (.int x4), .unset] [(.int s0)])) (T.setFrames fs) := by
  show Steps p.tables e below (T.setTop (mkF m 63 #[.val (.int x0), .val (.int x1), .val (.int x2), .val (.ref x3), .val (.int x4), .unset] [(.int s0)])) _
  refine XS.istore X.here hx rfl (hb hby at_63) rfl (l' := #[.val (.int x0), .val (.int x1), .val (.int x2), .val (.ref x3), .val (.int x4), .val (.int s0)]) rfl ?_
  show Steps p.tables e below (T.setTop (mkF m 65 #[.val (.int x0), .val (.int x1), .val (.int x2), .val (.ref x3), .val (.int x4), .val (.int s0)] [])) _
  refine XS.iload X.here hx rfl (hb hby at_65) rfl ?_
  show Steps p.tables e below (T.setTop (mkF m 67 #[.val (.int x0), .val (.int x1), .val (.int x2), .val (.ref x3), .val (.int x4), .val (.int s0)] [(.int x4)])) _
  refine XS.iload X.here hx rfl (hb hby at_67) rfl ?_
  show Steps p.tables e below (T.setTop (mkF m 69 #[.val (.int x0), .val (.int x1), .val (.int x2), .val (.ref x3), .val (.int x4), .val (.int s0)] [(.int s0), (.int x4)])) _
  by_cases hc : x4 = s0
  · refine XS.icmpNo X.here hx rfl (hb hby at_69) rfl (teq hc).2 ?_
    rw [show f0_63 x0 x1 x2 x3 x4 s0 = f0_72 x0 x1 x2 x3 x4 s0 from if_pos hc] at hr; exact b0_72 X hx hby hret x0 x1 x2 x3 x4 s0 hr
  · refine XS.icmpYes X.here hx rfl (pc0 := 69) (pc' := 76) rfl (hb hby at_69) rfl (feq hc).2 (by decide) (by decide) ?_
    rw [show f0_63 x0 x1 x2 x3 x4 s0 = f0_76 x0 x1 x2 x3 x4 s0 from if_neg hc] at hr; exact b0_76 X hx hby hret x0 x1 x2 x3 x4 s0 hr
def f0_62 (x0 : Int32) (x1 : Int32) (x2 : Int32) (x3 : Addr) (x4 : Int32) : Int32 := f0_63 x0 x1 x2 x3 x4 (0 : Int32)
set_option maxRecDepth 65536 in
theorem b0_62 {p : Program} {l : Launch} {e : Env} {R : Room} {s : State} {m : MethodId} {args : Array Value} {below : List Frame} {meth : Method} {c : Code} {T : State} {locs : List Loc} {cells slots : Nat} (X : Stand p l e R s m args below meth c T locs cells slots) (hx : p.tables.exec = Jvm.exec) (hby : c.code = code) (hret : meth.sig.returnType = some .boolean) (x0 : Int32) (x1 : Int32) (x2 : Int32) (x3 : Addr) (x4 : Int32) {fs : List Frame} (hr : ∀ (f : JFrame) (acts : List Action), f.method = m → f.locked = none → f.entered = [] → (doReturn e (T.setTop f) acts (some (.int (f0_62 x0 x1 x2 x3 x4)))).1 = T.setFrames fs) :
    Steps p.tables e below (T.setTop (mkF m 62 #[.val (.int x0), .val (.int x1), .val (.int x2), .val (.ref x3), .val (.int x4), .unset] [])) (T.setFrames fs) := by
  show Steps p.tables e below (T.setTop (mkF m 62 #[.val (.int x0), .val (.int x1), .val (.int x2), .val (.ref x3), .val (.int x4), .unset] [])) _
  refine XS.iconst X.here hx rfl (hb hby at_62) ?_
  exact b0_63 X hx hby hret x0 x1 x2 x3 x4 (0 : Int32) hr
def f0_58 (x0 : Int32) (x1 : Int32) (x2 : Int32) (x3 : Addr) (x4 : Int32) : Int32 := f0_63 x0 x1 x2 x3 x4 (1 : Int32)
set_option maxRecDepth 65536 in
theorem b0_58 {p : Program} {l : Launch} {e : Env} {R : Room} {s : State} {m : MethodId} {args : Array Value} {below : List Frame} {meth : Method} {c : Code} {T : State} {locs : List Loc} {cells slots : Nat} (X : Stand p l e R s m args below meth c T locs cells slots) (hx : p.tables.exec = Jvm.exec) (hby : c.code = code) (hret : meth.sig.returnType = some .boolean) (x0 : Int32) (x1 : Int32) (x2 : Int32) (x3 : Addr) (x4 : Int32) {fs : List Frame} (hr : ∀ (f : JFrame) (acts : List Action), f.method = m → f.locked = none → f.entered = [] → (doReturn e (T.setTop f) acts (some (.int (f0_58 x0 x1 x2 x3 x4)))).1 = T.setFrames fs) :
    Steps p.tables e below (T.setTop (mkF m 58 #[.val (.int x0), .val (.int x1), .val (.int x2), .val (.ref x3), .val (.int x4), .unset] [])) (T.setFrames fs) := by
  show Steps p.tables e below (T.setTop (mkF m 58 #[.val (.int x0), .val (.int x1), .val (.int x2), .val (.ref x3), .val (.int x4), .unset] [])) _
  refine XS.iconst X.here hx rfl (hb hby at_58) ?_
  show Steps p.tables e below (T.setTop (mkF m 59 #[.val (.int x0), .val (.int x1), .val (.int x2), .val (.ref x3), .val (.int x4), .unset] [(.int (1 : Int32))])) _
  refine XS.goto X.here hx rfl (pc0 := 59) (pc' := 63) rfl (hb hby at_59) (by decide) (by decide) ?_
  exact b0_63 X hx hby hret x0 x1 x2 x3 x4 (1 : Int32) hr
def f0_52 (x0 : Int32) (x1 : Int32) (x2 : Int32) (x3 : Addr) (x4 : Int32) : Int32 := if x2 = (6 : Int32) then f0_62 x0 x1 x2 x3 x4 else f0_58 x0 x1 x2 x3 x4
set_option maxRecDepth 65536 in
theorem b0_52 {p : Program} {l : Launch} {e : Env} {R : Room} {s : State} {m : MethodId} {args : Array Value} {below : List Frame} {meth : Method} {c : Code} {T : State} {locs : List Loc} {cells slots : Nat} (X : Stand p l e R s m args below meth c T locs cells slots) (hx : p.tables.exec = Jvm.exec) (hby : c.code = code) (hret : meth.sig.returnType = some .boolean) (x0 : Int32) (x1 : Int32) (x2 : Int32) (x3 : Addr) (x4 : Int32) {fs : List Frame} (hr : ∀ (f : JFrame) (acts : List Action), f.method = m → f.locked = none → f.entered = [] → (doReturn e (T.setTop f) acts (some (.int (f0_52 x0 x1 x2 x3 x4)))).1 = T.setFrames fs) :
    Steps p.tables e below (T.setTop (mkF m 52 #[.val (.int x0), .val (.int x1), .val (.int x2), .val (.ref x3), .val (.int x4), .unset] [])) (T.setFrames fs) := by
  show Steps p.tables e below (T.setTop (mkF m 52 #[.val (.int x0), .val (.int x1), .val (.int x2), .val (.ref x3), .val (.int x4), .unset] [])) _
  refine XS.iloadN X.here hx rfl (hb hby at_52) rfl ?_
  show Steps p.tables e below (T.setTop (mkF m 53 #[.val (.int x0), .val (.int x1), .val (.int x2), .val (.ref x3), .val (.int x4), .unset] [(.int x2)])) _
  refine XS.bipush X.here hx rfl (hb hby at_53) ?_
  show Steps p.tables e below (T.setTop (mkF m 55 #[.val (.int x0), .val (.int x1), .val (.int x2), .val (.ref x3), .val (.int x4), .unset] [(.int (6 : Int32)), (.int x2)])) _
  by_cases hc : x2 = (6 : Int32)
  · refine XS.icmpYes X.here hx rfl (pc0 := 55) (pc' := 62) rfl (hb hby at_55) rfl (teq hc).1 (by decide) (by decide) ?_
    rw [show f0_52 x0 x1 x2 x3 x4 = f0_62 x0 x1 x2 x3 x4 from if_pos hc] at hr; exact b0_62 X hx hby hret x0 x1 x2 x3 x4 hr
  · refine XS.icmpNo X.here hx rfl (hb hby at_55) rfl (feq hc).1 ?_
    rw [show f0_52 x0 x1 x2 x3 x4 = f0_58 x0 x1 x2 x3 x4 from if_neg hc] at hr; exact b0_58 X hx hby hret x0 x1 x2 x3 x4 hr
def f0_47 (x0 : Int32) (x1 : Int32) (x2 : Int32) (x3 : Addr) (x4 : Int32) : Int32 := if x2 = (2 : Int32) then f0_62 x0 x1 x2 x3 x4 else f0_52 x0 x1 x2 x3 x4
set_option maxRecDepth 65536 in
theorem b0_47 {p : Program} {l : Launch} {e : Env} {R : Room} {s : State} {m : MethodId} {args : Array Value} {below : List Frame} {meth : Method} {c : Code} {T : State} {locs : List Loc} {cells slots : Nat} (X : Stand p l e R s m args below meth c T locs cells slots) (hx : p.tables.exec = Jvm.exec) (hby : c.code = code) (hret : meth.sig.returnType = some .boolean) (x0 : Int32) (x1 : Int32) (x2 : Int32) (x3 : Addr) (x4 : Int32) {fs : List Frame} (hr : ∀ (f : JFrame) (acts : List Action), f.method = m → f.locked = none → f.entered = [] → (doReturn e (T.setTop f) acts (some (.int (f0_47 x0 x1 x2 x3 x4)))).1 = T.setFrames fs) :
    Steps p.tables e below (T.setTop (mkF m 47 #[.val (.int x0), .val (.int x1), .val (.int x2), .val (.ref x3), .val (.int x4), .unset] [])) (T.setFrames fs) := by
  show Steps p.tables e below (T.setTop (mkF m 47 #[.val (.int x0), .val (.int x1), .val (.int x2), .val (.ref x3), .val (.int x4), .unset] [])) _
  refine XS.iloadN X.here hx rfl (hb hby at_47) rfl ?_
  show Steps p.tables e below (T.setTop (mkF m 48 #[.val (.int x0), .val (.int x1), .val (.int x2), .val (.ref x3), .val (.int x4), .unset] [(.int x2)])) _
  refine XS.iconst X.here hx rfl (hb hby at_48) ?_
  show Steps p.tables e below (T.setTop (mkF m 49 #[.val (.int x0), .val (.int x1), .val (.int x2), .val (.ref x3), .val (.int x4), .unset] [(.int (2 : Int32)), (.int x2)])) _
  by_cases hc : x2 = (2 : Int32)
  · refine XS.icmpYes X.here hx rfl (pc0 := 49) (pc' := 62) rfl (hb hby at_49) rfl (teq hc).1 (by decide) (by decide) ?_
    rw [show f0_47 x0 x1 x2 x3 x4 = f0_62 x0 x1 x2 x3 x4 from if_pos hc] at hr; exact b0_62 X hx hby hret x0 x1 x2 x3 x4 hr
  · refine XS.icmpNo X.here hx rfl (hb hby at_49) rfl (feq hc).1 ?_
    rw [show f0_47 x0 x1 x2 x3 x4 = f0_52 x0 x1 x2 x3 x4 from if_neg hc] at hr; exact b0_52 X hx hby hret x0 x1 x2 x3 x4 hr
def f0_41 (x0 : Int32) (x1 : Int32) (x2 : Int32) (x3 : Addr) (x4 : Int32) : Int32 := if (8 : Int32) < x2 then f0_62 x0 x1 x2 x3 x4 else f0_47 x0 x1 x2 x3 x4
set_option maxRecDepth 65536 in
theorem b0_41 {p : Program} {l : Launch} {e : Env} {R : Room} {s : State} {m : MethodId} {args : Array Value} {below : List Frame} {meth : Method} {c : Code} {T : State} {locs : List Loc} {cells slots : Nat} (X : Stand p l e R s m args below meth c T locs cells slots) (hx : p.tables.exec = Jvm.exec) (hby : c.code = code) (hret : meth.sig.returnType = some .boolean) (x0 : Int32) (x1 : Int32) (x2 : Int32) (x3 : Addr) (x4 : Int32) {fs : List Frame} (hr : ∀ (f : JFrame) (acts : List Action), f.method = m → f.locked = none → f.entered = [] → (doReturn e (T.setTop f) acts (some (.int (f0_41 x0 x1 x2 x3 x4)))).1 = T.setFrames fs) :
    Steps p.tables e below (T.setTop (mkF m 41 #[.val (.int x0), .val (.int x1), .val (.int x2), .val (.ref x3), .val (.int x4), .unset] [])) (T.setFrames fs) := by
  show Steps p.tables e below (T.setTop (mkF m 41 #[.val (.int x0), .val (.int x1), .val (.int x2), .val (.ref x3), .val (.int x4), .unset] [])) _
  refine XS.iloadN X.here hx rfl (hb hby at_41) rfl ?_
  show Steps p.tables e below (T.setTop (mkF m 42 #[.val (.int x0), .val (.int x1), .val (.int x2), .val (.ref x3), .val (.int x4), .unset] [(.int x2)])) _
  refine XS.bipush X.here hx rfl (hb hby at_42) ?_
  show Steps p.tables e below (T.setTop (mkF m 44 #[.val (.int x0), .val (.int x1), .val (.int x2), .val (.ref x3), .val (.int x4), .unset] [(.int (8 : Int32)), (.int x2)])) _
  by_cases hc : (8 : Int32) < x2
  · refine XS.icmpYes X.here hx rfl (pc0 := 44) (pc' := 62) rfl (hb hby at_44) rfl (tlt hc).2.2.1 (by decide) (by decide) ?_
    rw [show f0_41 x0 x1 x2 x3 x4 = f0_62 x0 x1 x2 x3 x4 from if_pos hc] at hr; exact b0_62 X hx hby hret x0 x1 x2 x3 x4 hr
  · refine XS.icmpNo X.here hx rfl (hb hby at_44) rfl (flt hc).2.2.1 ?_
    rw [show f0_41 x0 x1 x2 x3 x4 = f0_47 x0 x1 x2 x3 x4 from if_neg hc] at hr; exact b0_47 X hx hby hret x0 x1 x2 x3 x4 hr
def f0_36 (x0 : Int32) (x1 : Int32) (x2 : Int32) (x3 : Addr) (x4 : Int32) : Int32 := if x2 < (1 : Int32) then f0_62 x0 x1 x2 x3 x4 else f0_41 x0 x1 x2 x3 x4
set_option maxRecDepth 65536 in
theorem b0_36 {p : Program} {l : Launch} {e : Env} {R : Room} {s : State} {m : MethodId} {args : Array Value} {below : List Frame} {meth : Method} {c : Code} {T : State} {locs : List Loc} {cells slots : Nat} (X : Stand p l e R s m args below meth c T locs cells slots) (hx : p.tables.exec = Jvm.exec) (hby : c.code = code) (hret : meth.sig.returnType = some .boolean) (x0 : Int32) (x1 : Int32) (x2 : Int32) (x3 : Addr) (x4 : Int32) {fs : List Frame} (hr : ∀ (f : JFrame) (acts : List Action), f.method = m → f.locked = none → f.entered = [] → (doReturn e (T.setTop f) acts (some (.int (f0_36 x0 x1 x2 x3 x4)))).1 = T.setFrames fs) :
    Steps p.tables e below (T.setTop (mkF m 36 #[.val (.int x0), .val (.int x1), .val (.int x2), .val (.ref x3), .val (.int x4), .unset] [])) (T.setFrames fs) := by
  show Steps p.tables e below (T.setTop (mkF m 36 #[.val (.int x0), .val (.int x1), .val (.int x2), .val (.ref x3), .val (.int x4), .unset] [])) _
  refine XS.iloadN X.here hx rfl (hb hby at_36) rfl ?_
  show Steps p.tables e below (T.setTop (mkF m 37 #[.val (.int x0), .val (.int x1), .val (.int x2), .val (.ref x3), .val (.int x4), .unset] [(.int x2)])) _
  refine XS.iconst X.here hx rfl (hb hby at_37) ?_
  show Steps p.tables e below (T.setTop (mkF m 38 #[.val (.int x0), .val (.int x1), .val (.int x2), .val (.ref x3), .val (.int x4), .unset] [(.int (1 : Int32)), (.int x2)])) _
  by_cases hc : x2 < (1 : Int32)
  · refine XS.icmpYes X.here hx rfl (pc0 := 38) (pc' := 62) rfl (hb hby at_38) rfl (tlt hc).1 (by decide) (by decide) ?_
    rw [show f0_36 x0 x1 x2 x3 x4 = f0_62 x0 x1 x2 x3 x4 from if_pos hc] at hr; exact b0_62 X hx hby hret x0 x1 x2 x3 x4 hr
  · refine XS.icmpNo X.here hx rfl (hb hby at_38) rfl (flt hc).1 ?_
    rw [show f0_36 x0 x1 x2 x3 x4 = f0_41 x0 x1 x2 x3 x4 from if_neg hc] at hr; exact b0_41 X hx hby hret x0 x1 x2 x3 x4 hr
theorem own_law (a b t : Int32) (r : Addr) : f0_36 a b t r (f6_0 r t) = 1 := by
  by_cases h1 : t < 1
  · have ne : ∀ k : Int32, 1 ≤ k → ¬ t = k := fun k hk e => by
      subst e
      rw [Int32.le_iff_toInt_le] at hk
      rw [Int32.lt_iff_toInt_lt] at h1
      omega
    simp only [f0_36, f0_41, f0_47, f0_52, f0_58, f0_62, f0_63, f0_72, f0_76, f0_77, f6_0, f6_48, f6_50, h1, if_true, if_false, ne 1 (by decide), ne 2 (by decide), ne 3 (by decide), ne 4 (by decide), ne 5 (by decide), ne 6 (by decide), ne 7 (by decide), ne 8 (by decide)]
    rfl
  · by_cases h8 : (8 : Int32) < t
    · have ne : ∀ k : Int32, k ≤ 8 → ¬ t = k := fun k hk e => by
        subst e
        rw [Int32.le_iff_toInt_le] at hk
        rw [Int32.lt_iff_toInt_lt] at h8
        omega
      simp only [f0_36, f0_41, f0_47, f0_52, f0_58, f0_62, f0_63, f0_72, f0_76, f0_77, f6_0, f6_48, f6_50, h1, h8, if_true, if_false, ne 1 (by decide), ne 2 (by decide), ne 3 (by decide), ne 4 (by decide), ne 5 (by decide), ne 6 (by decide), ne 7 (by decide), ne 8 (by decide)]
      rfl
    · rw [Int32.lt_iff_toInt_lt] at h1 h8
      have e1 : (1 : Int32).toInt = 1 := by decide
      have e8 : (8 : Int32).toInt = 8 := by decide
      obtain ⟨n, hn⟩ : ∃ n : Fin 9, t = Int32.ofNat n.val := ⟨⟨t.toInt.toNat, by omega⟩, by
        apply Int32.toInt_inj.mp
        rw [Int32.toInt_ofNat_of_lt (by simp only []; omega)]
        simp only []; omega⟩
      have hn0 : n ≠ 0 := fun e => by subst e; subst hn; exact h1 (by decide)
      clear h1 h8
      subst hn
      show f0_36 0 0 _ 0 (f6_0 0 _) = 1
      revert hn0
      revert n
      decide +kernel
theorem pd_0 : parseMethodDescriptor "(Lcom/example/subtree/subtree/DocumentNode;)V" = some ⟨[(.object "com/example/subtree/subtree/DocumentNode")], none⟩ := by decide +kernel
theorem pd_1 : parseMethodDescriptor "(S)Z" = some ⟨[.short], some .boolean⟩ := by decide +kernel
theorem pn_0 : plainName "com/example/subtree/subtree/ParentNodeHoldsPinLaw" = true := by first | (simp [plainName, overriddenIn]; done) | decide +kernel
theorem ef_0 (m : MethodId) (x0 : Int32) (x1 : Int32) : entryFrame m #[(.int x0), (.int x1)] maxLocals = (mkF m 0 #[.val (.int x0), .val (.int x1), .unset, .unset, .unset, .unset] []) := by first | (simp [entryFrame, mkF, argsToLocals, Value.category, maxLocals]; done) | rfl
def Q0 (Z : State) (x0 : Int32) (x1 : Int32) (h0 : Heap) (n0 : Nat) (v : Option Value) (h : Heap) (L : List Loc) : Prop := v = some (.int (1 : Int32)) ∧ Fr n0 L
set_option maxRecDepth 65536 in
set_option maxHeartbeats 40000000 in
theorem rm0 (l : Launch) (Z : State) (a0 : Array Value) (hw : ∀ d ∈ tables_1, d.before a0 Z = true) (ws : List Jvm.Cond) (x0 : Int32) (x1 : Int32) (h0 : Heap) (n0 : Nat) (Z0 : n0 ≤ h0.size) :
    MetFree l x (head1 (Jvm.Cond.code x code maxLocals ret :: ws) room_1) (fun a U => a = #[(.int x0), (.int x1)] ∧ Z.Warmed39 U.vm ∧ U.heap = h0) (fun _ _ _ _ _ => True) (fun _ U o U' => ∃ v L, o = .returned v ∧ Q0 Z x0 x1 h0 n0 v U'.heap L ∧ FrameEnd U o U' L room_1.cells room_1.slots) := by
  refine MetFree.of_bodySF (plainFor_of_name pn_0) hisR ?_
  intro p e s m args below meth c s₁ Bd hml0 hP hK
  obtain ⟨rfl, hZ, hh⟩ := hP
  have hx := Bd.exec
  have hby := Bd.bytes
  have hml : c.maxLocals = 6 := hml0
  have hown : s.vm.findClass "com/example/subtree/subtree/ParentNodeHoldsPinLaw" = some m.cls := findClass_of_methodNamed Bd.named
  have hnm := (name_of_methodNamed Bd.named Bd.method).1
  have X0 : Stand p l e room_1 s m #[(.int x0), (.int x1)] below meth c s₁ [] 0 0 := Stand.of_body Bd
  have e0 : s₁.heap = h0 := by rw [← hh, Bd.state]; rfl
  have N0 := Fr.nil n0
  have pre0 : ∀ t, Steps p.tables e below (s₁.setTop (mkF m 0 #[.val (.int x0), .val (.int x1), .unset, .unset, .unset, .unset] [])) t → Steps p.tables e below (s₁.setTop (entryFrame m #[(.int x0), (.int x1)] maxLocals)) t := fun t k => castTop (ef_0 m x0 x1) k
  obtain ⟨T1, h1, X1, e1, E1, A1, D1, -, st1⟩ := newO X0 hx hZ hown (hw _ (List.mem_of_getElem? (i := 0) rfl)) (hw _ (List.mem_of_getElem? (i := 1) rfl)) (hw _ (List.mem_of_getElem? (i := 2) rfl)) e0 (g := (mkF m 20 #[.val (.int x0), .val (.int x1), .val (.int (f0_0 x0 x1)), .unset, .unset, .unset] [])) rfl (hb hby at_20) (by decide) (by decide)
  obtain ⟨b1, g1⟩ : ∃ z, z = h0.size := ⟨_, rfl⟩
  rw [← g1] at A1 D1 st1
  have gb1 : n0 ≤ b1 := Nat.le_trans Z0 (Nat.le_of_eq g1.symm)
  have Z1 : n0 ≤ h1.size := Nat.le_trans Z0 E1.1
  have Fo1 : Fld Z h1 b1 "com/example/subtree/subtree/LinkedNode" "owner" "Lcom/example/subtree/subtree/DocumentNode;" .null := D1 (Or.inl (hw _ (List.mem_of_getElem? (i := 25) rfl))) (ty := (.object "com/example/subtree/subtree/DocumentNode")) (by decide)
  obtain ⟨_, _, ⟨T2, L2, k2, n2⟩, -, X2, ⟨Lc2, hQ2, l2, y2, z2⟩, st2⟩ := X1.specialBack hx (y := (⟨"com/example/subtree/subtree/DocumentFragmentNode", "<init>", "(Lcom/example/subtree/subtree/DocumentNode;)V"⟩ : MethodName)) rfl hown (mvT hZ (hw _ (List.mem_of_getElem? (i := 3) rfl))) (mvT hZ (hw _ (List.mem_of_getElem? (i := 4) rfl))) (mvT hZ (hw _ (List.mem_of_getElem? (i := 5) rfl))) (by decide) (backOf (W := 1) (rm1 l Z a0 hw [] b1 .null h1 n0 Z1 A1 Fo1 gb1) hZ (hw _ (List.mem_of_getElem? (i := 5) rfl)) (hw _ (List.mem_of_getElem? (i := 2) rfl)) (by decide) (by decide)) (g := (mkF m 25 #[.val (.int x0), .val (.int x1), .val (.int (f0_0 x0 x1)), .unset, .unset, .unset] [.null, (.ref b1), (.ref b1)])) rfl (by rw [hml]; rfl) (Steps.refl _) (a := b1) (argsL := [.null]) (rest := [(.ref b1)]) (lenOf pd_0 rfl) rfl (by show 2 * 0 + _ ≤ _; exact Nat.le_of_eq rfl) (hb hby at_25) (fun _ _ => ⟨rfl, e1, (by decide : 1 + 0 ≤ _), (by decide : 7 + 0 ≤ _)⟩)
  dsimp only [Pt.U, Pt.locs, Pt.cells, Pt.slots] at X2 l2 y2 z2 st2 hQ2
  subst l2 y2 z2
  obtain ⟨rfl, N2q, K2, Ea2⟩ := hQ2
  have N2 := Fr.app N0 N2q
  have Z2 : n0 ≤ T2.heap.size := Nat.le_trans Z1 K2.1
  obtain ⟨cq3, kq3, q3a, q3b, q3c⟩ := isOf hZ rfl Ea2
  obtain ⟨_, _, ⟨T3, L3, k3, n3⟩, -, X3, ⟨Lc3, hQ3, l3, y3, z3⟩, st3⟩ := X2.virtualBack hx (y := (⟨"com/example/subtree/subtree/ParentNode", "holds", "(S)Z"⟩ : MethodName)) (z := (⟨"com/example/subtree/subtree/ParentNode", "holds", "(S)Z"⟩ : MethodName)) hown (mvT hZ (hw _ (List.mem_of_getElem? (i := 26) rfl))) (mvT hZ (hw _ (List.mem_of_getElem? (i := 27) rfl))) (notFace_of_selects (args := #[]) (mvT hZ (hw _ (List.mem_of_getElem? (i := 29) rfl)))) (mvT hZ (hw _ (List.mem_of_getElem? (i := 29) rfl))) (mvT hZ (hw _ (List.mem_of_getElem? (i := 28) rfl))) (by decide) (backOf (W := 0) (rm6 l Z a0 hw [] b1 (f0_0 x0 x1) T2.heap n0 Z2) hZ (hw _ (List.mem_of_getElem? (i := 30) rfl)) (hw _ (List.mem_of_getElem? (i := 9) rfl)) (by decide) (by decide)) q3a q3c (g := (mkF m 31 #[.val (.int x0), .val (.int x1), .val (.int (f0_0 x0 x1)), .val (.ref b1), .unset, .unset] [(.int (f0_0 x0 x1)), (.ref b1)])) rfl (by rw [hml]; rfl) (Steps.refl _) (argsL := [(.int (f0_0 x0 x1))]) (rest := []) (lenOf pd_1 rfl) rfl (by show 2 * 0 + _ ≤ _; exact Nat.le_of_eq rfl) (hb hby at_31) (fun _ _ => ⟨rfl, rfl, (by decide : 1 + 0 ≤ _), (by decide : 7 + 0 ≤ _)⟩)
  dsimp only [Pt.U, Pt.locs, Pt.cells, Pt.slots] at X3 l3 y3 z3 st3 hQ3
  subst l3 y3 z3
  obtain ⟨rfl, N3q, e3⟩ := hQ3
  have N3 := Fr.app N2 N3q
  obtain ⟨fs, hr, hrun, hended, hW, hsame⟩ := X3.leave (v := some (.int (1 : Int32))) (fun h => by rw [Bd.returns] at h; cases h)
  refine ⟨_, _, pre0 _ ?_, hrun, hended, _, _, rfl, ?_, ⟨_, rfl⟩, hW, hsame.mono (by decide) (by decide)⟩
  · show Steps p.tables e below (s₁.setTop (mkF m 0 #[.val (.int x0), .val (.int x1), .unset, .unset, .unset, .unset] [])) _
    refine b0_0 X0 hx hby x0 x1 ?_
    show Steps p.tables e below (s₁.setTop (mkF m 19 #[.val (.int x0), .val (.int x1), .unset, .unset, .unset, .unset] [(.int (f0_0 x0 x1))])) _
    refine XS.istoreN X0.here hx rfl (hb hby at_19) rfl (l' := #[.val (.int x0), .val (.int x1), .val (.int (f0_0 x0 x1)), .unset, .unset, .unset]) rfl ?_
    show Steps p.tables e below (s₁.setTop (mkF m 20 #[.val (.int x0), .val (.int x1), .val (.int (f0_0 x0 x1)), .unset, .unset, .unset] [])) _
    refine st1 _ ?_
    show Steps p.tables e below (T1.setTop (mkF m 23 #[.val (.int x0), .val (.int x1), .val (.int (f0_0 x0 x1)), .unset, .unset, .unset] [(.ref b1)])) _
    refine XS.dup X1.here hx rfl (hb hby at_23) rfl rfl ?_
    show Steps p.tables e below (T1.setTop (mkF m 24 #[.val (.int x0), .val (.int x1), .val (.int (f0_0 x0 x1)), .unset, .unset, .unset] [(.ref b1), (.ref b1)])) _
    refine XS.aconstNull X1.here hx rfl (hb hby at_24) ?_
    show Steps p.tables e below (T1.setTop (mkF m 25 #[.val (.int x0), .val (.int x1), .val (.int (f0_0 x0 x1)), .unset, .unset, .unset] [.null, (.ref b1), (.ref b1)])) _
    refine st2.trans ?_
    show Steps p.tables e below (T2.setTop (mkF m 28 #[.val (.int x0), .val (.int x1), .val (.int (f0_0 x0 x1)), .unset, .unset, .unset] [(.ref b1)])) _
    refine XS.astoreN X2.here hx rfl (hb hby at_28) rfl rfl (l' := #[.val (.int x0), .val (.int x1), .val (.int (f0_0 x0 x1)), .val (.ref b1), .unset, .unset]) rfl ?_
    show Steps p.tables e below (T2.setTop (mkF m 29 #[.val (.int x0), .val (.int x1), .val (.int (f0_0 x0 x1)), .val (.ref b1), .unset, .unset] [])) _
    refine XS.aloadN X2.here hx rfl (hb hby at_29) rfl rfl ?_
    show Steps p.tables e below (T2.setTop (mkF m 30 #[.val (.int x0), .val (.int x1), .val (.int (f0_0 x0 x1)), .val (.ref b1), .unset, .unset] [(.ref b1)])) _
    refine XS.iloadN X2.here hx rfl (hb hby at_30) rfl ?_
    show Steps p.tables e below (T2.setTop (mkF m 31 #[.val (.int x0), .val (.int x1), .val (.int (f0_0 x0 x1)), .val (.ref b1), .unset, .unset] [(.int (f0_0 x0 x1)), (.ref b1)])) _
    refine st3.trans ?_
    show Steps p.tables e below (T3.setTop (mkF m 34 #[.val (.int x0), .val (.int x1), .val (.int (f0_0 x0 x1)), .val (.ref b1), .unset, .unset] [(.int (f6_0 b1 (f0_0 x0 x1)))])) _
    refine XS.istore X3.here hx rfl (hb hby at_34) rfl (l' := #[.val (.int x0), .val (.int x1), .val (.int (f0_0 x0 x1)), .val (.ref b1), .val (.int (f6_0 b1 (f0_0 x0 x1))), .unset]) rfl ?_
    show Steps p.tables e below (T3.setTop (mkF m 36 #[.val (.int x0), .val (.int x1), .val (.int (f0_0 x0 x1)), .val (.ref b1), .val (.int (f6_0 b1 (f0_0 x0 x1))), .unset] [])) _
    exact b0_36 X3 hx hby Bd.returns x0 x1 (f0_0 x0 x1) b1 (f6_0 b1 (f0_0 x0 x1)) (by rw [show f0_36 x0 x1 (f0_0 x0 x1) b1 (f6_0 b1 (f0_0 x0 x1)) = (1 : Int32) from own_law _ _ _ _]; exact hr)
  · exact ⟨rfl, N3⟩
set_option maxRecDepth 65536 in
set_option maxHeartbeats 40000000 in
theorem comes_1 {Post : Tables → Env → Array Value → State → Outcome → State → Prop} (hpost : ∀ tb e args s v u, (limb_1_1.after args s (.returned v) u = true ∧ limb_1_2.after args s (.returned v) u = true ∧ True) → FrameEnd s (.returned v) u (Jvm.fieldLocs frame_1_writes args s ++ Jvm.arrayLocs frame_1_arrays args s ++ Jvm.staticLocs frame_1_statics s) 16 128 → Post tb e args s (.returned v) u) :
    ArmFor flags0 classFile x code maxLocals ret World_1 tables_1 room_1 Calls_1 rest_1 Pre_1 Post := by
  intro l hfl _ _ p e ha hc hk s m args below hf hA hF happ hP
  obtain ⟨hcalls, hrest, hpre⟩ := hP
  obtain ⟨-, -, -, hnamed, -, -, -, hat⟩ := (Spec.applies_iff hf).mp happ
  obtain ⟨hg, hn⟩ := and_e (Cond.before_iff.mp (show (Jvm.Cond.and given_1 narrow_1).before args s = true from hpre))
  obtain ⟨g0, r0⟩ := and_e hg
  obtain ⟨g1, r1⟩ := and_e r0
  obtain ⟨w0, w1, rfl⟩ : ∃ w0 w1 : Value, args = #[w0, w1] := by
    have hs : args.size = 2 := by simpa [Cond.value, given_1] using g0
    obtain ⟨L⟩ := args
    match L, hs with
    | [w0, w1], _ => exact ⟨w0, w1, rfl⟩
  have hw := fun d (hd : d ∈ tables_1) => atoms_spec (ws := Jvm.Cond.code x code maxLocals ret :: tables_1) hat d (List.mem_cons_of_mem _ hd)
  obtain ⟨i0, ei0⟩ := is_v g1
  obtain rfl : w0 = (.int i0) := Option.some.inj ei0
  obtain ⟨i1, ei1⟩ := is_v r1
  obtain rfl : w1 = (.int i1) := Option.some.inj ei1
  obtain ⟨n, o, h1, h2, h3, _, L, rfl, ⟨rfl, N⟩, hq⟩ := rm0 l s _ hw tables_1 i0 i1 s.heap s.heap.size (Nat.le_refl _) p e ha hc hk s m _ below hf ((Spec.applies_iff_loose hf).mp happ).1 ⟨rfl, State.Warmed39.refl s, rfl⟩ trivial
  refine ⟨n, _, h1, h2, h3, hpost _ _ _ _ _ _ ⟨Cond.after_iff.mpr rfl, Cond.after_iff.mpr (eq_i res_at (Term.int_eval (1)) rfl), trivial⟩ ⟨hq.1, hq.2.1, (hq.2.2.sift fun y hy => Or.inr (N y hy)).mono (by decide) (by decide)⟩⟩
theorem main_1_1 : Claimed_1_1 := comes_1 fun _ _ _ _ _ _ h hF => ⟨h.1, hF⟩
theorem main_1_2 : Claimed_1_2 := comes_1 fun _ _ _ _ _ _ h hF => ⟨h.2.1, hF⟩
end Jvm.Pilot.@@N@@
namespace Jvm.Pilot.@@N@@
open Jvm Jvm.ClassFile Sem Op Lib Jvm.Free Jvm.Stand Jvm.Pilot.@@N@@.Jvm.D
/-! MADE BY PROGRAM (witnessworld.py) out of the Statement's table words and the real class files: 14 classes; the members and pool entries that the words name. The judged class is class 1, her method 1. -/
namespace start1
open Jvm.ClassFile
def u (s : String) : CpInfo := .utf8 (stringToUtf16 s)
/-- a pool by its gaps: so many unusable entries, then the entry; so many at the end -/
def gap : Nat → List CpInfo → List CpInfo
  | 0, r => r
  | n + 1, r => .unusable :: gap n r
def poolList (es : List (Nat × CpInfo)) (last : Nat) : List CpInfo := es.foldr (fun e r => gap e.1 (e.2 :: r)) (gap last [])
def pool (es : List (Nat × CpInfo)) (last : Nat) : Array CpInfo := ⟨poolList es last⟩
def fileOf (pool : Array CpInfo) (this : Nat) (attrs : Array Attribute := #[]) (ms : Array MethodInfo := #[]) (fl : Nat := 33) (sup : Nat := 0) (ifs : Array Nat := #[]) (fds : Array FieldInfo := #[]) : ClassFile where
  minorVersion := 0
  majorVersion := 65
  constantPool := pool
  accessFlags := fl
  thisClass := this
  superClass := sup
  interfaces := ifs
  fields := fds
  methods := ms
  attributes := attrs
def plain (name : String) (sup : Option ClassId) : Class where
  name := name
  kind := .ordinary
  loader := none
  accessFlags := 33
  super := sup
  interfaces := #[]
  cf := none
  fields := #[]
  methods := #[]
  instanceTypes := #[]
  staticTypes := #[]
  resolved := #[]
  callSites := []
  init := .initialized
  statics := none
  mirror := none

def pool0 : Array CpInfo := pool [(5, u "<init>"), (0, u "()V"), (1, .class_ 10), (1, u "java/lang/Object")] 113

def k0c0 : Code := { maxStack := 0, maxLocals := 1, code := object_method_1_code, exceptionTable := #[], attributes := #[] }
def k0m0 : Method := { name := "<init>", desc := "()V", sig := { parameters := [], returnType := none }, accessFlags := 1, code := some k0c0 }
/-- java/lang/Object -/
def k0 : Class := { plain "java/lang/Object" none with
  accessFlags := 33
  interfaces := #[]
  cf := some (fileOf pool0 8 #[] #[{ accessFlags := 1, nameIndex := 5, descriptorIndex := 6, attributes := #[] }] 33 0 #[] #[])
  fields := #[]
  methods := #[k0m0]
  instanceTypes := #[]
  staticTypes := #[]
  resolved := Array.replicate 124 none
  statics := none }

def pool1 : Array CpInfo := pool [(2, .class_ 4), (1, u "java/lang/Object"), (0, u "<init>"), (0, u "()V"), (0, .class_ 8), (0, u "com/example/subtree/subtree/DocumentFragmentNode"), (0, .methodref 7 10), (0, .nameAndType 5 11), (0, u "(Lcom/example/subtree/subtree/DocumentNode;)V"), (0, .methodref 13 14), (0, .class_ 15), (0, .nameAndType 16 17), (0, u "com/example/subtree/subtree/ParentNode"), (0, u "holds"), (0, u "(S)Z"), (0, .class_ 19), (0, u "com/example/subtree/subtree/ParentNodeHoldsPinLaw"), (2, u "law"), (0, u "(II)Z")] 3

def k1m0 : Method := { name := "<init>", desc := "()V", sig := { parameters := [], returnType := none }, accessFlags := 1, code := none }
def k1c1 : Code := { maxStack := 3, maxLocals := 6, code := code, exceptionTable := #[], attributes := #[] }
def k1m1 : Method := { name := "law", desc := "(II)Z", sig := { parameters := [.int, .int], returnType := some .boolean }, accessFlags := 9, code := some k1c1 }
/-- com/example/subtree/subtree/ParentNodeHoldsPinLaw -/
def k1 : Class := { plain "com/example/subtree/subtree/ParentNodeHoldsPinLaw" (some 0) with
  accessFlags := 49
  interfaces := #[]
  cf := some (fileOf pool1 18 #[] #[{ accessFlags := 1, nameIndex := 5, descriptorIndex := 6, attributes := #[] }, { accessFlags := 9, nameIndex := 22, descriptorIndex := 23, attributes := #[] }] 49 2 #[] #[])
  fields := #[]
  methods := #[k1m0, k1m1]
  instanceTypes := #[]
  staticTypes := #[]
  resolved := Array.replicate 27 none
  statics := none }

def pool2 : Array CpInfo := pool [(1, u "org/w3c/dom/Node"), (0, .class_ 1), (0, u "java/lang/Object"), (0, .class_ 3)] 0

/-- org/w3c/dom/Node -/
def k2 : Class := { plain "org/w3c/dom/Node" (some 0) with
  accessFlags := 1537
  interfaces := #[]
  cf := some (fileOf pool2 2 #[] #[] 1537 4 #[] #[])
  fields := #[]
  methods := #[]
  instanceTypes := #[]
  staticTypes := #[]
  resolved := Array.replicate 5 none
  statics := none }

def pool3 : Array CpInfo := pool [(1, .methodref 2 3), (0, .class_ 4), (0, .nameAndType 5 6), (0, u "java/lang/Object"), (0, u "<init>"), (0, u "()V"), (0, .class_ 8), (0, u "com/example/subtree/subtree/AbstractNode"), (7, .class_ 18), (1, u "org/w3c/dom/Node"), (56, u "NO_CHILDREN"), (0, u "Lorg/w3c/dom/NodeList;"), (145, .class_ 223), (0, u "com/example/subtree/subtree/AbstractNode$1")] 71

def k3c0 : Code := { maxStack := 1, maxLocals := 1, code := prog_1_method_1_code, exceptionTable := #[], attributes := #[] }
def k3m0 : Method := { name := "<init>", desc := "()V", sig := { parameters := [], returnType := none }, accessFlags := 0, code := some k3c0 }
/-- com/example/subtree/subtree/AbstractNode -/
def k3 : Class := { plain "com/example/subtree/subtree/AbstractNode" (some 0) with
  accessFlags := 1056
  interfaces := #[2]
  cf := some (fileOf pool3 7 #[.nestMembers #[222]] #[{ accessFlags := 0, nameIndex := 5, descriptorIndex := 6, attributes := #[] }] 1056 2 #[16] #[{ accessFlags := 26, nameIndex := 75, descriptorIndex := 76, attributes := #[] }])
  fields := #[{ name := "NO_CHILDREN", type := (.object "org/w3c/dom/NodeList"), accessFlags := 26, slot := 0, constantValue := 0 }]
  methods := #[k3m0]
  instanceTypes := #[]
  staticTypes := #[(.object "org/w3c/dom/NodeList")]
  resolved := Array.replicate 295 none
  statics := none }

def pool4 : Array CpInfo := pool [(3, .methodref 4 5), (0, .class_ 6), (0, .nameAndType 7 8), (0, u "com/example/subtree/subtree/AbstractNode"), (0, u "<init>"), (0, u "()V"), (0, .fieldref 10 11), (0, .class_ 12), (0, .nameAndType 13 14), (0, u "com/example/subtree/subtree/LinkedNode"), (0, u "owner"), (0, u "Lcom/example/subtree/subtree/DocumentNode;"), (10, u "next"), (0, u "Lcom/example/subtree/subtree/LinkedNode;"), (2, u "parent"), (0, u "Lcom/example/subtree/subtree/ParentNode;"), (148, u "previous"), (0, u "XML_BASE"), (0, u "Ljava/lang/String;"), (1, u "(Lcom/example/subtree/subtree/DocumentNode;)V")] 34

def k4c0 : Code := { maxStack := 2, maxLocals := 2, code := prog_45_method_1_code, exceptionTable := #[], attributes := #[] }
def k4m0 : Method := { name := "<init>", desc := "(Lcom/example/subtree/subtree/DocumentNode;)V", sig := { parameters := [(.object "com/example/subtree/subtree/DocumentNode")], returnType := none }, accessFlags := 0, code := some k4c0 }
/-- com/example/subtree/subtree/LinkedNode -/
def k4 : Class := { plain "com/example/subtree/subtree/LinkedNode" (some 3) with
  accessFlags := 1056
  interfaces := #[]
  cf := some (fileOf pool4 10 #[] #[{ accessFlags := 0, nameIndex := 7, descriptorIndex := 183, attributes := #[] }] 1056 4 #[] #[{ accessFlags := 26, nameIndex := 180, descriptorIndex := 181, attributes := #[] }, { accessFlags := 0, nameIndex := 13, descriptorIndex := 14, attributes := #[] }, { accessFlags := 0, nameIndex := 29, descriptorIndex := 30, attributes := #[] }, { accessFlags := 0, nameIndex := 179, descriptorIndex := 26, attributes := #[] }, { accessFlags := 0, nameIndex := 25, descriptorIndex := 26, attributes := #[] }])
  fields := #[{ name := "XML_BASE", type := (.object "java/lang/String"), accessFlags := 26, slot := 0, constantValue := 0 }, { name := "owner", type := (.object "com/example/subtree/subtree/DocumentNode"), accessFlags := 0, slot := 0, constantValue := 0 }, { name := "parent", type := (.object "com/example/subtree/subtree/ParentNode"), accessFlags := 0, slot := 1, constantValue := 0 }, { name := "previous", type := (.object "com/example/subtree/subtree/LinkedNode"), accessFlags := 0, slot := 2, constantValue := 0 }, { name := "next", type := (.object "com/example/subtree/subtree/LinkedNode"), accessFlags := 0, slot := 3, constantValue := 0 }]
  methods := #[k4m0]
  instanceTypes := #[(.object "com/example/subtree/subtree/DocumentNode"), (.object "com/example/subtree/subtree/ParentNode"), (.object "com/example/subtree/subtree/LinkedNode"), (.object "com/example/subtree/subtree/LinkedNode")]
  staticTypes := #[(.object "java/lang/String")]
  resolved := Array.replicate 218 none
  statics := none }

def pool5 : Array CpInfo := pool [(1, .methodref 2 3), (0, .class_ 4), (0, .nameAndType 5 6), (0, u "com/example/subtree/subtree/LinkedNode"), (0, u "<init>"), (0, u "(Lcom/example/subtree/subtree/DocumentNode;)V"), (1, .class_ 10), (1, u "com/example/subtree/subtree/ParentNode"), (10, u "children"), (0, u "Lcom/example/subtree/subtree/ChildList;"), (17, u "first"), (0, u "Lcom/example/subtree/subtree/LinkedNode;"), (179, u "childCount"), (0, u "I"), (11, u "holds"), (0, u "(S)Z")] 37

def k5c0 : Code := { maxStack := 2, maxLocals := 2, code := prog_61_method_1_code, exceptionTable := #[], attributes := #[] }
def k5m0 : Method := { name := "<init>", desc := "(Lcom/example/subtree/subtree/DocumentNode;)V", sig := { parameters := [(.object "com/example/subtree/subtree/DocumentNode")], returnType := none }, accessFlags := 0, code := some k5c0 }
def k5c1 : Code := { maxStack := 1, maxLocals := 2, code := prog_61_method_2_code, exceptionTable := #[], attributes := #[] }
def k5m1 : Method := { name := "holds", desc := "(S)Z", sig := { parameters := [.short], returnType := some .boolean }, accessFlags := 0, code := some k5c1 }
/-- com/example/subtree/subtree/ParentNode -/
def k5 : Class := { plain "com/example/subtree/subtree/ParentNode" (some 4) with
  accessFlags := 1056
  interfaces := #[]
  cf := some (fileOf pool5 8 #[] #[{ accessFlags := 0, nameIndex := 5, descriptorIndex := 6, attributes := #[] }, { accessFlags := 0, nameIndex := 234, descriptorIndex := 235, attributes := #[] }] 1056 2 #[] #[{ accessFlags := 0, nameIndex := 40, descriptorIndex := 41, attributes := #[] }, { accessFlags := 0, nameIndex := 221, descriptorIndex := 222, attributes := #[] }, { accessFlags := 2, nameIndex := 21, descriptorIndex := 22, attributes := #[] }])
  fields := #[{ name := "first", type := (.object "com/example/subtree/subtree/LinkedNode"), accessFlags := 0, slot := 4, constantValue := 0 }, { name := "childCount", type := .int, accessFlags := 0, slot := 5, constantValue := 0 }, { name := "children", type := (.object "com/example/subtree/subtree/ChildList"), accessFlags := 2, slot := 6, constantValue := 0 }]
  methods := #[k5m0, k5m1]
  instanceTypes := #[(.object "com/example/subtree/subtree/DocumentNode"), (.object "com/example/subtree/subtree/ParentNode"), (.object "com/example/subtree/subtree/LinkedNode"), (.object "com/example/subtree/subtree/LinkedNode"), (.object "com/example/subtree/subtree/LinkedNode"), .int, (.object "com/example/subtree/subtree/ChildList")]
  staticTypes := #[]
  resolved := Array.replicate 273 none
  statics := none }

def pool6 : Array CpInfo := pool [(1, u "org/w3c/dom/DocumentFragment"), (0, .class_ 1), (0, u "java/lang/Object"), (0, .class_ 3)] 0

/-- org/w3c/dom/DocumentFragment -/
def k6 : Class := { plain "org/w3c/dom/DocumentFragment" (some 0) with
  accessFlags := 1537
  interfaces := #[]
  cf := some (fileOf pool6 2 #[] #[] 1537 4 #[] #[])
  fields := #[]
  methods := #[]
  instanceTypes := #[]
  staticTypes := #[]
  resolved := Array.replicate 5 none
  statics := none }

def pool7 : Array CpInfo := pool [(1, .methodref 2 3), (0, .class_ 4), (0, .nameAndType 5 6), (0, u "com/example/subtree/subtree/ParentNode"), (0, u "<init>"), (0, u "(Lcom/example/subtree/subtree/DocumentNode;)V"), (0, .class_ 8), (0, u "com/example/subtree/subtree/DocumentFragmentNode"), (5, .class_ 15), (0, u "org/w3c/dom/DocumentFragment")] 10

def k7c0 : Code := { maxStack := 2, maxLocals := 2, code := prog_16_method_1_code, exceptionTable := #[], attributes := #[] }
def k7m0 : Method := { name := "<init>", desc := "(Lcom/example/subtree/subtree/DocumentNode;)V", sig := { parameters := [(.object "com/example/subtree/subtree/DocumentNode")], returnType := none }, accessFlags := 0, code := some k7c0 }
/-- com/example/subtree/subtree/DocumentFragmentNode -/
def k7 : Class := { plain "com/example/subtree/subtree/DocumentFragmentNode" (some 5) with
  accessFlags := 32
  interfaces := #[6]
  cf := some (fileOf pool7 7 #[] #[{ accessFlags := 0, nameIndex := 5, descriptorIndex := 6, attributes := #[] }] 32 2 #[14] #[])
  fields := #[]
  methods := #[k7m0]
  instanceTypes := #[(.object "com/example/subtree/subtree/DocumentNode"), (.object "com/example/subtree/subtree/ParentNode"), (.object "com/example/subtree/subtree/LinkedNode"), (.object "com/example/subtree/subtree/LinkedNode"), (.object "com/example/subtree/subtree/LinkedNode"), .int, (.object "com/example/subtree/subtree/ChildList")]
  staticTypes := #[]
  resolved := Array.replicate 26 none
  statics := none }

def pool8 : Array CpInfo := pool [(1, u "java/lang/Cloneable"), (0, .class_ 1), (0, u "java/lang/Object"), (0, .class_ 3)] 3

/-- java/lang/Cloneable -/
def k8 : Class := { plain "java/lang/Cloneable" (some 0) with
  accessFlags := 1537
  interfaces := #[]
  cf := some (fileOf pool8 2 #[] #[] 1537 4 #[] #[])
  fields := #[]
  methods := #[]
  instanceTypes := #[]
  staticTypes := #[]
  resolved := Array.replicate 8 none
  statics := none }

def pool9 : Array CpInfo := pool [(1, u "java/io/Serializable"), (0, .class_ 1), (0, u "java/lang/Object"), (0, .class_ 3)] 3

/-- java/io/Serializable -/
def k9 : Class := { plain "java/io/Serializable" (some 0) with
  accessFlags := 1537
  interfaces := #[]
  cf := some (fileOf pool9 2 #[] #[] 1537 4 #[] #[])
  fields := #[]
  methods := #[]
  instanceTypes := #[]
  staticTypes := #[]
  resolved := Array.replicate 8 none
  statics := none }

/-- the primitive byte -/
def k10 : Class := { plain "byte" none with kind := .primitive 'B', accessFlags := 0x411 }
/-- [B -/
def k11 : Class := { plain "[B" (some 0) with kind := .array 10 .byte, interfaces := #[8, 9], accessFlags := 1041 }

/-- the primitive int -/
def k12 : Class := { plain "int" none with kind := .primitive 'I', accessFlags := 0x411 }
/-- [I -/
def k13 : Class := { plain "[I" (some 0) with kind := .array 12 .int, interfaces := #[8, 9], accessFlags := 1041 }

def heap : Heap := #[]
def classes : Array Class := #[k0, k1, k2, k3, k4, k5, k6, k7, k8, k9, k10, k11, k12, k13]
def interned : List (Array UInt16 × Addr) := []
def slotsUsed : Nat := 0
def theMethod : MethodId := ⟨1, 1⟩
def args0 : Array Value := #[.int 5, .int 3]
def aboutOver (below : List Frame) : State where
  vm := { classes := classes, interned := interned.toArray }
  heap := heap
  slotsUsed := slotsUsed
  threads := #[{ frames := .invoking theMethod args0 :: below }]
def below0 : List Frame := [.native { method := ⟨0, 0⟩, args := #[] }]
def about1 : State := aboutOver below0
def p0 : Program := .bare "" "" ""
def e0 : Env := launch0.env 0 0 0
theorem w_frames : about1.frames = Frame.invoking theMethod args0 :: below0 := rfl
set_option maxRecDepth 65536 in
theorem w_args : argsFit about1.vm theMethod args0 = true := by decide +kernel
set_option maxRecDepth 65536 in
theorem w_heap : heapFits about1 = true := by decide +kernel
set_option maxRecDepth 65536 in
theorem w_runnable : about1.curStatus? = some .runnable := by decide +kernel
set_option maxRecDepth 65536 in
theorem w_alone : about1.alone = true := by decide +kernel
set_option maxRecDepth 65536 in
theorem w_named : about1.methodNamed? x = some theMethod := by decide +kernel
set_option maxRecDepth 65536 in
theorem w_hears : about1.hears theMethod below0 = true := by decide +kernel
set_option maxRecDepth 65536 in
theorem w_ripe : about1.ripe theMethod args0 below0 = true := by decide +kernel
theorem w_running : about1.status = .running := rfl
set_option maxRecDepth 65536 in
theorem w_room : about1.hasRoom e0.platform room_1 = true :=
  launch0.hasRoom_least _ room_1 (by decide +kernel) (by decide +kernel) (by decide +kernel) (by decide +kernel) (by decide +kernel) (by decide +kernel)
theorem allAtoms_all (ts : List Jvm.Cond) (a : Array Jvm.Value) (st : Jvm.State) : (allAtoms ts).before a st = ts.all (fun c => c.before a st) := by
  induction ts with
  | nil => rfl
  | cons c t ih =>
    show (Jvm.Cond.and c (allAtoms t)).before a st = _
    rw [Jvm.Cond.before_and, ih, List.all_cons]
def words1 : List Jvm.Cond := Jvm.Cond.code x code maxLocals ret :: tables_1
/-- a 'code' word, met by the world's own term for the bytes: nothing is compared byte by byte -/
theorem code_word {y : MethodName} {bytes : ByteArray} {mx : Nat} {rt : Option FieldType} {a : Array Value} {s : State} {m : MethodId} {meth : Method} {c : Code} (h1 : s.methodNamed? y = some m) (h2 : s.vm.method? m = some meth) (h3 : meth.code = some c) (h4 : c.code = bytes)
    (h5 : (c.maxLocals == mx && c.exceptionTable.isEmpty && decide (c.maxStack ≤ mostOperands) && decide (meth.sig.returnType = rt) && !meth.locks && decide (parseMethodDescriptor y.desc = some meth.sig)) = true) : (Jvm.Cond.code y bytes mx rt).before a s = true := by
  simp only [Bool.and_eq_true, beq_iff_eq, Bool.not_eq_true', decide_eq_true_eq] at h5
  obtain ⟨⟨⟨⟨⟨g1, g2⟩, g3⟩, g4⟩, g5⟩, g6⟩ := h5
  simp [Cond.before, Cond.holds, Cond.value, h1, h2, h3, h4, g1, g2, g3, g4, g5, g6]
def isCode : Jvm.Cond → Bool
  | .code _ _ _ _ => true
  | _ => false
theorem all_split {L : List Jvm.Cond} {P : Jvm.Cond → Bool} (h1 : L.all (fun c => isCode c || P c) = true) (h2 : ∀ c ∈ L.filter isCode, P c = true) : L.all P = true := by
  refine List.all_eq_true.mpr fun c hc => ?_
  have h := List.all_eq_true.mp h1 c hc
  rcases Bool.eq_false_or_eq_true (isCode c) with hi | hi
  · exact h2 c (List.mem_filter.mpr ⟨hc, hi⟩)
  · simpa [hi] using h
set_option maxRecDepth 65536 in
theorem w_c0 : (Jvm.Cond.code x code maxLocals ret).before args0 about1 = true := code_word (m := ⟨1, 1⟩) (meth := k1m1) (c := k1c1) (by decide +kernel) rfl rfl rfl (by decide +kernel)
set_option maxRecDepth 65536 in
theorem w_c1 : (Jvm.Cond.code ({ cls := "com/example/subtree/subtree/DocumentFragmentNode", name := "<init>", desc := "(Lcom/example/subtree/subtree/DocumentNode;)V" } : Jvm.MethodName) prog_16_method_1_code (2 : Nat) (Option.none : Option Jvm.ClassFile.FieldType)).before args0 about1 = true := code_word (m := ⟨7, 0⟩) (meth := k7m0) (c := k7c0) (by decide +kernel) rfl rfl rfl (by decide +kernel)
set_option maxRecDepth 65536 in
theorem w_c2 : (Jvm.Cond.code ({ cls := "com/example/subtree/subtree/ParentNode", name := "<init>", desc := "(Lcom/example/subtree/subtree/DocumentNode;)V" } : Jvm.MethodName) prog_61_method_1_code (2 : Nat) (Option.none : Option Jvm.ClassFile.FieldType)).before args0 about1 = true := code_word (m := ⟨5, 0⟩) (meth := k5m0) (c := k5c0) (by decide +kernel) rfl rfl rfl (by decide +kernel)
set_option maxRecDepth 65536 in
theorem w_c3 : (Jvm.Cond.code ({ cls := "com/example/subtree/subtree/LinkedNode", name := "<init>", desc := "(Lcom/example/subtree/subtree/DocumentNode;)V" } : Jvm.MethodName) prog_45_method_1_code (2 : Nat) (Option.none : Option Jvm.ClassFile.FieldType)).before args0 about1 = true := code_word (m := ⟨4, 0⟩) (meth := k4m0) (c := k4c0) (by decide +kernel) rfl rfl rfl (by decide +kernel)
set_option maxRecDepth 65536 in
theorem w_c4 : (Jvm.Cond.code ({ cls := "com/example/subtree/subtree/AbstractNode", name := "<init>", desc := "()V" } : Jvm.MethodName) prog_1_method_1_code (1 : Nat) (Option.none : Option Jvm.ClassFile.FieldType)).before args0 about1 = true := code_word (m := ⟨3, 0⟩) (meth := k3m0) (c := k3c0) (by decide +kernel) rfl rfl rfl (by decide +kernel)
set_option maxRecDepth 65536 in
theorem w_c5 : (Jvm.Cond.code ({ cls := "java/lang/Object", name := "<init>", desc := "()V" } : Jvm.MethodName) object_method_1_code (1 : Nat) (Option.none : Option Jvm.ClassFile.FieldType)).before args0 about1 = true := code_word (m := ⟨0, 0⟩) (meth := k0m0) (c := k0c0) (by decide +kernel) rfl rfl rfl (by decide +kernel)
set_option maxRecDepth 65536 in
theorem w_c6 : (Jvm.Cond.code ({ cls := "com/example/subtree/subtree/ParentNode", name := "holds", desc := "(S)Z" } : Jvm.MethodName) prog_61_method_2_code (2 : Nat) (Option.some Jvm.ClassFile.FieldType.boolean)).before args0 about1 = true := code_word (m := ⟨5, 1⟩) (meth := k5m1) (c := k5c1) (by decide +kernel) rfl rfl rfl (by decide +kernel)
def codes1 : List Jvm.Cond := [Jvm.Cond.code x code maxLocals ret, Jvm.Cond.code ({ cls := "com/example/subtree/subtree/DocumentFragmentNode", name := "<init>", desc := "(Lcom/example/subtree/subtree/DocumentNode;)V" } : Jvm.MethodName) prog_16_method_1_code (2 : Nat) (Option.none : Option Jvm.ClassFile.FieldType), Jvm.Cond.code ({ cls := "com/example/subtree/subtree/ParentNode", name := "<init>", desc := "(Lcom/example/subtree/subtree/DocumentNode;)V" } : Jvm.MethodName) prog_61_method_1_code (2 : Nat) (Option.none : Option Jvm.ClassFile.FieldType), Jvm.Cond.code ({ cls := "com/example/subtree/subtree/LinkedNode", name := "<init>", desc := "(Lcom/example/subtree/subtree/DocumentNode;)V" } : Jvm.MethodName) prog_45_method_1_code (2 : Nat) (Option.none : Option Jvm.ClassFile.FieldType), Jvm.Cond.code ({ cls := "com/example/subtree/subtree/AbstractNode", name := "<init>", desc := "()V" } : Jvm.MethodName) prog_1_method_1_code (1 : Nat) (Option.none : Option Jvm.ClassFile.FieldType), Jvm.Cond.code ({ cls := "java/lang/Object", name := "<init>", desc := "()V" } : Jvm.MethodName) object_method_1_code (1 : Nat) (Option.none : Option Jvm.ClassFile.FieldType), Jvm.Cond.code ({ cls := "com/example/subtree/subtree/ParentNode", name := "holds", desc := "(S)Z" } : Jvm.MethodName) prog_61_method_2_code (2 : Nat) (Option.some Jvm.ClassFile.FieldType.boolean)]
set_option maxRecDepth 65536 in
theorem codes_eq : words1.filter isCode = codes1 := rfl
theorem w_codes : ∀ c ∈ words1.filter isCode, c.before args0 about1 = true := by
  rw [codes_eq]
  intro c hc
  simp only [codes1, List.mem_cons, List.not_mem_nil, or_false] at hc
  rcases hc with rfl | rfl | rfl | rfl | rfl | rfl | rfl
  · exact w_c0
  · exact w_c1
  · exact w_c2
  · exact w_c3
  · exact w_c4
  · exact w_c5
  · exact w_c6
set_option maxRecDepth 65536 in
theorem w_t1 : (words1.take 24).all (fun c => isCode c || c.before args0 about1) = true := by decide +kernel
set_option maxRecDepth 65536 in
theorem w_t2 : (words1.drop 24).all (fun c => isCode c || c.before args0 about1) = true := by decide +kernel
theorem w_tables : (allAtoms (Jvm.Cond.code x code maxLocals ret :: tables_1)).before args0 about1 = true := by
  rw [allAtoms_all]
  show words1.all (fun c => c.before args0 about1) = true
  refine all_split ?_ w_codes
  rw [← List.take_append_drop 24 words1, List.all_append, w_t1, w_t2]
  rfl
set_option maxRecDepth 65536 in
theorem w_case : (Jvm.Cond.and given_1 narrow_1).before args0 about1 = true := by decide +kernel
theorem w_applies : (headSpec (Jvm.Cond.code x code maxLocals ret :: tables_1) room_1).applies x e0.platform about1 = true :=
  (Spec.applies_iff w_frames).mpr ⟨w_running, w_runnable, w_alone, w_named, w_hears, w_ripe, w_room, w_tables⟩
theorem atStart : AtStart classFile x code maxLocals ret World_1 tables_1 room_1 Calls_1 rest_1 Pre_1 launch0 p0 e0 about1 theMethod args0 below0 :=
  ⟨lists_1, trivial, launch0.admits_env _ _ _, launch0.least_env, fairChoices_fair.cas, fairChoices_fair.clock, w_frames, w_args, w_heap, w_applies, trivial, trivial, w_case⟩
end start1
theorem witness_1 : WitnessClaimed_1 := ⟨start1.p0, start1.e0, start1.about1, start1.theMethod, start1.args0, start1.below0, start1.atStart⟩
end Jvm.Pilot.@@N@@
