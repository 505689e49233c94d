import JvmDerived
import JvmDerived.Pilot.@@N@@Statement
import JvmDerived.Pilot.@@N@@Code
set_option linter.unusedVariables false
set_option linter.unusedSimpArgs false
@@BLOCK:NumsL.lean.txt@@
namespace Jvm.RoadKit
open Sem ClassFile Op Lib Jvm.Stand Jvm.Free Jvm.LawKit
section New
variable {p : Program} {l : Launch} {e : Env} {R : Room} {s : State} {m : MethodId} {args : Array Value} {below : List Frame} {meth : Method} {c : Code} {T : State} {locs : List Loc} {cells slots : Nat}
theorem retI (X : Stand p l e R s m args below meth c T locs cells slots) (hx : p.tables.exec = Jvm.exec) {pc : Nat} {Ls : Array Slot} {z : Int32} {rest : List Value} (hret : meth.sig.returnType = some .int) (hd : decode c.code pc = .ok (.ireturn, 1)) {fs : List Frame}
    (hl : ∀ (f : JFrame) (acts : List Action), f.method = m → f.locked = none → f.entered = [] → (doReturn e (T.setTop f) acts (some (.int z))).1 = T.setFrames fs) : Steps p.tables e below (T.setTop (mkF m pc Ls (.int z :: rest))) (T.setFrames fs) := by
  have hm' : T.vm.method? m = some meth := X.method'
  have hn : narrow .int (.int z) = .int z := rfl
  show Steps p.tables e below (T.setTop { method := m, pc := pc, locals := Ls, stack := _ :: rest, locked := none }) _
  jvm_step X.here [X.here.top, hx, hd, hm', hret, hn]
  first | (intro acts; rw [hl _ acts rfl rfl rfl]) | rw [hl _ _ rfl rfl rfl]
  exact Steps.refl _
end New
end Jvm.RoadKit
namespace Jvm.Pilot.@@N@@
open Jvm Jvm.ClassFile Sem Op Lib Jvm.Free Jvm.Stand Jvm.LawKit Jvm.RoadKit Bundle Jvm.Pilot.@@N@@.Jvm.D
def Sl (Z : State) (h : Heap) (s a b t : Addr) (ka kb : ClassId) (vs ns : List Value) : Prop := Exa Z h s "com/example/tenet/tenet/term/Slots" ∧ Fld Z h s "com/example/tenet/tenet/term/Slots" "terms" "[Lcom/example/tenet/tenet/term/Term;" (.ref a) ∧ Fld Z h s "com/example/tenet/tenet/term/Slots" "nodes" "[I" (.ref b) ∧ Fld Z h s "com/example/tenet/tenet/term/Slots" "tree" "Lcom/example/tenet/tenet/term/Tree;" .null ∧ Arv Z h a ka (.object "com/example/tenet/tenet/term/Term") (3 : Int32) vs .null ∧ Arv Z h b kb .int (3 : Int32) ns (.int (0 : Int32)) ∧ Sto Z h a (.ref t) ∧ (s ≠ a ∧ s ≠ b ∧ a ≠ b) ∧ vs.length = 3 ∧ ns.length = 3
theorem own_idx {p : Int32} (hp : ¬ p < 0 ∧ p < 3) : p.toNatClampNeg < 3 := by
  obtain ⟨h1, h2⟩ := hp
  rw [Int32.lt_iff_toInt_lt] at h1 h2
  have e0 : (0 : Int32).toInt = 0 := by decide
  have e3 : (3 : Int32).toInt = 3 := by decide
  show p.toInt.toNat < 3
  omega
theorem own_put {Z : State} {h h1 h2 : Heap} {s a b t : Addr} {ka kb : ClassId} {vs ns : List Value} (S : Sl Z h s a b t ka kb vs ns) {j : Int32} (hp : ¬ j < 0 ∧ j < 3) {v : Value} (hv : fits (.object "com/example/tenet/tenet/term/Term") v = true) {k : Int32} (W1 : Wr h h1 a j.toNatClampNeg v) (W2 : Wr h1 h2 b j.toNatClampNeg (.int k)) :
    Sl Z h2 s a b t ka kb (vs.set j.toNatClampNeg v) (ns.set j.toNatClampNeg (.int k)) := by
  obtain ⟨E, F1, F2, F3, V1, V2, O, ⟨n1, n2, n3⟩, l1, l2⟩ := S
  have hi := own_idx hp
  have V2' := V2.other W1 (Ne.symm n3)
  obtain ⟨c1, A1, q1, s1, m1, H1, G1⟩ := V1
  obtain ⟨c2, A2, q2, s2, m2, H2, G2⟩ := V2'
  have U1 : Arv Z h1 a ka (.object "com/example/tenet/tenet/term/Term") (3 : Int32) (vs.set j.toNatClampNeg v) .null := Arv.set A1 q1 s1 m1 H1 G1 hv W1 j.toNatClampNeg rfl (by rw [l1]; exact hi)
  have U2 : Arv Z h2 b kb .int (3 : Int32) (ns.set j.toNatClampNeg (.int k)) (.int (0 : Int32)) := Arv.set A2 q2 s2 m2 H2 G2 rfl W2 j.toNatClampNeg rfl (by rw [l2]; exact hi)
  exact ⟨(E.wr W1).wr W2, (F1.other W1 (Or.inl n1)).other W2 (Or.inl n2), (F2.other W1 (Or.inl n1)).other W2 (Or.inl n2), (F3.other W1 (Or.inl n1)).other W2 (Or.inl n2), U1.other W2 n3, U2, (O.wr W1).wr W2, ⟨n1, n2, n3⟩, by rw [List.length_set]; exact l1, by rw [List.length_set]; exact l2⟩
def own_T (m : Int32) (t : Addr) : Value := if m = 1 then .ref t else .null
def own_K (m k : Int32) : Int32 := if m = 2 then k else -1
def own_clr : Nat → Nat → List Value → Value → List Value
  | 0, _, vs, _ => vs
  | k + 1, i, vs, v => own_clr k (i + 1) (vs.set i v) v
theorem own_tn {i : Nat} (hi : i ≤ 3) : (Int32.ofNat i).toNatClampNeg = i := by
  show (Int32.ofNat i).toInt.toNat = i
  rw [Int32.toInt_ofNat_of_lt (by omega)]; omega
theorem own_lt {i t : Nat} (hi : i ≤ 3) (ht : t ≤ 3) : Int32.ofNat i < Int32.ofNat t ↔ i < t := by
  rw [Int32.lt_iff_toInt_lt, Int32.toInt_ofNat_of_lt (by omega), Int32.toInt_ofNat_of_lt (by omega)]; omega
theorem own_in {i : Nat} (hi : i < 3) : ¬ Int32.ofNat i < 0 ∧ Int32.ofNat i < 3 := by
  rw [Int32.lt_iff_toInt_lt, Int32.lt_iff_toInt_lt, Int32.toInt_ofNat_of_lt (by omega)]
  have e0 : (0 : Int32).toInt = 0 := by decide
  have e3 : (3 : Int32).toInt = 3 := by decide
  omega
theorem d3_0 : decode prog_147_method_1_code 0 = .ok (.aload_n 0, 1) := by decide +kernel
theorem d3_1 : decode prog_147_method_1_code 1 = .ok (.invokespecial 1, 3) := by decide +kernel
theorem d3_4 : decode prog_147_method_1_code 4 = .ok (.return_, 1) := by decide +kernel
theorem pn_3 : plainName "com/example/tenet/tenet/term/Term" = true := by first | (simp [plainName, overriddenIn]; done) | decide +kernel
theorem ef_3 (m : MethodId) (x0 : Addr) : entryFrame m #[(.ref x0)] 1 = mkF m 0 #[.val (.ref x0)] [] := by first | (simp [entryFrame, mkF, argsToLocals, Value.category]; done) | rfl
def Q3 (Z : State) (a1 : Addr) (h0 : Heap) (n0 : Nat) (v : Option Value) (h : Heap) (L : List Loc) : Prop := v = none ∧ Fr n0 L ∧ h = h0
set_option maxRecDepth 65536 in
set_option maxHeartbeats 40000000 in
theorem rm3 (l : Launch) (Z : State) (a0 : Array Value) (hw : ∀ d ∈ tables_1, d.before a0 Z = true) (ws : List Jvm.Cond) (a1 : Addr) (h0 : Heap) (n0 : Nat) (Z0 : n0 ≤ h0.size) :
    MetFree l (⟨"com/example/tenet/tenet/term/Term", "<init>", "()V"⟩ : MethodName) (head1 (Jvm.Cond.code (⟨"com/example/tenet/tenet/term/Term", "<init>", "()V"⟩ : MethodName) prog_147_method_1_code 1 none :: ws) ({ frames := 1, cells := 0, slots := 0, locals := 12 } : Room)) (fun a U => a = #[(.ref a1)] ∧ Z.Warmed39 U.vm ∧ U.heap = h0) (fun _ _ _ _ _ => True) (fun _ U o U' => ∃ v L, o = .returned v ∧ Q3 Z a1 h0 n0 v U'.heap L ∧ FrameEnd U o U' L ({ frames := 1, cells := 0, slots := 0, locals := 12 } : Room).cells ({ frames := 1, cells := 0, slots := 0, locals := 12 } : Room).slots) := by
  refine MetFree.of_bodySF (plainFor_of_name pn_3) hisR ?_
  intro p e s m args below meth c s₁ Bd hml0 hP hK
  obtain ⟨rfl, hZ, hh⟩ := hP
  have hx := Bd.exec
  have hby := Bd.bytes
  have hml : c.maxLocals = 1 := hml0
  have hown : s.vm.findClass "com/example/tenet/tenet/term/Term" = some m.cls := findClass_of_methodNamed Bd.named
  have hnm := (name_of_methodNamed Bd.named Bd.method).1
  have X0 : Stand p l e ({ frames := 1, cells := 0, slots := 0, locals := 12 } : Room) s m #[(.ref a1)] below meth c s₁ [] 0 0 := Stand.of_body Bd
  have e0 : s₁.heap = h0 := by rw [← hh, Bd.state]; rfl
  have N0 := Fr.nil n0
  have pre0 : ∀ t, Steps p.tables e below (s₁.setTop (mkF m 0 #[.val (.ref a1)] [])) t → Steps p.tables e below (s₁.setTop (entryFrame m #[(.ref a1)] 1)) t := fun t k => castTop (ef_3 m a1) k
  obtain ⟨T2, X2, e2, st2⟩ := initO X0 hx hZ hown (hw _ (List.mem_of_getElem? (i := 15) rfl)) (hw _ (List.mem_of_getElem? (i := 16) rfl)) (hw _ (List.mem_of_getElem? (i := 17) rfl)) e0 (g := (mkF m 1 #[.val (.ref a1)] [(.ref a1)])) rfl (by rw [hml]; rfl) rfl (hb hby d3_1) (by decide) (W := 0) (by show 2 * 0 + _ ≤ _; exact Nat.le_of_eq rfl) (by decide)
  obtain ⟨fs, hr, hrun, hended, hW, hsame⟩ := X2.leave (v := none) (fun _ => rfl)
  refine ⟨_, _, pre0 _ ?_, hrun, hended, _, _, rfl, ?_, ⟨_, rfl⟩, hW, hsame.mono (by decide) (by decide)⟩
  · show Steps p.tables e below (s₁.setTop (mkF m 0 #[.val (.ref a1)] [])) _
    refine XS.aloadN X0.here hx rfl (hb hby d3_0) rfl rfl ?_
    show Steps p.tables e below (s₁.setTop (mkF m 1 #[.val (.ref a1)] [(.ref a1)])) _
    refine st2 _ ?_
    show Steps p.tables e below (T2.setTop (mkF m 4 #[.val (.ref a1)] [])) _
    exact X2.returnOut hx Bd.returns (hb hby d3_4) hr
  · show Q3 Z a1 h0 n0 _ T2.heap _
    rw [e2]
    exact ⟨rfl, N0, rfl⟩
theorem d2_0 : decode prog_133_method_1_code 0 = .ok (.aload_n 0, 1) := by decide +kernel
theorem d2_1 : decode prog_133_method_1_code 1 = .ok (.invokespecial 1, 3) := by decide +kernel
theorem d2_4 : decode prog_133_method_1_code 4 = .ok (.aload_n 0, 1) := by decide +kernel
theorem d2_5 : decode prog_133_method_1_code 5 = .ok (.lload_n 1, 1) := by decide +kernel
theorem d2_6 : decode prog_133_method_1_code 6 = .ok (.putfield 7, 3) := by decide +kernel
theorem d2_9 : decode prog_133_method_1_code 9 = .ok (.aload_n 0, 1) := by decide +kernel
theorem d2_10 : decode prog_133_method_1_code 10 = .ok (.iload_n 3, 1) := by decide +kernel
theorem d2_11 : decode prog_133_method_1_code 11 = .ok (.putfield 13, 3) := by decide +kernel
theorem d2_14 : decode prog_133_method_1_code 14 = .ok (.return_, 1) := by decide +kernel
theorem pn_2 : plainName "com/example/tenet/tenet/term/IntTerm" = true := by first | (simp [plainName, overriddenIn]; done) | decide +kernel
theorem pd_2_2 : parseMethodDescriptor "()V" = some ⟨[], none⟩ := by decide +kernel
theorem ef_2 (m : MethodId) (x0 : Addr) (x1 : Int64) (x2 : Int32) : entryFrame m #[(.ref x0), (.long x1), (.int x2)] 4 = mkF m 0 #[.val (.ref x0), .val (.long x1), .second, .val (.int x2)] [] := by first | (simp [entryFrame, mkF, argsToLocals, Value.category]; done) | rfl
def Q2 (Z : State) (a1 : Addr) (q2 : Int64) (p3 : Int32) (u_value_a1 : Value) (u_index_a1 : Value) (h0 : Heap) (n0 : Nat) (v : Option Value) (h : Heap) (L : List Loc) : Prop := v = none ∧ Fr n0 L ∧ Keep h0 h [a1] ∧ Exa Z h a1 "com/example/tenet/tenet/term/IntTerm"
set_option maxRecDepth 65536 in
set_option maxHeartbeats 40000000 in
theorem rm2 (l : Launch) (Z : State) (a0 : Array Value) (hw : ∀ d ∈ tables_1, d.before a0 Z = true) (ws : List Jvm.Cond) (a1 : Addr) (q2 : Int64) (p3 : Int32) (u_value_a1 : Value) (u_index_a1 : Value) (h0 : Heap) (n0 : Nat) (Z0 : n0 ≤ h0.size) (E_a1 : Exa Z h0 a1 "com/example/tenet/tenet/term/IntTerm") (F_value_a1 : Fld Z h0 a1 "com/example/tenet/tenet/term/IntTerm" "value" "J" u_value_a1) (g_a1 : n0 ≤ a1) (F_index_a1 : Fld Z h0 a1 "com/example/tenet/tenet/term/IntTerm" "index" "I" u_index_a1) :
    MetFree l (⟨"com/example/tenet/tenet/term/IntTerm", "<init>", "(JI)V"⟩ : MethodName) (head1 (Jvm.Cond.code (⟨"com/example/tenet/tenet/term/IntTerm", "<init>", "(JI)V"⟩ : MethodName) prog_133_method_1_code 4 none :: ws) ({ frames := 2, cells := 0, slots := 0, locals := 24 } : Room)) (fun a U => a = #[(.ref a1), (.long q2), (.int p3)] ∧ Z.Warmed39 U.vm ∧ U.heap = h0) (fun _ _ _ _ _ => True) (fun _ U o U' => ∃ v L, o = .returned v ∧ Q2 Z a1 q2 p3 u_value_a1 u_index_a1 h0 n0 v U'.heap L ∧ FrameEnd U o U' L ({ frames := 2, cells := 0, slots := 0, locals := 24 } : Room).cells ({ frames := 2, cells := 0, slots := 0, locals := 24 } : Room).slots) := by
  refine MetFree.of_bodySF (plainFor_of_name pn_2) hisR ?_
  intro p e s m args below meth c s₁ Bd hml0 hP hK
  obtain ⟨rfl, hZ, hh⟩ := hP
  have hx := Bd.exec
  have hby := Bd.bytes
  have hml : c.maxLocals = 4 := hml0
  have hown : s.vm.findClass "com/example/tenet/tenet/term/IntTerm" = some m.cls := findClass_of_methodNamed Bd.named
  have hnm := (name_of_methodNamed Bd.named Bd.method).1
  have X0 : Stand p l e ({ frames := 2, cells := 0, slots := 0, locals := 24 } : Room) s m #[(.ref a1), (.long q2), (.int p3)] below meth c s₁ [] 0 0 := Stand.of_body Bd
  have e0 : s₁.heap = h0 := by rw [← hh, Bd.state]; rfl
  have N0 := Fr.nil n0
  have pre0 : ∀ t, Steps p.tables e below (s₁.setTop (mkF m 0 #[.val (.ref a1), .val (.long q2), .second, .val (.int p3)] [])) t → Steps p.tables e below (s₁.setTop (entryFrame m #[(.ref a1), (.long q2), (.int p3)] 4)) t := fun t k => castTop (ef_2 m a1 q2 p3) k
  obtain ⟨_, _, ⟨T4, L4, k4, n4⟩, -, X4, ⟨Lc4, hQ4, l4, y4, z4⟩, st4⟩ := X0.specialBack hx (y := (⟨"com/example/tenet/tenet/term/Term", "<init>", "()V"⟩ : MethodName)) rfl hown (mvT hZ (hw _ (List.mem_of_getElem? (i := 10) rfl))) (mvT hZ (hw _ (List.mem_of_getElem? (i := 11) rfl))) (mvT hZ (hw _ (List.mem_of_getElem? (i := 14) rfl))) (by decide) (backOf (W := 0) (rm3 l Z a0 hw [] a1 h0 n0 Z0) hZ (hw _ (List.mem_of_getElem? (i := 14) rfl)) (hw _ (List.mem_of_getElem? (i := 13) rfl)) (by decide) (by decide)) (g := (mkF m 1 #[.val (.ref a1), .val (.long q2), .second, .val (.int p3)] [(.ref a1)])) rfl (by rw [hml]; rfl) (Steps.refl _) (a := a1) (argsL := []) (rest := []) (lenOf pd_2_2 rfl) rfl (by show 2 * 0 + _ ≤ _; exact Nat.le_of_eq rfl) (hb hby d2_1) (fun _ _ => ⟨rfl, e0, (by decide : 0 + 0 ≤ _), (by decide : 0 + 0 ≤ _)⟩)
  dsimp only [Pt.U, Pt.locs, Pt.cells, Pt.slots] at X4 l4 y4 z4 st4 hQ4
  subst l4 y4 z4
  obtain ⟨rfl, N4q, e4⟩ := hQ4
  have N4 := Fr.app N0 N4q
  obtain ⟨T5, h5, X5, e5, W5, st5⟩ := putF X4 hx hZ hown (host := "") (Or.inl (hw _ (List.mem_of_getElem? (i := 18) rfl))) Via.refl e4 F_value_a1 E_a1 (Or.inr ⟨(hw _ (List.mem_of_getElem? (i := 19) rfl)), rfl, hnm⟩) (hw _ (List.mem_of_getElem? (i := 6) rfl)) (ty := .long) (by decide) rfl rfl (g := (mkF m 6 #[.val (.ref a1), .val (.long q2), .second, .val (.int p3)] [(.long q2), (.ref a1)])) rfl rfl (hb hby d2_6)
  have Fw5 := F_value_a1.same W5
  have K5 : Keep h0 h5 [a1] := (Keep.refl h0 [a1]).wr W5 (Or.inl (List.mem_of_getElem? (i := 0) rfl))
  have N5 := Fr.snoc X5 N4 g_a1
  obtain ⟨T6, h6, X6, e6, W6, st6⟩ := putF X5 hx hZ hown (host := "") (Or.inl (hw _ (List.mem_of_getElem? (i := 20) rfl))) Via.refl e5 (F_index_a1.other W5 (Or.inr (slot_ne (Or.inr (hw _ (List.mem_of_getElem? (i := 21) rfl))) (Or.inr (hw _ (List.mem_of_getElem? (i := 19) rfl))) (by decide) (t := .int) (t' := .long) (by decide) (by decide)))) (E_a1.wr W5) (Or.inr ⟨(hw _ (List.mem_of_getElem? (i := 21) rfl)), rfl, hnm⟩) (hw _ (List.mem_of_getElem? (i := 6) rfl)) (ty := .int) (by decide) rfl rfl (g := (mkF m 11 #[.val (.ref a1), .val (.long q2), .second, .val (.int p3)] [(.int p3), (.ref a1)])) rfl rfl (hb hby d2_11)
  have Fw6 := (F_index_a1.other W5 (Or.inr (slot_ne (Or.inr (hw _ (List.mem_of_getElem? (i := 21) rfl))) (Or.inr (hw _ (List.mem_of_getElem? (i := 19) rfl))) (by decide) (t := .int) (t' := .long) (by decide) (by decide)))).same W6
  have K6 : Keep h0 h6 [a1] := K5.wr W6 (Or.inl (List.mem_of_getElem? (i := 0) rfl))
  have N6 := Fr.snoc X6 N5 g_a1
  obtain ⟨fs, hr, hrun, hended, hW, hsame⟩ := X6.leave (v := none) (fun _ => rfl)
  refine ⟨_, _, pre0 _ ?_, hrun, hended, _, _, rfl, ?_, ⟨_, rfl⟩, hW, hsame.mono (by decide) (by decide)⟩
  · show Steps p.tables e below (s₁.setTop (mkF m 0 #[.val (.ref a1), .val (.long q2), .second, .val (.int p3)] [])) _
    refine XS.aloadN X0.here hx rfl (hb hby d2_0) rfl rfl ?_
    show Steps p.tables e below (s₁.setTop (mkF m 1 #[.val (.ref a1), .val (.long q2), .second, .val (.int p3)] [(.ref a1)])) _
    refine st4.trans ?_
    show Steps p.tables e below (T4.setTop (mkF m 4 #[.val (.ref a1), .val (.long q2), .second, .val (.int p3)] [])) _
    refine XS.aloadN X4.here hx rfl (hb hby d2_4) rfl rfl ?_
    show Steps p.tables e below (T4.setTop (mkF m 5 #[.val (.ref a1), .val (.long q2), .second, .val (.int p3)] [(.ref a1)])) _
    refine XS.lloadN X4.here hx rfl (hb hby d2_5) rfl ?_
    show Steps p.tables e below (T4.setTop (mkF m 6 #[.val (.ref a1), .val (.long q2), .second, .val (.int p3)] [(.long q2), (.ref a1)])) _
    refine st5 _ ?_
    show Steps p.tables e below (T5.setTop (mkF m 9 #[.val (.ref a1), .val (.long q2), .second, .val (.int p3)] [])) _
    refine XS.aloadN X5.here hx rfl (hb hby d2_9) rfl rfl ?_
    show Steps p.tables e below (T5.setTop (mkF m 10 #[.val (.ref a1), .val (.long q2), .second, .val (.int p3)] [(.ref a1)])) _
    refine XS.iloadN X5.here hx rfl (hb hby d2_10) rfl ?_
    show Steps p.tables e below (T5.setTop (mkF m 11 #[.val (.ref a1), .val (.long q2), .second, .val (.int p3)] [(.int p3), (.ref a1)])) _
    refine st6 _ ?_
    show Steps p.tables e below (T6.setTop (mkF m 14 #[.val (.ref a1), .val (.long q2), .second, .val (.int p3)] [])) _
    exact X6.returnOut hx Bd.returns (hb hby d2_14) hr
  · show Q2 Z a1 q2 p3 u_value_a1 u_index_a1 h0 n0 _ T6.heap _
    rw [e6]
    exact ⟨rfl, N6, K6, (E_a1.wr W5).wr W6⟩
theorem d1_0 : decode prog_133_method_2_code 0 = .ok (.new 8, 3) := by decide +kernel
theorem d1_3 : decode prog_133_method_2_code 3 = .ok (.dup, 1) := by decide +kernel
theorem d1_4 : decode prog_133_method_2_code 4 = .ok (.lload_n 0, 1) := by decide +kernel
theorem d1_5 : decode prog_133_method_2_code 5 = .ok (.iconst (-1), 1) := by decide +kernel
theorem d1_6 : decode prog_133_method_2_code 6 = .ok (.invokespecial 17, 3) := by decide +kernel
theorem d1_9 : decode prog_133_method_2_code 9 = .ok (.areturn, 1) := by decide +kernel
theorem pn_1 : plainName "com/example/tenet/tenet/term/IntTerm" = true := by first | (simp [plainName, overriddenIn]; done) | decide +kernel
theorem pd_1_1 : parseMethodDescriptor "(JI)V" = some ⟨[.long, .int], none⟩ := by decide +kernel
theorem ef_1 (m : MethodId) (x0 : Int64) : entryFrame m #[(.long x0)] 2 = mkF m 0 #[.val (.long x0), .second] [] := by first | (simp [entryFrame, mkF, argsToLocals, Value.category]; done) | rfl
def Q1 (Z : State) (q1 : Int64) (h0 : Heap) (n0 : Nat) (v : Option Value) (h : Heap) (L : List Loc) : Prop := ∃ b : Addr, v = some (.ref b) ∧ Fr n0 L ∧ h0.size ≤ h.size ∧ Exa Z h b "com/example/tenet/tenet/term/IntTerm"
set_option maxRecDepth 65536 in
set_option maxHeartbeats 40000000 in
theorem rm1 (l : Launch) (Z : State) (a0 : Array Value) (hw : ∀ d ∈ tables_1, d.before a0 Z = true) (ws : List Jvm.Cond) (q1 : Int64) (h0 : Heap) (n0 : Nat) (Z0 : n0 ≤ h0.size) :
    MetFree l (⟨"com/example/tenet/tenet/term/IntTerm", "of", "(J)Lcom/example/tenet/tenet/term/IntTerm;"⟩ : MethodName) (head1 (Jvm.Cond.code (⟨"com/example/tenet/tenet/term/IntTerm", "of", "(J)Lcom/example/tenet/tenet/term/IntTerm;"⟩ : MethodName) prog_133_method_2_code 2 (some (.object "com/example/tenet/tenet/term/IntTerm")) :: ws) ({ frames := 3, cells := 1, slots := 2, locals := 40 } : Room)) (fun a U => a = #[(.long q1)] ∧ Z.Warmed39 U.vm ∧ U.heap = h0) (fun _ _ _ _ _ => True) (fun _ U o U' => ∃ v L, o = .returned v ∧ Q1 Z q1 h0 n0 v U'.heap L ∧ FrameEnd U o U' L ({ frames := 3, cells := 1, slots := 2, locals := 40 } : Room).cells ({ frames := 3, cells := 1, slots := 2, locals := 40 } : Room).slots) := by
  refine MetFree.of_bodySF (plainFor_of_name pn_1) hisR ?_
  intro p e s m args below meth c s₁ Bd hml0 hP hK
  obtain ⟨rfl, hZ, hh⟩ := hP
  have hx := Bd.exec
  have hby := Bd.bytes
  have hml : c.maxLocals = 2 := hml0
  have hown : s.vm.findClass "com/example/tenet/tenet/term/IntTerm" = some m.cls := findClass_of_methodNamed Bd.named
  have hnm := (name_of_methodNamed Bd.named Bd.method).1
  have X0 : Stand p l e ({ frames := 3, cells := 1, slots := 2, locals := 40 } : Room) s m #[(.long q1)] below meth c s₁ [] 0 0 := Stand.of_body Bd
  have e0 : s₁.heap = h0 := by rw [← hh, Bd.state]; rfl
  have N0 := Fr.nil n0
  have pre0 : ∀ t, Steps p.tables e below (s₁.setTop (mkF m 0 #[.val (.long q1), .second] [])) t → Steps p.tables e below (s₁.setTop (entryFrame m #[(.long q1)] 2)) t := fun t k => castTop (ef_1 m q1) k
  obtain ⟨T2, h2, X2, e2, E2, A2, D2, -, st2⟩ := newO X0 hx hZ hown (hw _ (List.mem_of_getElem? (i := 5) rfl)) (hw _ (List.mem_of_getElem? (i := 6) rfl)) (hw _ (List.mem_of_getElem? (i := 3) rfl)) e0 (g := (mkF m 0 #[.val (.long q1), .second] [])) rfl (hb hby d1_0) (by decide) (by decide)
  obtain ⟨b2, g2⟩ : ∃ z, z = h0.size := ⟨_, rfl⟩
  rw [← g2] at A2 D2 st2
  have F_value_b2 : Fld Z h2 b2 "com/example/tenet/tenet/term/IntTerm" "value" "J" (.long (0 : Int64)) := D2 (Or.inr (hw _ (List.mem_of_getElem? (i := 19) rfl))) (ty := .long) (by decide)
  have F_index_b2 : Fld Z h2 b2 "com/example/tenet/tenet/term/IntTerm" "index" "I" (.int (0 : Int32)) := D2 (Or.inr (hw _ (List.mem_of_getElem? (i := 21) rfl))) (ty := .int) (by decide)
  have E_b2 := A2
  have g_b2 : n0 ≤ b2 := Nat.le_trans Z0 (Nat.le_of_eq g2.symm)
  have sz_b2 : h0.size ≤ b2 := (Nat.le_trans (Keep.refl h0 []).1 (Nat.le_of_eq g2.symm))
  have K2 : Keep h0 h2 [] := (Keep.refl h0 []).ext E2
  obtain ⟨_, _, ⟨T3, L3, k3, n3⟩, -, X3, ⟨Lc3, hQ3, l3, y3, z3⟩, st3⟩ := X2.specialBack hx (y := (⟨"com/example/tenet/tenet/term/IntTerm", "<init>", "(JI)V"⟩ : MethodName)) rfl hown (mvT hZ (hw _ (List.mem_of_getElem? (i := 7) rfl))) (mvT hZ (hw _ (List.mem_of_getElem? (i := 8) rfl))) (mvT hZ (hw _ (List.mem_of_getElem? (i := 9) rfl))) (by decide) (backOf (W := 1) (rm2 l Z a0 hw [] b2 q1 (-1 : Int32) (.long (0 : Int64)) (.int (0 : Int32)) h2 n0 (Nat.le_trans Z0 E2.1) E_b2 F_value_b2 g_b2 F_index_b2) hZ (hw _ (List.mem_of_getElem? (i := 9) rfl)) (hw _ (List.mem_of_getElem? (i := 3) rfl)) (by decide) (by decide)) (g := (mkF m 6 #[.val (.long q1), .second] [(.int (-1 : Int32)), (.long q1), (.ref b2), (.ref b2)])) rfl (by rw [hml]; rfl) (Steps.refl _) (a := b2) (argsL := [(.long q1), (.int (-1 : Int32))]) (rest := [(.ref b2)]) (lenOf pd_1_1 rfl) rfl (by show 2 * 0 + _ ≤ _; exact Nat.le_of_eq rfl) (hb hby d1_6) (fun _ _ => ⟨rfl, e2, (by decide : 1 + 0 ≤ _), (by decide : 2 + 0 ≤ _)⟩)
  dsimp only [Pt.U, Pt.locs, Pt.cells, Pt.slots] at X3 l3 y3 z3 st3 hQ3
  subst l3 y3 z3
  obtain ⟨rfl, N3q, K3, E3⟩ := hQ3
  have N3 := Fr.app N0 N3q
  obtain ⟨fs, hr, hrun, hended, hW, hsame⟩ := X3.leave (v := some (.ref b2)) (fun h => by rw [Bd.returns] at h; cases h)
  refine ⟨_, _, pre0 _ ?_, hrun, hended, _, _, rfl, ?_, ⟨_, rfl⟩, hW, hsame.mono (by decide) (by decide)⟩
  · show Steps p.tables e below (s₁.setTop (mkF m 0 #[.val (.long q1), .second] [])) _
    refine st2 _ ?_
    show Steps p.tables e below (T2.setTop (mkF m 3 #[.val (.long q1), .second] [(.ref b2)])) _
    refine XS.dup X2.here hx rfl (hb hby d1_3) rfl rfl ?_
    show Steps p.tables e below (T2.setTop (mkF m 4 #[.val (.long q1), .second] [(.ref b2), (.ref b2)])) _
    refine XS.lloadN X2.here hx rfl (hb hby d1_4) rfl ?_
    show Steps p.tables e below (T2.setTop (mkF m 5 #[.val (.long q1), .second] [(.long q1), (.ref b2), (.ref b2)])) _
    refine XS.iconst X2.here hx rfl (hb hby d1_5) ?_
    show Steps p.tables e below (T2.setTop (mkF m 6 #[.val (.long q1), .second] [(.int (-1 : Int32)), (.long q1), (.ref b2), (.ref b2)])) _
    refine st3.trans ?_
    show Steps p.tables e below (T3.setTop (mkF m 9 #[.val (.long q1), .second] [(.ref b2)])) _
    jvm_step X3.here [X3.here.top, hx, (hb hby d1_9), X3.method', Bd.returns, Value.isRef, FieldType.isReference]
    first | (intro acts; rw [hr _ acts rfl rfl rfl]) | rw [hr _ _ rfl rfl rfl]
    exact Steps.refl _
  · show Q1 Z q1 h0 n0 _ T3.heap _
    exact ⟨b2, rfl, N3, Nat.le_trans E2.1 K3.1, E3⟩
theorem d7_0 : decode jdk_65_method_103_code 0 = .ok (.iconst 0, 1) := by decide +kernel
theorem d7_1 : decode jdk_65_method_103_code 1 = .ok (.istore_n 2, 1) := by decide +kernel
theorem d7_2 : decode jdk_65_method_103_code 2 = .ok (.aload_n 0, 1) := by decide +kernel
theorem d7_3 : decode jdk_65_method_103_code 3 = .ok (.arraylength, 1) := by decide +kernel
theorem d7_4 : decode jdk_65_method_103_code 4 = .ok (.istore_n 3, 1) := by decide +kernel
theorem d7_5 : decode jdk_65_method_103_code 5 = .ok (.iload_n 2, 1) := by decide +kernel
theorem d7_6 : decode jdk_65_method_103_code 6 = .ok (.iload_n 3, 1) := by decide +kernel
theorem d7_7 : decode jdk_65_method_103_code 7 = .ok (.if_icmp .ge 13, 3) := by decide +kernel
theorem d7_10 : decode jdk_65_method_103_code 10 = .ok (.aload_n 0, 1) := by decide +kernel
theorem d7_11 : decode jdk_65_method_103_code 11 = .ok (.iload_n 2, 1) := by decide +kernel
theorem d7_12 : decode jdk_65_method_103_code 12 = .ok (.iload_n 1, 1) := by decide +kernel
theorem d7_13 : decode jdk_65_method_103_code 13 = .ok (.iastore, 1) := by decide +kernel
theorem d7_14 : decode jdk_65_method_103_code 14 = .ok (.iinc 2 1, 3) := by decide +kernel
theorem d7_17 : decode jdk_65_method_103_code 17 = .ok (.goto (-12), 3) := by decide +kernel
theorem d7_20 : decode jdk_65_method_103_code 20 = .ok (.return_, 1) := by decide +kernel
theorem pn_7 : plainName "java/util/Arrays" = true := by first | (simp [plainName, overriddenIn]; done) | decide +kernel
theorem ef_7 (m : MethodId) (x0 : Addr) (x1 : Int32) : entryFrame m #[(.ref x0), (.int x1)] 4 = (mkF m 0 #[.val (.ref x0), .val (.int x1), .unset, .unset] []) := by first | (simp [entryFrame, mkF, argsToLocals, Value.category]; done) | rfl
def Q7 (Z : State) (x0 : Addr) (x1 : Int32) (kb : ClassId) (h0 : Heap) (n0 : Nat) (v : Option Value) (h : Heap) (L : List Loc) : Prop := v = none ∧ Fr n0 L ∧ Keep h0 h [x0] ∧ Arv Z h x0 kb .int (3 : Int32) [(.int x1), (.int x1), (.int x1)] (.int (0 : Int32))
set_option maxRecDepth 65536 in
set_option maxHeartbeats 40000000 in
theorem rm7 (l : Launch) (Z : State) (a0 : Array Value) (hw : ∀ d ∈ tables_1, d.before a0 Z = true) (ws : List Jvm.Cond) (x0 : Addr) (x1 : Int32) (kb : ClassId) (h0 : Heap) (n0 : Nat) (Z0 : n0 ≤ h0.size) (V : Arv Z h0 x0 kb .int (3 : Int32) [(.int (0 : Int32)), (.int (0 : Int32)), (.int (0 : Int32))] (.int (0 : Int32))) (gx : n0 ≤ x0) :
    MetFree l (⟨"java/util/Arrays", "fill", "([II)V"⟩ : MethodName) (head1 (Jvm.Cond.code (⟨"java/util/Arrays", "fill", "([II)V"⟩ : MethodName) jdk_65_method_103_code 4 none :: ws) ({ frames := 0, cells := 0, slots := 0, locals := 0 } : Room)) (fun a U => a = #[(.ref x0), (.int x1)] ∧ Z.Warmed39 U.vm ∧ U.heap = h0) (fun _ _ _ _ _ => True) (fun _ U o U' => ∃ v L, o = .returned v ∧ Q7 Z x0 x1 kb h0 n0 v U'.heap L ∧ FrameEnd U o U' L ({ frames := 0, cells := 0, slots := 0, locals := 0 } : Room).cells ({ frames := 0, cells := 0, slots := 0, locals := 0 } : Room).slots) := by
  refine MetFree.of_bodySF (plainFor_of_name pn_7) hisR ?_
  intro p e s m args below meth c s₁ Bd hml0 hP hK
  obtain ⟨rfl, hZ, hh⟩ := hP
  have hx := Bd.exec
  have hby := Bd.bytes
  have hml : c.maxLocals = 4 := hml0
  have hown : s.vm.findClass "java/util/Arrays" = some m.cls := findClass_of_methodNamed Bd.named
  have hnm := (name_of_methodNamed Bd.named Bd.method).1
  have X0 : Stand p l e ({ frames := 0, cells := 0, slots := 0, locals := 0 } : Room) s m #[(.ref x0), (.int x1)] below meth c s₁ [] 0 0 := Stand.of_body Bd
  have e0 : s₁.heap = h0 := by rw [← hh, Bd.state]; rfl
  have N0 := Fr.nil n0
  have pre0 : ∀ t, Steps p.tables e below (s₁.setTop (mkF m 0 #[.val (.ref x0), .val (.int x1), .unset, .unset] [])) t → Steps p.tables e below (s₁.setTop (entryFrame m #[(.ref x0), (.int x1)] 4)) t := fun t k => castTop (ef_7 m x0 x1) k
  obtain ⟨cV, ArV, qV, sV, mV, HV, GV⟩ := id V
  obtain ⟨c1, Ar1, q1, S1, M1, H1, G1⟩ := id V
  obtain ⟨T1, h1, X1, e1, W1, st1⟩ := stI X0 hx hZ e0 Ar1 (j := (0 : Int32)) (inb_of S1 ⟨by decide, by decide⟩) (g := (mkF m 13 #[.val (.ref x0), .val (.int x1), .val (.int (0 : Int32)), .val (.int (3 : Int32))] [(.int x1), (.int (0 : Int32)), (.ref x0)])) rfl rfl (hb hby d7_13)
  have V1 : Arv Z h1 x0 kb .int (3 : Int32) [(.int x1), (.int (0 : Int32)), (.int (0 : Int32))] (.int (0 : Int32)) := Arv.set Ar1 q1 S1 M1 H1 G1 rfl W1 0 rfl (Nat.le_of_ble_eq_true rfl)
  have N1 := Fr.snoc X1 N0 gx
  have K1 : Keep h0 h1 [x0] := (Keep.refl h0 [x0]).wr W1 (Or.inl (List.mem_of_getElem? (i := 0) rfl))
  obtain ⟨c2, Ar2, q2, S2, M2, H2, G2⟩ := id V1
  obtain ⟨T2, h2, X2, e2, W2, st2⟩ := stI X1 hx hZ e1 Ar2 (j := ((0 : Int32) + (1 : Int32))) (inb_of S2 ⟨by decide, by decide⟩) (g := (mkF m 13 #[.val (.ref x0), .val (.int x1), .val (.int ((0 : Int32) + (1 : Int32))), .val (.int (3 : Int32))] [(.int x1), (.int ((0 : Int32) + (1 : Int32))), (.ref x0)])) rfl rfl (hb hby d7_13)
  have V2 : Arv Z h2 x0 kb .int (3 : Int32) [(.int x1), (.int x1), (.int (0 : Int32))] (.int (0 : Int32)) := Arv.set Ar2 q2 S2 M2 H2 G2 rfl W2 1 rfl (Nat.le_of_ble_eq_true rfl)
  have N2 := Fr.snoc X2 N1 gx
  have K2 : Keep h0 h2 [x0] := K1.wr W2 (Or.inl (List.mem_of_getElem? (i := 0) rfl))
  obtain ⟨c3, Ar3, q3, S3, M3, H3, G3⟩ := id V2
  obtain ⟨T3, h3, X3, e3, W3, st3⟩ := stI X2 hx hZ e2 Ar3 (j := (((0 : Int32) + (1 : Int32)) + (1 : Int32))) (inb_of S3 ⟨by decide, by decide⟩) (g := (mkF m 13 #[.val (.ref x0), .val (.int x1), .val (.int (((0 : Int32) + (1 : Int32)) + (1 : Int32))), .val (.int (3 : Int32))] [(.int x1), (.int (((0 : Int32) + (1 : Int32)) + (1 : Int32))), (.ref x0)])) rfl rfl (hb hby d7_13)
  have V3 : Arv Z h3 x0 kb .int (3 : Int32) [(.int x1), (.int x1), (.int x1)] (.int (0 : Int32)) := Arv.set Ar3 q3 S3 M3 H3 G3 rfl W3 2 rfl (Nat.le_of_ble_eq_true rfl)
  have N3 := Fr.snoc X3 N2 gx
  have K3 : Keep h0 h3 [x0] := K2.wr W3 (Or.inl (List.mem_of_getElem? (i := 0) rfl))
  obtain ⟨fs, hr, hrun, hended, hW, hsame⟩ := X3.leave (v := none) (fun _ => rfl)
  refine ⟨_, _, pre0 _ ?_, hrun, hended, _, _, rfl, ?_, ⟨_, rfl⟩, hW, hsame.mono (by decide) (by decide)⟩
  · show Steps p.tables e below (s₁.setTop (mkF m 0 #[.val (.ref x0), .val (.int x1), .unset, .unset] [])) _
    refine XS.iconst X0.here hx rfl (hb hby d7_0) ?_
    show Steps p.tables e below (s₁.setTop (mkF m 1 #[.val (.ref x0), .val (.int x1), .unset, .unset] [(.int (0 : Int32))])) _
    refine XS.istoreN X0.here hx rfl (hb hby d7_1) rfl (l' := #[.val (.ref x0), .val (.int x1), .val (.int (0 : Int32)), .unset]) rfl ?_
    show Steps p.tables e below (s₁.setTop (mkF m 2 #[.val (.ref x0), .val (.int x1), .val (.int (0 : Int32)), .unset] [])) _
    refine XS.aloadN X0.here hx rfl (hb hby d7_2) rfl rfl ?_
    show Steps p.tables e below (s₁.setTop (mkF m 3 #[.val (.ref x0), .val (.int x1), .val (.int (0 : Int32)), .unset] [(.ref x0)])) _
    refine X0.arraylength hx (by rw [e0]; exact ArV.1) (State.isArrayOf_alike hZ.alike ArV.2.1) (g := (mkF m 3 #[.val (.ref x0), .val (.int x1), .val (.int (0 : Int32)), .unset] [(.ref x0)])) rfl rfl (hb hby d7_3) _ ?_
    rw [len_of sV mV]
    show Steps p.tables e below (s₁.setTop (mkF m 4 #[.val (.ref x0), .val (.int x1), .val (.int (0 : Int32)), .unset] [(.int (3 : Int32))])) _
    refine XS.istoreN X0.here hx rfl (hb hby d7_4) rfl (l' := #[.val (.ref x0), .val (.int x1), .val (.int (0 : Int32)), .val (.int (3 : Int32))]) rfl ?_
    show Steps p.tables e below (s₁.setTop (mkF m 5 #[.val (.ref x0), .val (.int x1), .val (.int (0 : Int32)), .val (.int (3 : Int32))] [])) _
    refine XS.iloadN X0.here hx rfl (hb hby d7_5) rfl ?_
    show Steps p.tables e below (s₁.setTop (mkF m 6 #[.val (.ref x0), .val (.int x1), .val (.int (0 : Int32)), .val (.int (3 : Int32))] [(.int (0 : Int32))])) _
    refine XS.iloadN X0.here hx rfl (hb hby d7_6) rfl ?_
    show Steps p.tables e below (s₁.setTop (mkF m 7 #[.val (.ref x0), .val (.int x1), .val (.int (0 : Int32)), .val (.int (3 : Int32))] [(.int (3 : Int32)), (.int (0 : Int32))])) _
    refine XS.icmpNo X0.here hx rfl (hb hby d7_7) rfl (tlt (by decide : (0 : Int32) < (3 : Int32))).2.1 ?_
    show Steps p.tables e below (s₁.setTop (mkF m 10 #[.val (.ref x0), .val (.int x1), .val (.int (0 : Int32)), .val (.int (3 : Int32))] [])) _
    refine XS.aloadN X0.here hx rfl (hb hby d7_10) rfl rfl ?_
    show Steps p.tables e below (s₁.setTop (mkF m 11 #[.val (.ref x0), .val (.int x1), .val (.int (0 : Int32)), .val (.int (3 : Int32))] [(.ref x0)])) _
    refine XS.iloadN X0.here hx rfl (hb hby d7_11) rfl ?_
    show Steps p.tables e below (s₁.setTop (mkF m 12 #[.val (.ref x0), .val (.int x1), .val (.int (0 : Int32)), .val (.int (3 : Int32))] [(.int (0 : Int32)), (.ref x0)])) _
    refine XS.iloadN X0.here hx rfl (hb hby d7_12) rfl ?_
    show Steps p.tables e below (s₁.setTop (mkF m 13 #[.val (.ref x0), .val (.int x1), .val (.int (0 : Int32)), .val (.int (3 : Int32))] [(.int x1), (.int (0 : Int32)), (.ref x0)])) _
    refine st1 _ ?_
    show Steps p.tables e below (T1.setTop (mkF m 14 #[.val (.ref x0), .val (.int x1), .val (.int (0 : Int32)), .val (.int (3 : Int32))] [])) _
    refine XS.iinc X1.here hx rfl (hb hby d7_14) rfl (l' := #[.val (.ref x0), .val (.int x1), .val (.int ((0 : Int32) + (1 : Int32))), .val (.int (3 : Int32))]) rfl ?_
    show Steps p.tables e below (T1.setTop (mkF m 17 #[.val (.ref x0), .val (.int x1), .val (.int ((0 : Int32) + (1 : Int32))), .val (.int (3 : Int32))] [])) _
    refine XS.goto X1.here hx rfl (pc0 := 17) (pc' := 5) rfl (hb hby d7_17) (by decide) (by decide) ?_
    show Steps p.tables e below (T1.setTop (mkF m 5 #[.val (.ref x0), .val (.int x1), .val (.int ((0 : Int32) + (1 : Int32))), .val (.int (3 : Int32))] [])) _
    refine XS.iloadN X1.here hx rfl (hb hby d7_5) rfl ?_
    show Steps p.tables e below (T1.setTop (mkF m 6 #[.val (.ref x0), .val (.int x1), .val (.int ((0 : Int32) + (1 : Int32))), .val (.int (3 : Int32))] [(.int ((0 : Int32) + (1 : Int32)))])) _
    refine XS.iloadN X1.here hx rfl (hb hby d7_6) rfl ?_
    show Steps p.tables e below (T1.setTop (mkF m 7 #[.val (.ref x0), .val (.int x1), .val (.int ((0 : Int32) + (1 : Int32))), .val (.int (3 : Int32))] [(.int (3 : Int32)), (.int ((0 : Int32) + (1 : Int32)))])) _
    refine XS.icmpNo X1.here hx rfl (hb hby d7_7) rfl (tlt (by decide : ((0 : Int32) + (1 : Int32)) < (3 : Int32))).2.1 ?_
    show Steps p.tables e below (T1.setTop (mkF m 10 #[.val (.ref x0), .val (.int x1), .val (.int ((0 : Int32) + (1 : Int32))), .val (.int (3 : Int32))] [])) _
    refine XS.aloadN X1.here hx rfl (hb hby d7_10) rfl rfl ?_
    show Steps p.tables e below (T1.setTop (mkF m 11 #[.val (.ref x0), .val (.int x1), .val (.int ((0 : Int32) + (1 : Int32))), .val (.int (3 : Int32))] [(.ref x0)])) _
    refine XS.iloadN X1.here hx rfl (hb hby d7_11) rfl ?_
    show Steps p.tables e below (T1.setTop (mkF m 12 #[.val (.ref x0), .val (.int x1), .val (.int ((0 : Int32) + (1 : Int32))), .val (.int (3 : Int32))] [(.int ((0 : Int32) + (1 : Int32))), (.ref x0)])) _
    refine XS.iloadN X1.here hx rfl (hb hby d7_12) rfl ?_
    show Steps p.tables e below (T1.setTop (mkF m 13 #[.val (.ref x0), .val (.int x1), .val (.int ((0 : Int32) + (1 : Int32))), .val (.int (3 : Int32))] [(.int x1), (.int ((0 : Int32) + (1 : Int32))), (.ref x0)])) _
    refine st2 _ ?_
    show Steps p.tables e below (T2.setTop (mkF m 14 #[.val (.ref x0), .val (.int x1), .val (.int ((0 : Int32) + (1 : Int32))), .val (.int (3 : Int32))] [])) _
    refine XS.iinc X2.here hx rfl (hb hby d7_14) rfl (l' := #[.val (.ref x0), .val (.int x1), .val (.int (((0 : Int32) + (1 : Int32)) + (1 : Int32))), .val (.int (3 : Int32))]) rfl ?_
    show Steps p.tables e below (T2.setTop (mkF m 17 #[.val (.ref x0), .val (.int x1), .val (.int (((0 : Int32) + (1 : Int32)) + (1 : Int32))), .val (.int (3 : Int32))] [])) _
    refine XS.goto X2.here hx rfl (pc0 := 17) (pc' := 5) rfl (hb hby d7_17) (by decide) (by decide) ?_
    show Steps p.tables e below (T2.setTop (mkF m 5 #[.val (.ref x0), .val (.int x1), .val (.int (((0 : Int32) + (1 : Int32)) + (1 : Int32))), .val (.int (3 : Int32))] [])) _
    refine XS.iloadN X2.here hx rfl (hb hby d7_5) rfl ?_
    show Steps p.tables e below (T2.setTop (mkF m 6 #[.val (.ref x0), .val (.int x1), .val (.int (((0 : Int32) + (1 : Int32)) + (1 : Int32))), .val (.int (3 : Int32))] [(.int (((0 : Int32) + (1 : Int32)) + (1 : Int32)))])) _
    refine XS.iloadN X2.here hx rfl (hb hby d7_6) rfl ?_
    show Steps p.tables e below (T2.setTop (mkF m 7 #[.val (.ref x0), .val (.int x1), .val (.int (((0 : Int32) + (1 : Int32)) + (1 : Int32))), .val (.int (3 : Int32))] [(.int (3 : Int32)), (.int (((0 : Int32) + (1 : Int32)) + (1 : Int32)))])) _
    refine XS.icmpNo X2.here hx rfl (hb hby d7_7) rfl (tlt (by decide : (((0 : Int32) + (1 : Int32)) + (1 : Int32)) < (3 : Int32))).2.1 ?_
    show Steps p.tables e below (T2.setTop (mkF m 10 #[.val (.ref x0), .val (.int x1), .val (.int (((0 : Int32) + (1 : Int32)) + (1 : Int32))), .val (.int (3 : Int32))] [])) _
    refine XS.aloadN X2.here hx rfl (hb hby d7_10) rfl rfl ?_
    show Steps p.tables e below (T2.setTop (mkF m 11 #[.val (.ref x0), .val (.int x1), .val (.int (((0 : Int32) + (1 : Int32)) + (1 : Int32))), .val (.int (3 : Int32))] [(.ref x0)])) _
    refine XS.iloadN X2.here hx rfl (hb hby d7_11) rfl ?_
    show Steps p.tables e below (T2.setTop (mkF m 12 #[.val (.ref x0), .val (.int x1), .val (.int (((0 : Int32) + (1 : Int32)) + (1 : Int32))), .val (.int (3 : Int32))] [(.int (((0 : Int32) + (1 : Int32)) + (1 : Int32))), (.ref x0)])) _
    refine XS.iloadN X2.here hx rfl (hb hby d7_12) rfl ?_
    show Steps p.tables e below (T2.setTop (mkF m 13 #[.val (.ref x0), .val (.int x1), .val (.int (((0 : Int32) + (1 : Int32)) + (1 : Int32))), .val (.int (3 : Int32))] [(.int x1), (.int (((0 : Int32) + (1 : Int32)) + (1 : Int32))), (.ref x0)])) _
    refine st3 _ ?_
    show Steps p.tables e below (T3.setTop (mkF m 14 #[.val (.ref x0), .val (.int x1), .val (.int (((0 : Int32) + (1 : Int32)) + (1 : Int32))), .val (.int (3 : Int32))] [])) _
    refine XS.iinc X3.here hx rfl (hb hby d7_14) rfl (l' := #[.val (.ref x0), .val (.int x1), .val (.int ((((0 : Int32) + (1 : Int32)) + (1 : Int32)) + (1 : Int32))), .val (.int (3 : Int32))]) rfl ?_
    show Steps p.tables e below (T3.setTop (mkF m 17 #[.val (.ref x0), .val (.int x1), .val (.int ((((0 : Int32) + (1 : Int32)) + (1 : Int32)) + (1 : Int32))), .val (.int (3 : Int32))] [])) _
    refine XS.goto X3.here hx rfl (pc0 := 17) (pc' := 5) rfl (hb hby d7_17) (by decide) (by decide) ?_
    show Steps p.tables e below (T3.setTop (mkF m 5 #[.val (.ref x0), .val (.int x1), .val (.int ((((0 : Int32) + (1 : Int32)) + (1 : Int32)) + (1 : Int32))), .val (.int (3 : Int32))] [])) _
    refine XS.iloadN X3.here hx rfl (hb hby d7_5) rfl ?_
    show Steps p.tables e below (T3.setTop (mkF m 6 #[.val (.ref x0), .val (.int x1), .val (.int ((((0 : Int32) + (1 : Int32)) + (1 : Int32)) + (1 : Int32))), .val (.int (3 : Int32))] [(.int ((((0 : Int32) + (1 : Int32)) + (1 : Int32)) + (1 : Int32)))])) _
    refine XS.iloadN X3.here hx rfl (hb hby d7_6) rfl ?_
    show Steps p.tables e below (T3.setTop (mkF m 7 #[.val (.ref x0), .val (.int x1), .val (.int ((((0 : Int32) + (1 : Int32)) + (1 : Int32)) + (1 : Int32))), .val (.int (3 : Int32))] [(.int (3 : Int32)), (.int ((((0 : Int32) + (1 : Int32)) + (1 : Int32)) + (1 : Int32)))])) _
    refine XS.icmpYes X3.here hx rfl (pc0 := 7) (pc' := 20) rfl (hb hby d7_7) rfl (flt (by decide : ¬ (((((0 : Int32) + (1 : Int32)) + (1 : Int32)) + (1 : Int32)) < (3 : Int32)))).2.1 (by decide) (by decide) ?_
    show Steps p.tables e below (T3.setTop (mkF m 20 #[.val (.ref x0), .val (.int x1), .val (.int ((((0 : Int32) + (1 : Int32)) + (1 : Int32)) + (1 : Int32))), .val (.int (3 : Int32))] [])) _
    exact X3.returnOut hx Bd.returns (hb hby d7_20) hr
  · show Q7 Z x0 x1 kb h0 n0 _ T3.heap _
    rw [e3]
    exact ⟨rfl, N3, K3, V3⟩
theorem d6_0 : decode prog_144_method_2_code 0 = .ok (.aload_n 0, 1) := by decide +kernel
theorem d6_1 : decode prog_144_method_2_code 1 = .ok (.invokespecial 7, 3) := by decide +kernel
theorem d6_4 : decode prog_144_method_2_code 4 = .ok (.aload_n 0, 1) := by decide +kernel
theorem d6_5 : decode prog_144_method_2_code 5 = .ok (.iload_n 1, 1) := by decide +kernel
theorem d6_6 : decode prog_144_method_2_code 6 = .ok (.anewarray 12, 3) := by decide +kernel
theorem d6_9 : decode prog_144_method_2_code 9 = .ok (.putfield 14, 3) := by decide +kernel
theorem d6_12 : decode prog_144_method_2_code 12 = .ok (.aload_n 0, 1) := by decide +kernel
theorem d6_13 : decode prog_144_method_2_code 13 = .ok (.iload_n 1, 1) := by decide +kernel
theorem d6_14 : decode prog_144_method_2_code 14 = .ok (.newarray .int, 2) := by decide +kernel
theorem d6_16 : decode prog_144_method_2_code 16 = .ok (.putfield 18, 3) := by decide +kernel
theorem d6_19 : decode prog_144_method_2_code 19 = .ok (.aload_n 0, 1) := by decide +kernel
theorem d6_20 : decode prog_144_method_2_code 20 = .ok (.aload_n 2, 1) := by decide +kernel
theorem d6_21 : decode prog_144_method_2_code 21 = .ok (.putfield 22, 3) := by decide +kernel
theorem d6_24 : decode prog_144_method_2_code 24 = .ok (.aload_n 0, 1) := by decide +kernel
theorem d6_25 : decode prog_144_method_2_code 25 = .ok (.getfield 18, 3) := by decide +kernel
theorem d6_28 : decode prog_144_method_2_code 28 = .ok (.iconst (-1), 1) := by decide +kernel
theorem d6_29 : decode prog_144_method_2_code 29 = .ok (.invokestatic 26, 3) := by decide +kernel
theorem d6_32 : decode prog_144_method_2_code 32 = .ok (.return_, 1) := by decide +kernel
theorem pn_6 : plainName "com/example/tenet/tenet/term/Slots" = true := by first | (simp [plainName, overriddenIn]; done) | decide +kernel
theorem pd_6_5 : parseMethodDescriptor "([II)V" = some ⟨[(.array .int), .int], none⟩ := by decide +kernel
theorem ef_6 (m : MethodId) (x0 : Addr) (x1 : Int32) : entryFrame m #[(.ref x0), (.int x1), .null] 3 = mkF m 0 #[.val (.ref x0), .val (.int x1), .val .null] [] := by first | (simp [entryFrame, mkF, argsToLocals, Value.category]; done) | rfl
def Q6 (Z : State) (a1 : Addr) (u_terms_a1 : Value) (u_nodes_a1 : Value) (u_tree_a1 : Value) (h0 : Heap) (n0 : Nat) (v : Option Value) (h : Heap) (L : List Loc) : Prop := v = none ∧ Fr n0 L ∧ ∃ (a b : Addr) (ka kb : ClassId), h0.size ≤ h.size ∧ (∀ (y : Addr) (C : String), Exa Z h0 y C → Exa Z h y C) ∧ n0 ≤ a ∧ n0 ≤ b ∧ Exa Z h a1 "com/example/tenet/tenet/term/Slots" ∧ Fld Z h a1 "com/example/tenet/tenet/term/Slots" "terms" "[Lcom/example/tenet/tenet/term/Term;" (.ref a) ∧ Fld Z h a1 "com/example/tenet/tenet/term/Slots" "nodes" "[I" (.ref b) ∧ Fld Z h a1 "com/example/tenet/tenet/term/Slots" "tree" "Lcom/example/tenet/tenet/term/Tree;" .null ∧ Arv Z h a ka (.object "com/example/tenet/tenet/term/Term") (3 : Int32) [.null, .null, .null] .null ∧ Arv Z h b kb .int (3 : Int32) [(.int (-1 : Int32)), (.int (-1 : Int32)), (.int (-1 : Int32))] (.int (0 : Int32)) ∧ Ovr Z ka "com/example/tenet/tenet/term/Term" ∧ a1 ≠ a ∧ a1 ≠ b ∧ a ≠ b
set_option maxRecDepth 65536 in
set_option maxHeartbeats 40000000 in
theorem rm6 (l : Launch) (Z : State) (a0 : Array Value) (hw : ∀ d ∈ tables_1, d.before a0 Z = true) (ws : List Jvm.Cond) (a1 : Addr) (u_terms_a1 : Value) (u_nodes_a1 : Value) (u_tree_a1 : Value) (h0 : Heap) (n0 : Nat) (Z0 : n0 ≤ h0.size) (E_a1 : Exa Z h0 a1 "com/example/tenet/tenet/term/Slots") (F_terms_a1 : Fld Z h0 a1 "com/example/tenet/tenet/term/Slots" "terms" "[Lcom/example/tenet/tenet/term/Term;" u_terms_a1) (g_a1 : n0 ≤ a1) (F_nodes_a1 : Fld Z h0 a1 "com/example/tenet/tenet/term/Slots" "nodes" "[I" u_nodes_a1) (F_tree_a1 : Fld Z h0 a1 "com/example/tenet/tenet/term/Slots" "tree" "Lcom/example/tenet/tenet/term/Tree;" u_tree_a1) :
    MetFree l (⟨"com/example/tenet/tenet/term/Slots", "<init>", "(ILcom/example/tenet/tenet/term/Tree;)V"⟩ : MethodName) (head1 (Jvm.Cond.code (⟨"com/example/tenet/tenet/term/Slots", "<init>", "(ILcom/example/tenet/tenet/term/Tree;)V"⟩ : MethodName) prog_144_method_2_code 3 none :: ws) ({ frames := 1, cells := 2, slots := 6, locals := 15 } : Room)) (fun a U => a = #[(.ref a1), (.int (3 : Int32)), .null] ∧ Z.Warmed39 U.vm ∧ U.heap = h0) (fun _ _ _ _ _ => True) (fun _ U o U' => ∃ v L, o = .returned v ∧ Q6 Z a1 u_terms_a1 u_nodes_a1 u_tree_a1 h0 n0 v U'.heap L ∧ FrameEnd U o U' L ({ frames := 1, cells := 2, slots := 6, locals := 15 } : Room).cells ({ frames := 1, cells := 2, slots := 6, locals := 15 } : Room).slots) := by
  refine MetFree.of_bodySF (plainFor_of_name pn_6) hisR ?_
  intro p e s m args below meth c s₁ Bd hml0 hP hK
  obtain ⟨rfl, hZ, hh⟩ := hP
  have hx := Bd.exec
  have hby := Bd.bytes
  have hml : c.maxLocals = 3 := hml0
  have hown : s.vm.findClass "com/example/tenet/tenet/term/Slots" = some m.cls := findClass_of_methodNamed Bd.named
  have hnm := (name_of_methodNamed Bd.named Bd.method).1
  have X0 : Stand p l e ({ frames := 1, cells := 2, slots := 6, locals := 15 } : Room) s m #[(.ref a1), (.int (3 : Int32)), .null] below meth c s₁ [] 0 0 := Stand.of_body Bd
  have e0 : s₁.heap = h0 := by rw [← hh, Bd.state]; rfl
  have N0 := Fr.nil n0
  have pre0 : ∀ t, Steps p.tables e below (s₁.setTop (mkF m 0 #[.val (.ref a1), .val (.int (3 : Int32)), .val .null] [])) t → Steps p.tables e below (s₁.setTop (entryFrame m #[(.ref a1), (.int (3 : Int32)), .null] 3)) t := fun t k => castTop (ef_6 m a1 (3 : Int32)) k
  obtain ⟨T3, X3, e3, st3⟩ := initO X0 hx hZ hown (hw _ (List.mem_of_getElem? (i := 31) rfl)) (hw _ (List.mem_of_getElem? (i := 16) rfl)) (hw _ (List.mem_of_getElem? (i := 17) rfl)) e0 (g := (mkF m 1 #[.val (.ref a1), .val (.int (3 : Int32)), .val .null] [(.ref a1)])) rfl (by rw [hml]; rfl) rfl (hb hby d6_1) (by decide) (W := 0) (by show 2 * 0 + _ ≤ _; exact Nat.le_of_eq rfl) (by decide)
  obtain ⟨T4, h4, k4, X4, e4, E4, A4, O4, st4⟩ := newR X3 hx hZ hown (hw _ (List.mem_of_getElem? (i := 32) rfl)) (hw _ (List.mem_of_getElem? (i := 33) rfl)) e3 (g := (mkF m 6 #[.val (.ref a1), .val (.int (3 : Int32)), .val .null] [(.int (3 : Int32)), (.ref a1)])) rfl (hb hby d6_6) rfl (by decide) (cap := 3) (by decide) (by decide) (by decide) (by decide)
  obtain ⟨b4, g4⟩ : ∃ z, z = h0.size := ⟨_, rfl⟩
  rw [← g4] at A4 st4
  have V_b4 : Arv Z h4 b4 k4 (.object "com/example/tenet/tenet/term/Term") (3 : Int32) [.null, .null, .null] .null := (Arv.new A4 (by decide)).pad (pad_rep [] .null 3)
  have ne1 : a1 ≠ b4 := Nat.ne_of_lt (Nat.lt_of_lt_of_le E_a1.lt (Nat.le_of_eq g4.symm))
  have g_b4 : n0 ≤ b4 := Nat.le_trans Z0 (Nat.le_of_eq g4.symm)
  have sz_b4 : h0.size ≤ b4 := (Nat.le_trans (Keep.refl h0 [a1]).1 (Nat.le_of_eq g4.symm))
  have K4 : Keep h0 h4 [a1] := (Keep.refl h0 [a1]).ext E4
  obtain ⟨T5, h5, X5, e5, W5, st5⟩ := putF X4 hx hZ hown (host := "") (Or.inl (hw _ (List.mem_of_getElem? (i := 34) rfl))) Via.refl e4 (F_terms_a1.ext E4) (E_a1.ext E4) (Or.inr ⟨(hw _ (List.mem_of_getElem? (i := 35) rfl)), rfl, hnm⟩) (hw _ (List.mem_of_getElem? (i := 23) rfl)) (ty := (.array (.object "com/example/tenet/tenet/term/Term"))) (by decide) rfl rfl (g := (mkF m 9 #[.val (.ref a1), .val (.int (3 : Int32)), .val .null] [(.ref b4), (.ref a1)])) rfl rfl (hb hby d6_9)
  have Fw5 := (F_terms_a1.ext E4).same W5
  have K5 : Keep h0 h5 [a1] := K4.wr W5 (Or.inl (List.mem_of_getElem? (i := 0) rfl))
  have N5 := Fr.snoc X5 N0 g_a1
  obtain ⟨T6, h6, k6, X6, e6, E6, A6, st6⟩ := newP X5 hx hZ (hw _ (List.mem_of_getElem? (i := 36) rfl)) e5 (g := (mkF m 14 #[.val (.ref a1), .val (.int (3 : Int32)), .val .null] [(.int (3 : Int32)), (.ref a1)])) rfl (hb hby d6_14) rfl (by decide) (cap := 3) (by decide) (by decide) (by decide) (by decide)
  obtain ⟨b6, g6⟩ : ∃ z, z = h5.size := ⟨_, rfl⟩
  rw [← g6] at A6 st6
  have V_b6 : Arv Z h6 b6 k6 .int (3 : Int32) [(.int (0 : Int32)), (.int (0 : Int32)), (.int (0 : Int32))] (.int (0 : Int32)) := (Arv.new A6 (by decide)).pad (pad_rep [] (.int (0 : Int32)) 3)
  have ne2 : a1 ≠ b6 := Nat.ne_of_lt (Nat.lt_of_lt_of_le ((E_a1.ext E4).wr W5).lt (Nat.le_of_eq g6.symm))
  have ne3 : b4 ≠ b6 := Nat.ne_of_lt (Nat.lt_of_lt_of_le (V_b4.other W5 (Ne.symm ne1)).lt (Nat.le_of_eq g6.symm))
  have g_b6 : n0 ≤ b6 := Nat.le_trans (Nat.le_trans (Nat.le_trans Z0 E4.1) (Keep.of_wr W5).1) (Nat.le_of_eq g6.symm)
  have sz_b6 : h0.size ≤ b6 := (Nat.le_trans K5.1 (Nat.le_of_eq g6.symm))
  have K6 : Keep h0 h6 [a1] := K5.ext E6
  obtain ⟨T7, h7, X7, e7, W7, st7⟩ := putF X6 hx hZ hown (host := "") (Or.inl (hw _ (List.mem_of_getElem? (i := 37) rfl))) Via.refl e6 (((F_nodes_a1.ext E4).other W5 (Or.inr (slot_ne (Or.inr (hw _ (List.mem_of_getElem? (i := 38) rfl))) (Or.inr (hw _ (List.mem_of_getElem? (i := 35) rfl))) (by decide) (t := (.array .int)) (t' := (.array (.object "com/example/tenet/tenet/term/Term"))) (by decide) (by decide)))).ext E6) (((E_a1.ext E4).wr W5).ext E6) (Or.inr ⟨(hw _ (List.mem_of_getElem? (i := 38) rfl)), rfl, hnm⟩) (hw _ (List.mem_of_getElem? (i := 23) rfl)) (ty := (.array .int)) (by decide) rfl rfl (g := (mkF m 16 #[.val (.ref a1), .val (.int (3 : Int32)), .val .null] [(.ref b6), (.ref a1)])) rfl rfl (hb hby d6_16)
  have Fw7 := (((F_nodes_a1.ext E4).other W5 (Or.inr (slot_ne (Or.inr (hw _ (List.mem_of_getElem? (i := 38) rfl))) (Or.inr (hw _ (List.mem_of_getElem? (i := 35) rfl))) (by decide) (t := (.array .int)) (t' := (.array (.object "com/example/tenet/tenet/term/Term"))) (by decide) (by decide)))).ext E6).same W7
  have K7 : Keep h0 h7 [a1] := K6.wr W7 (Or.inl (List.mem_of_getElem? (i := 0) rfl))
  have N7 := Fr.snoc X7 N5 g_a1
  obtain ⟨T8, h8, X8, e8, W8, st8⟩ := putF X7 hx hZ hown (host := "") (Or.inl (hw _ (List.mem_of_getElem? (i := 39) rfl))) Via.refl e7 ((((F_tree_a1.ext E4).other W5 (Or.inr (slot_ne (Or.inr (hw _ (List.mem_of_getElem? (i := 40) rfl))) (Or.inr (hw _ (List.mem_of_getElem? (i := 35) rfl))) (by decide) (t := (.object "com/example/tenet/tenet/term/Tree")) (t' := (.array (.object "com/example/tenet/tenet/term/Term"))) (by decide) (by decide)))).ext E6).other W7 (Or.inr (slot_ne (Or.inr (hw _ (List.mem_of_getElem? (i := 40) rfl))) (Or.inr (hw _ (List.mem_of_getElem? (i := 38) rfl))) (by decide) (t := (.object "com/example/tenet/tenet/term/Tree")) (t' := (.array .int)) (by decide) (by decide)))) ((((E_a1.ext E4).wr W5).ext E6).wr W7) (Or.inr ⟨(hw _ (List.mem_of_getElem? (i := 40) rfl)), rfl, hnm⟩) (hw _ (List.mem_of_getElem? (i := 23) rfl)) (ty := (.object "com/example/tenet/tenet/term/Tree")) (by decide) rfl rfl (g := (mkF m 21 #[.val (.ref a1), .val (.int (3 : Int32)), .val .null] [.null, (.ref a1)])) rfl rfl (hb hby d6_21)
  have Fw8 := ((((F_tree_a1.ext E4).other W5 (Or.inr (slot_ne (Or.inr (hw _ (List.mem_of_getElem? (i := 40) rfl))) (Or.inr (hw _ (List.mem_of_getElem? (i := 35) rfl))) (by decide) (t := (.object "com/example/tenet/tenet/term/Tree")) (t' := (.array (.object "com/example/tenet/tenet/term/Term"))) (by decide) (by decide)))).ext E6).other W7 (Or.inr (slot_ne (Or.inr (hw _ (List.mem_of_getElem? (i := 40) rfl))) (Or.inr (hw _ (List.mem_of_getElem? (i := 38) rfl))) (by decide) (t := (.object "com/example/tenet/tenet/term/Tree")) (t' := (.array .int)) (by decide) (by decide)))).same W8
  have K8 : Keep h0 h8 [a1] := K7.wr W8 (Or.inl (List.mem_of_getElem? (i := 0) rfl))
  have N8 := Fr.snoc X8 N7 g_a1
  obtain ⟨T9, X9, e9, st9⟩ := getF X8 hx hZ hown (host := "") (Or.inl (hw _ (List.mem_of_getElem? (i := 37) rfl))) Via.refl e8 (Fw7.other W8 (Or.inr (slot_ne (Or.inr (hw _ (List.mem_of_getElem? (i := 38) rfl))) (Or.inr (hw _ (List.mem_of_getElem? (i := 40) rfl))) (by decide) (t := (.array .int)) (t' := (.object "com/example/tenet/tenet/term/Tree")) (by decide) (by decide)))) (g := (mkF m 25 #[.val (.ref a1), .val (.int (3 : Int32)), .val .null] [(.ref a1)])) rfl rfl (hb hby d6_25)
  obtain ⟨_, _, ⟨T10, L10, k10, n10⟩, -, X10, ⟨Lc10, hQ10, l10, y10, z10⟩, st10⟩ := Jvm.LawKit.callS X9 hx (y := (⟨"java/util/Arrays", "fill", "([II)V"⟩ : MethodName)) hown (mvT hZ (hw _ (List.mem_of_getElem? (i := 41) rfl))) (mvT hZ (hw _ (List.mem_of_getElem? (i := 42) rfl))) (mvT hZ (hw _ (List.mem_of_getElem? (i := 43) rfl))) (mvT hZ (hw _ (List.mem_of_getElem? (i := 44) rfl))) (by decide) (backOf (W := 0) (rm7 l Z a0 hw [] b6 (-1 : Int32) k6 h8 n0 (Nat.le_trans Z0 K8.1) ((V_b6.other W7 (Ne.symm ne2)).other W8 (Ne.symm ne2)) g_b6) hZ (hw _ (List.mem_of_getElem? (i := 44) rfl)) (hw _ (List.mem_of_getElem? (i := 43) rfl)) (by decide) (by decide)) (g := (mkF m 29 #[.val (.ref a1), .val (.int (3 : Int32)), .val .null] [(.int (-1 : Int32)), (.ref b6)])) rfl (by rw [hml]; rfl) (argsL := [(.ref b6), (.int (-1 : Int32))]) (rest := []) (lenOf pd_6_5 rfl) rfl (by show 2 * 0 + _ ≤ _; exact Nat.le_of_eq rfl) (hb hby d6_29) (fun _ _ => ⟨rfl, e9, (by decide : 2 + 0 ≤ _), (by decide : 6 + 0 ≤ _)⟩)
  dsimp only [Pt.U, Pt.locs, Pt.cells, Pt.slots] at X10 l10 y10 z10 st10 hQ10
  subst l10 y10 z10
  obtain ⟨rfl, N10q, K10, U6⟩ := hQ10
  have N10 := Fr.app N8 N10q
  have K68 : Keep h0 T10.heap [a1] := K8.trans K10 (fun x hx => by cases List.mem_singleton.mp hx; exact Or.inr sz_b6)
  have nin1 : a1 ∉ [b6] := fun q => ne2 (List.mem_singleton.mp q)
  have nin2 : b4 ∉ [b6] := fun q => ne3 (List.mem_singleton.mp q)
  have E10 : Exa Z T10.heap a1 "com/example/tenet/tenet/term/Slots" := (((((E_a1.ext E4).wr W5).ext E6).wr W7).wr W8).keep K10
  have G1 : Fld Z T10.heap a1 "com/example/tenet/tenet/term/Slots" "terms" "[Lcom/example/tenet/tenet/term/Term;" (.ref b4) := (((Fw5.ext E6).other W7 (Or.inr (slot_ne (Or.inr (hw _ (List.mem_of_getElem? (i := 35) rfl))) (Or.inr (hw _ (List.mem_of_getElem? (i := 38) rfl))) (by decide) (t := (.array (.object "com/example/tenet/tenet/term/Term"))) (t' := (.array .int)) (by decide) (by decide)))).other W8 (Or.inr (slot_ne (Or.inr (hw _ (List.mem_of_getElem? (i := 35) rfl))) (Or.inr (hw _ (List.mem_of_getElem? (i := 40) rfl))) (by decide) (t := (.array (.object "com/example/tenet/tenet/term/Term"))) (t' := (.object "com/example/tenet/tenet/term/Tree")) (by decide) (by decide)))).keep K10 nin1
  have G2 : Fld Z T10.heap a1 "com/example/tenet/tenet/term/Slots" "nodes" "[I" (.ref b6) := (Fw7.other W8 (Or.inr (slot_ne (Or.inr (hw _ (List.mem_of_getElem? (i := 38) rfl))) (Or.inr (hw _ (List.mem_of_getElem? (i := 40) rfl))) (by decide) (t := (.array .int)) (t' := (.object "com/example/tenet/tenet/term/Tree")) (by decide) (by decide)))).keep K10 nin1
  have G3 : Fld Z T10.heap a1 "com/example/tenet/tenet/term/Slots" "tree" "Lcom/example/tenet/tenet/term/Tree;" .null := Fw8.keep K10 nin1
  have U4 : Arv Z T10.heap b4 k4 (.object "com/example/tenet/tenet/term/Term") (3 : Int32) [.null, .null, .null] .null := ((((V_b4.other W5 (Ne.symm ne1)).ext E6).other W7 (Ne.symm ne1)).other W8 (Ne.symm ne1)).keep K10 nin2
  obtain ⟨fs, hr, hrun, hended, hW, hsame⟩ := X10.leave (v := none) (fun _ => rfl)
  refine ⟨_, _, pre0 _ ?_, hrun, hended, _, _, rfl, ?_, ⟨_, rfl⟩, hW, hsame.mono (by decide) (by decide)⟩
  · show Steps p.tables e below (s₁.setTop (mkF m 0 #[.val (.ref a1), .val (.int (3 : Int32)), .val .null] [])) _
    refine XS.aloadN X0.here hx rfl (hb hby d6_0) rfl rfl ?_
    show Steps p.tables e below (s₁.setTop (mkF m 1 #[.val (.ref a1), .val (.int (3 : Int32)), .val .null] [(.ref a1)])) _
    refine st3 _ ?_
    show Steps p.tables e below (T3.setTop (mkF m 4 #[.val (.ref a1), .val (.int (3 : Int32)), .val .null] [])) _
    refine XS.aloadN X3.here hx rfl (hb hby d6_4) rfl rfl ?_
    show Steps p.tables e below (T3.setTop (mkF m 5 #[.val (.ref a1), .val (.int (3 : Int32)), .val .null] [(.ref a1)])) _
    refine XS.iloadN X3.here hx rfl (hb hby d6_5) rfl ?_
    show Steps p.tables e below (T3.setTop (mkF m 6 #[.val (.ref a1), .val (.int (3 : Int32)), .val .null] [(.int (3 : Int32)), (.ref a1)])) _
    refine st4 _ ?_
    show Steps p.tables e below (T4.setTop (mkF m 9 #[.val (.ref a1), .val (.int (3 : Int32)), .val .null] [(.ref b4), (.ref a1)])) _
    refine st5 _ ?_
    show Steps p.tables e below (T5.setTop (mkF m 12 #[.val (.ref a1), .val (.int (3 : Int32)), .val .null] [])) _
    refine XS.aloadN X5.here hx rfl (hb hby d6_12) rfl rfl ?_
    show Steps p.tables e below (T5.setTop (mkF m 13 #[.val (.ref a1), .val (.int (3 : Int32)), .val .null] [(.ref a1)])) _
    refine XS.iloadN X5.here hx rfl (hb hby d6_13) rfl ?_
    show Steps p.tables e below (T5.setTop (mkF m 14 #[.val (.ref a1), .val (.int (3 : Int32)), .val .null] [(.int (3 : Int32)), (.ref a1)])) _
    refine st6 _ ?_
    show Steps p.tables e below (T6.setTop (mkF m 16 #[.val (.ref a1), .val (.int (3 : Int32)), .val .null] [(.ref b6), (.ref a1)])) _
    refine st7 _ ?_
    show Steps p.tables e below (T7.setTop (mkF m 19 #[.val (.ref a1), .val (.int (3 : Int32)), .val .null] [])) _
    refine XS.aloadN X7.here hx rfl (hb hby d6_19) rfl rfl ?_
    show Steps p.tables e below (T7.setTop (mkF m 20 #[.val (.ref a1), .val (.int (3 : Int32)), .val .null] [(.ref a1)])) _
    refine XS.aloadN X7.here hx rfl (hb hby d6_20) rfl rfl ?_
    show Steps p.tables e below (T7.setTop (mkF m 21 #[.val (.ref a1), .val (.int (3 : Int32)), .val .null] [.null, (.ref a1)])) _
    refine st8 _ ?_
    show Steps p.tables e below (T8.setTop (mkF m 24 #[.val (.ref a1), .val (.int (3 : Int32)), .val .null] [])) _
    refine XS.aloadN X8.here hx rfl (hb hby d6_24) rfl rfl ?_
    show Steps p.tables e below (T8.setTop (mkF m 25 #[.val (.ref a1), .val (.int (3 : Int32)), .val .null] [(.ref a1)])) _
    refine st9 _ ?_
    show Steps p.tables e below (T9.setTop (mkF m 28 #[.val (.ref a1), .val (.int (3 : Int32)), .val .null] [(.ref b6)])) _
    refine XS.iconst X9.here hx rfl (hb hby d6_28) ?_
    show Steps p.tables e below (T9.setTop (mkF m 29 #[.val (.ref a1), .val (.int (3 : Int32)), .val .null] [(.int (-1 : Int32)), (.ref b6)])) _
    refine st10 _ ?_
    show Steps p.tables e below (T10.setTop (mkF m 32 #[.val (.ref a1), .val (.int (3 : Int32)), .val .null] [])) _
    exact X10.returnOut hx Bd.returns (hb hby d6_32) hr
  · show Q6 Z a1 u_terms_a1 u_nodes_a1 u_tree_a1 h0 n0 _ T10.heap _
    exact ⟨rfl, N10, b4, b6, k4, k6, K68.1, fun y C E => E.keep K68, g_b4, g_b6, E10, G1, G2, G3, U4, U6, O4, ne1, ne2, ne3⟩
theorem d5_0 : decode prog_144_method_1_code 0 = .ok (.aload_n 0, 1) := by decide +kernel
theorem d5_1 : decode prog_144_method_1_code 1 = .ok (.iload_n 1, 1) := by decide +kernel
theorem d5_2 : decode prog_144_method_1_code 2 = .ok (.aconst_null, 1) := by decide +kernel
theorem d5_3 : decode prog_144_method_1_code 3 = .ok (.invokespecial 1, 3) := by decide +kernel
theorem d5_6 : decode prog_144_method_1_code 6 = .ok (.return_, 1) := by decide +kernel
theorem pn_5 : plainName "com/example/tenet/tenet/term/Slots" = true := by first | (simp [plainName, overriddenIn]; done) | decide +kernel
theorem pd_5_4 : parseMethodDescriptor "(ILcom/example/tenet/tenet/term/Tree;)V" = some ⟨[.int, (.object "com/example/tenet/tenet/term/Tree")], none⟩ := by decide +kernel
theorem ef_5 (m : MethodId) (x0 : Addr) (x1 : Int32) : entryFrame m #[(.ref x0), (.int x1)] 2 = mkF m 0 #[.val (.ref x0), .val (.int x1)] [] := by first | (simp [entryFrame, mkF, argsToLocals, Value.category]; done) | rfl
def Q5 (Z : State) (a1 : Addr) (u_terms_a1 : Value) (u_nodes_a1 : Value) (u_tree_a1 : Value) (h0 : Heap) (n0 : Nat) (v : Option Value) (h : Heap) (L : List Loc) : Prop := v = none ∧ Fr n0 L ∧ ∃ (a b : Addr) (ka kb : ClassId), h0.size ≤ h.size ∧ (∀ (y : Addr) (C : String), Exa Z h0 y C → Exa Z h y C) ∧ n0 ≤ a ∧ n0 ≤ b ∧ Exa Z h a1 "com/example/tenet/tenet/term/Slots" ∧ Fld Z h a1 "com/example/tenet/tenet/term/Slots" "terms" "[Lcom/example/tenet/tenet/term/Term;" (.ref a) ∧ Fld Z h a1 "com/example/tenet/tenet/term/Slots" "nodes" "[I" (.ref b) ∧ Fld Z h a1 "com/example/tenet/tenet/term/Slots" "tree" "Lcom/example/tenet/tenet/term/Tree;" .null ∧ Arv Z h a ka (.object "com/example/tenet/tenet/term/Term") (3 : Int32) [.null, .null, .null] .null ∧ Arv Z h b kb .int (3 : Int32) [(.int (-1 : Int32)), (.int (-1 : Int32)), (.int (-1 : Int32))] (.int (0 : Int32)) ∧ Ovr Z ka "com/example/tenet/tenet/term/Term" ∧ a1 ≠ a ∧ a1 ≠ b ∧ a ≠ b
set_option maxRecDepth 65536 in
set_option maxHeartbeats 40000000 in
theorem rm5 (l : Launch) (Z : State) (a0 : Array Value) (hw : ∀ d ∈ tables_1, d.before a0 Z = true) (ws : List Jvm.Cond) (a1 : Addr) (u_terms_a1 : Value) (u_nodes_a1 : Value) (u_tree_a1 : Value) (h0 : Heap) (n0 : Nat) (Z0 : n0 ≤ h0.size) (E_a1 : Exa Z h0 a1 "com/example/tenet/tenet/term/Slots") (F_terms_a1 : Fld Z h0 a1 "com/example/tenet/tenet/term/Slots" "terms" "[Lcom/example/tenet/tenet/term/Term;" u_terms_a1) (g_a1 : n0 ≤ a1) (F_nodes_a1 : Fld Z h0 a1 "com/example/tenet/tenet/term/Slots" "nodes" "[I" u_nodes_a1) (F_tree_a1 : Fld Z h0 a1 "com/example/tenet/tenet/term/Slots" "tree" "Lcom/example/tenet/tenet/term/Tree;" u_tree_a1) :
    MetFree l (⟨"com/example/tenet/tenet/term/Slots", "<init>", "(I)V"⟩ : MethodName) (head1 (Jvm.Cond.code (⟨"com/example/tenet/tenet/term/Slots", "<init>", "(I)V"⟩ : MethodName) prog_144_method_1_code 2 none :: ws) ({ frames := 2, cells := 2, slots := 6, locals := 29 } : Room)) (fun a U => a = #[(.ref a1), (.int (3 : Int32))] ∧ Z.Warmed39 U.vm ∧ U.heap = h0) (fun _ _ _ _ _ => True) (fun _ U o U' => ∃ v L, o = .returned v ∧ Q5 Z a1 u_terms_a1 u_nodes_a1 u_tree_a1 h0 n0 v U'.heap L ∧ FrameEnd U o U' L ({ frames := 2, cells := 2, slots := 6, locals := 29 } : Room).cells ({ frames := 2, cells := 2, slots := 6, locals := 29 } : Room).slots) := by
  refine MetFree.of_bodySF (plainFor_of_name pn_5) hisR ?_
  intro p e s m args below meth c s₁ Bd hml0 hP hK
  obtain ⟨rfl, hZ, hh⟩ := hP
  have hx := Bd.exec
  have hby := Bd.bytes
  have hml : c.maxLocals = 2 := hml0
  have hown : s.vm.findClass "com/example/tenet/tenet/term/Slots" = some m.cls := findClass_of_methodNamed Bd.named
  have hnm := (name_of_methodNamed Bd.named Bd.method).1
  have X0 : Stand p l e ({ frames := 2, cells := 2, slots := 6, locals := 29 } : Room) s m #[(.ref a1), (.int (3 : Int32))] below meth c s₁ [] 0 0 := Stand.of_body Bd
  have e0 : s₁.heap = h0 := by rw [← hh, Bd.state]; rfl
  have N0 := Fr.nil n0
  have pre0 : ∀ t, Steps p.tables e below (s₁.setTop (mkF m 0 #[.val (.ref a1), .val (.int (3 : Int32))] [])) t → Steps p.tables e below (s₁.setTop (entryFrame m #[(.ref a1), (.int (3 : Int32))] 2)) t := fun t k => castTop (ef_5 m a1 (3 : Int32)) k
  obtain ⟨_, _, ⟨T3, L3, k3, n3⟩, -, X3, ⟨Lc3, hQ3, l3, y3, z3⟩, st3⟩ := X0.specialBack hx (y := (⟨"com/example/tenet/tenet/term/Slots", "<init>", "(ILcom/example/tenet/tenet/term/Tree;)V"⟩ : MethodName)) rfl hown (mvT hZ (hw _ (List.mem_of_getElem? (i := 28) rfl))) (mvT hZ (hw _ (List.mem_of_getElem? (i := 29) rfl))) (mvT hZ (hw _ (List.mem_of_getElem? (i := 30) rfl))) (by decide) (backOf (W := 0) (rm6 l Z a0 hw [] a1 u_terms_a1 u_nodes_a1 u_tree_a1 h0 n0 Z0 E_a1 F_terms_a1 g_a1 F_nodes_a1 F_tree_a1) hZ (hw _ (List.mem_of_getElem? (i := 30) rfl)) (hw _ (List.mem_of_getElem? (i := 24) rfl)) (by decide) (by decide)) (g := (mkF m 3 #[.val (.ref a1), .val (.int (3 : Int32))] [.null, (.int (3 : Int32)), (.ref a1)])) rfl (by rw [hml]; rfl) (Steps.refl _) (a := a1) (argsL := [(.int (3 : Int32)), .null]) (rest := []) (lenOf pd_5_4 rfl) rfl (by show 2 * 0 + _ ≤ _; exact Nat.le_of_eq rfl) (hb hby d5_3) (fun _ _ => ⟨rfl, e0, (by decide : 0 + 2 ≤ _), (by decide : 0 + 6 ≤ _)⟩)
  dsimp only [Pt.U, Pt.locs, Pt.cells, Pt.slots] at X3 l3 y3 z3 st3 hQ3
  subst l3 y3 z3
  obtain ⟨rfl, N3q, hq⟩ := hQ3
  have N3 := Fr.app N0 N3q
  obtain ⟨fs, hr, hrun, hended, hW, hsame⟩ := X3.leave (v := none) (fun _ => rfl)
  refine ⟨_, _, pre0 _ ?_, hrun, hended, _, _, rfl, ?_, ⟨_, rfl⟩, hW, hsame.mono (by decide) (by decide)⟩
  · show Steps p.tables e below (s₁.setTop (mkF m 0 #[.val (.ref a1), .val (.int (3 : Int32))] [])) _
    refine XS.aloadN X0.here hx rfl (hb hby d5_0) rfl rfl ?_
    show Steps p.tables e below (s₁.setTop (mkF m 1 #[.val (.ref a1), .val (.int (3 : Int32))] [(.ref a1)])) _
    refine XS.iloadN X0.here hx rfl (hb hby d5_1) rfl ?_
    show Steps p.tables e below (s₁.setTop (mkF m 2 #[.val (.ref a1), .val (.int (3 : Int32))] [(.int (3 : Int32)), (.ref a1)])) _
    refine XS.aconstNull X0.here hx rfl (hb hby d5_2) ?_
    show Steps p.tables e below (s₁.setTop (mkF m 3 #[.val (.ref a1), .val (.int (3 : Int32))] [.null, (.int (3 : Int32)), (.ref a1)])) _
    refine st3.trans ?_
    show Steps p.tables e below (T3.setTop (mkF m 6 #[.val (.ref a1), .val (.int (3 : Int32))] [])) _
    exact X3.returnOut hx Bd.returns (hb hby d5_6) hr
  · show Q5 Z a1 u_terms_a1 u_nodes_a1 u_tree_a1 h0 n0 _ T3.heap _
    exact ⟨rfl, N3, hq⟩
theorem d14_0 : decode prog_144_method_7_code 0 = .ok (.aload_n 0, 1) := by decide +kernel
theorem d14_1 : decode prog_144_method_7_code 1 = .ok (.getfield 14, 3) := by decide +kernel
theorem d14_4 : decode prog_144_method_7_code 4 = .ok (.iload_n 1, 1) := by decide +kernel
theorem d14_5 : decode prog_144_method_7_code 5 = .ok (.aload_n 2, 1) := by decide +kernel
theorem d14_6 : decode prog_144_method_7_code 6 = .ok (.aastore, 1) := by decide +kernel
theorem d14_7 : decode prog_144_method_7_code 7 = .ok (.aload_n 0, 1) := by decide +kernel
theorem d14_8 : decode prog_144_method_7_code 8 = .ok (.getfield 18, 3) := by decide +kernel
theorem d14_11 : decode prog_144_method_7_code 11 = .ok (.iload_n 1, 1) := by decide +kernel
theorem d14_12 : decode prog_144_method_7_code 12 = .ok (.iconst (-1), 1) := by decide +kernel
theorem d14_13 : decode prog_144_method_7_code 13 = .ok (.iastore, 1) := by decide +kernel
theorem d14_14 : decode prog_144_method_7_code 14 = .ok (.return_, 1) := by decide +kernel
theorem pn_14 : plainName "com/example/tenet/tenet/term/Slots" = true := by first | (simp [plainName, overriddenIn]; done) | decide +kernel
theorem ef_14 (m : MethodId) (x0 : Addr) (x1 : Int32) (x2 : Addr) : entryFrame m #[(.ref x0), (.int x1), (.ref x2)] 3 = mkF m 0 #[.val (.ref x0), .val (.int x1), .val (.ref x2)] [] := by first | (simp [entryFrame, mkF, argsToLocals, Value.category]; done) | rfl
def Q14 (Z : State) (a1 : Addr) (p2 : Int32) (a3 : Addr) (w4 w7 : Addr) (ka kb : ClassId) (vs ns : List Value) (h0 : Heap) (n0 : Nat) (v : Option Value) (h : Heap) (L : List Loc) : Prop := v = none ∧ Fr n0 L ∧ h0.size ≤ h.size ∧ Sl Z h a1 w4 w7 a3 ka kb (vs.set p2.toNatClampNeg (.ref a3)) (ns.set p2.toNatClampNeg (.int (-1 : Int32)))
set_option maxRecDepth 65536 in
set_option maxHeartbeats 40000000 in
theorem rm14 (l : Launch) (Z : State) (a0 : Array Value) (hw : ∀ d ∈ tables_1, d.before a0 Z = true) (ws : List Jvm.Cond) (a1 : Addr) (p2 : Int32) (a3 : Addr) (w4 w7 : Addr) (ka kb : ClassId) (vs ns : List Value) (h0 : Heap) (n0 : Nat) (Z0 : n0 ≤ h0.size) (S : Sl Z h0 a1 w4 w7 a3 ka kb vs ns) (hp : ¬ p2 < 0 ∧ p2 < 3) (g_w4 : n0 ≤ w4) (g_w7 : n0 ≤ w7) :
    MetFree l (⟨"com/example/tenet/tenet/term/Slots", "set", "(ILcom/example/tenet/tenet/term/Term;)V"⟩ : MethodName) (head1 (Jvm.Cond.code (⟨"com/example/tenet/tenet/term/Slots", "set", "(ILcom/example/tenet/tenet/term/Term;)V"⟩ : MethodName) prog_144_method_7_code 3 none :: ws) ({ frames := 0, cells := 0, slots := 0, locals := 0 } : Room)) (fun a U => a = #[(.ref a1), (.int p2), (.ref a3)] ∧ Z.Warmed39 U.vm ∧ U.heap = h0) (fun _ _ _ _ _ => True) (fun _ U o U' => ∃ v L, o = .returned v ∧ Q14 Z a1 p2 a3 w4 w7 ka kb vs ns h0 n0 v U'.heap L ∧ FrameEnd U o U' L ({ frames := 0, cells := 0, slots := 0, locals := 0 } : Room).cells ({ frames := 0, cells := 0, slots := 0, locals := 0 } : Room).slots) := by
  refine MetFree.of_bodySF (plainFor_of_name pn_14) hisR ?_
  intro p e s m args below meth c s₁ Bd hml0 hP hK
  obtain ⟨rfl, hZ, hh⟩ := hP
  have hx := Bd.exec
  have hby := Bd.bytes
  have hml : c.maxLocals = 3 := hml0
  have hown : s.vm.findClass "com/example/tenet/tenet/term/Slots" = some m.cls := findClass_of_methodNamed Bd.named
  have hnm := (name_of_methodNamed Bd.named Bd.method).1
  have X0 : Stand p l e ({ frames := 0, cells := 0, slots := 0, locals := 0 } : Room) s m #[(.ref a1), (.int p2), (.ref a3)] below meth c s₁ [] 0 0 := Stand.of_body Bd
  have e0 : s₁.heap = h0 := by rw [← hh, Bd.state]; rfl
  have N0 := Fr.nil n0
  have pre0 : ∀ t, Steps p.tables e below (s₁.setTop (mkF m 0 #[.val (.ref a1), .val (.int p2), .val (.ref a3)] [])) t → Steps p.tables e below (s₁.setTop (entryFrame m #[(.ref a1), (.int p2), (.ref a3)] 3)) t := fun t k => castTop (ef_14 m a1 p2 a3) k
  obtain ⟨E_a1, F_terms_a1, F_nodes_a1, F_tree_a1, V1, V2, Sto0, ⟨ne1, ne2, ne3⟩, l1, l2⟩ := id S
  obtain ⟨cl_w4, Ar_w4, q1, zs1, m1, H1, G1⟩ := id V1
  obtain ⟨cl_w7, Ar_w7, q2, zs2, m2, H2, G2⟩ := id V2
  have hin6 := inb_of zs1 hp
  have hin13 := inb_of zs2 hp
  obtain ⟨T5, X5, e5, st5⟩ := getF X0 hx hZ hown (host := "") (Or.inl (hw _ (List.mem_of_getElem? (i := 34) rfl))) Via.refl e0 F_terms_a1 (g := (mkF m 1 #[.val (.ref a1), .val (.int p2), .val (.ref a3)] [(.ref a1)])) rfl rfl (hb hby d14_1)
  obtain ⟨T6, h6, X6, e6, W6, st6⟩ := stR X5 hx hZ e5 Ar_w4 (j := p2) hin6 rfl Sto0 (g := (mkF m 6 #[.val (.ref a1), .val (.int p2), .val (.ref a3)] [(.ref a3), (.int p2), (.ref w4)])) rfl rfl (hb hby d14_6)
  have N6 := Fr.snoc X6 N0 g_w4
  have K6 : Keep h0 h6 [w4, w7] := (Keep.refl h0 [w4, w7]).wr W6 (Or.inl (List.mem_of_getElem? (i := 0) rfl))
  obtain ⟨T8, X8, e8, st8⟩ := getF X6 hx hZ hown (host := "") (Or.inl (hw _ (List.mem_of_getElem? (i := 37) rfl))) Via.refl e6 (F_nodes_a1.other W6 (Or.inl ne1)) (g := (mkF m 8 #[.val (.ref a1), .val (.int p2), .val (.ref a3)] [(.ref a1)])) rfl rfl (hb hby d14_8)
  obtain ⟨T9, h9, X9, e9, W9, st9⟩ := stI X8 hx hZ e8 (Ar_w7.other W6 (Ne.symm ne3)) (j := p2) hin13 (g := (mkF m 13 #[.val (.ref a1), .val (.int p2), .val (.ref a3)] [(.int (-1 : Int32)), (.int p2), (.ref w7)])) rfl rfl (hb hby d14_13)
  have N9 := Fr.snoc X9 N6 g_w7
  have K9 : Keep h0 h9 [w4, w7] := K6.wr W9 (Or.inl (List.mem_of_getElem? (i := 1) rfl))
  obtain ⟨fs, hr, hrun, hended, hW, hsame⟩ := X9.leave (v := none) (fun _ => rfl)
  refine ⟨_, _, pre0 _ ?_, hrun, hended, _, _, rfl, ?_, ⟨_, rfl⟩, hW, hsame.mono (by decide) (by decide)⟩
  · show Steps p.tables e below (s₁.setTop (mkF m 0 #[.val (.ref a1), .val (.int p2), .val (.ref a3)] [])) _
    refine XS.aloadN X0.here hx rfl (hb hby d14_0) rfl rfl ?_
    show Steps p.tables e below (s₁.setTop (mkF m 1 #[.val (.ref a1), .val (.int p2), .val (.ref a3)] [(.ref a1)])) _
    refine st5 _ ?_
    show Steps p.tables e below (T5.setTop (mkF m 4 #[.val (.ref a1), .val (.int p2), .val (.ref a3)] [(.ref w4)])) _
    refine XS.iloadN X5.here hx rfl (hb hby d14_4) rfl ?_
    show Steps p.tables e below (T5.setTop (mkF m 5 #[.val (.ref a1), .val (.int p2), .val (.ref a3)] [(.int p2), (.ref w4)])) _
    refine XS.aloadN X5.here hx rfl (hb hby d14_5) rfl rfl ?_
    show Steps p.tables e below (T5.setTop (mkF m 6 #[.val (.ref a1), .val (.int p2), .val (.ref a3)] [(.ref a3), (.int p2), (.ref w4)])) _
    refine st6 _ ?_
    show Steps p.tables e below (T6.setTop (mkF m 7 #[.val (.ref a1), .val (.int p2), .val (.ref a3)] [])) _
    refine XS.aloadN X6.here hx rfl (hb hby d14_7) rfl rfl ?_
    show Steps p.tables e below (T6.setTop (mkF m 8 #[.val (.ref a1), .val (.int p2), .val (.ref a3)] [(.ref a1)])) _
    refine st8 _ ?_
    show Steps p.tables e below (T8.setTop (mkF m 11 #[.val (.ref a1), .val (.int p2), .val (.ref a3)] [(.ref w7)])) _
    refine XS.iloadN X8.here hx rfl (hb hby d14_11) rfl ?_
    show Steps p.tables e below (T8.setTop (mkF m 12 #[.val (.ref a1), .val (.int p2), .val (.ref a3)] [(.int p2), (.ref w7)])) _
    refine XS.iconst X8.here hx rfl (hb hby d14_12) ?_
    show Steps p.tables e below (T8.setTop (mkF m 13 #[.val (.ref a1), .val (.int p2), .val (.ref a3)] [(.int (-1 : Int32)), (.int p2), (.ref w7)])) _
    refine st9 _ ?_
    show Steps p.tables e below (T9.setTop (mkF m 14 #[.val (.ref a1), .val (.int p2), .val (.ref a3)] [])) _
    exact X9.returnOut hx Bd.returns (hb hby d14_14) hr
  · show Q14 Z a1 p2 a3 w4 w7 ka kb vs ns h0 n0 _ T9.heap _
    rw [e9]
    exact ⟨rfl, N9, K9.1, own_put S hp rfl W6 W9⟩
theorem d9_0 : decode prog_144_method_9_code 0 = .ok (.aload_n 2, 1) := by decide +kernel
theorem d9_1 : decode prog_144_method_9_code 1 = .ok (.aload_n 0, 1) := by decide +kernel
theorem d9_2 : decode prog_144_method_9_code 2 = .ok (.getfield 22, 3) := by decide +kernel
theorem d9_5 : decode prog_144_method_9_code 5 = .ok (.if_acmp .ne 20, 3) := by decide +kernel
theorem d9_8 : decode prog_144_method_9_code 8 = .ok (.aload_n 0, 1) := by decide +kernel
theorem d9_9 : decode prog_144_method_9_code 9 = .ok (.getfield 14, 3) := by decide +kernel
theorem d9_12 : decode prog_144_method_9_code 12 = .ok (.iload_n 1, 1) := by decide +kernel
theorem d9_13 : decode prog_144_method_9_code 13 = .ok (.aconst_null, 1) := by decide +kernel
theorem d9_14 : decode prog_144_method_9_code 14 = .ok (.aastore, 1) := by decide +kernel
theorem d9_15 : decode prog_144_method_9_code 15 = .ok (.aload_n 0, 1) := by decide +kernel
theorem d9_16 : decode prog_144_method_9_code 16 = .ok (.getfield 18, 3) := by decide +kernel
theorem d9_19 : decode prog_144_method_9_code 19 = .ok (.iload_n 1, 1) := by decide +kernel
theorem d9_20 : decode prog_144_method_9_code 20 = .ok (.iload_n 3, 1) := by decide +kernel
theorem d9_21 : decode prog_144_method_9_code 21 = .ok (.iastore, 1) := by decide +kernel
theorem d9_22 : decode prog_144_method_9_code 22 = .ok (.goto 13, 3) := by decide +kernel
theorem d9_35 : decode prog_144_method_9_code 35 = .ok (.return_, 1) := by decide +kernel
theorem pn_9 : plainName "com/example/tenet/tenet/term/Slots" = true := by first | (simp [plainName, overriddenIn]; done) | decide +kernel
theorem ef_9 (m : MethodId) (x0 : Addr) (x1 : Int32) (x3 : Int32) : entryFrame m #[(.ref x0), (.int x1), .null, (.int x3)] 4 = mkF m 0 #[.val (.ref x0), .val (.int x1), .val .null, .val (.int x3)] [] := by first | (simp [entryFrame, mkF, argsToLocals, Value.category]; done) | rfl
def Q9 (Z : State) (a1 : Addr) (p2 : Int32) (p4 : Int32) (tt : Addr) (w4 w7 : Addr) (ka kb : ClassId) (vs ns : List Value) (h0 : Heap) (n0 : Nat) (v : Option Value) (h : Heap) (L : List Loc) : Prop := v = none ∧ Fr n0 L ∧ h0.size ≤ h.size ∧ Sl Z h a1 w4 w7 tt ka kb (vs.set p2.toNatClampNeg .null) (ns.set p2.toNatClampNeg (.int p4))
set_option maxRecDepth 65536 in
set_option maxHeartbeats 40000000 in
theorem rm9 (l : Launch) (Z : State) (a0 : Array Value) (hw : ∀ d ∈ tables_1, d.before a0 Z = true) (ws : List Jvm.Cond) (a1 : Addr) (p2 : Int32) (p4 : Int32) (tt : Addr) (w4 w7 : Addr) (ka kb : ClassId) (vs ns : List Value) (h0 : Heap) (n0 : Nat) (Z0 : n0 ≤ h0.size) (S : Sl Z h0 a1 w4 w7 tt ka kb vs ns) (hp : ¬ p2 < 0 ∧ p2 < 3) (g_w4 : n0 ≤ w4) (g_w7 : n0 ≤ w7) :
    MetFree l (⟨"com/example/tenet/tenet/term/Slots", "setNode", "(ILcom/example/tenet/tenet/term/Tree;I)V"⟩ : MethodName) (head1 (Jvm.Cond.code (⟨"com/example/tenet/tenet/term/Slots", "setNode", "(ILcom/example/tenet/tenet/term/Tree;I)V"⟩ : MethodName) prog_144_method_9_code 4 none :: ws) ({ frames := 0, cells := 0, slots := 0, locals := 0 } : Room)) (fun a U => a = #[(.ref a1), (.int p2), .null, (.int p4)] ∧ Z.Warmed39 U.vm ∧ U.heap = h0) (fun _ _ _ _ _ => True) (fun _ U o U' => ∃ v L, o = .returned v ∧ Q9 Z a1 p2 p4 tt w4 w7 ka kb vs ns h0 n0 v U'.heap L ∧ FrameEnd U o U' L ({ frames := 0, cells := 0, slots := 0, locals := 0 } : Room).cells ({ frames := 0, cells := 0, slots := 0, locals := 0 } : Room).slots) := by
  refine MetFree.of_bodySF (plainFor_of_name pn_9) hisR ?_
  intro p e s m args below meth c s₁ Bd hml0 hP hK
  obtain ⟨rfl, hZ, hh⟩ := hP
  have hx := Bd.exec
  have hby := Bd.bytes
  have hml : c.maxLocals = 4 := hml0
  have hown : s.vm.findClass "com/example/tenet/tenet/term/Slots" = some m.cls := findClass_of_methodNamed Bd.named
  have hnm := (name_of_methodNamed Bd.named Bd.method).1
  have X0 : Stand p l e ({ frames := 0, cells := 0, slots := 0, locals := 0 } : Room) s m #[(.ref a1), (.int p2), .null, (.int p4)] below meth c s₁ [] 0 0 := Stand.of_body Bd
  have e0 : s₁.heap = h0 := by rw [← hh, Bd.state]; rfl
  have N0 := Fr.nil n0
  have pre0 : ∀ t, Steps p.tables e below (s₁.setTop (mkF m 0 #[.val (.ref a1), .val (.int p2), .val .null, .val (.int p4)] [])) t → Steps p.tables e below (s₁.setTop (entryFrame m #[(.ref a1), (.int p2), .null, (.int p4)] 4)) t := fun t k => castTop (ef_9 m a1 p2 p4) k
  obtain ⟨E_a1, F_terms_a1, F_nodes_a1, F_tree_a1, V1, V2, Sto0, ⟨ne1, ne2, ne3⟩, l1, l2⟩ := id S
  obtain ⟨cl_w4, Ar_w4, q1, zs1, m1, H1, G1⟩ := id V1
  obtain ⟨cl_w7, Ar_w7, q2, zs2, m2, H2, G2⟩ := id V2
  have hin14 := inb_of zs1 hp
  have hin21 := inb_of zs2 hp
  obtain ⟨T6, X6, e6, st6⟩ := getF X0 hx hZ hown (host := "") (Or.inl (hw _ (List.mem_of_getElem? (i := 39) rfl))) Via.refl e0 F_tree_a1 (g := (mkF m 2 #[.val (.ref a1), .val (.int p2), .val .null, .val (.int p4)] [(.ref a1), .null])) rfl rfl (hb hby d9_2)
  obtain ⟨T8, X8, e8, st8⟩ := getF X6 hx hZ hown (host := "") (Or.inl (hw _ (List.mem_of_getElem? (i := 34) rfl))) Via.refl e6 F_terms_a1 (g := (mkF m 9 #[.val (.ref a1), .val (.int p2), .val .null, .val (.int p4)] [(.ref a1)])) rfl rfl (hb hby d9_9)
  obtain ⟨T9, h9, X9, e9, W9, st9⟩ := stR X8 hx hZ e8 Ar_w4 (j := p2) hin14 rfl (Or.inl rfl) (g := (mkF m 14 #[.val (.ref a1), .val (.int p2), .val .null, .val (.int p4)] [.null, (.int p2), (.ref w4)])) rfl rfl (hb hby d9_14)
  have N9 := Fr.snoc X9 N0 g_w4
  have K9 : Keep h0 h9 [w4, w7] := (Keep.refl h0 [w4, w7]).wr W9 (Or.inl (List.mem_of_getElem? (i := 0) rfl))
  obtain ⟨T11, X11, e11, st11⟩ := getF X9 hx hZ hown (host := "") (Or.inl (hw _ (List.mem_of_getElem? (i := 37) rfl))) Via.refl e9 (F_nodes_a1.other W9 (Or.inl ne1)) (g := (mkF m 16 #[.val (.ref a1), .val (.int p2), .val .null, .val (.int p4)] [(.ref a1)])) rfl rfl (hb hby d9_16)
  obtain ⟨T12, h12, X12, e12, W12, st12⟩ := stI X11 hx hZ e11 (Ar_w7.other W9 (Ne.symm ne3)) (j := p2) hin21 (g := (mkF m 21 #[.val (.ref a1), .val (.int p2), .val .null, .val (.int p4)] [(.int p4), (.int p2), (.ref w7)])) rfl rfl (hb hby d9_21)
  have N12 := Fr.snoc X12 N9 g_w7
  have K12 : Keep h0 h12 [w4, w7] := K9.wr W12 (Or.inl (List.mem_of_getElem? (i := 1) rfl))
  obtain ⟨fs, hr, hrun, hended, hW, hsame⟩ := X12.leave (v := none) (fun _ => rfl)
  refine ⟨_, _, pre0 _ ?_, hrun, hended, _, _, rfl, ?_, ⟨_, rfl⟩, hW, hsame.mono (by decide) (by decide)⟩
  · show Steps p.tables e below (s₁.setTop (mkF m 0 #[.val (.ref a1), .val (.int p2), .val .null, .val (.int p4)] [])) _
    refine XS.aloadN X0.here hx rfl (hb hby d9_0) rfl rfl ?_
    show Steps p.tables e below (s₁.setTop (mkF m 1 #[.val (.ref a1), .val (.int p2), .val .null, .val (.int p4)] [.null])) _
    refine XS.aloadN X0.here hx rfl (hb hby d9_1) rfl rfl ?_
    show Steps p.tables e below (s₁.setTop (mkF m 2 #[.val (.ref a1), .val (.int p2), .val .null, .val (.int p4)] [(.ref a1), .null])) _
    refine st6 _ ?_
    show Steps p.tables e below (T6.setTop (mkF m 5 #[.val (.ref a1), .val (.int p2), .val .null, .val (.int p4)] [.null, .null])) _
    refine Jvm.RoadKit.acmp (g := (mkF m 5 #[.val (.ref a1), .val (.int p2), .val .null, .val (.int p4)] [.null, .null])) X6 hx rfl rfl rfl (pc0 := 5) (pc' := 8) (same := true) rfl (hb hby d9_5) rfl (decide_eq_true rfl) (by decide) (by decide) ?_
    show Steps p.tables e below (T6.setTop (mkF m 8 #[.val (.ref a1), .val (.int p2), .val .null, .val (.int p4)] [])) _
    refine XS.aloadN X6.here hx rfl (hb hby d9_8) rfl rfl ?_
    show Steps p.tables e below (T6.setTop (mkF m 9 #[.val (.ref a1), .val (.int p2), .val .null, .val (.int p4)] [(.ref a1)])) _
    refine st8 _ ?_
    show Steps p.tables e below (T8.setTop (mkF m 12 #[.val (.ref a1), .val (.int p2), .val .null, .val (.int p4)] [(.ref w4)])) _
    refine XS.iloadN X8.here hx rfl (hb hby d9_12) rfl ?_
    show Steps p.tables e below (T8.setTop (mkF m 13 #[.val (.ref a1), .val (.int p2), .val .null, .val (.int p4)] [(.int p2), (.ref w4)])) _
    refine XS.aconstNull X8.here hx rfl (hb hby d9_13) ?_
    show Steps p.tables e below (T8.setTop (mkF m 14 #[.val (.ref a1), .val (.int p2), .val .null, .val (.int p4)] [.null, (.int p2), (.ref w4)])) _
    refine st9 _ ?_
    show Steps p.tables e below (T9.setTop (mkF m 15 #[.val (.ref a1), .val (.int p2), .val .null, .val (.int p4)] [])) _
    refine XS.aloadN X9.here hx rfl (hb hby d9_15) rfl rfl ?_
    show Steps p.tables e below (T9.setTop (mkF m 16 #[.val (.ref a1), .val (.int p2), .val .null, .val (.int p4)] [(.ref a1)])) _
    refine st11 _ ?_
    show Steps p.tables e below (T11.setTop (mkF m 19 #[.val (.ref a1), .val (.int p2), .val .null, .val (.int p4)] [(.ref w7)])) _
    refine XS.iloadN X11.here hx rfl (hb hby d9_19) rfl ?_
    show Steps p.tables e below (T11.setTop (mkF m 20 #[.val (.ref a1), .val (.int p2), .val .null, .val (.int p4)] [(.int p2), (.ref w7)])) _
    refine XS.iloadN X11.here hx rfl (hb hby d9_20) rfl ?_
    show Steps p.tables e below (T11.setTop (mkF m 21 #[.val (.ref a1), .val (.int p2), .val .null, .val (.int p4)] [(.int p4), (.int p2), (.ref w7)])) _
    refine st12 _ ?_
    show Steps p.tables e below (T12.setTop (mkF m 22 #[.val (.ref a1), .val (.int p2), .val .null, .val (.int p4)] [])) _
    refine XS.goto X12.here hx rfl (pc0 := 22) (pc' := 35) rfl (hb hby d9_22) (by decide) (by decide) ?_
    show Steps p.tables e below (T12.setTop (mkF m 35 #[.val (.ref a1), .val (.int p2), .val .null, .val (.int p4)] [])) _
    exact X12.returnOut hx Bd.returns (hb hby d9_35) hr
  · show Q9 Z a1 p2 p4 tt w4 w7 ka kb vs ns h0 n0 _ T12.heap _
    rw [e12]
    exact ⟨rfl, N12, K12.1, own_put S hp rfl W9 W12⟩
theorem d12_0 : decode prog_144_method_6_code 0 = .ok (.aload_n 0, 1) := by decide +kernel
theorem d12_1 : decode prog_144_method_6_code 1 = .ok (.getfield 18, 3) := by decide +kernel
theorem d12_4 : decode prog_144_method_6_code 4 = .ok (.iload_n 1, 1) := by decide +kernel
theorem d12_5 : decode prog_144_method_6_code 5 = .ok (.iaload, 1) := by decide +kernel
theorem d12_6 : decode prog_144_method_6_code 6 = .ok (.ireturn, 1) := by decide +kernel
theorem pn_12 : plainName "com/example/tenet/tenet/term/Slots" = true := by first | (simp [plainName, overriddenIn]; done) | decide +kernel
theorem ef_12 (m : MethodId) (x0 : Addr) (x1 : Int32) : entryFrame m #[(.ref x0), (.int x1)] 2 = mkF m 0 #[.val (.ref x0), .val (.int x1)] [] := by first | (simp [entryFrame, mkF, argsToLocals, Value.category]; done) | rfl
def Q12 (Z : State) (a1 : Addr) (p2 : Int32) (w5 : Int32) (tt : Addr) (w4 w7 : Addr) (ka kb : ClassId) (vs ns : List Value) (h0 : Heap) (n0 : Nat) (v : Option Value) (h : Heap) (L : List Loc) : Prop := v = some (.int w5) ∧ Fr n0 L ∧ h = h0
set_option maxRecDepth 65536 in
set_option maxHeartbeats 40000000 in
theorem rm12 (l : Launch) (Z : State) (a0 : Array Value) (hw : ∀ d ∈ tables_1, d.before a0 Z = true) (ws : List Jvm.Cond) (a1 : Addr) (p2 : Int32) (w5 : Int32) (tt : Addr) (w4 w7 : Addr) (ka kb : ClassId) (vs ns : List Value) (h0 : Heap) (n0 : Nat) (Z0 : n0 ≤ h0.size) (S : Sl Z h0 a1 w4 w7 tt ka kb vs ns) (hp : ¬ p2 < 0 ∧ p2 < 3) (hn : ns.getD p2.toNatClampNeg (.int (0 : Int32)) = .int w5) :
    MetFree l (⟨"com/example/tenet/tenet/term/Slots", "node", "(I)I"⟩ : MethodName) (head1 (Jvm.Cond.code (⟨"com/example/tenet/tenet/term/Slots", "node", "(I)I"⟩ : MethodName) prog_144_method_6_code 2 (some .int) :: ws) ({ frames := 0, cells := 0, slots := 0, locals := 0 } : Room)) (fun a U => a = #[(.ref a1), (.int p2)] ∧ Z.Warmed39 U.vm ∧ U.heap = h0) (fun _ _ _ _ _ => True) (fun _ U o U' => ∃ v L, o = .returned v ∧ Q12 Z a1 p2 w5 tt w4 w7 ka kb vs ns h0 n0 v U'.heap L ∧ FrameEnd U o U' L ({ frames := 0, cells := 0, slots := 0, locals := 0 } : Room).cells ({ frames := 0, cells := 0, slots := 0, locals := 0 } : Room).slots) := by
  refine MetFree.of_bodySF (plainFor_of_name pn_12) hisR ?_
  intro p e s m args below meth c s₁ Bd hml0 hP hK
  obtain ⟨rfl, hZ, hh⟩ := hP
  have hx := Bd.exec
  have hby := Bd.bytes
  have hml : c.maxLocals = 2 := hml0
  have hown : s.vm.findClass "com/example/tenet/tenet/term/Slots" = some m.cls := findClass_of_methodNamed Bd.named
  have hnm := (name_of_methodNamed Bd.named Bd.method).1
  have X0 : Stand p l e ({ frames := 0, cells := 0, slots := 0, locals := 0 } : Room) s m #[(.ref a1), (.int p2)] below meth c s₁ [] 0 0 := Stand.of_body Bd
  have e0 : s₁.heap = h0 := by rw [← hh, Bd.state]; rfl
  have N0 := Fr.nil n0
  have pre0 : ∀ t, Steps p.tables e below (s₁.setTop (mkF m 0 #[.val (.ref a1), .val (.int p2)] [])) t → Steps p.tables e below (s₁.setTop (entryFrame m #[(.ref a1), (.int p2)] 2)) t := fun t k => castTop (ef_12 m a1 p2) k
  obtain ⟨E_a1, F_terms_a1, F_nodes_a1, F_tree_a1, V1, V2, Sto0, ⟨ne1, ne2, ne3⟩, l1, l2⟩ := id S
  obtain ⟨cl_w4, Ar_w4, q1, s1, m1, H1, G1⟩ := id V1
  obtain ⟨cl_w7, Ar_w7, q2, s2, m2, H2, G2⟩ := id V2
  have hin5 := inb_of s2 hp
  have hat5 := H2 _ (Nat.lt_of_not_le fun y => hin5 (Or.inr y))
  rw [hn] at hat5
  obtain ⟨T4, X4, e4, st4⟩ := getF X0 hx hZ hown (host := "") (Or.inl (hw _ (List.mem_of_getElem? (i := 37) rfl))) Via.refl e0 F_nodes_a1 (g := (mkF m 1 #[.val (.ref a1), .val (.int p2)] [(.ref a1)])) rfl rfl (hb hby d12_1)
  obtain ⟨fs, hr, hrun, hended, hW, hsame⟩ := X4.leave (v := some (.int w5)) (fun h => by rw [Bd.returns] at h; cases h)
  refine ⟨_, _, pre0 _ ?_, hrun, hended, _, _, rfl, ?_, ⟨_, rfl⟩, hW, hsame.mono (by decide) (by decide)⟩
  · show Steps p.tables e below (s₁.setTop (mkF m 0 #[.val (.ref a1), .val (.int p2)] [])) _
    refine XS.aloadN X0.here hx rfl (hb hby d12_0) rfl rfl ?_
    show Steps p.tables e below (s₁.setTop (mkF m 1 #[.val (.ref a1), .val (.int p2)] [(.ref a1)])) _
    refine st4 _ ?_
    show Steps p.tables e below (T4.setTop (mkF m 4 #[.val (.ref a1), .val (.int p2)] [(.ref w7)])) _
    refine XS.iloadN X4.here hx rfl (hb hby d12_4) rfl ?_
    show Steps p.tables e below (T4.setTop (mkF m 5 #[.val (.ref a1), .val (.int p2)] [(.int p2), (.ref w7)])) _
    refine X4.iaload hx (j := p2) (v := (.int w5)) (by rw [e4]; exact Ar_w7.1) (State.isArrayOf_alike hZ.alike Ar_w7.2.1) Ar_w7.2.2 hin5 hat5 (g := (mkF m 5 #[.val (.ref a1), .val (.int p2)] [(.int p2), (.ref w7)])) rfl rfl (hb hby d12_5) _ ?_
    show Steps p.tables e below (T4.setTop (mkF m 6 #[.val (.ref a1), .val (.int p2)] [(.int w5)])) _
    exact retI X4 hx Bd.returns (hb hby d12_6) hr
  · show Q12 Z a1 p2 w5 tt w4 w7 ka kb vs ns h0 n0 _ T4.heap _
    rw [e4]
    exact ⟨rfl, N0, rfl⟩
theorem d13_0 : decode prog_144_method_5_code 0 = .ok (.aload_n 0, 1) := by decide +kernel
theorem d13_1 : decode prog_144_method_5_code 1 = .ok (.getfield 18, 3) := by decide +kernel
theorem d13_4 : decode prog_144_method_5_code 4 = .ok (.iload_n 1, 1) := by decide +kernel
theorem d13_5 : decode prog_144_method_5_code 5 = .ok (.iaload, 1) := by decide +kernel
theorem d13_6 : decode prog_144_method_5_code 6 = .ok (.istore_n 2, 1) := by decide +kernel
theorem d13_7 : decode prog_144_method_5_code 7 = .ok (.iload_n 2, 1) := by decide +kernel
theorem d13_8 : decode prog_144_method_5_code 8 = .ok (.iconst (-1), 1) := by decide +kernel
theorem d13_9 : decode prog_144_method_5_code 9 = .ok (.if_icmp .ne 12, 3) := by decide +kernel
theorem d13_12 : decode prog_144_method_5_code 12 = .ok (.aload_n 0, 1) := by decide +kernel
theorem d13_13 : decode prog_144_method_5_code 13 = .ok (.getfield 14, 3) := by decide +kernel
theorem d13_16 : decode prog_144_method_5_code 16 = .ok (.iload_n 1, 1) := by decide +kernel
theorem d13_17 : decode prog_144_method_5_code 17 = .ok (.aaload, 1) := by decide +kernel
theorem d13_18 : decode prog_144_method_5_code 18 = .ok (.goto 11, 3) := by decide +kernel
theorem d13_29 : decode prog_144_method_5_code 29 = .ok (.areturn, 1) := by decide +kernel
theorem pn_13 : plainName "com/example/tenet/tenet/term/Slots" = true := by first | (simp [plainName, overriddenIn]; done) | decide +kernel
theorem ef_13 (m : MethodId) (x0 : Addr) (x1 : Int32) : entryFrame m #[(.ref x0), (.int x1)] 3 = mkF m 0 #[.val (.ref x0), .val (.int x1), .unset] [] := by first | (simp [entryFrame, mkF, argsToLocals, Value.category]; done) | rfl
def Q13 (Z : State) (a1 : Addr) (p2 : Int32) (vt : Value) (tt : Addr) (w4 w7 : Addr) (ka kb : ClassId) (vs ns : List Value) (h0 : Heap) (n0 : Nat) (v : Option Value) (h : Heap) (L : List Loc) : Prop := v = some vt ∧ Fr n0 L ∧ h = h0
set_option maxRecDepth 65536 in
set_option maxHeartbeats 40000000 in
theorem rm13 (l : Launch) (Z : State) (a0 : Array Value) (hw : ∀ d ∈ tables_1, d.before a0 Z = true) (ws : List Jvm.Cond) (a1 : Addr) (p2 : Int32) (vt : Value) (tt : Addr) (w4 w7 : Addr) (ka kb : ClassId) (vs ns : List Value) (h0 : Heap) (n0 : Nat) (Z0 : n0 ≤ h0.size) (S : Sl Z h0 a1 w4 w7 tt ka kb vs ns) (hp : ¬ p2 < 0 ∧ p2 < 3) (hn : ns.getD p2.toNatClampNeg (.int (0 : Int32)) = .int (-1 : Int32)) (hv : vs.getD p2.toNatClampNeg .null = vt) (hvt : vt.isRef = true) :
    MetFree l (⟨"com/example/tenet/tenet/term/Slots", "get", "(I)Lcom/example/tenet/tenet/term/Term;"⟩ : MethodName) (head1 (Jvm.Cond.code (⟨"com/example/tenet/tenet/term/Slots", "get", "(I)Lcom/example/tenet/tenet/term/Term;"⟩ : MethodName) prog_144_method_5_code 3 (some (.object "com/example/tenet/tenet/term/Term")) :: ws) ({ frames := 0, cells := 0, slots := 0, locals := 0 } : Room)) (fun a U => a = #[(.ref a1), (.int p2)] ∧ Z.Warmed39 U.vm ∧ U.heap = h0) (fun _ _ _ _ _ => True) (fun _ U o U' => ∃ v L, o = .returned v ∧ Q13 Z a1 p2 vt tt w4 w7 ka kb vs ns h0 n0 v U'.heap L ∧ FrameEnd U o U' L ({ frames := 0, cells := 0, slots := 0, locals := 0 } : Room).cells ({ frames := 0, cells := 0, slots := 0, locals := 0 } : Room).slots) := by
  refine MetFree.of_bodySF (plainFor_of_name pn_13) hisR ?_
  intro p e s m args below meth c s₁ Bd hml0 hP hK
  obtain ⟨rfl, hZ, hh⟩ := hP
  have hx := Bd.exec
  have hby := Bd.bytes
  have hml : c.maxLocals = 3 := hml0
  have hown : s.vm.findClass "com/example/tenet/tenet/term/Slots" = some m.cls := findClass_of_methodNamed Bd.named
  have hnm := (name_of_methodNamed Bd.named Bd.method).1
  have X0 : Stand p l e ({ frames := 0, cells := 0, slots := 0, locals := 0 } : Room) s m #[(.ref a1), (.int p2)] below meth c s₁ [] 0 0 := Stand.of_body Bd
  have e0 : s₁.heap = h0 := by rw [← hh, Bd.state]; rfl
  have N0 := Fr.nil n0
  have pre0 : ∀ t, Steps p.tables e below (s₁.setTop (mkF m 0 #[.val (.ref a1), .val (.int p2), .unset] [])) t → Steps p.tables e below (s₁.setTop (entryFrame m #[(.ref a1), (.int p2)] 3)) t := fun t k => castTop (ef_13 m a1 p2) k
  obtain ⟨E_a1, F_terms_a1, F_nodes_a1, F_tree_a1, V1, V2, Sto0, ⟨ne1, ne2, ne3⟩, l1, l2⟩ := id S
  obtain ⟨cl_w4, Ar_w4, q1, s1, m1, H1, G1⟩ := id V1
  obtain ⟨cl_w7, Ar_w7, q2, s2, m2, H2, G2⟩ := id V2
  have hin5 := inb_of s2 hp
  have hat5 := H2 _ (Nat.lt_of_not_le fun y => hin5 (Or.inr y))
  rw [hn] at hat5
  have hin17 := inb_of s1 hp
  have hat17 := H1 _ (Nat.lt_of_not_le fun y => hin17 (Or.inr y))
  rw [hv] at hat17
  obtain ⟨T4, X4, e4, st4⟩ := getF X0 hx hZ hown (host := "") (Or.inl (hw _ (List.mem_of_getElem? (i := 37) rfl))) Via.refl e0 F_nodes_a1 (g := (mkF m 1 #[.val (.ref a1), .val (.int p2), .unset] [(.ref a1)])) rfl rfl (hb hby d13_1)
  obtain ⟨T7, X7, e7, st7⟩ := getF X4 hx hZ hown (host := "") (Or.inl (hw _ (List.mem_of_getElem? (i := 34) rfl))) Via.refl e4 F_terms_a1 (g := (mkF m 13 #[.val (.ref a1), .val (.int p2), .val (.int (-1 : Int32))] [(.ref a1)])) rfl rfl (hb hby d13_13)
  obtain ⟨fs, hr, hrun, hended, hW, hsame⟩ := X7.leave (v := some vt) (fun h => by rw [Bd.returns] at h; cases h)
  refine ⟨_, _, pre0 _ ?_, hrun, hended, _, _, rfl, ?_, ⟨_, rfl⟩, hW, hsame.mono (by decide) (by decide)⟩
  · show Steps p.tables e below (s₁.setTop (mkF m 0 #[.val (.ref a1), .val (.int p2), .unset] [])) _
    refine XS.aloadN X0.here hx rfl (hb hby d13_0) rfl rfl ?_
    show Steps p.tables e below (s₁.setTop (mkF m 1 #[.val (.ref a1), .val (.int p2), .unset] [(.ref a1)])) _
    refine st4 _ ?_
    show Steps p.tables e below (T4.setTop (mkF m 4 #[.val (.ref a1), .val (.int p2), .unset] [(.ref w7)])) _
    refine XS.iloadN X4.here hx rfl (hb hby d13_4) rfl ?_
    show Steps p.tables e below (T4.setTop (mkF m 5 #[.val (.ref a1), .val (.int p2), .unset] [(.int p2), (.ref w7)])) _
    refine X4.iaload hx (j := p2) (v := (.int (-1 : Int32))) (by rw [e4]; exact Ar_w7.1) (State.isArrayOf_alike hZ.alike Ar_w7.2.1) Ar_w7.2.2 hin5 hat5 (g := (mkF m 5 #[.val (.ref a1), .val (.int p2), .unset] [(.int p2), (.ref w7)])) rfl rfl (hb hby d13_5) _ ?_
    show Steps p.tables e below (T4.setTop (mkF m 6 #[.val (.ref a1), .val (.int p2), .unset] [(.int (-1 : Int32))])) _
    refine XS.istoreN X4.here hx rfl (hb hby d13_6) rfl (l' := #[.val (.ref a1), .val (.int p2), .val (.int (-1 : Int32))]) rfl ?_
    show Steps p.tables e below (T4.setTop (mkF m 7 #[.val (.ref a1), .val (.int p2), .val (.int (-1 : Int32))] [])) _
    refine XS.iloadN X4.here hx rfl (hb hby d13_7) rfl ?_
    show Steps p.tables e below (T4.setTop (mkF m 8 #[.val (.ref a1), .val (.int p2), .val (.int (-1 : Int32))] [(.int (-1 : Int32))])) _
    refine XS.iconst X4.here hx rfl (hb hby d13_8) ?_
    show Steps p.tables e below (T4.setTop (mkF m 9 #[.val (.ref a1), .val (.int p2), .val (.int (-1 : Int32))] [(.int (-1 : Int32)), (.int (-1 : Int32))])) _
    refine XS.icmpNo X4.here hx rfl (hb hby d13_9) rfl (teq rfl).2 ?_
    show Steps p.tables e below (T4.setTop (mkF m 12 #[.val (.ref a1), .val (.int p2), .val (.int (-1 : Int32))] [])) _
    refine XS.aloadN X4.here hx rfl (hb hby d13_12) rfl rfl ?_
    show Steps p.tables e below (T4.setTop (mkF m 13 #[.val (.ref a1), .val (.int p2), .val (.int (-1 : Int32))] [(.ref a1)])) _
    refine st7 _ ?_
    show Steps p.tables e below (T7.setTop (mkF m 16 #[.val (.ref a1), .val (.int p2), .val (.int (-1 : Int32))] [(.ref w4)])) _
    refine XS.iloadN X7.here hx rfl (hb hby d13_16) rfl ?_
    show Steps p.tables e below (T7.setTop (mkF m 17 #[.val (.ref a1), .val (.int p2), .val (.int (-1 : Int32))] [(.int p2), (.ref w4)])) _
    refine X7.aaload hx (j := p2) (v := vt) (by rw [e7]; exact Ar_w4.1) (State.isArrayOf_alike hZ.alike Ar_w4.2.1) rfl Ar_w4.2.2 hin17 hat17 (g := (mkF m 17 #[.val (.ref a1), .val (.int p2), .val (.int (-1 : Int32))] [(.int p2), (.ref w4)])) rfl rfl (hb hby d13_17) _ ?_
    show Steps p.tables e below (T7.setTop (mkF m 18 #[.val (.ref a1), .val (.int p2), .val (.int (-1 : Int32))] [vt])) _
    refine XS.goto X7.here hx rfl (pc0 := 18) (pc' := 29) rfl (hb hby d13_18) (by decide) (by decide) ?_
    show Steps p.tables e below (T7.setTop (mkF m 29 #[.val (.ref a1), .val (.int p2), .val (.int (-1 : Int32))] [vt])) _
    exact retOut X7 hx Bd.returns rfl (Or.inr (Or.inr (Or.inr (Or.inr ⟨rfl, rfl, hvt⟩)))) (hb hby d13_29) hr
  · show Q13 Z a1 p2 vt tt w4 w7 ka kb vs ns h0 n0 _ T7.heap _
    rw [e7]
    exact ⟨rfl, N0, rfl⟩
theorem d10_2 : decode prog_144_method_10_code 2 = .ok (.iload_n 3, 1) := by decide +kernel
theorem d10_3 : decode prog_144_method_10_code 3 = .ok (.iload_n 2, 1) := by decide +kernel
theorem d10_4 : decode prog_144_method_10_code 4 = .ok (.if_icmp .ge 23, 3) := by decide +kernel
theorem d10_7 : decode prog_144_method_10_code 7 = .ok (.aload_n 0, 1) := by decide +kernel
theorem d10_8 : decode prog_144_method_10_code 8 = .ok (.getfield 14, 3) := by decide +kernel
theorem d10_11 : decode prog_144_method_10_code 11 = .ok (.iload_n 3, 1) := by decide +kernel
theorem d10_12 : decode prog_144_method_10_code 12 = .ok (.aconst_null, 1) := by decide +kernel
theorem d10_13 : decode prog_144_method_10_code 13 = .ok (.aastore, 1) := by decide +kernel
theorem d10_14 : decode prog_144_method_10_code 14 = .ok (.aload_n 0, 1) := by decide +kernel
theorem d10_15 : decode prog_144_method_10_code 15 = .ok (.getfield 18, 3) := by decide +kernel
theorem d10_18 : decode prog_144_method_10_code 18 = .ok (.iload_n 3, 1) := by decide +kernel
theorem d10_19 : decode prog_144_method_10_code 19 = .ok (.iconst (-1), 1) := by decide +kernel
theorem d10_20 : decode prog_144_method_10_code 20 = .ok (.iastore, 1) := by decide +kernel
theorem d10_21 : decode prog_144_method_10_code 21 = .ok (.iinc 3 1, 3) := by decide +kernel
theorem d10_24 : decode prog_144_method_10_code 24 = .ok (.goto (-22), 3) := by decide +kernel
set_option maxRecDepth 65536 in
set_option maxHeartbeats 40000000 in
theorem tn10_2_2 {p : Program} {l : Launch} {e : Env} {R : Room} {s : State} {m : MethodId} {args : Array Value} {below : List Frame} {meth : Method} {c : Code} {T0 : State} {locs : List Loc} {cells slots : Nat} {Z : State} {a0 : Array Value} {h0 : Heap} (o0 : Addr) (s1 : Slot) (i2 : Int32) (i3 : Int32) (w4 w7 tt : Addr) (ka kb : ClassId) (vs ns : List Value) {n0 : Nat}
    (X0 : Stand p l e R s m args below meth c T0 locs cells slots) (hx : p.tables.exec = Jvm.exec) (hZ : Z.Warmed39 s.vm) (hw : ∀ d ∈ tables_1, d.before a0 Z = true) (hby : c.code = prog_144_method_10_code) (hml : c.maxLocals = 4) (hown : s.vm.findClass "com/example/tenet/tenet/term/Slots" = some m.cls) (e0 : T0.heap = h0) (S : Sl Z h0 o0 w4 w7 tt ka kb vs ns) (hp : ¬ i3 < 0 ∧ i3 < 3) (g_w4 : n0 ≤ w4) (g_w7 : n0 ≤ w7) (N0 : Fr n0 locs) (hc4 : i3 < i2) :
    ∃ (T' : State) (h' : Heap) (locs' : List Loc), Stand p l e R s m args below meth c T' locs' cells slots ∧ T'.heap = h' ∧ Fr n0 locs' ∧ h0.size ≤ h'.size ∧ Sl Z h' o0 w4 w7 tt ka kb (vs.set i3.toNatClampNeg .null) (ns.set i3.toNatClampNeg (.int (-1 : Int32))) ∧
      ∀ target, Steps p.tables e below (T'.setTop (mkF m 2 #[.val (.ref o0), s1, .val (.int i2), .val (.int (i3 + (1 : Int32)))] [])) target → Steps p.tables e below (T0.setTop (mkF m 2 #[.val (.ref o0), s1, .val (.int i2), .val (.int i3)] [])) target := by
  obtain ⟨E_o0, F_terms_o0, F_nodes_o0, F_tree_o0, V1, V2, Sto0, ⟨ne1, ne2, ne3⟩, l1, l2⟩ := id S
  obtain ⟨cl_w4, Ar_w4, q1, zs1, m1, H1, G1⟩ := id V1
  obtain ⟨cl_w7, Ar_w7, q2, zs2, m2, H2, G2⟩ := id V2
  have hin13 := inb_of zs1 hp
  have hin20 := inb_of zs2 hp
  obtain ⟨T5, X5, e5, st5⟩ := getF X0 hx hZ hown (host := "") (Or.inl (hw _ (List.mem_of_getElem? (i := 34) rfl))) Via.refl e0 F_terms_o0 (g := (mkF m 8 #[.val (.ref o0), s1, .val (.int i2), .val (.int i3)] [(.ref o0)])) rfl rfl (hb hby d10_8)
  obtain ⟨T6, h6, X6, e6, W6, st6⟩ := stR X5 hx hZ e5 Ar_w4 (j := i3) hin13 rfl (Or.inl rfl) (g := (mkF m 13 #[.val (.ref o0), s1, .val (.int i2), .val (.int i3)] [.null, (.int i3), (.ref w4)])) rfl rfl (hb hby d10_13)
  have N6 := Fr.snoc X6 N0 g_w4
  have K6 : Keep h0 h6 [w4, w7] := (Keep.refl h0 [w4, w7]).wr W6 (Or.inl (List.mem_of_getElem? (i := 0) rfl))
  obtain ⟨T8, X8, e8, st8⟩ := getF X6 hx hZ hown (host := "") (Or.inl (hw _ (List.mem_of_getElem? (i := 37) rfl))) Via.refl e6 (F_nodes_o0.other W6 (Or.inl ne1)) (g := (mkF m 15 #[.val (.ref o0), s1, .val (.int i2), .val (.int i3)] [(.ref o0)])) rfl rfl (hb hby d10_15)
  obtain ⟨T9, h9, X9, e9, W9, st9⟩ := stI X8 hx hZ e8 (Ar_w7.other W6 (Ne.symm ne3)) (j := i3) hin20 (g := (mkF m 20 #[.val (.ref o0), s1, .val (.int i2), .val (.int i3)] [(.int (-1 : Int32)), (.int i3), (.ref w7)])) rfl rfl (hb hby d10_20)
  have N9 := Fr.snoc X9 N6 g_w7
  have K9 : Keep h0 h9 [w4, w7] := K6.wr W9 (Or.inl (List.mem_of_getElem? (i := 1) rfl))
  refine ⟨T9, _, _, X9, e9, N9, K9.1, own_put S hp rfl W6 W9, fun target kt => ?_⟩
  show Steps p.tables e below (T0.setTop (mkF m 2 #[.val (.ref o0), s1, .val (.int i2), .val (.int i3)] [])) _
  refine XS.iloadN X0.here hx rfl (hb hby d10_2) rfl ?_
  show Steps p.tables e below (T0.setTop (mkF m 3 #[.val (.ref o0), s1, .val (.int i2), .val (.int i3)] [(.int i3)])) _
  refine XS.iloadN X0.here hx rfl (hb hby d10_3) rfl ?_
  show Steps p.tables e below (T0.setTop (mkF m 4 #[.val (.ref o0), s1, .val (.int i2), .val (.int i3)] [(.int i2), (.int i3)])) _
  refine XS.icmpNo X0.here hx rfl (hb hby d10_4) rfl (tlt hc4).2.1 ?_
  show Steps p.tables e below (T0.setTop (mkF m 7 #[.val (.ref o0), s1, .val (.int i2), .val (.int i3)] [])) _
  refine XS.aloadN X0.here hx rfl (hb hby d10_7) rfl rfl ?_
  show Steps p.tables e below (T0.setTop (mkF m 8 #[.val (.ref o0), s1, .val (.int i2), .val (.int i3)] [(.ref o0)])) _
  refine st5 _ ?_
  show Steps p.tables e below (T5.setTop (mkF m 11 #[.val (.ref o0), s1, .val (.int i2), .val (.int i3)] [(.ref w4)])) _
  refine XS.iloadN X5.here hx rfl (hb hby d10_11) rfl ?_
  show Steps p.tables e below (T5.setTop (mkF m 12 #[.val (.ref o0), s1, .val (.int i2), .val (.int i3)] [(.int i3), (.ref w4)])) _
  refine XS.aconstNull X5.here hx rfl (hb hby d10_12) ?_
  show Steps p.tables e below (T5.setTop (mkF m 13 #[.val (.ref o0), s1, .val (.int i2), .val (.int i3)] [.null, (.int i3), (.ref w4)])) _
  refine st6 _ ?_
  show Steps p.tables e below (T6.setTop (mkF m 14 #[.val (.ref o0), s1, .val (.int i2), .val (.int i3)] [])) _
  refine XS.aloadN X6.here hx rfl (hb hby d10_14) rfl rfl ?_
  show Steps p.tables e below (T6.setTop (mkF m 15 #[.val (.ref o0), s1, .val (.int i2), .val (.int i3)] [(.ref o0)])) _
  refine st8 _ ?_
  show Steps p.tables e below (T8.setTop (mkF m 18 #[.val (.ref o0), s1, .val (.int i2), .val (.int i3)] [(.ref w7)])) _
  refine XS.iloadN X8.here hx rfl (hb hby d10_18) rfl ?_
  show Steps p.tables e below (T8.setTop (mkF m 19 #[.val (.ref o0), s1, .val (.int i2), .val (.int i3)] [(.int i3), (.ref w7)])) _
  refine XS.iconst X8.here hx rfl (hb hby d10_19) ?_
  show Steps p.tables e below (T8.setTop (mkF m 20 #[.val (.ref o0), s1, .val (.int i2), .val (.int i3)] [(.int (-1 : Int32)), (.int i3), (.ref w7)])) _
  refine st9 _ ?_
  show Steps p.tables e below (T9.setTop (mkF m 21 #[.val (.ref o0), s1, .val (.int i2), .val (.int i3)] [])) _
  refine XS.iinc X9.here hx rfl (hb hby d10_21) rfl (l' := #[.val (.ref o0), s1, .val (.int i2), .val (.int (i3 + (1 : Int32)))]) rfl ?_
  show Steps p.tables e below (T9.setTop (mkF m 24 #[.val (.ref o0), s1, .val (.int i2), .val (.int (i3 + (1 : Int32)))] [])) _
  refine XS.goto X9.here hx rfl (pc0 := 24) (pc' := 2) rfl (hb hby d10_24) (by decide) (by decide) ?_
  exact kt
set_option maxRecDepth 65536 in
set_option maxHeartbeats 40000000 in
theorem tn10_2_27 {p : Program} {l : Launch} {e : Env} {R : Room} {s : State} {m : MethodId} {args : Array Value} {below : List Frame} {meth : Method} {c : Code} {T0 : State} {locs : List Loc} {cells slots : Nat} {Z : State} {a0 : Array Value} {h0 : Heap} (s0 : Slot) (s1 : Slot) (i2 : Int32) (i3 : Int32)
    (X0 : Stand p l e R s m args below meth c T0 locs cells slots) (hx : p.tables.exec = Jvm.exec) (hZ : Z.Warmed39 s.vm) (hw : ∀ d ∈ tables_1, d.before a0 Z = true) (hby : c.code = prog_144_method_10_code) (hml : c.maxLocals = 4) (hown : s.vm.findClass "com/example/tenet/tenet/term/Slots" = some m.cls) (e0 : T0.heap = h0) (hc4 : ¬ (i3 < i2)) :
    ∃ (T' : State), Stand p l e R s m args below meth c T' locs cells slots ∧ T'.heap = h0 ∧
      ∀ target, Steps p.tables e below (T'.setTop (mkF m 27 #[s0, s1, .val (.int i2), .val (.int i3)] [])) target → Steps p.tables e below (T0.setTop (mkF m 2 #[s0, s1, .val (.int i2), .val (.int i3)] [])) target := by

  refine ⟨T0, X0, e0, fun target kt => ?_⟩
  show Steps p.tables e below (T0.setTop (mkF m 2 #[s0, s1, .val (.int i2), .val (.int i3)] [])) _
  refine XS.iloadN X0.here hx rfl (hb hby d10_2) rfl ?_
  show Steps p.tables e below (T0.setTop (mkF m 3 #[s0, s1, .val (.int i2), .val (.int i3)] [(.int i3)])) _
  refine XS.iloadN X0.here hx rfl (hb hby d10_3) rfl ?_
  show Steps p.tables e below (T0.setTop (mkF m 4 #[s0, s1, .val (.int i2), .val (.int i3)] [(.int i2), (.int i3)])) _
  refine XS.icmpYes X0.here hx rfl (pc0 := 4) (pc' := 27) rfl (hb hby d10_4) rfl (flt hc4).2.1 (by decide) (by decide) ?_
  exact kt
theorem own_succ (i : Nat) : Int32.ofNat i + (1 : Int32) = Int32.ofNat (i + 1) := (Int32.ofNat_add i 1).symm
set_option maxRecDepth 65536 in
theorem loop10 {p : Program} {l : Launch} {e : Env} {R : Room} {s : State} {m : MethodId} {args : Array Value} {below : List Frame} {meth : Method} {c : Code} {cells slots : Nat} {Z : State} {a0 : Array Value} (o0 : Addr) (s1 : Slot) (t : Nat) (ht : t ≤ 3) (w4 w7 tt : Addr) (ka kb : ClassId) {n0 : Nat}
    (hx : p.tables.exec = Jvm.exec) (hZ : Z.Warmed39 s.vm) (hw : ∀ d ∈ tables_1, d.before a0 Z = true) (hby : c.code = prog_144_method_10_code) (hml : c.maxLocals = 4) (hown : s.vm.findClass "com/example/tenet/tenet/term/Slots" = some m.cls) (g_w4 : n0 ≤ w4) (g_w7 : n0 ≤ w7) (k : Nat) :
    ∀ (i : Nat) (vs ns : List Value) (T0 : State) (h0 : Heap) (locs : List Loc), i ≤ 3 → t - i = k → Stand p l e R s m args below meth c T0 locs cells slots → T0.heap = h0 → Fr n0 locs → Sl Z h0 o0 w4 w7 tt ka kb vs ns →
    ∃ (T' : State) (h' : Heap) (locs' : List Loc) (i' : Int32), Stand p l e R s m args below meth c T' locs' cells slots ∧ T'.heap = h' ∧ Fr n0 locs' ∧ h0.size ≤ h'.size ∧ Sl Z h' o0 w4 w7 tt ka kb (own_clr k i vs .null) (own_clr k i ns (.int (-1 : Int32))) ∧
      ∀ target, Steps p.tables e below (T'.setTop (mkF m 27 #[.val (.ref o0), s1, .val (.int (Int32.ofNat t)), .val (.int i')] [])) target → Steps p.tables e below (T0.setTop (mkF m 2 #[.val (.ref o0), s1, .val (.int (Int32.ofNat t)), .val (.int (Int32.ofNat i))] [])) target := by
  induction k with
  | zero =>
    intro i vs ns T0 h0 locs hi hk X e0 N S
    obtain ⟨T', X', e', st⟩ := tn10_2_27 (.val (.ref o0)) s1 (Int32.ofNat t) (Int32.ofNat i) X hx hZ hw hby hml hown e0 (fun q => by have := (own_lt hi ht).mp q; omega)
    exact ⟨T', h0, locs, _, X', e', N, Nat.le_refl _, S, st⟩
  | succ k ih =>
    intro i vs ns T0 h0 locs hi hk X e0 N S
    have hit : i < t := by omega
    obtain ⟨T1, h1, locs1, X1, e1, N1, sz1, S1, st1⟩ := tn10_2_2 o0 s1 (Int32.ofNat t) (Int32.ofNat i) w4 w7 tt ka kb vs ns X hx hZ hw hby hml hown e0 S (own_in (by omega)) g_w4 g_w7 N ((own_lt hi ht).mpr hit)
    rw [own_tn hi] at S1
    obtain ⟨T2, h2, locs2, i2, X2, e2, N2, sz2, S2, st2⟩ := ih (i + 1) _ _ T1 h1 locs1 (by omega) (by omega) X1 e1 N1 S1
    refine ⟨T2, h2, locs2, i2, X2, e2, N2, Nat.le_trans sz1 sz2, S2, fun target kt => st1 _ ?_⟩
    rw [own_succ]
    exact st2 _ kt
theorem d10_0 : decode prog_144_method_10_code 0 = .ok (.iload_n 1, 1) := by decide +kernel
theorem d10_1 : decode prog_144_method_10_code 1 = .ok (.istore_n 3, 1) := by decide +kernel
theorem d10_27 : decode prog_144_method_10_code 27 = .ok (.return_, 1) := by decide +kernel
theorem pn_10 : plainName "com/example/tenet/tenet/term/Slots" = true := by first | (simp [plainName, overriddenIn]; done) | decide +kernel
theorem ef_10 (m : MethodId) (x0 : Addr) (x1 : Int32) (x2 : Int32) : entryFrame m #[(.ref x0), (.int x1), (.int x2)] 4 = (mkF m 0 #[.val (.ref x0), .val (.int x1), .val (.int x2), .unset] []) := by first | (simp [entryFrame, mkF, argsToLocals, Value.category]; done) | rfl
def Q10 (Z : State) (x0 : Addr) (fi ti : Nat) (w4 w7 tt : Addr) (ka kb : ClassId) (vs ns : List Value) (h0 : Heap) (n0 : Nat) (v : Option Value) (h : Heap) (L : List Loc) : Prop := v = none ∧ Fr n0 L ∧ h0.size ≤ h.size ∧ Sl Z h x0 w4 w7 tt ka kb (own_clr (ti - fi) fi vs .null) (own_clr (ti - fi) fi ns (.int (-1 : Int32)))
set_option maxRecDepth 65536 in
set_option maxHeartbeats 40000000 in
theorem rm10 (l : Launch) (Z : State) (a0 : Array Value) (hw : ∀ d ∈ tables_1, d.before a0 Z = true) (ws : List Jvm.Cond) (x0 : Addr) (fi ti : Nat) (w4 w7 tt : Addr) (ka kb : ClassId) (vs ns : List Value) (h0 : Heap) (n0 : Nat) (Z0 : n0 ≤ h0.size) (hf : fi ≤ 3) (ht : ti ≤ 3) (S : Sl Z h0 x0 w4 w7 tt ka kb vs ns) (g_w4 : n0 ≤ w4) (g_w7 : n0 ≤ w7) :
    MetFree l (⟨"com/example/tenet/tenet/term/Slots", "clear", "(II)V"⟩ : MethodName) (head1 (Jvm.Cond.code (⟨"com/example/tenet/tenet/term/Slots", "clear", "(II)V"⟩ : MethodName) prog_144_method_10_code 4 none :: ws) ({ frames := 0, cells := 0, slots := 0, locals := 0 } : Room)) (fun a U => a = #[(.ref x0), (.int (Int32.ofNat fi)), (.int (Int32.ofNat ti))] ∧ Z.Warmed39 U.vm ∧ U.heap = h0) (fun _ _ _ _ _ => True) (fun _ U o U' => ∃ v L, o = .returned v ∧ Q10 Z x0 fi ti w4 w7 tt ka kb vs ns h0 n0 v U'.heap L ∧ FrameEnd U o U' L ({ frames := 0, cells := 0, slots := 0, locals := 0 } : Room).cells ({ frames := 0, cells := 0, slots := 0, locals := 0 } : Room).slots) := by
  refine MetFree.of_bodySF (plainFor_of_name pn_10) hisR ?_
  intro p e s m args below meth c s₁ Bd hml0 hP hK
  obtain ⟨rfl, hZ, hh⟩ := hP
  have hx := Bd.exec
  have hby := Bd.bytes
  have hml : c.maxLocals = 4 := hml0
  have hown : s.vm.findClass "com/example/tenet/tenet/term/Slots" = some m.cls := findClass_of_methodNamed Bd.named
  have hnm := (name_of_methodNamed Bd.named Bd.method).1
  have X0 : Stand p l e ({ frames := 0, cells := 0, slots := 0, locals := 0 } : Room) s m #[(.ref x0), (.int (Int32.ofNat fi)), (.int (Int32.ofNat ti))] below meth c s₁ [] 0 0 := Stand.of_body Bd
  have e0 : s₁.heap = h0 := by rw [← hh, Bd.state]; rfl
  have N0 := Fr.nil n0
  have pre0 : ∀ t, Steps p.tables e below (s₁.setTop (mkF m 0 #[.val (.ref x0), .val (.int (Int32.ofNat fi)), .val (.int (Int32.ofNat ti)), .unset] [])) t → Steps p.tables e below (s₁.setTop (entryFrame m #[(.ref x0), (.int (Int32.ofNat fi)), (.int (Int32.ofNat ti))] 4)) t := fun t k => castTop (ef_10 m x0 (Int32.ofNat fi) (Int32.ofNat ti)) k
  obtain ⟨TL, hL, locsL, iL, XL, eL, NL, szL, SL, stL⟩ := loop10 x0 (.val (.int (Int32.ofNat fi))) ti ht w4 w7 tt ka kb hx hZ hw hby hml hown g_w4 g_w7 (ti - fi) fi vs ns s₁ h0 [] hf rfl X0 e0 N0 S
  obtain ⟨fs, hr, hrun, hended, hW, hsame⟩ := XL.leave (v := none) (fun _ => rfl)
  refine ⟨_, _, pre0 _ ?_, hrun, hended, _, _, rfl, ?_, ⟨_, rfl⟩, hW, hsame.mono (by decide) (by decide)⟩
  · show Steps p.tables e below (s₁.setTop (mkF m 0 #[.val (.ref x0), .val (.int (Int32.ofNat fi)), .val (.int (Int32.ofNat ti)), .unset] [])) _
    refine XS.iloadN X0.here hx rfl (hb hby d10_0) rfl ?_
    show Steps p.tables e below (s₁.setTop (mkF m 1 #[.val (.ref x0), .val (.int (Int32.ofNat fi)), .val (.int (Int32.ofNat ti)), .unset] [(.int (Int32.ofNat fi))])) _
    refine XS.istoreN X0.here hx rfl (hb hby d10_1) rfl (l' := #[.val (.ref x0), .val (.int (Int32.ofNat fi)), .val (.int (Int32.ofNat ti)), .val (.int (Int32.ofNat fi))]) rfl ?_
    show Steps p.tables e below (s₁.setTop (mkF m 2 #[.val (.ref x0), .val (.int (Int32.ofNat fi)), .val (.int (Int32.ofNat ti)), .val (.int (Int32.ofNat fi))] [])) _
    refine stL _ ?_
    show Steps p.tables e below (TL.setTop (mkF m 27 #[.val (.ref x0), .val (.int (Int32.ofNat fi)), .val (.int (Int32.ofNat ti)), .val (.int iL)] [])) _
    exact XL.returnOut hx Bd.returns (hb hby d10_27) hr
  · show Q10 Z x0 fi ti w4 w7 tt ka kb vs ns h0 n0 _ TL.heap _
    rw [eL]
    exact ⟨rfl, NL, szL, SL⟩
theorem d8_0 : decode method_2_code 0 = .ok (.iload_n 2, 1) := by decide +kernel
theorem d8_1 : decode method_2_code 1 = .ok (.iconst 1, 1) := by decide +kernel
theorem d8_2 : decode method_2_code 2 = .ok (.if_icmp .ne 13, 3) := by decide +kernel
theorem d8_5 : decode method_2_code 5 = .ok (.aload_n 0, 1) := by decide +kernel
theorem d8_6 : decode method_2_code 6 = .ok (.iload_n 1, 1) := by decide +kernel
theorem d8_7 : decode method_2_code 7 = .ok (.aload 4, 2) := by decide +kernel
theorem d8_9 : decode method_2_code 9 = .ok (.invokevirtual 7, 3) := by decide +kernel
theorem d8_12 : decode method_2_code 12 = .ok (.goto 15, 3) := by decide +kernel
theorem d8_27 : decode method_2_code 27 = .ok (.return_, 1) := by decide +kernel
theorem pn_8 : plainName "com/example/tenet/tenet/term/SlotsClearPinLaw" = true := by first | (simp [plainName, overriddenIn]; done) | decide +kernel
theorem pd_8_12 : parseMethodDescriptor "(ILcom/example/tenet/tenet/term/Term;)V" = some ⟨[.int, (.object "com/example/tenet/tenet/term/Term")], none⟩ := by decide +kernel
theorem ef_8 (m : MethodId) (x0 : Addr) (x1 : Int32) (x2 : Int32) (x3 : Int32) (x4 : Addr) : entryFrame m #[(.ref x0), (.int x1), (.int x2), (.int x3), (.ref x4)] 5 = mkF m 0 #[.val (.ref x0), .val (.int x1), .val (.int x2), .val (.int x3), .val (.ref x4)] [] := by first | (simp [entryFrame, mkF, argsToLocals, Value.category]; done) | rfl
def Q8 (Z : State) (a1 : Addr) (p2 : Int32) (p3 : Int32) (p4 : Int32) (a5 : Addr) (w4 w7 : Addr) (ka kb : ClassId) (vs ns : List Value) (h0 : Heap) (n0 : Nat) (v : Option Value) (h : Heap) (L : List Loc) : Prop := v = none ∧ Fr n0 L ∧ h0.size ≤ h.size ∧ Sl Z h a1 w4 w7 a5 ka kb (vs.set p2.toNatClampNeg (own_T p3 a5)) (ns.set p2.toNatClampNeg (.int (own_K p3 p4)))
set_option maxRecDepth 65536 in
set_option maxHeartbeats 40000000 in
theorem rm8a (l : Launch) (Z : State) (a0 : Array Value) (hw : ∀ d ∈ tables_1, d.before a0 Z = true) (ws : List Jvm.Cond) (a1 : Addr) (p2 : Int32) (p3 : Int32) (p4 : Int32) (a5 : Addr) (w4 w7 : Addr) (ka kb : ClassId) (vs ns : List Value) (h0 : Heap) (n0 : Nat) (Z0 : n0 ≤ h0.size) (S : Sl Z h0 a1 w4 w7 a5 ka kb vs ns) (hp : ¬ p2 < 0 ∧ p2 < 3) (g_w4 : n0 ≤ w4) (g_w7 : n0 ≤ w7) (hv : vs.set p2.toNatClampNeg .null = vs) (hn : ns.set p2.toNatClampNeg (.int (-1 : Int32)) = ns) (hc2 : p3 = (1 : Int32)) :
    MetFree l (⟨"com/example/tenet/tenet/term/SlotsClearPinLaw", "fill", "(Lcom/example/tenet/tenet/term/Slots;IIILcom/example/tenet/tenet/term/Term;)V"⟩ : MethodName) (head1 (Jvm.Cond.code (⟨"com/example/tenet/tenet/term/SlotsClearPinLaw", "fill", "(Lcom/example/tenet/tenet/term/Slots;IIILcom/example/tenet/tenet/term/Term;)V"⟩ : MethodName) method_2_code 5 none :: ws) ({ frames := 1, cells := 0, slots := 0, locals := 15 } : Room)) (fun a U => a = #[(.ref a1), (.int p2), (.int p3), (.int p4), (.ref a5)] ∧ Z.Warmed39 U.vm ∧ U.heap = h0) (fun _ _ _ _ _ => True) (fun _ U o U' => ∃ v L, o = .returned v ∧ Q8 Z a1 p2 p3 p4 a5 w4 w7 ka kb vs ns h0 n0 v U'.heap L ∧ FrameEnd U o U' L ({ frames := 1, cells := 0, slots := 0, locals := 15 } : Room).cells ({ frames := 1, cells := 0, slots := 0, locals := 15 } : Room).slots) := by
  refine MetFree.of_bodySF (plainFor_of_name pn_8) hisR ?_
  intro p e s m args below meth c s₁ Bd hml0 hP hK
  obtain ⟨rfl, hZ, hh⟩ := hP
  have hx := Bd.exec
  have hby := Bd.bytes
  have hml : c.maxLocals = 5 := hml0
  have hown : s.vm.findClass "com/example/tenet/tenet/term/SlotsClearPinLaw" = some m.cls := findClass_of_methodNamed Bd.named
  have hnm := (name_of_methodNamed Bd.named Bd.method).1
  have X0 : Stand p l e ({ frames := 1, cells := 0, slots := 0, locals := 15 } : Room) s m #[(.ref a1), (.int p2), (.int p3), (.int p4), (.ref a5)] below meth c s₁ [] 0 0 := Stand.of_body Bd
  have e0 : s₁.heap = h0 := by rw [← hh, Bd.state]; rfl
  have N0 := Fr.nil n0
  have pre0 : ∀ t, Steps p.tables e below (s₁.setTop (mkF m 0 #[.val (.ref a1), .val (.int p2), .val (.int p3), .val (.int p4), .val (.ref a5)] [])) t → Steps p.tables e below (s₁.setTop (entryFrame m #[(.ref a1), (.int p2), (.int p3), (.int p4), (.ref a5)] 5)) t := fun t k => castTop (ef_8 m a1 p2 p3 p4 a5) k
  have E_a1 := S.1
  obtain ⟨cq6, kq6, q6a, q6b, q6c⟩ := isOf hZ e0 E_a1
  obtain ⟨_, _, ⟨T6, L6, k6, n6⟩, -, X6, ⟨Lc6, hQ6, l6, y6, z6⟩, st6⟩ := X0.virtualBack hx (y := (⟨"com/example/tenet/tenet/term/Slots", "set", "(ILcom/example/tenet/tenet/term/Term;)V"⟩ : MethodName)) (z := (⟨"com/example/tenet/tenet/term/Slots", "set", "(ILcom/example/tenet/tenet/term/Term;)V"⟩ : MethodName)) hown (mvT hZ (hw _ (List.mem_of_getElem? (i := 72) rfl))) (mvT hZ (hw _ (List.mem_of_getElem? (i := 73) rfl))) (notFace_of_selects (args := #[]) (mvT hZ (hw _ (List.mem_of_getElem? (i := 75) rfl)))) (mvT hZ (hw _ (List.mem_of_getElem? (i := 75) rfl))) (mvT hZ (hw _ (List.mem_of_getElem? (i := 74) rfl))) (by decide) (backOf (W := 0) (rm14 l Z a0 hw [] a1 p2 a5 w4 w7 ka kb vs ns h0 n0 Z0 S hp g_w4 g_w7) hZ (hw _ (List.mem_of_getElem? (i := 76) rfl)) (hw _ (List.mem_of_getElem? (i := 24) rfl)) (by decide) (by decide)) q6a q6c (g := (mkF m 9 #[.val (.ref a1), .val (.int p2), .val (.int p3), .val (.int p4), .val (.ref a5)] [(.ref a5), (.int p2), (.ref a1)])) rfl (by rw [hml]; rfl) (Steps.refl _) (argsL := [(.int p2), (.ref a5)]) (rest := []) (lenOf pd_8_12 rfl) rfl (by show 2 * 0 + _ ≤ _; exact Nat.le_of_eq rfl) (hb hby d8_9) (fun _ _ => ⟨rfl, e0, (by decide : 0 + 0 ≤ _), (by decide : 0 + 0 ≤ _)⟩)
  dsimp only [Pt.U, Pt.locs, Pt.cells, Pt.slots] at X6 l6 y6 z6 st6 hQ6
  subst l6 y6 z6
  obtain ⟨rfl, N6q, sz6, S6⟩ := hQ6
  have N6 := Fr.app N0 N6q
  obtain ⟨fs, hr, hrun, hended, hW, hsame⟩ := X6.leave (v := none) (fun _ => rfl)
  refine ⟨_, _, pre0 _ ?_, hrun, hended, _, _, rfl, ?_, ⟨_, rfl⟩, hW, hsame.mono (by decide) (by decide)⟩
  · show Steps p.tables e below (s₁.setTop (mkF m 0 #[.val (.ref a1), .val (.int p2), .val (.int p3), .val (.int p4), .val (.ref a5)] [])) _
    refine XS.iloadN X0.here hx rfl (hb hby d8_0) rfl ?_
    show Steps p.tables e below (s₁.setTop (mkF m 1 #[.val (.ref a1), .val (.int p2), .val (.int p3), .val (.int p4), .val (.ref a5)] [(.int p3)])) _
    refine XS.iconst X0.here hx rfl (hb hby d8_1) ?_
    show Steps p.tables e below (s₁.setTop (mkF m 2 #[.val (.ref a1), .val (.int p2), .val (.int p3), .val (.int p4), .val (.ref a5)] [(.int (1 : Int32)), (.int p3)])) _
    refine XS.icmpNo X0.here hx rfl (hb hby d8_2) rfl (teq hc2).2 ?_
    show Steps p.tables e below (s₁.setTop (mkF m 5 #[.val (.ref a1), .val (.int p2), .val (.int p3), .val (.int p4), .val (.ref a5)] [])) _
    refine XS.aloadN X0.here hx rfl (hb hby d8_5) rfl rfl ?_
    show Steps p.tables e below (s₁.setTop (mkF m 6 #[.val (.ref a1), .val (.int p2), .val (.int p3), .val (.int p4), .val (.ref a5)] [(.ref a1)])) _
    refine XS.iloadN X0.here hx rfl (hb hby d8_6) rfl ?_
    show Steps p.tables e below (s₁.setTop (mkF m 7 #[.val (.ref a1), .val (.int p2), .val (.int p3), .val (.int p4), .val (.ref a5)] [(.int p2), (.ref a1)])) _
    refine XS.aload X0.here hx rfl (hb hby d8_7) rfl rfl ?_
    show Steps p.tables e below (s₁.setTop (mkF m 9 #[.val (.ref a1), .val (.int p2), .val (.int p3), .val (.int p4), .val (.ref a5)] [(.ref a5), (.int p2), (.ref a1)])) _
    refine st6.trans ?_
    show Steps p.tables e below (T6.setTop (mkF m 12 #[.val (.ref a1), .val (.int p2), .val (.int p3), .val (.int p4), .val (.ref a5)] [])) _
    refine XS.goto X6.here hx rfl (pc0 := 12) (pc' := 27) rfl (hb hby d8_12) (by decide) (by decide) ?_
    show Steps p.tables e below (T6.setTop (mkF m 27 #[.val (.ref a1), .val (.int p2), .val (.int p3), .val (.int p4), .val (.ref a5)] [])) _
    exact X6.returnOut hx Bd.returns (hb hby d8_27) hr
  · show Q8 Z a1 p2 p3 p4 a5 w4 w7 ka kb vs ns h0 n0 _ T6.heap _
    exact ⟨rfl, N6, sz6, by rw [own_T, if_pos hc2, own_K, if_neg (by rw [hc2]; decide)]; exact S6⟩
theorem d8_15 : decode method_2_code 15 = .ok (.iload_n 2, 1) := by decide +kernel
theorem d8_16 : decode method_2_code 16 = .ok (.iconst 2, 1) := by decide +kernel
theorem d8_17 : decode method_2_code 17 = .ok (.if_icmp .ne 10, 3) := by decide +kernel
theorem d8_20 : decode method_2_code 20 = .ok (.aload_n 0, 1) := by decide +kernel
theorem d8_21 : decode method_2_code 21 = .ok (.iload_n 1, 1) := by decide +kernel
theorem d8_22 : decode method_2_code 22 = .ok (.aconst_null, 1) := by decide +kernel
theorem d8_23 : decode method_2_code 23 = .ok (.iload_n 3, 1) := by decide +kernel
theorem d8_24 : decode method_2_code 24 = .ok (.invokevirtual 13, 3) := by decide +kernel
theorem pd_8_7 : parseMethodDescriptor "(ILcom/example/tenet/tenet/term/Tree;I)V" = some ⟨[.int, (.object "com/example/tenet/tenet/term/Tree"), .int], none⟩ := by decide +kernel
set_option maxRecDepth 65536 in
set_option maxHeartbeats 40000000 in
theorem rm8b (l : Launch) (Z : State) (a0 : Array Value) (hw : ∀ d ∈ tables_1, d.before a0 Z = true) (ws : List Jvm.Cond) (a1 : Addr) (p2 : Int32) (p3 : Int32) (p4 : Int32) (a5 : Addr) (w4 w7 : Addr) (ka kb : ClassId) (vs ns : List Value) (h0 : Heap) (n0 : Nat) (Z0 : n0 ≤ h0.size) (S : Sl Z h0 a1 w4 w7 a5 ka kb vs ns) (hp : ¬ p2 < 0 ∧ p2 < 3) (g_w4 : n0 ≤ w4) (g_w7 : n0 ≤ w7) (hv : vs.set p2.toNatClampNeg .null = vs) (hn : ns.set p2.toNatClampNeg (.int (-1 : Int32)) = ns) (hc2 : ¬ (p3 = (1 : Int32))) (hc17 : p3 = (2 : Int32)) :
    MetFree l (⟨"com/example/tenet/tenet/term/SlotsClearPinLaw", "fill", "(Lcom/example/tenet/tenet/term/Slots;IIILcom/example/tenet/tenet/term/Term;)V"⟩ : MethodName) (head1 (Jvm.Cond.code (⟨"com/example/tenet/tenet/term/SlotsClearPinLaw", "fill", "(Lcom/example/tenet/tenet/term/Slots;IIILcom/example/tenet/tenet/term/Term;)V"⟩ : MethodName) method_2_code 5 none :: ws) ({ frames := 1, cells := 0, slots := 0, locals := 15 } : Room)) (fun a U => a = #[(.ref a1), (.int p2), (.int p3), (.int p4), (.ref a5)] ∧ Z.Warmed39 U.vm ∧ U.heap = h0) (fun _ _ _ _ _ => True) (fun _ U o U' => ∃ v L, o = .returned v ∧ Q8 Z a1 p2 p3 p4 a5 w4 w7 ka kb vs ns h0 n0 v U'.heap L ∧ FrameEnd U o U' L ({ frames := 1, cells := 0, slots := 0, locals := 15 } : Room).cells ({ frames := 1, cells := 0, slots := 0, locals := 15 } : Room).slots) := by
  refine MetFree.of_bodySF (plainFor_of_name pn_8) hisR ?_
  intro p e s m args below meth c s₁ Bd hml0 hP hK
  obtain ⟨rfl, hZ, hh⟩ := hP
  have hx := Bd.exec
  have hby := Bd.bytes
  have hml : c.maxLocals = 5 := hml0
  have hown : s.vm.findClass "com/example/tenet/tenet/term/SlotsClearPinLaw" = some m.cls := findClass_of_methodNamed Bd.named
  have hnm := (name_of_methodNamed Bd.named Bd.method).1
  have X0 : Stand p l e ({ frames := 1, cells := 0, slots := 0, locals := 15 } : Room) s m #[(.ref a1), (.int p2), (.int p3), (.int p4), (.ref a5)] below meth c s₁ [] 0 0 := Stand.of_body Bd
  have e0 : s₁.heap = h0 := by rw [← hh, Bd.state]; rfl
  have N0 := Fr.nil n0
  have pre0 : ∀ t, Steps p.tables e below (s₁.setTop (mkF m 0 #[.val (.ref a1), .val (.int p2), .val (.int p3), .val (.int p4), .val (.ref a5)] [])) t → Steps p.tables e below (s₁.setTop (entryFrame m #[(.ref a1), (.int p2), (.int p3), (.int p4), (.ref a5)] 5)) t := fun t k => castTop (ef_8 m a1 p2 p3 p4 a5) k
  have E_a1 := S.1
  obtain ⟨cq6, kq6, q6a, q6b, q6c⟩ := isOf hZ e0 E_a1
  obtain ⟨_, _, ⟨T6, L6, k6, n6⟩, -, X6, ⟨Lc6, hQ6, l6, y6, z6⟩, st6⟩ := X0.virtualBack hx (y := (⟨"com/example/tenet/tenet/term/Slots", "setNode", "(ILcom/example/tenet/tenet/term/Tree;I)V"⟩ : MethodName)) (z := (⟨"com/example/tenet/tenet/term/Slots", "setNode", "(ILcom/example/tenet/tenet/term/Tree;I)V"⟩ : MethodName)) hown (mvT hZ (hw _ (List.mem_of_getElem? (i := 49) rfl))) (mvT hZ (hw _ (List.mem_of_getElem? (i := 50) rfl))) (notFace_of_selects (args := #[]) (mvT hZ (hw _ (List.mem_of_getElem? (i := 52) rfl)))) (mvT hZ (hw _ (List.mem_of_getElem? (i := 52) rfl))) (mvT hZ (hw _ (List.mem_of_getElem? (i := 51) rfl))) (by decide) (backOf (W := 0) (rm9 l Z a0 hw [] a1 p2 p4 a5 w4 w7 ka kb vs ns h0 n0 Z0 S hp g_w4 g_w7) hZ (hw _ (List.mem_of_getElem? (i := 53) rfl)) (hw _ (List.mem_of_getElem? (i := 24) rfl)) (by decide) (by decide)) q6a q6c (g := (mkF m 24 #[.val (.ref a1), .val (.int p2), .val (.int p3), .val (.int p4), .val (.ref a5)] [(.int p4), .null, (.int p2), (.ref a1)])) rfl (by rw [hml]; rfl) (Steps.refl _) (argsL := [(.int p2), .null, (.int p4)]) (rest := []) (lenOf pd_8_7 rfl) rfl (by show 2 * 0 + _ ≤ _; exact Nat.le_of_eq rfl) (hb hby d8_24) (fun _ _ => ⟨rfl, e0, (by decide : 0 + 0 ≤ _), (by decide : 0 + 0 ≤ _)⟩)
  dsimp only [Pt.U, Pt.locs, Pt.cells, Pt.slots] at X6 l6 y6 z6 st6 hQ6
  subst l6 y6 z6
  obtain ⟨rfl, N6q, sz6, S6⟩ := hQ6
  have N6 := Fr.app N0 N6q
  obtain ⟨fs, hr, hrun, hended, hW, hsame⟩ := X6.leave (v := none) (fun _ => rfl)
  refine ⟨_, _, pre0 _ ?_, hrun, hended, _, _, rfl, ?_, ⟨_, rfl⟩, hW, hsame.mono (by decide) (by decide)⟩
  · show Steps p.tables e below (s₁.setTop (mkF m 0 #[.val (.ref a1), .val (.int p2), .val (.int p3), .val (.int p4), .val (.ref a5)] [])) _
    refine XS.iloadN X0.here hx rfl (hb hby d8_0) rfl ?_
    show Steps p.tables e below (s₁.setTop (mkF m 1 #[.val (.ref a1), .val (.int p2), .val (.int p3), .val (.int p4), .val (.ref a5)] [(.int p3)])) _
    refine XS.iconst X0.here hx rfl (hb hby d8_1) ?_
    show Steps p.tables e below (s₁.setTop (mkF m 2 #[.val (.ref a1), .val (.int p2), .val (.int p3), .val (.int p4), .val (.ref a5)] [(.int (1 : Int32)), (.int p3)])) _
    refine XS.icmpYes X0.here hx rfl (pc0 := 2) (pc' := 15) rfl (hb hby d8_2) rfl (feq hc2).2 (by decide) (by decide) ?_
    show Steps p.tables e below (s₁.setTop (mkF m 15 #[.val (.ref a1), .val (.int p2), .val (.int p3), .val (.int p4), .val (.ref a5)] [])) _
    refine XS.iloadN X0.here hx rfl (hb hby d8_15) rfl ?_
    show Steps p.tables e below (s₁.setTop (mkF m 16 #[.val (.ref a1), .val (.int p2), .val (.int p3), .val (.int p4), .val (.ref a5)] [(.int p3)])) _
    refine XS.iconst X0.here hx rfl (hb hby d8_16) ?_
    show Steps p.tables e below (s₁.setTop (mkF m 17 #[.val (.ref a1), .val (.int p2), .val (.int p3), .val (.int p4), .val (.ref a5)] [(.int (2 : Int32)), (.int p3)])) _
    refine XS.icmpNo X0.here hx rfl (hb hby d8_17) rfl (teq hc17).2 ?_
    show Steps p.tables e below (s₁.setTop (mkF m 20 #[.val (.ref a1), .val (.int p2), .val (.int p3), .val (.int p4), .val (.ref a5)] [])) _
    refine XS.aloadN X0.here hx rfl (hb hby d8_20) rfl rfl ?_
    show Steps p.tables e below (s₁.setTop (mkF m 21 #[.val (.ref a1), .val (.int p2), .val (.int p3), .val (.int p4), .val (.ref a5)] [(.ref a1)])) _
    refine XS.iloadN X0.here hx rfl (hb hby d8_21) rfl ?_
    show Steps p.tables e below (s₁.setTop (mkF m 22 #[.val (.ref a1), .val (.int p2), .val (.int p3), .val (.int p4), .val (.ref a5)] [(.int p2), (.ref a1)])) _
    refine XS.aconstNull X0.here hx rfl (hb hby d8_22) ?_
    show Steps p.tables e below (s₁.setTop (mkF m 23 #[.val (.ref a1), .val (.int p2), .val (.int p3), .val (.int p4), .val (.ref a5)] [.null, (.int p2), (.ref a1)])) _
    refine XS.iloadN X0.here hx rfl (hb hby d8_23) rfl ?_
    show Steps p.tables e below (s₁.setTop (mkF m 24 #[.val (.ref a1), .val (.int p2), .val (.int p3), .val (.int p4), .val (.ref a5)] [(.int p4), .null, (.int p2), (.ref a1)])) _
    refine st6.trans ?_
    show Steps p.tables e below (T6.setTop (mkF m 27 #[.val (.ref a1), .val (.int p2), .val (.int p3), .val (.int p4), .val (.ref a5)] [])) _
    exact X6.returnOut hx Bd.returns (hb hby d8_27) hr
  · show Q8 Z a1 p2 p3 p4 a5 w4 w7 ka kb vs ns h0 n0 _ T6.heap _
    exact ⟨rfl, N6, sz6, by rw [own_T, if_neg hc2, own_K, if_pos hc17]; exact S6⟩
set_option maxRecDepth 65536 in
set_option maxHeartbeats 40000000 in
theorem rm8c (l : Launch) (Z : State) (a0 : Array Value) (hw : ∀ d ∈ tables_1, d.before a0 Z = true) (ws : List Jvm.Cond) (a1 : Addr) (p2 : Int32) (p3 : Int32) (p4 : Int32) (a5 : Addr) (w4 w7 : Addr) (ka kb : ClassId) (vs ns : List Value) (h0 : Heap) (n0 : Nat) (Z0 : n0 ≤ h0.size) (S : Sl Z h0 a1 w4 w7 a5 ka kb vs ns) (hp : ¬ p2 < 0 ∧ p2 < 3) (g_w4 : n0 ≤ w4) (g_w7 : n0 ≤ w7) (hv : vs.set p2.toNatClampNeg .null = vs) (hn : ns.set p2.toNatClampNeg (.int (-1 : Int32)) = ns) (hc2 : ¬ (p3 = (1 : Int32))) (hc17 : ¬ (p3 = (2 : Int32))) :
    MetFree l (⟨"com/example/tenet/tenet/term/SlotsClearPinLaw", "fill", "(Lcom/example/tenet/tenet/term/Slots;IIILcom/example/tenet/tenet/term/Term;)V"⟩ : MethodName) (head1 (Jvm.Cond.code (⟨"com/example/tenet/tenet/term/SlotsClearPinLaw", "fill", "(Lcom/example/tenet/tenet/term/Slots;IIILcom/example/tenet/tenet/term/Term;)V"⟩ : MethodName) method_2_code 5 none :: ws) ({ frames := 1, cells := 0, slots := 0, locals := 15 } : Room)) (fun a U => a = #[(.ref a1), (.int p2), (.int p3), (.int p4), (.ref a5)] ∧ Z.Warmed39 U.vm ∧ U.heap = h0) (fun _ _ _ _ _ => True) (fun _ U o U' => ∃ v L, o = .returned v ∧ Q8 Z a1 p2 p3 p4 a5 w4 w7 ka kb vs ns h0 n0 v U'.heap L ∧ FrameEnd U o U' L ({ frames := 1, cells := 0, slots := 0, locals := 15 } : Room).cells ({ frames := 1, cells := 0, slots := 0, locals := 15 } : Room).slots) := by
  refine MetFree.of_bodySF (plainFor_of_name pn_8) hisR ?_
  intro p e s m args below meth c s₁ Bd hml0 hP hK
  obtain ⟨rfl, hZ, hh⟩ := hP
  have hx := Bd.exec
  have hby := Bd.bytes
  have hml : c.maxLocals = 5 := hml0
  have hown : s.vm.findClass "com/example/tenet/tenet/term/SlotsClearPinLaw" = some m.cls := findClass_of_methodNamed Bd.named
  have hnm := (name_of_methodNamed Bd.named Bd.method).1
  have X0 : Stand p l e ({ frames := 1, cells := 0, slots := 0, locals := 15 } : Room) s m #[(.ref a1), (.int p2), (.int p3), (.int p4), (.ref a5)] below meth c s₁ [] 0 0 := Stand.of_body Bd
  have e0 : s₁.heap = h0 := by rw [← hh, Bd.state]; rfl
  have N0 := Fr.nil n0
  have pre0 : ∀ t, Steps p.tables e below (s₁.setTop (mkF m 0 #[.val (.ref a1), .val (.int p2), .val (.int p3), .val (.int p4), .val (.ref a5)] [])) t → Steps p.tables e below (s₁.setTop (entryFrame m #[(.ref a1), (.int p2), (.int p3), (.int p4), (.ref a5)] 5)) t := fun t k => castTop (ef_8 m a1 p2 p3 p4 a5) k
  have E_a1 := S.1

  obtain ⟨fs, hr, hrun, hended, hW, hsame⟩ := X0.leave (v := none) (fun _ => rfl)
  refine ⟨_, _, pre0 _ ?_, hrun, hended, _, _, rfl, ?_, ⟨_, rfl⟩, hW, hsame.mono (by decide) (by decide)⟩
  · show Steps p.tables e below (s₁.setTop (mkF m 0 #[.val (.ref a1), .val (.int p2), .val (.int p3), .val (.int p4), .val (.ref a5)] [])) _
    refine XS.iloadN X0.here hx rfl (hb hby d8_0) rfl ?_
    show Steps p.tables e below (s₁.setTop (mkF m 1 #[.val (.ref a1), .val (.int p2), .val (.int p3), .val (.int p4), .val (.ref a5)] [(.int p3)])) _
    refine XS.iconst X0.here hx rfl (hb hby d8_1) ?_
    show Steps p.tables e below (s₁.setTop (mkF m 2 #[.val (.ref a1), .val (.int p2), .val (.int p3), .val (.int p4), .val (.ref a5)] [(.int (1 : Int32)), (.int p3)])) _
    refine XS.icmpYes X0.here hx rfl (pc0 := 2) (pc' := 15) rfl (hb hby d8_2) rfl (feq hc2).2 (by decide) (by decide) ?_
    show Steps p.tables e below (s₁.setTop (mkF m 15 #[.val (.ref a1), .val (.int p2), .val (.int p3), .val (.int p4), .val (.ref a5)] [])) _
    refine XS.iloadN X0.here hx rfl (hb hby d8_15) rfl ?_
    show Steps p.tables e below (s₁.setTop (mkF m 16 #[.val (.ref a1), .val (.int p2), .val (.int p3), .val (.int p4), .val (.ref a5)] [(.int p3)])) _
    refine XS.iconst X0.here hx rfl (hb hby d8_16) ?_
    show Steps p.tables e below (s₁.setTop (mkF m 17 #[.val (.ref a1), .val (.int p2), .val (.int p3), .val (.int p4), .val (.ref a5)] [(.int (2 : Int32)), (.int p3)])) _
    refine XS.icmpYes X0.here hx rfl (pc0 := 17) (pc' := 27) rfl (hb hby d8_17) rfl (feq hc17).2 (by decide) (by decide) ?_
    show Steps p.tables e below (s₁.setTop (mkF m 27 #[.val (.ref a1), .val (.int p2), .val (.int p3), .val (.int p4), .val (.ref a5)] [])) _
    exact X0.returnOut hx Bd.returns (hb hby d8_27) hr
  · show Q8 Z a1 p2 p3 p4 a5 w4 w7 ka kb vs ns h0 n0 _ s₁.heap _
    rw [e0]
    exact ⟨rfl, N0, Nat.le_refl _, by rw [own_T, if_neg hc2, own_K, if_neg hc17, hv, hn]; exact S⟩
set_option maxRecDepth 65536 in
theorem rm8 (l : Launch) (Z : State) (a0 : Array Value) (hw : ∀ d ∈ tables_1, d.before a0 Z = true) (ws : List Jvm.Cond) (a1 : Addr) (p2 : Int32) (p3 : Int32) (p4 : Int32) (a5 : Addr) (w4 w7 : Addr) (ka kb : ClassId) (vs ns : List Value) (h0 : Heap) (n0 : Nat) (Z0 : n0 ≤ h0.size) (S : Sl Z h0 a1 w4 w7 a5 ka kb vs ns) (hp : ¬ p2 < 0 ∧ p2 < 3) (g_w4 : n0 ≤ w4) (g_w7 : n0 ≤ w7) (hv : vs.set p2.toNatClampNeg .null = vs) (hn : ns.set p2.toNatClampNeg (.int (-1 : Int32)) = ns) :
    MetFree l (⟨"com/example/tenet/tenet/term/SlotsClearPinLaw", "fill", "(Lcom/example/tenet/tenet/term/Slots;IIILcom/example/tenet/tenet/term/Term;)V"⟩ : MethodName) (head1 (Jvm.Cond.code (⟨"com/example/tenet/tenet/term/SlotsClearPinLaw", "fill", "(Lcom/example/tenet/tenet/term/Slots;IIILcom/example/tenet/tenet/term/Term;)V"⟩ : MethodName) method_2_code 5 none :: ws) ({ frames := 1, cells := 0, slots := 0, locals := 15 } : Room)) (fun a U => a = #[(.ref a1), (.int p2), (.int p3), (.int p4), (.ref a5)] ∧ Z.Warmed39 U.vm ∧ U.heap = h0) (fun _ _ _ _ _ => True) (fun _ U o U' => ∃ v L, o = .returned v ∧ Q8 Z a1 p2 p3 p4 a5 w4 w7 ka kb vs ns h0 n0 v U'.heap L ∧ FrameEnd U o U' L ({ frames := 1, cells := 0, slots := 0, locals := 15 } : Room).cells ({ frames := 1, cells := 0, slots := 0, locals := 15 } : Room).slots) := by
  by_cases hc2 : p3 = (1 : Int32)
  · exact rm8a l Z a0 hw ws a1 p2 p3 p4 a5 w4 w7 ka kb vs ns h0 n0 Z0 S hp g_w4 g_w7 hv hn hc2
  · by_cases hc17 : p3 = (2 : Int32)
    · exact rm8b l Z a0 hw ws a1 p2 p3 p4 a5 w4 w7 ka kb vs ns h0 n0 Z0 S hp g_w4 g_w7 hv hn hc2 hc17
    · exact rm8c l Z a0 hw ws a1 p2 p3 p4 a5 w4 w7 ka kb vs ns h0 n0 Z0 S hp g_w4 g_w7 hv hn hc2 hc17
theorem d11_0 : decode method_3_code 0 = .ok (.iload 5, 2) := by decide +kernel
theorem d11_2 : decode method_3_code 2 = .ok (.iload_n 1, 1) := by decide +kernel
theorem d11_3 : decode method_3_code 3 = .ok (.if_icmp .gt 13, 3) := by decide +kernel
theorem d11_6 : decode method_3_code 6 = .ok (.iload_n 1, 1) := by decide +kernel
theorem d11_7 : decode method_3_code 7 = .ok (.iload 6, 2) := by decide +kernel
theorem d11_9 : decode method_3_code 9 = .ok (.if_icmp .ge 7, 3) := by decide +kernel
theorem d11_12 : decode method_3_code 12 = .ok (.iconst 1, 1) := by decide +kernel
theorem d11_13 : decode method_3_code 13 = .ok (.goto 4, 3) := by decide +kernel
theorem d11_16 : decode method_3_code 16 = .ok (.iconst 0, 1) := by decide +kernel
theorem d11_17 : decode method_3_code 17 = .ok (.istore 7, 2) := by decide +kernel
theorem d11_19 : decode method_3_code 19 = .ok (.iload 7, 2) := by decide +kernel
theorem d11_21 : decode method_3_code 21 = .ok (.ifCond .ne 12, 3) := by decide +kernel
theorem d11_24 : decode method_3_code 24 = .ok (.iload_n 2, 1) := by decide +kernel
theorem d11_25 : decode method_3_code 25 = .ok (.iconst 2, 1) := by decide +kernel
theorem d11_26 : decode method_3_code 26 = .ok (.if_icmp .ne 7, 3) := by decide +kernel
theorem d11_29 : decode method_3_code 29 = .ok (.iload_n 3, 1) := by decide +kernel
theorem d11_30 : decode method_3_code 30 = .ok (.goto 4, 3) := by decide +kernel
theorem d11_33 : decode method_3_code 33 = .ok (.iconst (-1), 1) := by decide +kernel
theorem d11_34 : decode method_3_code 34 = .ok (.istore 8, 2) := by decide +kernel
theorem d11_36 : decode method_3_code 36 = .ok (.aload_n 0, 1) := by decide +kernel
theorem d11_37 : decode method_3_code 37 = .ok (.iload_n 1, 1) := by decide +kernel
theorem d11_38 : decode method_3_code 38 = .ok (.invokevirtual 19, 3) := by decide +kernel
theorem d11_41 : decode method_3_code 41 = .ok (.istore 9, 2) := by decide +kernel
theorem d11_43 : decode method_3_code 43 = .ok (.iload 9, 2) := by decide +kernel
theorem d11_45 : decode method_3_code 45 = .ok (.iload 8, 2) := by decide +kernel
theorem d11_47 : decode method_3_code 47 = .ok (.if_icmp .eq 5, 3) := by decide +kernel
theorem d11_50 : decode method_3_code 50 = .ok (.iconst 0, 1) := by decide +kernel
theorem d11_51 : decode method_3_code 51 = .ok (.ireturn, 1) := by decide +kernel
theorem d11_52 : decode method_3_code 52 = .ok (.iload 9, 2) := by decide +kernel
theorem d11_54 : decode method_3_code 54 = .ok (.iconst (-1), 1) := by decide +kernel
theorem d11_55 : decode method_3_code 55 = .ok (.if_icmp .ne 37, 3) := by decide +kernel
theorem d11_58 : decode method_3_code 58 = .ok (.iload 7, 2) := by decide +kernel
theorem d11_60 : decode method_3_code 60 = .ok (.ifCond .ne 13, 3) := by decide +kernel
theorem d11_63 : decode method_3_code 63 = .ok (.iload_n 2, 1) := by decide +kernel
theorem d11_64 : decode method_3_code 64 = .ok (.iconst 1, 1) := by decide +kernel
theorem d11_65 : decode method_3_code 65 = .ok (.if_icmp .ne 8, 3) := by decide +kernel
theorem d11_68 : decode method_3_code 68 = .ok (.aload 4, 2) := by decide +kernel
theorem d11_70 : decode method_3_code 70 = .ok (.goto 4, 3) := by decide +kernel
theorem d11_73 : decode method_3_code 73 = .ok (.aconst_null, 1) := by decide +kernel
theorem d11_74 : decode method_3_code 74 = .ok (.astore 10, 2) := by decide +kernel
theorem d11_76 : decode method_3_code 76 = .ok (.aload_n 0, 1) := by decide +kernel
theorem d11_77 : decode method_3_code 77 = .ok (.iload_n 1, 1) := by decide +kernel
theorem d11_78 : decode method_3_code 78 = .ok (.invokevirtual 23, 3) := by decide +kernel
theorem d11_81 : decode method_3_code 81 = .ok (.astore 11, 2) := by decide +kernel
theorem d11_83 : decode method_3_code 83 = .ok (.aload 11, 2) := by decide +kernel
theorem d11_85 : decode method_3_code 85 = .ok (.aload 10, 2) := by decide +kernel
theorem d11_87 : decode method_3_code 87 = .ok (.if_acmp .eq 5, 3) := by decide +kernel
theorem d11_90 : decode method_3_code 90 = .ok (.iconst 0, 1) := by decide +kernel
theorem d11_91 : decode method_3_code 91 = .ok (.ireturn, 1) := by decide +kernel
theorem d11_92 : decode method_3_code 92 = .ok (.iconst 1, 1) := by decide +kernel
theorem d11_93 : decode method_3_code 93 = .ok (.ireturn, 1) := by decide +kernel
theorem pn_11 : plainName "com/example/tenet/tenet/term/SlotsClearPinLaw" = true := by first | (simp [plainName, overriddenIn]; done) | decide +kernel
theorem ef_11 (m : MethodId) (x0 : Addr) (x1 : Int32) (x2 : Int32) (x3 : Int32) (x4 : Addr) (x5 : Int32) (x6 : Int32) : entryFrame m #[(.ref x0), (.int x1), (.int x2), (.int x3), (.ref x4), (.int x5), (.int x6)] 12 = (mkF m 0 #[.val (.ref x0), .val (.int x1), .val (.int x2), .val (.int x3), .val (.ref x4), .val (.int x5), .val (.int x6), .unset, .unset, .unset, .unset, .unset] []) := by first | (simp [entryFrame, mkF, argsToLocals, Value.category]; done) | rfl
def f11_16 (x0 : Addr) (x1 : Int32) (x2 : Int32) (x3 : Int32) (x4 : Addr) (x5 : Int32) (x6 : Int32) : Int32 := (0 : Int32)
set_option maxRecDepth 65536 in
theorem b11_16 {p : Program} {l : Launch} {e : Env} {R : Room} {s : State} {m : MethodId} {args : Array Value} {below : List Frame} {meth : Method} {c : Code} {T : State} {locs : List Loc} {cells slots : Nat} (X : Stand p l e R s m args below meth c T locs cells slots) (hx : p.tables.exec = Jvm.exec) (hby : c.code = method_3_code) (x0 : Addr) (x1 : Int32) (x2 : Int32) (x3 : Int32) (x4 : Addr) (x5 : Int32) (x6 : Int32) {target : State} (hk : Steps p.tables e below (T.setTop (mkF m 17 #[.val (.ref x0), .val (.int x1), .val (.int x2), .val (.int x3), .val (.ref x4), .val (.int x5), .val (.int x6), .unset, .unset, .unset, .unset, .unset] [(.int (f11_16 x0 x1 x2 x3 x4 x5 x6))])) target) :
    Steps p.tables e below (T.setTop (mkF m 16 #[.val (.ref x0), .val (.int x1), .val (.int x2), .val (.int x3), .val (.ref x4), .val (.int x5), .val (.int x6), .unset, .unset, .unset, .unset, .unset] [])) target := by
  show Steps p.tables e below (T.setTop (mkF m 16 #[.val (.ref x0), .val (.int x1), .val (.int x2), .val (.int x3), .val (.ref x4), .val (.int x5), .val (.int x6), .unset, .unset, .unset, .unset, .unset] [])) _
  refine XS.iconst X.here hx rfl (hb hby d11_16) ?_
  exact hk
def f11_12 (x0 : Addr) (x1 : Int32) (x2 : Int32) (x3 : Int32) (x4 : Addr) (x5 : Int32) (x6 : Int32) : Int32 := (1 : Int32)
set_option maxRecDepth 65536 in
theorem b11_12 {p : Program} {l : Launch} {e : Env} {R : Room} {s : State} {m : MethodId} {args : Array Value} {below : List Frame} {meth : Method} {c : Code} {T : State} {locs : List Loc} {cells slots : Nat} (X : Stand p l e R s m args below meth c T locs cells slots) (hx : p.tables.exec = Jvm.exec) (hby : c.code = method_3_code) (x0 : Addr) (x1 : Int32) (x2 : Int32) (x3 : Int32) (x4 : Addr) (x5 : Int32) (x6 : Int32) {target : State} (hk : Steps p.tables e below (T.setTop (mkF m 17 #[.val (.ref x0), .val (.int x1), .val (.int x2), .val (.int x3), .val (.ref x4), .val (.int x5), .val (.int x6), .unset, .unset, .unset, .unset, .unset] [(.int (f11_12 x0 x1 x2 x3 x4 x5 x6))])) target) :
    Steps p.tables e below (T.setTop (mkF m 12 #[.val (.ref x0), .val (.int x1), .val (.int x2), .val (.int x3), .val (.ref x4), .val (.int x5), .val (.int x6), .unset, .unset, .unset, .unset, .unset] [])) target := by
  show Steps p.tables e below (T.setTop (mkF m 12 #[.val (.ref x0), .val (.int x1), .val (.int x2), .val (.int x3), .val (.ref x4), .val (.int x5), .val (.int x6), .unset, .unset, .unset, .unset, .unset] [])) _
  refine XS.iconst X.here hx rfl (hb hby d11_12) ?_
  show Steps p.tables e below (T.setTop (mkF m 13 #[.val (.ref x0), .val (.int x1), .val (.int x2), .val (.int x3), .val (.ref x4), .val (.int x5), .val (.int x6), .unset, .unset, .unset, .unset, .unset] [(.int (1 : Int32))])) _
  refine XS.goto X.here hx rfl (pc0 := 13) (pc' := 17) rfl (hb hby d11_13) (by decide) (by decide) ?_
  exact hk
def f11_6 (x0 : Addr) (x1 : Int32) (x2 : Int32) (x3 : Int32) (x4 : Addr) (x5 : Int32) (x6 : Int32) : Int32 := if x1 < x6 then f11_12 x0 x1 x2 x3 x4 x5 x6 else f11_16 x0 x1 x2 x3 x4 x5 x6
set_option maxRecDepth 65536 in
theorem b11_6 {p : Program} {l : Launch} {e : Env} {R : Room} {s : State} {m : MethodId} {args : Array Value} {below : List Frame} {meth : Method} {c : Code} {T : State} {locs : List Loc} {cells slots : Nat} (X : Stand p l e R s m args below meth c T locs cells slots) (hx : p.tables.exec = Jvm.exec) (hby : c.code = method_3_code) (x0 : Addr) (x1 : Int32) (x2 : Int32) (x3 : Int32) (x4 : Addr) (x5 : Int32) (x6 : Int32) {target : State} (hk : Steps p.tables e below (T.setTop (mkF m 17 #[.val (.ref x0), .val (.int x1), .val (.int x2), .val (.int x3), .val (.ref x4), .val (.int x5), .val (.int x6), .unset, .unset, .unset, .unset, .unset] [(.int (f11_6 x0 x1 x2 x3 x4 x5 x6))])) target) :
    Steps p.tables e below (T.setTop (mkF m 6 #[.val (.ref x0), .val (.int x1), .val (.int x2), .val (.int x3), .val (.ref x4), .val (.int x5), .val (.int x6), .unset, .unset, .unset, .unset, .unset] [])) target := by
  show Steps p.tables e below (T.setTop (mkF m 6 #[.val (.ref x0), .val (.int x1), .val (.int x2), .val (.int x3), .val (.ref x4), .val (.int x5), .val (.int x6), .unset, .unset, .unset, .unset, .unset] [])) _
  refine XS.iloadN X.here hx rfl (hb hby d11_6) rfl ?_
  show Steps p.tables e below (T.setTop (mkF m 7 #[.val (.ref x0), .val (.int x1), .val (.int x2), .val (.int x3), .val (.ref x4), .val (.int x5), .val (.int x6), .unset, .unset, .unset, .unset, .unset] [(.int x1)])) _
  refine XS.iload X.here hx rfl (hb hby d11_7) rfl ?_
  show Steps p.tables e below (T.setTop (mkF m 9 #[.val (.ref x0), .val (.int x1), .val (.int x2), .val (.int x3), .val (.ref x4), .val (.int x5), .val (.int x6), .unset, .unset, .unset, .unset, .unset] [(.int x6), (.int x1)])) _
  by_cases hc : x1 < x6
  · refine XS.icmpNo X.here hx rfl (hb hby d11_9) rfl (tlt hc).2.1 ?_
    rw [show f11_6 x0 x1 x2 x3 x4 x5 x6 = f11_12 x0 x1 x2 x3 x4 x5 x6 from if_pos hc] at hk; exact b11_12 X hx hby x0 x1 x2 x3 x4 x5 x6 hk
  · refine XS.icmpYes X.here hx rfl (pc0 := 9) (pc' := 16) rfl (hb hby d11_9) rfl (flt hc).2.1 (by decide) (by decide) ?_
    rw [show f11_6 x0 x1 x2 x3 x4 x5 x6 = f11_16 x0 x1 x2 x3 x4 x5 x6 from if_neg hc] at hk; exact b11_16 X hx hby x0 x1 x2 x3 x4 x5 x6 hk
def f11_0 (x0 : Addr) (x1 : Int32) (x2 : Int32) (x3 : Int32) (x4 : Addr) (x5 : Int32) (x6 : Int32) : Int32 := if x1 < x5 then f11_16 x0 x1 x2 x3 x4 x5 x6 else f11_6 x0 x1 x2 x3 x4 x5 x6
set_option maxRecDepth 65536 in
theorem b11_0 {p : Program} {l : Launch} {e : Env} {R : Room} {s : State} {m : MethodId} {args : Array Value} {below : List Frame} {meth : Method} {c : Code} {T : State} {locs : List Loc} {cells slots : Nat} (X : Stand p l e R s m args below meth c T locs cells slots) (hx : p.tables.exec = Jvm.exec) (hby : c.code = method_3_code) (x0 : Addr) (x1 : Int32) (x2 : Int32) (x3 : Int32) (x4 : Addr) (x5 : Int32) (x6 : Int32) {target : State} (hk : Steps p.tables e below (T.setTop (mkF m 17 #[.val (.ref x0), .val (.int x1), .val (.int x2), .val (.int x3), .val (.ref x4), .val (.int x5), .val (.int x6), .unset, .unset, .unset, .unset, .unset] [(.int (f11_0 x0 x1 x2 x3 x4 x5 x6))])) target) :
    Steps p.tables e below (T.setTop (mkF m 0 #[.val (.ref x0), .val (.int x1), .val (.int x2), .val (.int x3), .val (.ref x4), .val (.int x5), .val (.int x6), .unset, .unset, .unset, .unset, .unset] [])) target := by
  show Steps p.tables e below (T.setTop (mkF m 0 #[.val (.ref x0), .val (.int x1), .val (.int x2), .val (.int x3), .val (.ref x4), .val (.int x5), .val (.int x6), .unset, .unset, .unset, .unset, .unset] [])) _
  refine XS.iload X.here hx rfl (hb hby d11_0) rfl ?_
  show Steps p.tables e below (T.setTop (mkF m 2 #[.val (.ref x0), .val (.int x1), .val (.int x2), .val (.int x3), .val (.ref x4), .val (.int x5), .val (.int x6), .unset, .unset, .unset, .unset, .unset] [(.int x5)])) _
  refine XS.iloadN X.here hx rfl (hb hby d11_2) rfl ?_
  show Steps p.tables e below (T.setTop (mkF m 3 #[.val (.ref x0), .val (.int x1), .val (.int x2), .val (.int x3), .val (.ref x4), .val (.int x5), .val (.int x6), .unset, .unset, .unset, .unset, .unset] [(.int x1), (.int x5)])) _
  by_cases hc : x1 < x5
  · refine XS.icmpYes X.here hx rfl (pc0 := 3) (pc' := 16) rfl (hb hby d11_3) rfl (tlt hc).2.2.1 (by decide) (by decide) ?_
    rw [show f11_0 x0 x1 x2 x3 x4 x5 x6 = f11_16 x0 x1 x2 x3 x4 x5 x6 from if_pos hc] at hk; exact b11_16 X hx hby x0 x1 x2 x3 x4 x5 x6 hk
  · refine XS.icmpNo X.here hx rfl (hb hby d11_3) rfl (flt hc).2.2.1 ?_
    rw [show f11_0 x0 x1 x2 x3 x4 x5 x6 = f11_6 x0 x1 x2 x3 x4 x5 x6 from if_neg hc] at hk; exact b11_6 X hx hby x0 x1 x2 x3 x4 x5 x6 hk
def f11_33 (x0 : Addr) (x1 : Int32) (x2 : Int32) (x3 : Int32) (x4 : Addr) (x5 : Int32) (x6 : Int32) (x7 : Int32) : Int32 := (-1 : Int32)
set_option maxRecDepth 65536 in
theorem b11_33 {p : Program} {l : Launch} {e : Env} {R : Room} {s : State} {m : MethodId} {args : Array Value} {below : List Frame} {meth : Method} {c : Code} {T : State} {locs : List Loc} {cells slots : Nat} (X : Stand p l e R s m args below meth c T locs cells slots) (hx : p.tables.exec = Jvm.exec) (hby : c.code = method_3_code) (x0 : Addr) (x1 : Int32) (x2 : Int32) (x3 : Int32) (x4 : Addr) (x5 : Int32) (x6 : Int32) (x7 : Int32) {target : State} (hk : Steps p.tables e below (T.setTop (mkF m 34 #[.val (.ref x0), .val (.int x1), .val (.int x2), .val (.int x3), .val (.ref x4), .val (.int x5), .val (.int x6), .val (.int x7), .unset, .unset, .unset, .unset] [(.int (f11_33 x0 x1 x2 x3 x4 x5 x6 x7))])) target) :
    Steps p.tables e below (T.setTop (mkF m 33 #[.val (.ref x0), .val (.int x1), .val (.int x2), .val (.int x3), .val (.ref x4), .val (.int x5), .val (.int x6), .val (.int x7), .unset, .unset, .unset, .unset] [])) target := by
  show Steps p.tables e below (T.setTop (mkF m 33 #[.val (.ref x0), .val (.int x1), .val (.int x2), .val (.int x3), .val (.ref x4), .val (.int x5), .val (.int x6), .val (.int x7), .unset, .unset, .unset, .unset] [])) _
  refine XS.iconst X.here hx rfl (hb hby d11_33) ?_
  exact hk
def f11_29 (x0 : Addr) (x1 : Int32) (x2 : Int32) (x3 : Int32) (x4 : Addr) (x5 : Int32) (x6 : Int32) (x7 : Int32) : Int32 := x3
set_option maxRecDepth 65536 in
theorem b11_29 {p : Program} {l : Launch} {e : Env} {R : Room} {s : State} {m : MethodId} {args : Array Value} {below : List Frame} {meth : Method} {c : Code} {T : State} {locs : List Loc} {cells slots : Nat} (X : Stand p l e R s m args below meth c T locs cells slots) (hx : p.tables.exec = Jvm.exec) (hby : c.code = method_3_code) (x0 : Addr) (x1 : Int32) (x2 : Int32) (x3 : Int32) (x4 : Addr) (x5 : Int32) (x6 : Int32) (x7 : Int32) {target : State} (hk : Steps p.tables e below (T.setTop (mkF m 34 #[.val (.ref x0), .val (.int x1), .val (.int x2), .val (.int x3), .val (.ref x4), .val (.int x5), .val (.int x6), .val (.int x7), .unset, .unset, .unset, .unset] [(.int (f11_29 x0 x1 x2 x3 x4 x5 x6 x7))])) target) :
    Steps p.tables e below (T.setTop (mkF m 29 #[.val (.ref x0), .val (.int x1), .val (.int x2), .val (.int x3), .val (.ref x4), .val (.int x5), .val (.int x6), .val (.int x7), .unset, .unset, .unset, .unset] [])) target := by
  show Steps p.tables e below (T.setTop (mkF m 29 #[.val (.ref x0), .val (.int x1), .val (.int x2), .val (.int x3), .val (.ref x4), .val (.int x5), .val (.int x6), .val (.int x7), .unset, .unset, .unset, .unset] [])) _
  refine XS.iloadN X.here hx rfl (hb hby d11_29) rfl ?_
  show Steps p.tables e below (T.setTop (mkF m 30 #[.val (.ref x0), .val (.int x1), .val (.int x2), .val (.int x3), .val (.ref x4), .val (.int x5), .val (.int x6), .val (.int x7), .unset, .unset, .unset, .unset] [(.int x3)])) _
  refine XS.goto X.here hx rfl (pc0 := 30) (pc' := 34) rfl (hb hby d11_30) (by decide) (by decide) ?_
  exact hk
def f11_24 (x0 : Addr) (x1 : Int32) (x2 : Int32) (x3 : Int32) (x4 : Addr) (x5 : Int32) (x6 : Int32) (x7 : Int32) : Int32 := if x2 = (2 : Int32) then f11_29 x0 x1 x2 x3 x4 x5 x6 x7 else f11_33 x0 x1 x2 x3 x4 x5 x6 x7
set_option maxRecDepth 65536 in
theorem b11_24 {p : Program} {l : Launch} {e : Env} {R : Room} {s : State} {m : MethodId} {args : Array Value} {below : List Frame} {meth : Method} {c : Code} {T : State} {locs : List Loc} {cells slots : Nat} (X : Stand p l e R s m args below meth c T locs cells slots) (hx : p.tables.exec = Jvm.exec) (hby : c.code = method_3_code) (x0 : Addr) (x1 : Int32) (x2 : Int32) (x3 : Int32) (x4 : Addr) (x5 : Int32) (x6 : Int32) (x7 : Int32) {target : State} (hk : Steps p.tables e below (T.setTop (mkF m 34 #[.val (.ref x0), .val (.int x1), .val (.int x2), .val (.int x3), .val (.ref x4), .val (.int x5), .val (.int x6), .val (.int x7), .unset, .unset, .unset, .unset] [(.int (f11_24 x0 x1 x2 x3 x4 x5 x6 x7))])) target) :
    Steps p.tables e below (T.setTop (mkF m 24 #[.val (.ref x0), .val (.int x1), .val (.int x2), .val (.int x3), .val (.ref x4), .val (.int x5), .val (.int x6), .val (.int x7), .unset, .unset, .unset, .unset] [])) target := by
  show Steps p.tables e below (T.setTop (mkF m 24 #[.val (.ref x0), .val (.int x1), .val (.int x2), .val (.int x3), .val (.ref x4), .val (.int x5), .val (.int x6), .val (.int x7), .unset, .unset, .unset, .unset] [])) _
  refine XS.iloadN X.here hx rfl (hb hby d11_24) rfl ?_
  show Steps p.tables e below (T.setTop (mkF m 25 #[.val (.ref x0), .val (.int x1), .val (.int x2), .val (.int x3), .val (.ref x4), .val (.int x5), .val (.int x6), .val (.int x7), .unset, .unset, .unset, .unset] [(.int x2)])) _
  refine XS.iconst X.here hx rfl (hb hby d11_25) ?_
  show Steps p.tables e below (T.setTop (mkF m 26 #[.val (.ref x0), .val (.int x1), .val (.int x2), .val (.int x3), .val (.ref x4), .val (.int x5), .val (.int x6), .val (.int x7), .unset, .unset, .unset, .unset] [(.int (2 : Int32)), (.int x2)])) _
  by_cases hc : x2 = (2 : Int32)
  · refine XS.icmpNo X.here hx rfl (hb hby d11_26) rfl (teq hc).2 ?_
    rw [show f11_24 x0 x1 x2 x3 x4 x5 x6 x7 = f11_29 x0 x1 x2 x3 x4 x5 x6 x7 from if_pos hc] at hk; exact b11_29 X hx hby x0 x1 x2 x3 x4 x5 x6 x7 hk
  · refine XS.icmpYes X.here hx rfl (pc0 := 26) (pc' := 33) rfl (hb hby d11_26) rfl (feq hc).2 (by decide) (by decide) ?_
    rw [show f11_24 x0 x1 x2 x3 x4 x5 x6 x7 = f11_33 x0 x1 x2 x3 x4 x5 x6 x7 from if_neg hc] at hk; exact b11_33 X hx hby x0 x1 x2 x3 x4 x5 x6 x7 hk
def f11_19 (x0 : Addr) (x1 : Int32) (x2 : Int32) (x3 : Int32) (x4 : Addr) (x5 : Int32) (x6 : Int32) (x7 : Int32) : Int32 := if x7 = (0 : Int32) then f11_24 x0 x1 x2 x3 x4 x5 x6 x7 else f11_33 x0 x1 x2 x3 x4 x5 x6 x7
set_option maxRecDepth 65536 in
theorem b11_19 {p : Program} {l : Launch} {e : Env} {R : Room} {s : State} {m : MethodId} {args : Array Value} {below : List Frame} {meth : Method} {c : Code} {T : State} {locs : List Loc} {cells slots : Nat} (X : Stand p l e R s m args below meth c T locs cells slots) (hx : p.tables.exec = Jvm.exec) (hby : c.code = method_3_code) (x0 : Addr) (x1 : Int32) (x2 : Int32) (x3 : Int32) (x4 : Addr) (x5 : Int32) (x6 : Int32) (x7 : Int32) {target : State} (hk : Steps p.tables e below (T.setTop (mkF m 34 #[.val (.ref x0), .val (.int x1), .val (.int x2), .val (.int x3), .val (.ref x4), .val (.int x5), .val (.int x6), .val (.int x7), .unset, .unset, .unset, .unset] [(.int (f11_19 x0 x1 x2 x3 x4 x5 x6 x7))])) target) :
    Steps p.tables e below (T.setTop (mkF m 19 #[.val (.ref x0), .val (.int x1), .val (.int x2), .val (.int x3), .val (.ref x4), .val (.int x5), .val (.int x6), .val (.int x7), .unset, .unset, .unset, .unset] [])) target := by
  show Steps p.tables e below (T.setTop (mkF m 19 #[.val (.ref x0), .val (.int x1), .val (.int x2), .val (.int x3), .val (.ref x4), .val (.int x5), .val (.int x6), .val (.int x7), .unset, .unset, .unset, .unset] [])) _
  refine XS.iload X.here hx rfl (hb hby d11_19) rfl ?_
  show Steps p.tables e below (T.setTop (mkF m 21 #[.val (.ref x0), .val (.int x1), .val (.int x2), .val (.int x3), .val (.ref x4), .val (.int x5), .val (.int x6), .val (.int x7), .unset, .unset, .unset, .unset] [(.int x7)])) _
  by_cases hc : x7 = (0 : Int32)
  · refine XS.ifNo X.here hx rfl (hb hby d11_21) rfl ((if0 _ _).trans (teq hc).2) ?_
    rw [show f11_19 x0 x1 x2 x3 x4 x5 x6 x7 = f11_24 x0 x1 x2 x3 x4 x5 x6 x7 from if_pos hc] at hk; exact b11_24 X hx hby x0 x1 x2 x3 x4 x5 x6 x7 hk
  · refine XS.ifYes X.here hx rfl (pc0 := 21) (pc' := 33) rfl (hb hby d11_21) rfl ((if0 _ _).trans (feq hc).2) (by decide) (by decide) ?_
    rw [show f11_19 x0 x1 x2 x3 x4 x5 x6 x7 = f11_33 x0 x1 x2 x3 x4 x5 x6 x7 from if_neg hc] at hk; exact b11_33 X hx hby x0 x1 x2 x3 x4 x5 x6 x7 hk
def Q11 (Z : State) (x0 : Addr) (x1 : Int32) (x2 : Int32) (x3 : Int32) (x4 : Addr) (x5 : Int32) (x6 : Int32) (w4 w7 : Addr) (ka kb : ClassId) (vs ns : List Value) (h0 : Heap) (n0 : Nat) (v : Option Value) (h : Heap) (L : List Loc) : Prop := v = some (.int (1 : Int32)) ∧ Fr n0 L ∧ h = h0
theorem own_exp (x0 : Addr) (x1 x2 x3 : Int32) (x4 : Addr) (x5 x6 x7 : Int32) : f11_19 x0 x1 x2 x3 x4 x5 x6 x7 = (if x7 = (0 : Int32) then own_K x2 x3 else -1) := rfl
theorem pdK_0 : parseMethodDescriptor "(I)I" = some ⟨[.int], some .int⟩ := by decide +kernel
set_option maxRecDepth 65536 in
set_option maxHeartbeats 40000000 in
theorem rm11a (l : Launch) (Z : State) (a0 : Array Value) (hw : ∀ d ∈ tables_1, d.before a0 Z = true) (ws : List Jvm.Cond) (x0 : Addr) (x1 : Int32) (x2 : Int32) (x3 : Int32) (x4 : Addr) (x5 : Int32) (x6 : Int32) (w4 w7 : Addr) (ka kb : ClassId) (vs ns : List Value) (h0 : Heap) (n0 : Nat) (Z0 : n0 ≤ h0.size) (S : Sl Z h0 x0 w4 w7 x4 ka kb vs ns) (hp : ¬ x1 < 0 ∧ x1 < 3) (hv : vs.getD x1.toNatClampNeg .null = if (f11_0 x0 x1 x2 x3 x4 x5 x6) = (0 : Int32) then own_T x2 x4 else .null) (hn : ns.getD x1.toNatClampNeg (.int (0 : Int32)) = .int (if (f11_0 x0 x1 x2 x3 x4 x5 x6) = (0 : Int32) then own_K x2 x3 else -1)) (h55 : ¬ ((if (f11_0 x0 x1 x2 x3 x4 x5 x6) = (0 : Int32) then own_K x2 x3 else -1) = (-1 : Int32))) :
    MetFree l (⟨"com/example/tenet/tenet/term/SlotsClearPinLaw", "slotOk", "(Lcom/example/tenet/tenet/term/Slots;IIILcom/example/tenet/tenet/term/Term;II)Z"⟩ : MethodName) (head1 (Jvm.Cond.code (⟨"com/example/tenet/tenet/term/SlotsClearPinLaw", "slotOk", "(Lcom/example/tenet/tenet/term/Slots;IIILcom/example/tenet/tenet/term/Term;II)Z"⟩ : MethodName) method_3_code 12 (some .boolean) :: ws) ({ frames := 1, cells := 0, slots := 0, locals := 14 } : Room)) (fun a U => a = #[(.ref x0), (.int x1), (.int x2), (.int x3), (.ref x4), (.int x5), (.int x6)] ∧ Z.Warmed39 U.vm ∧ U.heap = h0) (fun _ _ _ _ _ => True) (fun _ U o U' => ∃ v L, o = .returned v ∧ Q11 Z x0 x1 x2 x3 x4 x5 x6 w4 w7 ka kb vs ns h0 n0 v U'.heap L ∧ FrameEnd U o U' L ({ frames := 1, cells := 0, slots := 0, locals := 14 } : Room).cells ({ frames := 1, cells := 0, slots := 0, locals := 14 } : Room).slots) := by
  refine MetFree.of_bodySF (plainFor_of_name pn_11) hisR ?_
  intro p e s m args below meth c s₁ Bd hml0 hP hK
  obtain ⟨rfl, hZ, hh⟩ := hP
  have hx := Bd.exec
  have hby := Bd.bytes
  have hml : c.maxLocals = 12 := hml0
  have hown : s.vm.findClass "com/example/tenet/tenet/term/SlotsClearPinLaw" = some m.cls := findClass_of_methodNamed Bd.named
  have hnm := (name_of_methodNamed Bd.named Bd.method).1
  have X0 : Stand p l e ({ frames := 1, cells := 0, slots := 0, locals := 14 } : Room) s m #[(.ref x0), (.int x1), (.int x2), (.int x3), (.ref x4), (.int x5), (.int x6)] below meth c s₁ [] 0 0 := Stand.of_body Bd
  have e0 : s₁.heap = h0 := by rw [← hh, Bd.state]; rfl
  have N0 := Fr.nil n0
  have pre0 : ∀ t, Steps p.tables e below (s₁.setTop (mkF m 0 #[.val (.ref x0), .val (.int x1), .val (.int x2), .val (.int x3), .val (.ref x4), .val (.int x5), .val (.int x6), .unset, .unset, .unset, .unset, .unset] [])) t → Steps p.tables e below (s₁.setTop (entryFrame m #[(.ref x0), (.int x1), (.int x2), (.int x3), (.ref x4), (.int x5), (.int x6)] 12)) t := fun t k => castTop (ef_11 m x0 x1 x2 x3 x4 x5 x6) k
  obtain ⟨cq1, kq1, q1a, q1b, q1c⟩ := isOf hZ e0 S.1
  obtain ⟨_, _, ⟨T1, L1, k1, n1⟩, -, X1, ⟨Lc1, hQ1, l1, y1, z1⟩, st1⟩ := X0.virtualBack hx (y := (⟨"com/example/tenet/tenet/term/Slots", "node", "(I)I"⟩ : MethodName)) (z := (⟨"com/example/tenet/tenet/term/Slots", "node", "(I)I"⟩ : MethodName)) hown (mvT hZ (hw _ (List.mem_of_getElem? (i := 62) rfl))) (mvT hZ (hw _ (List.mem_of_getElem? (i := 63) rfl))) (notFace_of_selects (args := #[]) (mvT hZ (hw _ (List.mem_of_getElem? (i := 65) rfl)))) (mvT hZ (hw _ (List.mem_of_getElem? (i := 65) rfl))) (mvT hZ (hw _ (List.mem_of_getElem? (i := 64) rfl))) (by decide) (backOf (W := 0) (rm12 l Z a0 hw [] x0 x1 (if (f11_0 x0 x1 x2 x3 x4 x5 x6) = (0 : Int32) then own_K x2 x3 else -1) x4 w4 w7 ka kb vs ns h0 n0 Z0 S hp hn) hZ (hw _ (List.mem_of_getElem? (i := 66) rfl)) (hw _ (List.mem_of_getElem? (i := 24) rfl)) (by decide) (by decide)) q1a q1c (g := (mkF m 38 #[.val (.ref x0), .val (.int x1), .val (.int x2), .val (.int x3), .val (.ref x4), .val (.int x5), .val (.int x6), .val (.int (f11_0 x0 x1 x2 x3 x4 x5 x6)), .val (.int (f11_19 x0 x1 x2 x3 x4 x5 x6 (f11_0 x0 x1 x2 x3 x4 x5 x6))), .unset, .unset, .unset] [(.int x1), (.ref x0)])) rfl (by rw [hml]; rfl) (Steps.refl _) (argsL := [(.int x1)]) (rest := []) (lenOf pdK_0 rfl) rfl (by show 2 * 0 + _ ≤ _; exact Nat.le_of_eq rfl) (hb hby d11_38) (fun _ _ => ⟨rfl, e0, (by decide : 0 + 0 ≤ _), (by decide : 0 + 0 ≤ _)⟩)
  dsimp only [Pt.U, Pt.locs, Pt.cells, Pt.slots] at X1 l1 y1 z1 st1 hQ1
  subst l1 y1 z1
  obtain ⟨rfl, N1q, e1⟩ := hQ1
  have N1 := Fr.app N0 N1q
  obtain ⟨fs, hr, hrun, hended, hW, hsame⟩ := X1.leave (v := some (.int (1 : Int32))) (fun h => by rw [Bd.returns] at h; cases h)
  refine ⟨_, _, pre0 _ ?_, hrun, hended, _, _, rfl, ?_, ⟨_, rfl⟩, hW, hsame.mono (by decide) (by decide)⟩
  · show Steps p.tables e below (s₁.setTop (mkF m 0 #[.val (.ref x0), .val (.int x1), .val (.int x2), .val (.int x3), .val (.ref x4), .val (.int x5), .val (.int x6), .unset, .unset, .unset, .unset, .unset] [])) _
    refine b11_0 X0 hx hby x0 x1 x2 x3 x4 x5 x6 ?_
    show Steps p.tables e below (s₁.setTop (mkF m 17 #[.val (.ref x0), .val (.int x1), .val (.int x2), .val (.int x3), .val (.ref x4), .val (.int x5), .val (.int x6), .unset, .unset, .unset, .unset, .unset] [(.int (f11_0 x0 x1 x2 x3 x4 x5 x6))])) _
    refine XS.istore X0.here hx rfl (hb hby d11_17) rfl (l' := #[.val (.ref x0), .val (.int x1), .val (.int x2), .val (.int x3), .val (.ref x4), .val (.int x5), .val (.int x6), .val (.int (f11_0 x0 x1 x2 x3 x4 x5 x6)), .unset, .unset, .unset, .unset]) rfl ?_
    show Steps p.tables e below (s₁.setTop (mkF m 19 #[.val (.ref x0), .val (.int x1), .val (.int x2), .val (.int x3), .val (.ref x4), .val (.int x5), .val (.int x6), .val (.int (f11_0 x0 x1 x2 x3 x4 x5 x6)), .unset, .unset, .unset, .unset] [])) _
    refine b11_19 X0 hx hby x0 x1 x2 x3 x4 x5 x6 (f11_0 x0 x1 x2 x3 x4 x5 x6) ?_
    show Steps p.tables e below (s₁.setTop (mkF m 34 #[.val (.ref x0), .val (.int x1), .val (.int x2), .val (.int x3), .val (.ref x4), .val (.int x5), .val (.int x6), .val (.int (f11_0 x0 x1 x2 x3 x4 x5 x6)), .unset, .unset, .unset, .unset] [(.int (f11_19 x0 x1 x2 x3 x4 x5 x6 (f11_0 x0 x1 x2 x3 x4 x5 x6)))])) _
    refine XS.istore X0.here hx rfl (hb hby d11_34) rfl (l' := #[.val (.ref x0), .val (.int x1), .val (.int x2), .val (.int x3), .val (.ref x4), .val (.int x5), .val (.int x6), .val (.int (f11_0 x0 x1 x2 x3 x4 x5 x6)), .val (.int (f11_19 x0 x1 x2 x3 x4 x5 x6 (f11_0 x0 x1 x2 x3 x4 x5 x6))), .unset, .unset, .unset]) rfl ?_
    show Steps p.tables e below (s₁.setTop (mkF m 36 #[.val (.ref x0), .val (.int x1), .val (.int x2), .val (.int x3), .val (.ref x4), .val (.int x5), .val (.int x6), .val (.int (f11_0 x0 x1 x2 x3 x4 x5 x6)), .val (.int (f11_19 x0 x1 x2 x3 x4 x5 x6 (f11_0 x0 x1 x2 x3 x4 x5 x6))), .unset, .unset, .unset] [])) _
    refine XS.aloadN X0.here hx rfl (hb hby d11_36) rfl rfl ?_
    show Steps p.tables e below (s₁.setTop (mkF m 37 #[.val (.ref x0), .val (.int x1), .val (.int x2), .val (.int x3), .val (.ref x4), .val (.int x5), .val (.int x6), .val (.int (f11_0 x0 x1 x2 x3 x4 x5 x6)), .val (.int (f11_19 x0 x1 x2 x3 x4 x5 x6 (f11_0 x0 x1 x2 x3 x4 x5 x6))), .unset, .unset, .unset] [(.ref x0)])) _
    refine XS.iloadN X0.here hx rfl (hb hby d11_37) rfl ?_
    show Steps p.tables e below (s₁.setTop (mkF m 38 #[.val (.ref x0), .val (.int x1), .val (.int x2), .val (.int x3), .val (.ref x4), .val (.int x5), .val (.int x6), .val (.int (f11_0 x0 x1 x2 x3 x4 x5 x6)), .val (.int (f11_19 x0 x1 x2 x3 x4 x5 x6 (f11_0 x0 x1 x2 x3 x4 x5 x6))), .unset, .unset, .unset] [(.int x1), (.ref x0)])) _
    refine st1.trans ?_
    show Steps p.tables e below (T1.setTop (mkF m 41 #[.val (.ref x0), .val (.int x1), .val (.int x2), .val (.int x3), .val (.ref x4), .val (.int x5), .val (.int x6), .val (.int (f11_0 x0 x1 x2 x3 x4 x5 x6)), .val (.int (f11_19 x0 x1 x2 x3 x4 x5 x6 (f11_0 x0 x1 x2 x3 x4 x5 x6))), .unset, .unset, .unset] [(.int (if (f11_0 x0 x1 x2 x3 x4 x5 x6) = (0 : Int32) then own_K x2 x3 else -1))])) _
    refine XS.istore X1.here hx rfl (hb hby d11_41) rfl (l' := #[.val (.ref x0), .val (.int x1), .val (.int x2), .val (.int x3), .val (.ref x4), .val (.int x5), .val (.int x6), .val (.int (f11_0 x0 x1 x2 x3 x4 x5 x6)), .val (.int (f11_19 x0 x1 x2 x3 x4 x5 x6 (f11_0 x0 x1 x2 x3 x4 x5 x6))), .val (.int (if (f11_0 x0 x1 x2 x3 x4 x5 x6) = (0 : Int32) then own_K x2 x3 else -1)), .unset, .unset]) rfl ?_
    show Steps p.tables e below (T1.setTop (mkF m 43 #[.val (.ref x0), .val (.int x1), .val (.int x2), .val (.int x3), .val (.ref x4), .val (.int x5), .val (.int x6), .val (.int (f11_0 x0 x1 x2 x3 x4 x5 x6)), .val (.int (f11_19 x0 x1 x2 x3 x4 x5 x6 (f11_0 x0 x1 x2 x3 x4 x5 x6))), .val (.int (if (f11_0 x0 x1 x2 x3 x4 x5 x6) = (0 : Int32) then own_K x2 x3 else -1)), .unset, .unset] [])) _
    refine XS.iload X1.here hx rfl (hb hby d11_43) rfl ?_
    show Steps p.tables e below (T1.setTop (mkF m 45 #[.val (.ref x0), .val (.int x1), .val (.int x2), .val (.int x3), .val (.ref x4), .val (.int x5), .val (.int x6), .val (.int (f11_0 x0 x1 x2 x3 x4 x5 x6)), .val (.int (f11_19 x0 x1 x2 x3 x4 x5 x6 (f11_0 x0 x1 x2 x3 x4 x5 x6))), .val (.int (if (f11_0 x0 x1 x2 x3 x4 x5 x6) = (0 : Int32) then own_K x2 x3 else -1)), .unset, .unset] [(.int (if (f11_0 x0 x1 x2 x3 x4 x5 x6) = (0 : Int32) then own_K x2 x3 else -1))])) _
    refine XS.iload X1.here hx rfl (hb hby d11_45) rfl ?_
    show Steps p.tables e below (T1.setTop (mkF m 47 #[.val (.ref x0), .val (.int x1), .val (.int x2), .val (.int x3), .val (.ref x4), .val (.int x5), .val (.int x6), .val (.int (f11_0 x0 x1 x2 x3 x4 x5 x6)), .val (.int (f11_19 x0 x1 x2 x3 x4 x5 x6 (f11_0 x0 x1 x2 x3 x4 x5 x6))), .val (.int (if (f11_0 x0 x1 x2 x3 x4 x5 x6) = (0 : Int32) then own_K x2 x3 else -1)), .unset, .unset] [(.int (f11_19 x0 x1 x2 x3 x4 x5 x6 (f11_0 x0 x1 x2 x3 x4 x5 x6))), (.int (if (f11_0 x0 x1 x2 x3 x4 x5 x6) = (0 : Int32) then own_K x2 x3 else -1))])) _
    refine XS.icmpYes X1.here hx rfl (pc0 := 47) (pc' := 52) rfl (hb hby d11_47) rfl (teq ((own_exp x0 x1 x2 x3 x4 x5 x6 (f11_0 x0 x1 x2 x3 x4 x5 x6)).symm : (if (f11_0 x0 x1 x2 x3 x4 x5 x6) = (0 : Int32) then own_K x2 x3 else -1) = (f11_19 x0 x1 x2 x3 x4 x5 x6 (f11_0 x0 x1 x2 x3 x4 x5 x6)))).1 (by decide) (by decide) ?_
    show Steps p.tables e below (T1.setTop (mkF m 52 #[.val (.ref x0), .val (.int x1), .val (.int x2), .val (.int x3), .val (.ref x4), .val (.int x5), .val (.int x6), .val (.int (f11_0 x0 x1 x2 x3 x4 x5 x6)), .val (.int (f11_19 x0 x1 x2 x3 x4 x5 x6 (f11_0 x0 x1 x2 x3 x4 x5 x6))), .val (.int (if (f11_0 x0 x1 x2 x3 x4 x5 x6) = (0 : Int32) then own_K x2 x3 else -1)), .unset, .unset] [])) _
    refine XS.iload X1.here hx rfl (hb hby d11_52) rfl ?_
    show Steps p.tables e below (T1.setTop (mkF m 54 #[.val (.ref x0), .val (.int x1), .val (.int x2), .val (.int x3), .val (.ref x4), .val (.int x5), .val (.int x6), .val (.int (f11_0 x0 x1 x2 x3 x4 x5 x6)), .val (.int (f11_19 x0 x1 x2 x3 x4 x5 x6 (f11_0 x0 x1 x2 x3 x4 x5 x6))), .val (.int (if (f11_0 x0 x1 x2 x3 x4 x5 x6) = (0 : Int32) then own_K x2 x3 else -1)), .unset, .unset] [(.int (if (f11_0 x0 x1 x2 x3 x4 x5 x6) = (0 : Int32) then own_K x2 x3 else -1))])) _
    refine XS.iconst X1.here hx rfl (hb hby d11_54) ?_
    show Steps p.tables e below (T1.setTop (mkF m 55 #[.val (.ref x0), .val (.int x1), .val (.int x2), .val (.int x3), .val (.ref x4), .val (.int x5), .val (.int x6), .val (.int (f11_0 x0 x1 x2 x3 x4 x5 x6)), .val (.int (f11_19 x0 x1 x2 x3 x4 x5 x6 (f11_0 x0 x1 x2 x3 x4 x5 x6))), .val (.int (if (f11_0 x0 x1 x2 x3 x4 x5 x6) = (0 : Int32) then own_K x2 x3 else -1)), .unset, .unset] [(.int (-1 : Int32)), (.int (if (f11_0 x0 x1 x2 x3 x4 x5 x6) = (0 : Int32) then own_K x2 x3 else -1))])) _
    refine XS.icmpYes X1.here hx rfl (pc0 := 55) (pc' := 92) rfl (hb hby d11_55) rfl (feq (h55 : ¬ ((if (f11_0 x0 x1 x2 x3 x4 x5 x6) = (0 : Int32) then own_K x2 x3 else -1) = (-1 : Int32)))).2 (by decide) (by decide) ?_
    show Steps p.tables e below (T1.setTop (mkF m 92 #[.val (.ref x0), .val (.int x1), .val (.int x2), .val (.int x3), .val (.ref x4), .val (.int x5), .val (.int x6), .val (.int (f11_0 x0 x1 x2 x3 x4 x5 x6)), .val (.int (f11_19 x0 x1 x2 x3 x4 x5 x6 (f11_0 x0 x1 x2 x3 x4 x5 x6))), .val (.int (if (f11_0 x0 x1 x2 x3 x4 x5 x6) = (0 : Int32) then own_K x2 x3 else -1)), .unset, .unset] [])) _
    refine XS.iconst X1.here hx rfl (hb hby d11_92) ?_
    show Steps p.tables e below (T1.setTop (mkF m 93 #[.val (.ref x0), .val (.int x1), .val (.int x2), .val (.int x3), .val (.ref x4), .val (.int x5), .val (.int x6), .val (.int (f11_0 x0 x1 x2 x3 x4 x5 x6)), .val (.int (f11_19 x0 x1 x2 x3 x4 x5 x6 (f11_0 x0 x1 x2 x3 x4 x5 x6))), .val (.int (if (f11_0 x0 x1 x2 x3 x4 x5 x6) = (0 : Int32) then own_K x2 x3 else -1)), .unset, .unset] [(.int (1 : Int32))])) _
    exact retN X1 hx (t := .boolean) Bd.returns (by simp) (hb hby d11_93) hr
  · show Q11 Z x0 x1 x2 x3 x4 x5 x6 w4 w7 ka kb vs ns h0 n0 _ T1.heap _
    rw [e1]
    exact ⟨rfl, N1, rfl⟩
theorem pdK_1 : parseMethodDescriptor "(I)Lcom/example/tenet/tenet/term/Term;" = some ⟨[.int], some (.object "com/example/tenet/tenet/term/Term")⟩ := by decide +kernel
set_option maxRecDepth 65536 in
set_option maxHeartbeats 40000000 in
theorem rm11b (l : Launch) (Z : State) (a0 : Array Value) (hw : ∀ d ∈ tables_1, d.before a0 Z = true) (ws : List Jvm.Cond) (x0 : Addr) (x1 : Int32) (x2 : Int32) (x3 : Int32) (x4 : Addr) (x5 : Int32) (x6 : Int32) (w4 w7 : Addr) (ka kb : ClassId) (vs ns : List Value) (h0 : Heap) (n0 : Nat) (Z0 : n0 ≤ h0.size) (S : Sl Z h0 x0 w4 w7 x4 ka kb vs ns) (hp : ¬ x1 < 0 ∧ x1 < 3) (hv : vs.getD x1.toNatClampNeg .null = if (f11_0 x0 x1 x2 x3 x4 x5 x6) = (0 : Int32) then own_T x2 x4 else .null) (hn : ns.getD x1.toNatClampNeg (.int (0 : Int32)) = .int (if (f11_0 x0 x1 x2 x3 x4 x5 x6) = (0 : Int32) then own_K x2 x3 else -1)) (h55 : (if (f11_0 x0 x1 x2 x3 x4 x5 x6) = (0 : Int32) then own_K x2 x3 else -1) = (-1 : Int32)) (h60 : ¬ ((f11_0 x0 x1 x2 x3 x4 x5 x6) = (0 : Int32))) :
    MetFree l (⟨"com/example/tenet/tenet/term/SlotsClearPinLaw", "slotOk", "(Lcom/example/tenet/tenet/term/Slots;IIILcom/example/tenet/tenet/term/Term;II)Z"⟩ : MethodName) (head1 (Jvm.Cond.code (⟨"com/example/tenet/tenet/term/SlotsClearPinLaw", "slotOk", "(Lcom/example/tenet/tenet/term/Slots;IIILcom/example/tenet/tenet/term/Term;II)Z"⟩ : MethodName) method_3_code 12 (some .boolean) :: ws) ({ frames := 1, cells := 0, slots := 0, locals := 14 } : Room)) (fun a U => a = #[(.ref x0), (.int x1), (.int x2), (.int x3), (.ref x4), (.int x5), (.int x6)] ∧ Z.Warmed39 U.vm ∧ U.heap = h0) (fun _ _ _ _ _ => True) (fun _ U o U' => ∃ v L, o = .returned v ∧ Q11 Z x0 x1 x2 x3 x4 x5 x6 w4 w7 ka kb vs ns h0 n0 v U'.heap L ∧ FrameEnd U o U' L ({ frames := 1, cells := 0, slots := 0, locals := 14 } : Room).cells ({ frames := 1, cells := 0, slots := 0, locals := 14 } : Room).slots) := by
  refine MetFree.of_bodySF (plainFor_of_name pn_11) hisR ?_
  intro p e s m args below meth c s₁ Bd hml0 hP hK
  obtain ⟨rfl, hZ, hh⟩ := hP
  have hx := Bd.exec
  have hby := Bd.bytes
  have hml : c.maxLocals = 12 := hml0
  have hown : s.vm.findClass "com/example/tenet/tenet/term/SlotsClearPinLaw" = some m.cls := findClass_of_methodNamed Bd.named
  have hnm := (name_of_methodNamed Bd.named Bd.method).1
  have X0 : Stand p l e ({ frames := 1, cells := 0, slots := 0, locals := 14 } : Room) s m #[(.ref x0), (.int x1), (.int x2), (.int x3), (.ref x4), (.int x5), (.int x6)] below meth c s₁ [] 0 0 := Stand.of_body Bd
  have e0 : s₁.heap = h0 := by rw [← hh, Bd.state]; rfl
  have N0 := Fr.nil n0
  have pre0 : ∀ t, Steps p.tables e below (s₁.setTop (mkF m 0 #[.val (.ref x0), .val (.int x1), .val (.int x2), .val (.int x3), .val (.ref x4), .val (.int x5), .val (.int x6), .unset, .unset, .unset, .unset, .unset] [])) t → Steps p.tables e below (s₁.setTop (entryFrame m #[(.ref x0), (.int x1), (.int x2), (.int x3), (.ref x4), (.int x5), (.int x6)] 12)) t := fun t k => castTop (ef_11 m x0 x1 x2 x3 x4 x5 x6) k
  obtain ⟨cq1, kq1, q1a, q1b, q1c⟩ := isOf hZ e0 S.1
  obtain ⟨_, _, ⟨T1, L1, k1, n1⟩, -, X1, ⟨Lc1, hQ1, l1, y1, z1⟩, st1⟩ := X0.virtualBack hx (y := (⟨"com/example/tenet/tenet/term/Slots", "node", "(I)I"⟩ : MethodName)) (z := (⟨"com/example/tenet/tenet/term/Slots", "node", "(I)I"⟩ : MethodName)) hown (mvT hZ (hw _ (List.mem_of_getElem? (i := 62) rfl))) (mvT hZ (hw _ (List.mem_of_getElem? (i := 63) rfl))) (notFace_of_selects (args := #[]) (mvT hZ (hw _ (List.mem_of_getElem? (i := 65) rfl)))) (mvT hZ (hw _ (List.mem_of_getElem? (i := 65) rfl))) (mvT hZ (hw _ (List.mem_of_getElem? (i := 64) rfl))) (by decide) (backOf (W := 0) (rm12 l Z a0 hw [] x0 x1 (if (f11_0 x0 x1 x2 x3 x4 x5 x6) = (0 : Int32) then own_K x2 x3 else -1) x4 w4 w7 ka kb vs ns h0 n0 Z0 S hp hn) hZ (hw _ (List.mem_of_getElem? (i := 66) rfl)) (hw _ (List.mem_of_getElem? (i := 24) rfl)) (by decide) (by decide)) q1a q1c (g := (mkF m 38 #[.val (.ref x0), .val (.int x1), .val (.int x2), .val (.int x3), .val (.ref x4), .val (.int x5), .val (.int x6), .val (.int (f11_0 x0 x1 x2 x3 x4 x5 x6)), .val (.int (f11_19 x0 x1 x2 x3 x4 x5 x6 (f11_0 x0 x1 x2 x3 x4 x5 x6))), .unset, .unset, .unset] [(.int x1), (.ref x0)])) rfl (by rw [hml]; rfl) (Steps.refl _) (argsL := [(.int x1)]) (rest := []) (lenOf pdK_0 rfl) rfl (by show 2 * 0 + _ ≤ _; exact Nat.le_of_eq rfl) (hb hby d11_38) (fun _ _ => ⟨rfl, e0, (by decide : 0 + 0 ≤ _), (by decide : 0 + 0 ≤ _)⟩)
  dsimp only [Pt.U, Pt.locs, Pt.cells, Pt.slots] at X1 l1 y1 z1 st1 hQ1
  subst l1 y1 z1
  obtain ⟨rfl, N1q, e1⟩ := hQ1
  have N1 := Fr.app N0 N1q
  obtain ⟨cq2, kq2, q2a, q2b, q2c⟩ := isOf hZ e1 S.1
  obtain ⟨_, _, ⟨T2, L2, k2, n2⟩, -, X2, ⟨Lc2, hQ2, l2, y2, z2⟩, st2⟩ := X1.virtualBack hx (y := (⟨"com/example/tenet/tenet/term/Slots", "get", "(I)Lcom/example/tenet/tenet/term/Term;"⟩ : MethodName)) (z := (⟨"com/example/tenet/tenet/term/Slots", "get", "(I)Lcom/example/tenet/tenet/term/Term;"⟩ : MethodName)) hown (mvT hZ (hw _ (List.mem_of_getElem? (i := 67) rfl))) (mvT hZ (hw _ (List.mem_of_getElem? (i := 68) rfl))) (notFace_of_selects (args := #[]) (mvT hZ (hw _ (List.mem_of_getElem? (i := 70) rfl)))) (mvT hZ (hw _ (List.mem_of_getElem? (i := 70) rfl))) (mvT hZ (hw _ (List.mem_of_getElem? (i := 69) rfl))) (by decide) (backOf (W := 0) (rm13 l Z a0 hw [] x0 x1 .null x4 w4 w7 ka kb vs ns h0 n0 Z0 S hp (by rw [hn, h55]) (hv.trans (if_neg h60)) rfl) hZ (hw _ (List.mem_of_getElem? (i := 71) rfl)) (hw _ (List.mem_of_getElem? (i := 24) rfl)) (by decide) (by decide)) q2a q2c (g := (mkF m 78 #[.val (.ref x0), .val (.int x1), .val (.int x2), .val (.int x3), .val (.ref x4), .val (.int x5), .val (.int x6), .val (.int (f11_0 x0 x1 x2 x3 x4 x5 x6)), .val (.int (f11_19 x0 x1 x2 x3 x4 x5 x6 (f11_0 x0 x1 x2 x3 x4 x5 x6))), .val (.int (if (f11_0 x0 x1 x2 x3 x4 x5 x6) = (0 : Int32) then own_K x2 x3 else -1)), .val .null, .unset] [(.int x1), (.ref x0)])) rfl (by rw [hml]; rfl) (Steps.refl _) (argsL := [(.int x1)]) (rest := []) (lenOf pdK_1 rfl) rfl (by show 2 * 0 + _ ≤ _; exact Nat.le_of_eq rfl) (hb hby d11_78) (fun _ _ => ⟨rfl, e1, (by decide : 0 + 0 ≤ _), (by decide : 0 + 0 ≤ _)⟩)
  dsimp only [Pt.U, Pt.locs, Pt.cells, Pt.slots] at X2 l2 y2 z2 st2 hQ2
  subst l2 y2 z2
  obtain ⟨rfl, N2q, e2⟩ := hQ2
  have N2 := Fr.app N1 N2q
  obtain ⟨fs, hr, hrun, hended, hW, hsame⟩ := X2.leave (v := some (.int (1 : Int32))) (fun h => by rw [Bd.returns] at h; cases h)
  refine ⟨_, _, pre0 _ ?_, hrun, hended, _, _, rfl, ?_, ⟨_, rfl⟩, hW, hsame.mono (by decide) (by decide)⟩
  · show Steps p.tables e below (s₁.setTop (mkF m 0 #[.val (.ref x0), .val (.int x1), .val (.int x2), .val (.int x3), .val (.ref x4), .val (.int x5), .val (.int x6), .unset, .unset, .unset, .unset, .unset] [])) _
    refine b11_0 X0 hx hby x0 x1 x2 x3 x4 x5 x6 ?_
    show Steps p.tables e below (s₁.setTop (mkF m 17 #[.val (.ref x0), .val (.int x1), .val (.int x2), .val (.int x3), .val (.ref x4), .val (.int x5), .val (.int x6), .unset, .unset, .unset, .unset, .unset] [(.int (f11_0 x0 x1 x2 x3 x4 x5 x6))])) _
    refine XS.istore X0.here hx rfl (hb hby d11_17) rfl (l' := #[.val (.ref x0), .val (.int x1), .val (.int x2), .val (.int x3), .val (.ref x4), .val (.int x5), .val (.int x6), .val (.int (f11_0 x0 x1 x2 x3 x4 x5 x6)), .unset, .unset, .unset, .unset]) rfl ?_
    show Steps p.tables e below (s₁.setTop (mkF m 19 #[.val (.ref x0), .val (.int x1), .val (.int x2), .val (.int x3), .val (.ref x4), .val (.int x5), .val (.int x6), .val (.int (f11_0 x0 x1 x2 x3 x4 x5 x6)), .unset, .unset, .unset, .unset] [])) _
    refine b11_19 X0 hx hby x0 x1 x2 x3 x4 x5 x6 (f11_0 x0 x1 x2 x3 x4 x5 x6) ?_
    show Steps p.tables e below (s₁.setTop (mkF m 34 #[.val (.ref x0), .val (.int x1), .val (.int x2), .val (.int x3), .val (.ref x4), .val (.int x5), .val (.int x6), .val (.int (f11_0 x0 x1 x2 x3 x4 x5 x6)), .unset, .unset, .unset, .unset] [(.int (f11_19 x0 x1 x2 x3 x4 x5 x6 (f11_0 x0 x1 x2 x3 x4 x5 x6)))])) _
    refine XS.istore X0.here hx rfl (hb hby d11_34) rfl (l' := #[.val (.ref x0), .val (.int x1), .val (.int x2), .val (.int x3), .val (.ref x4), .val (.int x5), .val (.int x6), .val (.int (f11_0 x0 x1 x2 x3 x4 x5 x6)), .val (.int (f11_19 x0 x1 x2 x3 x4 x5 x6 (f11_0 x0 x1 x2 x3 x4 x5 x6))), .unset, .unset, .unset]) rfl ?_
    show Steps p.tables e below (s₁.setTop (mkF m 36 #[.val (.ref x0), .val (.int x1), .val (.int x2), .val (.int x3), .val (.ref x4), .val (.int x5), .val (.int x6), .val (.int (f11_0 x0 x1 x2 x3 x4 x5 x6)), .val (.int (f11_19 x0 x1 x2 x3 x4 x5 x6 (f11_0 x0 x1 x2 x3 x4 x5 x6))), .unset, .unset, .unset] [])) _
    refine XS.aloadN X0.here hx rfl (hb hby d11_36) rfl rfl ?_
    show Steps p.tables e below (s₁.setTop (mkF m 37 #[.val (.ref x0), .val (.int x1), .val (.int x2), .val (.int x3), .val (.ref x4), .val (.int x5), .val (.int x6), .val (.int (f11_0 x0 x1 x2 x3 x4 x5 x6)), .val (.int (f11_19 x0 x1 x2 x3 x4 x5 x6 (f11_0 x0 x1 x2 x3 x4 x5 x6))), .unset, .unset, .unset] [(.ref x0)])) _
    refine XS.iloadN X0.here hx rfl (hb hby d11_37) rfl ?_
    show Steps p.tables e below (s₁.setTop (mkF m 38 #[.val (.ref x0), .val (.int x1), .val (.int x2), .val (.int x3), .val (.ref x4), .val (.int x5), .val (.int x6), .val (.int (f11_0 x0 x1 x2 x3 x4 x5 x6)), .val (.int (f11_19 x0 x1 x2 x3 x4 x5 x6 (f11_0 x0 x1 x2 x3 x4 x5 x6))), .unset, .unset, .unset] [(.int x1), (.ref x0)])) _
    refine st1.trans ?_
    show Steps p.tables e below (T1.setTop (mkF m 41 #[.val (.ref x0), .val (.int x1), .val (.int x2), .val (.int x3), .val (.ref x4), .val (.int x5), .val (.int x6), .val (.int (f11_0 x0 x1 x2 x3 x4 x5 x6)), .val (.int (f11_19 x0 x1 x2 x3 x4 x5 x6 (f11_0 x0 x1 x2 x3 x4 x5 x6))), .unset, .unset, .unset] [(.int (if (f11_0 x0 x1 x2 x3 x4 x5 x6) = (0 : Int32) then own_K x2 x3 else -1))])) _
    refine XS.istore X1.here hx rfl (hb hby d11_41) rfl (l' := #[.val (.ref x0), .val (.int x1), .val (.int x2), .val (.int x3), .val (.ref x4), .val (.int x5), .val (.int x6), .val (.int (f11_0 x0 x1 x2 x3 x4 x5 x6)), .val (.int (f11_19 x0 x1 x2 x3 x4 x5 x6 (f11_0 x0 x1 x2 x3 x4 x5 x6))), .val (.int (if (f11_0 x0 x1 x2 x3 x4 x5 x6) = (0 : Int32) then own_K x2 x3 else -1)), .unset, .unset]) rfl ?_
    show Steps p.tables e below (T1.setTop (mkF m 43 #[.val (.ref x0), .val (.int x1), .val (.int x2), .val (.int x3), .val (.ref x4), .val (.int x5), .val (.int x6), .val (.int (f11_0 x0 x1 x2 x3 x4 x5 x6)), .val (.int (f11_19 x0 x1 x2 x3 x4 x5 x6 (f11_0 x0 x1 x2 x3 x4 x5 x6))), .val (.int (if (f11_0 x0 x1 x2 x3 x4 x5 x6) = (0 : Int32) then own_K x2 x3 else -1)), .unset, .unset] [])) _
    refine XS.iload X1.here hx rfl (hb hby d11_43) rfl ?_
    show Steps p.tables e below (T1.setTop (mkF m 45 #[.val (.ref x0), .val (.int x1), .val (.int x2), .val (.int x3), .val (.ref x4), .val (.int x5), .val (.int x6), .val (.int (f11_0 x0 x1 x2 x3 x4 x5 x6)), .val (.int (f11_19 x0 x1 x2 x3 x4 x5 x6 (f11_0 x0 x1 x2 x3 x4 x5 x6))), .val (.int (if (f11_0 x0 x1 x2 x3 x4 x5 x6) = (0 : Int32) then own_K x2 x3 else -1)), .unset, .unset] [(.int (if (f11_0 x0 x1 x2 x3 x4 x5 x6) = (0 : Int32) then own_K x2 x3 else -1))])) _
    refine XS.iload X1.here hx rfl (hb hby d11_45) rfl ?_
    show Steps p.tables e below (T1.setTop (mkF m 47 #[.val (.ref x0), .val (.int x1), .val (.int x2), .val (.int x3), .val (.ref x4), .val (.int x5), .val (.int x6), .val (.int (f11_0 x0 x1 x2 x3 x4 x5 x6)), .val (.int (f11_19 x0 x1 x2 x3 x4 x5 x6 (f11_0 x0 x1 x2 x3 x4 x5 x6))), .val (.int (if (f11_0 x0 x1 x2 x3 x4 x5 x6) = (0 : Int32) then own_K x2 x3 else -1)), .unset, .unset] [(.int (f11_19 x0 x1 x2 x3 x4 x5 x6 (f11_0 x0 x1 x2 x3 x4 x5 x6))), (.int (if (f11_0 x0 x1 x2 x3 x4 x5 x6) = (0 : Int32) then own_K x2 x3 else -1))])) _
    refine XS.icmpYes X1.here hx rfl (pc0 := 47) (pc' := 52) rfl (hb hby d11_47) rfl (teq ((own_exp x0 x1 x2 x3 x4 x5 x6 (f11_0 x0 x1 x2 x3 x4 x5 x6)).symm : (if (f11_0 x0 x1 x2 x3 x4 x5 x6) = (0 : Int32) then own_K x2 x3 else -1) = (f11_19 x0 x1 x2 x3 x4 x5 x6 (f11_0 x0 x1 x2 x3 x4 x5 x6)))).1 (by decide) (by decide) ?_
    show Steps p.tables e below (T1.setTop (mkF m 52 #[.val (.ref x0), .val (.int x1), .val (.int x2), .val (.int x3), .val (.ref x4), .val (.int x5), .val (.int x6), .val (.int (f11_0 x0 x1 x2 x3 x4 x5 x6)), .val (.int (f11_19 x0 x1 x2 x3 x4 x5 x6 (f11_0 x0 x1 x2 x3 x4 x5 x6))), .val (.int (if (f11_0 x0 x1 x2 x3 x4 x5 x6) = (0 : Int32) then own_K x2 x3 else -1)), .unset, .unset] [])) _
    refine XS.iload X1.here hx rfl (hb hby d11_52) rfl ?_
    show Steps p.tables e below (T1.setTop (mkF m 54 #[.val (.ref x0), .val (.int x1), .val (.int x2), .val (.int x3), .val (.ref x4), .val (.int x5), .val (.int x6), .val (.int (f11_0 x0 x1 x2 x3 x4 x5 x6)), .val (.int (f11_19 x0 x1 x2 x3 x4 x5 x6 (f11_0 x0 x1 x2 x3 x4 x5 x6))), .val (.int (if (f11_0 x0 x1 x2 x3 x4 x5 x6) = (0 : Int32) then own_K x2 x3 else -1)), .unset, .unset] [(.int (if (f11_0 x0 x1 x2 x3 x4 x5 x6) = (0 : Int32) then own_K x2 x3 else -1))])) _
    refine XS.iconst X1.here hx rfl (hb hby d11_54) ?_
    show Steps p.tables e below (T1.setTop (mkF m 55 #[.val (.ref x0), .val (.int x1), .val (.int x2), .val (.int x3), .val (.ref x4), .val (.int x5), .val (.int x6), .val (.int (f11_0 x0 x1 x2 x3 x4 x5 x6)), .val (.int (f11_19 x0 x1 x2 x3 x4 x5 x6 (f11_0 x0 x1 x2 x3 x4 x5 x6))), .val (.int (if (f11_0 x0 x1 x2 x3 x4 x5 x6) = (0 : Int32) then own_K x2 x3 else -1)), .unset, .unset] [(.int (-1 : Int32)), (.int (if (f11_0 x0 x1 x2 x3 x4 x5 x6) = (0 : Int32) then own_K x2 x3 else -1))])) _
    refine XS.icmpNo X1.here hx rfl (hb hby d11_55) rfl (teq (h55 : (if (f11_0 x0 x1 x2 x3 x4 x5 x6) = (0 : Int32) then own_K x2 x3 else -1) = (-1 : Int32))).2 ?_
    show Steps p.tables e below (T1.setTop (mkF m 58 #[.val (.ref x0), .val (.int x1), .val (.int x2), .val (.int x3), .val (.ref x4), .val (.int x5), .val (.int x6), .val (.int (f11_0 x0 x1 x2 x3 x4 x5 x6)), .val (.int (f11_19 x0 x1 x2 x3 x4 x5 x6 (f11_0 x0 x1 x2 x3 x4 x5 x6))), .val (.int (if (f11_0 x0 x1 x2 x3 x4 x5 x6) = (0 : Int32) then own_K x2 x3 else -1)), .unset, .unset] [])) _
    refine XS.iload X1.here hx rfl (hb hby d11_58) rfl ?_
    show Steps p.tables e below (T1.setTop (mkF m 60 #[.val (.ref x0), .val (.int x1), .val (.int x2), .val (.int x3), .val (.ref x4), .val (.int x5), .val (.int x6), .val (.int (f11_0 x0 x1 x2 x3 x4 x5 x6)), .val (.int (f11_19 x0 x1 x2 x3 x4 x5 x6 (f11_0 x0 x1 x2 x3 x4 x5 x6))), .val (.int (if (f11_0 x0 x1 x2 x3 x4 x5 x6) = (0 : Int32) then own_K x2 x3 else -1)), .unset, .unset] [(.int (f11_0 x0 x1 x2 x3 x4 x5 x6))])) _
    refine XS.ifYes X1.here hx rfl (pc0 := 60) (pc' := 73) rfl (hb hby d11_60) rfl ((if0 _ _).trans (feq (h60 : ¬ ((f11_0 x0 x1 x2 x3 x4 x5 x6) = (0 : Int32)))).2) (by decide) (by decide) ?_
    show Steps p.tables e below (T1.setTop (mkF m 73 #[.val (.ref x0), .val (.int x1), .val (.int x2), .val (.int x3), .val (.ref x4), .val (.int x5), .val (.int x6), .val (.int (f11_0 x0 x1 x2 x3 x4 x5 x6)), .val (.int (f11_19 x0 x1 x2 x3 x4 x5 x6 (f11_0 x0 x1 x2 x3 x4 x5 x6))), .val (.int (if (f11_0 x0 x1 x2 x3 x4 x5 x6) = (0 : Int32) then own_K x2 x3 else -1)), .unset, .unset] [])) _
    refine XS.aconstNull X1.here hx rfl (hb hby d11_73) ?_
    show Steps p.tables e below (T1.setTop (mkF m 74 #[.val (.ref x0), .val (.int x1), .val (.int x2), .val (.int x3), .val (.ref x4), .val (.int x5), .val (.int x6), .val (.int (f11_0 x0 x1 x2 x3 x4 x5 x6)), .val (.int (f11_19 x0 x1 x2 x3 x4 x5 x6 (f11_0 x0 x1 x2 x3 x4 x5 x6))), .val (.int (if (f11_0 x0 x1 x2 x3 x4 x5 x6) = (0 : Int32) then own_K x2 x3 else -1)), .unset, .unset] [.null])) _
    refine XS.astore X1.here hx rfl (hb hby d11_74) rfl rfl (l' := #[.val (.ref x0), .val (.int x1), .val (.int x2), .val (.int x3), .val (.ref x4), .val (.int x5), .val (.int x6), .val (.int (f11_0 x0 x1 x2 x3 x4 x5 x6)), .val (.int (f11_19 x0 x1 x2 x3 x4 x5 x6 (f11_0 x0 x1 x2 x3 x4 x5 x6))), .val (.int (if (f11_0 x0 x1 x2 x3 x4 x5 x6) = (0 : Int32) then own_K x2 x3 else -1)), .val .null, .unset]) rfl ?_
    show Steps p.tables e below (T1.setTop (mkF m 76 #[.val (.ref x0), .val (.int x1), .val (.int x2), .val (.int x3), .val (.ref x4), .val (.int x5), .val (.int x6), .val (.int (f11_0 x0 x1 x2 x3 x4 x5 x6)), .val (.int (f11_19 x0 x1 x2 x3 x4 x5 x6 (f11_0 x0 x1 x2 x3 x4 x5 x6))), .val (.int (if (f11_0 x0 x1 x2 x3 x4 x5 x6) = (0 : Int32) then own_K x2 x3 else -1)), .val .null, .unset] [])) _
    refine XS.aloadN X1.here hx rfl (hb hby d11_76) rfl rfl ?_
    show Steps p.tables e below (T1.setTop (mkF m 77 #[.val (.ref x0), .val (.int x1), .val (.int x2), .val (.int x3), .val (.ref x4), .val (.int x5), .val (.int x6), .val (.int (f11_0 x0 x1 x2 x3 x4 x5 x6)), .val (.int (f11_19 x0 x1 x2 x3 x4 x5 x6 (f11_0 x0 x1 x2 x3 x4 x5 x6))), .val (.int (if (f11_0 x0 x1 x2 x3 x4 x5 x6) = (0 : Int32) then own_K x2 x3 else -1)), .val .null, .unset] [(.ref x0)])) _
    refine XS.iloadN X1.here hx rfl (hb hby d11_77) rfl ?_
    show Steps p.tables e below (T1.setTop (mkF m 78 #[.val (.ref x0), .val (.int x1), .val (.int x2), .val (.int x3), .val (.ref x4), .val (.int x5), .val (.int x6), .val (.int (f11_0 x0 x1 x2 x3 x4 x5 x6)), .val (.int (f11_19 x0 x1 x2 x3 x4 x5 x6 (f11_0 x0 x1 x2 x3 x4 x5 x6))), .val (.int (if (f11_0 x0 x1 x2 x3 x4 x5 x6) = (0 : Int32) then own_K x2 x3 else -1)), .val .null, .unset] [(.int x1), (.ref x0)])) _
    refine st2.trans ?_
    show Steps p.tables e below (T2.setTop (mkF m 81 #[.val (.ref x0), .val (.int x1), .val (.int x2), .val (.int x3), .val (.ref x4), .val (.int x5), .val (.int x6), .val (.int (f11_0 x0 x1 x2 x3 x4 x5 x6)), .val (.int (f11_19 x0 x1 x2 x3 x4 x5 x6 (f11_0 x0 x1 x2 x3 x4 x5 x6))), .val (.int (if (f11_0 x0 x1 x2 x3 x4 x5 x6) = (0 : Int32) then own_K x2 x3 else -1)), .val .null, .unset] [.null])) _
    refine XS.astore X2.here hx rfl (hb hby d11_81) rfl rfl (l' := #[.val (.ref x0), .val (.int x1), .val (.int x2), .val (.int x3), .val (.ref x4), .val (.int x5), .val (.int x6), .val (.int (f11_0 x0 x1 x2 x3 x4 x5 x6)), .val (.int (f11_19 x0 x1 x2 x3 x4 x5 x6 (f11_0 x0 x1 x2 x3 x4 x5 x6))), .val (.int (if (f11_0 x0 x1 x2 x3 x4 x5 x6) = (0 : Int32) then own_K x2 x3 else -1)), .val .null, .val .null]) rfl ?_
    show Steps p.tables e below (T2.setTop (mkF m 83 #[.val (.ref x0), .val (.int x1), .val (.int x2), .val (.int x3), .val (.ref x4), .val (.int x5), .val (.int x6), .val (.int (f11_0 x0 x1 x2 x3 x4 x5 x6)), .val (.int (f11_19 x0 x1 x2 x3 x4 x5 x6 (f11_0 x0 x1 x2 x3 x4 x5 x6))), .val (.int (if (f11_0 x0 x1 x2 x3 x4 x5 x6) = (0 : Int32) then own_K x2 x3 else -1)), .val .null, .val .null] [])) _
    refine XS.aload X2.here hx rfl (hb hby d11_83) rfl rfl ?_
    show Steps p.tables e below (T2.setTop (mkF m 85 #[.val (.ref x0), .val (.int x1), .val (.int x2), .val (.int x3), .val (.ref x4), .val (.int x5), .val (.int x6), .val (.int (f11_0 x0 x1 x2 x3 x4 x5 x6)), .val (.int (f11_19 x0 x1 x2 x3 x4 x5 x6 (f11_0 x0 x1 x2 x3 x4 x5 x6))), .val (.int (if (f11_0 x0 x1 x2 x3 x4 x5 x6) = (0 : Int32) then own_K x2 x3 else -1)), .val .null, .val .null] [.null])) _
    refine XS.aload X2.here hx rfl (hb hby d11_85) rfl rfl ?_
    show Steps p.tables e below (T2.setTop (mkF m 87 #[.val (.ref x0), .val (.int x1), .val (.int x2), .val (.int x3), .val (.ref x4), .val (.int x5), .val (.int x6), .val (.int (f11_0 x0 x1 x2 x3 x4 x5 x6)), .val (.int (f11_19 x0 x1 x2 x3 x4 x5 x6 (f11_0 x0 x1 x2 x3 x4 x5 x6))), .val (.int (if (f11_0 x0 x1 x2 x3 x4 x5 x6) = (0 : Int32) then own_K x2 x3 else -1)), .val .null, .val .null] [.null, .null])) _
    refine Jvm.RoadKit.acmp (g := (mkF m 87 #[.val (.ref x0), .val (.int x1), .val (.int x2), .val (.int x3), .val (.ref x4), .val (.int x5), .val (.int x6), .val (.int (f11_0 x0 x1 x2 x3 x4 x5 x6)), .val (.int (f11_19 x0 x1 x2 x3 x4 x5 x6 (f11_0 x0 x1 x2 x3 x4 x5 x6))), .val (.int (if (f11_0 x0 x1 x2 x3 x4 x5 x6) = (0 : Int32) then own_K x2 x3 else -1)), .val .null, .val .null] [.null, .null])) X2 hx rfl rfl rfl (pc0 := 87) (pc' := 92) (same := true) rfl (hb hby d11_87) rfl (decide_eq_true rfl) (by decide) (by decide) ?_
    show Steps p.tables e below (T2.setTop (mkF m 92 #[.val (.ref x0), .val (.int x1), .val (.int x2), .val (.int x3), .val (.ref x4), .val (.int x5), .val (.int x6), .val (.int (f11_0 x0 x1 x2 x3 x4 x5 x6)), .val (.int (f11_19 x0 x1 x2 x3 x4 x5 x6 (f11_0 x0 x1 x2 x3 x4 x5 x6))), .val (.int (if (f11_0 x0 x1 x2 x3 x4 x5 x6) = (0 : Int32) then own_K x2 x3 else -1)), .val .null, .val .null] [])) _
    refine XS.iconst X2.here hx rfl (hb hby d11_92) ?_
    show Steps p.tables e below (T2.setTop (mkF m 93 #[.val (.ref x0), .val (.int x1), .val (.int x2), .val (.int x3), .val (.ref x4), .val (.int x5), .val (.int x6), .val (.int (f11_0 x0 x1 x2 x3 x4 x5 x6)), .val (.int (f11_19 x0 x1 x2 x3 x4 x5 x6 (f11_0 x0 x1 x2 x3 x4 x5 x6))), .val (.int (if (f11_0 x0 x1 x2 x3 x4 x5 x6) = (0 : Int32) then own_K x2 x3 else -1)), .val .null, .val .null] [(.int (1 : Int32))])) _
    exact retN X2 hx (t := .boolean) Bd.returns (by simp) (hb hby d11_93) hr
  · show Q11 Z x0 x1 x2 x3 x4 x5 x6 w4 w7 ka kb vs ns h0 n0 _ T2.heap _
    rw [e2]
    exact ⟨rfl, N2, rfl⟩
set_option maxRecDepth 65536 in
set_option maxHeartbeats 40000000 in
theorem rm11c (l : Launch) (Z : State) (a0 : Array Value) (hw : ∀ d ∈ tables_1, d.before a0 Z = true) (ws : List Jvm.Cond) (x0 : Addr) (x1 : Int32) (x2 : Int32) (x3 : Int32) (x4 : Addr) (x5 : Int32) (x6 : Int32) (w4 w7 : Addr) (ka kb : ClassId) (vs ns : List Value) (h0 : Heap) (n0 : Nat) (Z0 : n0 ≤ h0.size) (S : Sl Z h0 x0 w4 w7 x4 ka kb vs ns) (hp : ¬ x1 < 0 ∧ x1 < 3) (hv : vs.getD x1.toNatClampNeg .null = if (f11_0 x0 x1 x2 x3 x4 x5 x6) = (0 : Int32) then own_T x2 x4 else .null) (hn : ns.getD x1.toNatClampNeg (.int (0 : Int32)) = .int (if (f11_0 x0 x1 x2 x3 x4 x5 x6) = (0 : Int32) then own_K x2 x3 else -1)) (h55 : (if (f11_0 x0 x1 x2 x3 x4 x5 x6) = (0 : Int32) then own_K x2 x3 else -1) = (-1 : Int32)) (h60 : (f11_0 x0 x1 x2 x3 x4 x5 x6) = (0 : Int32)) (h65 : ¬ (x2 = (1 : Int32))) :
    MetFree l (⟨"com/example/tenet/tenet/term/SlotsClearPinLaw", "slotOk", "(Lcom/example/tenet/tenet/term/Slots;IIILcom/example/tenet/tenet/term/Term;II)Z"⟩ : MethodName) (head1 (Jvm.Cond.code (⟨"com/example/tenet/tenet/term/SlotsClearPinLaw", "slotOk", "(Lcom/example/tenet/tenet/term/Slots;IIILcom/example/tenet/tenet/term/Term;II)Z"⟩ : MethodName) method_3_code 12 (some .boolean) :: ws) ({ frames := 1, cells := 0, slots := 0, locals := 14 } : Room)) (fun a U => a = #[(.ref x0), (.int x1), (.int x2), (.int x3), (.ref x4), (.int x5), (.int x6)] ∧ Z.Warmed39 U.vm ∧ U.heap = h0) (fun _ _ _ _ _ => True) (fun _ U o U' => ∃ v L, o = .returned v ∧ Q11 Z x0 x1 x2 x3 x4 x5 x6 w4 w7 ka kb vs ns h0 n0 v U'.heap L ∧ FrameEnd U o U' L ({ frames := 1, cells := 0, slots := 0, locals := 14 } : Room).cells ({ frames := 1, cells := 0, slots := 0, locals := 14 } : Room).slots) := by
  refine MetFree.of_bodySF (plainFor_of_name pn_11) hisR ?_
  intro p e s m args below meth c s₁ Bd hml0 hP hK
  obtain ⟨rfl, hZ, hh⟩ := hP
  have hx := Bd.exec
  have hby := Bd.bytes
  have hml : c.maxLocals = 12 := hml0
  have hown : s.vm.findClass "com/example/tenet/tenet/term/SlotsClearPinLaw" = some m.cls := findClass_of_methodNamed Bd.named
  have hnm := (name_of_methodNamed Bd.named Bd.method).1
  have X0 : Stand p l e ({ frames := 1, cells := 0, slots := 0, locals := 14 } : Room) s m #[(.ref x0), (.int x1), (.int x2), (.int x3), (.ref x4), (.int x5), (.int x6)] below meth c s₁ [] 0 0 := Stand.of_body Bd
  have e0 : s₁.heap = h0 := by rw [← hh, Bd.state]; rfl
  have N0 := Fr.nil n0
  have pre0 : ∀ t, Steps p.tables e below (s₁.setTop (mkF m 0 #[.val (.ref x0), .val (.int x1), .val (.int x2), .val (.int x3), .val (.ref x4), .val (.int x5), .val (.int x6), .unset, .unset, .unset, .unset, .unset] [])) t → Steps p.tables e below (s₁.setTop (entryFrame m #[(.ref x0), (.int x1), (.int x2), (.int x3), (.ref x4), (.int x5), (.int x6)] 12)) t := fun t k => castTop (ef_11 m x0 x1 x2 x3 x4 x5 x6) k
  obtain ⟨cq1, kq1, q1a, q1b, q1c⟩ := isOf hZ e0 S.1
  obtain ⟨_, _, ⟨T1, L1, k1, n1⟩, -, X1, ⟨Lc1, hQ1, l1, y1, z1⟩, st1⟩ := X0.virtualBack hx (y := (⟨"com/example/tenet/tenet/term/Slots", "node", "(I)I"⟩ : MethodName)) (z := (⟨"com/example/tenet/tenet/term/Slots", "node", "(I)I"⟩ : MethodName)) hown (mvT hZ (hw _ (List.mem_of_getElem? (i := 62) rfl))) (mvT hZ (hw _ (List.mem_of_getElem? (i := 63) rfl))) (notFace_of_selects (args := #[]) (mvT hZ (hw _ (List.mem_of_getElem? (i := 65) rfl)))) (mvT hZ (hw _ (List.mem_of_getElem? (i := 65) rfl))) (mvT hZ (hw _ (List.mem_of_getElem? (i := 64) rfl))) (by decide) (backOf (W := 0) (rm12 l Z a0 hw [] x0 x1 (if (f11_0 x0 x1 x2 x3 x4 x5 x6) = (0 : Int32) then own_K x2 x3 else -1) x4 w4 w7 ka kb vs ns h0 n0 Z0 S hp hn) hZ (hw _ (List.mem_of_getElem? (i := 66) rfl)) (hw _ (List.mem_of_getElem? (i := 24) rfl)) (by decide) (by decide)) q1a q1c (g := (mkF m 38 #[.val (.ref x0), .val (.int x1), .val (.int x2), .val (.int x3), .val (.ref x4), .val (.int x5), .val (.int x6), .val (.int (f11_0 x0 x1 x2 x3 x4 x5 x6)), .val (.int (f11_19 x0 x1 x2 x3 x4 x5 x6 (f11_0 x0 x1 x2 x3 x4 x5 x6))), .unset, .unset, .unset] [(.int x1), (.ref x0)])) rfl (by rw [hml]; rfl) (Steps.refl _) (argsL := [(.int x1)]) (rest := []) (lenOf pdK_0 rfl) rfl (by show 2 * 0 + _ ≤ _; exact Nat.le_of_eq rfl) (hb hby d11_38) (fun _ _ => ⟨rfl, e0, (by decide : 0 + 0 ≤ _), (by decide : 0 + 0 ≤ _)⟩)
  dsimp only [Pt.U, Pt.locs, Pt.cells, Pt.slots] at X1 l1 y1 z1 st1 hQ1
  subst l1 y1 z1
  obtain ⟨rfl, N1q, e1⟩ := hQ1
  have N1 := Fr.app N0 N1q
  obtain ⟨cq2, kq2, q2a, q2b, q2c⟩ := isOf hZ e1 S.1
  obtain ⟨_, _, ⟨T2, L2, k2, n2⟩, -, X2, ⟨Lc2, hQ2, l2, y2, z2⟩, st2⟩ := X1.virtualBack hx (y := (⟨"com/example/tenet/tenet/term/Slots", "get", "(I)Lcom/example/tenet/tenet/term/Term;"⟩ : MethodName)) (z := (⟨"com/example/tenet/tenet/term/Slots", "get", "(I)Lcom/example/tenet/tenet/term/Term;"⟩ : MethodName)) hown (mvT hZ (hw _ (List.mem_of_getElem? (i := 67) rfl))) (mvT hZ (hw _ (List.mem_of_getElem? (i := 68) rfl))) (notFace_of_selects (args := #[]) (mvT hZ (hw _ (List.mem_of_getElem? (i := 70) rfl)))) (mvT hZ (hw _ (List.mem_of_getElem? (i := 70) rfl))) (mvT hZ (hw _ (List.mem_of_getElem? (i := 69) rfl))) (by decide) (backOf (W := 0) (rm13 l Z a0 hw [] x0 x1 .null x4 w4 w7 ka kb vs ns h0 n0 Z0 S hp (by rw [hn, h55]) (hv.trans ((if_pos h60).trans (if_neg h65))) rfl) hZ (hw _ (List.mem_of_getElem? (i := 71) rfl)) (hw _ (List.mem_of_getElem? (i := 24) rfl)) (by decide) (by decide)) q2a q2c (g := (mkF m 78 #[.val (.ref x0), .val (.int x1), .val (.int x2), .val (.int x3), .val (.ref x4), .val (.int x5), .val (.int x6), .val (.int (f11_0 x0 x1 x2 x3 x4 x5 x6)), .val (.int (f11_19 x0 x1 x2 x3 x4 x5 x6 (f11_0 x0 x1 x2 x3 x4 x5 x6))), .val (.int (if (f11_0 x0 x1 x2 x3 x4 x5 x6) = (0 : Int32) then own_K x2 x3 else -1)), .val .null, .unset] [(.int x1), (.ref x0)])) rfl (by rw [hml]; rfl) (Steps.refl _) (argsL := [(.int x1)]) (rest := []) (lenOf pdK_1 rfl) rfl (by show 2 * 0 + _ ≤ _; exact Nat.le_of_eq rfl) (hb hby d11_78) (fun _ _ => ⟨rfl, e1, (by decide : 0 + 0 ≤ _), (by decide : 0 + 0 ≤ _)⟩)
  dsimp only [Pt.U, Pt.locs, Pt.cells, Pt.slots] at X2 l2 y2 z2 st2 hQ2
  subst l2 y2 z2
  obtain ⟨rfl, N2q, e2⟩ := hQ2
  have N2 := Fr.app N1 N2q
  obtain ⟨fs, hr, hrun, hended, hW, hsame⟩ := X2.leave (v := some (.int (1 : Int32))) (fun h => by rw [Bd.returns] at h; cases h)
  refine ⟨_, _, pre0 _ ?_, hrun, hended, _, _, rfl, ?_, ⟨_, rfl⟩, hW, hsame.mono (by decide) (by decide)⟩
  · show Steps p.tables e below (s₁.setTop (mkF m 0 #[.val (.ref x0), .val (.int x1), .val (.int x2), .val (.int x3), .val (.ref x4), .val (.int x5), .val (.int x6), .unset, .unset, .unset, .unset, .unset] [])) _
    refine b11_0 X0 hx hby x0 x1 x2 x3 x4 x5 x6 ?_
    show Steps p.tables e below (s₁.setTop (mkF m 17 #[.val (.ref x0), .val (.int x1), .val (.int x2), .val (.int x3), .val (.ref x4), .val (.int x5), .val (.int x6), .unset, .unset, .unset, .unset, .unset] [(.int (f11_0 x0 x1 x2 x3 x4 x5 x6))])) _
    refine XS.istore X0.here hx rfl (hb hby d11_17) rfl (l' := #[.val (.ref x0), .val (.int x1), .val (.int x2), .val (.int x3), .val (.ref x4), .val (.int x5), .val (.int x6), .val (.int (f11_0 x0 x1 x2 x3 x4 x5 x6)), .unset, .unset, .unset, .unset]) rfl ?_
    show Steps p.tables e below (s₁.setTop (mkF m 19 #[.val (.ref x0), .val (.int x1), .val (.int x2), .val (.int x3), .val (.ref x4), .val (.int x5), .val (.int x6), .val (.int (f11_0 x0 x1 x2 x3 x4 x5 x6)), .unset, .unset, .unset, .unset] [])) _
    refine b11_19 X0 hx hby x0 x1 x2 x3 x4 x5 x6 (f11_0 x0 x1 x2 x3 x4 x5 x6) ?_
    show Steps p.tables e below (s₁.setTop (mkF m 34 #[.val (.ref x0), .val (.int x1), .val (.int x2), .val (.int x3), .val (.ref x4), .val (.int x5), .val (.int x6), .val (.int (f11_0 x0 x1 x2 x3 x4 x5 x6)), .unset, .unset, .unset, .unset] [(.int (f11_19 x0 x1 x2 x3 x4 x5 x6 (f11_0 x0 x1 x2 x3 x4 x5 x6)))])) _
    refine XS.istore X0.here hx rfl (hb hby d11_34) rfl (l' := #[.val (.ref x0), .val (.int x1), .val (.int x2), .val (.int x3), .val (.ref x4), .val (.int x5), .val (.int x6), .val (.int (f11_0 x0 x1 x2 x3 x4 x5 x6)), .val (.int (f11_19 x0 x1 x2 x3 x4 x5 x6 (f11_0 x0 x1 x2 x3 x4 x5 x6))), .unset, .unset, .unset]) rfl ?_
    show Steps p.tables e below (s₁.setTop (mkF m 36 #[.val (.ref x0), .val (.int x1), .val (.int x2), .val (.int x3), .val (.ref x4), .val (.int x5), .val (.int x6), .val (.int (f11_0 x0 x1 x2 x3 x4 x5 x6)), .val (.int (f11_19 x0 x1 x2 x3 x4 x5 x6 (f11_0 x0 x1 x2 x3 x4 x5 x6))), .unset, .unset, .unset] [])) _
    refine XS.aloadN X0.here hx rfl (hb hby d11_36) rfl rfl ?_
    show Steps p.tables e below (s₁.setTop (mkF m 37 #[.val (.ref x0), .val (.int x1), .val (.int x2), .val (.int x3), .val (.ref x4), .val (.int x5), .val (.int x6), .val (.int (f11_0 x0 x1 x2 x3 x4 x5 x6)), .val (.int (f11_19 x0 x1 x2 x3 x4 x5 x6 (f11_0 x0 x1 x2 x3 x4 x5 x6))), .unset, .unset, .unset] [(.ref x0)])) _
    refine XS.iloadN X0.here hx rfl (hb hby d11_37) rfl ?_
    show Steps p.tables e below (s₁.setTop (mkF m 38 #[.val (.ref x0), .val (.int x1), .val (.int x2), .val (.int x3), .val (.ref x4), .val (.int x5), .val (.int x6), .val (.int (f11_0 x0 x1 x2 x3 x4 x5 x6)), .val (.int (f11_19 x0 x1 x2 x3 x4 x5 x6 (f11_0 x0 x1 x2 x3 x4 x5 x6))), .unset, .unset, .unset] [(.int x1), (.ref x0)])) _
    refine st1.trans ?_
    show Steps p.tables e below (T1.setTop (mkF m 41 #[.val (.ref x0), .val (.int x1), .val (.int x2), .val (.int x3), .val (.ref x4), .val (.int x5), .val (.int x6), .val (.int (f11_0 x0 x1 x2 x3 x4 x5 x6)), .val (.int (f11_19 x0 x1 x2 x3 x4 x5 x6 (f11_0 x0 x1 x2 x3 x4 x5 x6))), .unset, .unset, .unset] [(.int (if (f11_0 x0 x1 x2 x3 x4 x5 x6) = (0 : Int32) then own_K x2 x3 else -1))])) _
    refine XS.istore X1.here hx rfl (hb hby d11_41) rfl (l' := #[.val (.ref x0), .val (.int x1), .val (.int x2), .val (.int x3), .val (.ref x4), .val (.int x5), .val (.int x6), .val (.int (f11_0 x0 x1 x2 x3 x4 x5 x6)), .val (.int (f11_19 x0 x1 x2 x3 x4 x5 x6 (f11_0 x0 x1 x2 x3 x4 x5 x6))), .val (.int (if (f11_0 x0 x1 x2 x3 x4 x5 x6) = (0 : Int32) then own_K x2 x3 else -1)), .unset, .unset]) rfl ?_
    show Steps p.tables e below (T1.setTop (mkF m 43 #[.val (.ref x0), .val (.int x1), .val (.int x2), .val (.int x3), .val (.ref x4), .val (.int x5), .val (.int x6), .val (.int (f11_0 x0 x1 x2 x3 x4 x5 x6)), .val (.int (f11_19 x0 x1 x2 x3 x4 x5 x6 (f11_0 x0 x1 x2 x3 x4 x5 x6))), .val (.int (if (f11_0 x0 x1 x2 x3 x4 x5 x6) = (0 : Int32) then own_K x2 x3 else -1)), .unset, .unset] [])) _
    refine XS.iload X1.here hx rfl (hb hby d11_43) rfl ?_
    show Steps p.tables e below (T1.setTop (mkF m 45 #[.val (.ref x0), .val (.int x1), .val (.int x2), .val (.int x3), .val (.ref x4), .val (.int x5), .val (.int x6), .val (.int (f11_0 x0 x1 x2 x3 x4 x5 x6)), .val (.int (f11_19 x0 x1 x2 x3 x4 x5 x6 (f11_0 x0 x1 x2 x3 x4 x5 x6))), .val (.int (if (f11_0 x0 x1 x2 x3 x4 x5 x6) = (0 : Int32) then own_K x2 x3 else -1)), .unset, .unset] [(.int (if (f11_0 x0 x1 x2 x3 x4 x5 x6) = (0 : Int32) then own_K x2 x3 else -1))])) _
    refine XS.iload X1.here hx rfl (hb hby d11_45) rfl ?_
    show Steps p.tables e below (T1.setTop (mkF m 47 #[.val (.ref x0), .val (.int x1), .val (.int x2), .val (.int x3), .val (.ref x4), .val (.int x5), .val (.int x6), .val (.int (f11_0 x0 x1 x2 x3 x4 x5 x6)), .val (.int (f11_19 x0 x1 x2 x3 x4 x5 x6 (f11_0 x0 x1 x2 x3 x4 x5 x6))), .val (.int (if (f11_0 x0 x1 x2 x3 x4 x5 x6) = (0 : Int32) then own_K x2 x3 else -1)), .unset, .unset] [(.int (f11_19 x0 x1 x2 x3 x4 x5 x6 (f11_0 x0 x1 x2 x3 x4 x5 x6))), (.int (if (f11_0 x0 x1 x2 x3 x4 x5 x6) = (0 : Int32) then own_K x2 x3 else -1))])) _
    refine XS.icmpYes X1.here hx rfl (pc0 := 47) (pc' := 52) rfl (hb hby d11_47) rfl (teq ((own_exp x0 x1 x2 x3 x4 x5 x6 (f11_0 x0 x1 x2 x3 x4 x5 x6)).symm : (if (f11_0 x0 x1 x2 x3 x4 x5 x6) = (0 : Int32) then own_K x2 x3 else -1) = (f11_19 x0 x1 x2 x3 x4 x5 x6 (f11_0 x0 x1 x2 x3 x4 x5 x6)))).1 (by decide) (by decide) ?_
    show Steps p.tables e below (T1.setTop (mkF m 52 #[.val (.ref x0), .val (.int x1), .val (.int x2), .val (.int x3), .val (.ref x4), .val (.int x5), .val (.int x6), .val (.int (f11_0 x0 x1 x2 x3 x4 x5 x6)), .val (.int (f11_19 x0 x1 x2 x3 x4 x5 x6 (f11_0 x0 x1 x2 x3 x4 x5 x6))), .val (.int (if (f11_0 x0 x1 x2 x3 x4 x5 x6) = (0 : Int32) then own_K x2 x3 else -1)), .unset, .unset] [])) _
    refine XS.iload X1.here hx rfl (hb hby d11_52) rfl ?_
    show Steps p.tables e below (T1.setTop (mkF m 54 #[.val (.ref x0), .val (.int x1), .val (.int x2), .val (.int x3), .val (.ref x4), .val (.int x5), .val (.int x6), .val (.int (f11_0 x0 x1 x2 x3 x4 x5 x6)), .val (.int (f11_19 x0 x1 x2 x3 x4 x5 x6 (f11_0 x0 x1 x2 x3 x4 x5 x6))), .val (.int (if (f11_0 x0 x1 x2 x3 x4 x5 x6) = (0 : Int32) then own_K x2 x3 else -1)), .unset, .unset] [(.int (if (f11_0 x0 x1 x2 x3 x4 x5 x6) = (0 : Int32) then own_K x2 x3 else -1))])) _
    refine XS.iconst X1.here hx rfl (hb hby d11_54) ?_
    show Steps p.tables e below (T1.setTop (mkF m 55 #[.val (.ref x0), .val (.int x1), .val (.int x2), .val (.int x3), .val (.ref x4), .val (.int x5), .val (.int x6), .val (.int (f11_0 x0 x1 x2 x3 x4 x5 x6)), .val (.int (f11_19 x0 x1 x2 x3 x4 x5 x6 (f11_0 x0 x1 x2 x3 x4 x5 x6))), .val (.int (if (f11_0 x0 x1 x2 x3 x4 x5 x6) = (0 : Int32) then own_K x2 x3 else -1)), .unset, .unset] [(.int (-1 : Int32)), (.int (if (f11_0 x0 x1 x2 x3 x4 x5 x6) = (0 : Int32) then own_K x2 x3 else -1))])) _
    refine XS.icmpNo X1.here hx rfl (hb hby d11_55) rfl (teq (h55 : (if (f11_0 x0 x1 x2 x3 x4 x5 x6) = (0 : Int32) then own_K x2 x3 else -1) = (-1 : Int32))).2 ?_
    show Steps p.tables e below (T1.setTop (mkF m 58 #[.val (.ref x0), .val (.int x1), .val (.int x2), .val (.int x3), .val (.ref x4), .val (.int x5), .val (.int x6), .val (.int (f11_0 x0 x1 x2 x3 x4 x5 x6)), .val (.int (f11_19 x0 x1 x2 x3 x4 x5 x6 (f11_0 x0 x1 x2 x3 x4 x5 x6))), .val (.int (if (f11_0 x0 x1 x2 x3 x4 x5 x6) = (0 : Int32) then own_K x2 x3 else -1)), .unset, .unset] [])) _
    refine XS.iload X1.here hx rfl (hb hby d11_58) rfl ?_
    show Steps p.tables e below (T1.setTop (mkF m 60 #[.val (.ref x0), .val (.int x1), .val (.int x2), .val (.int x3), .val (.ref x4), .val (.int x5), .val (.int x6), .val (.int (f11_0 x0 x1 x2 x3 x4 x5 x6)), .val (.int (f11_19 x0 x1 x2 x3 x4 x5 x6 (f11_0 x0 x1 x2 x3 x4 x5 x6))), .val (.int (if (f11_0 x0 x1 x2 x3 x4 x5 x6) = (0 : Int32) then own_K x2 x3 else -1)), .unset, .unset] [(.int (f11_0 x0 x1 x2 x3 x4 x5 x6))])) _
    refine XS.ifNo X1.here hx rfl (hb hby d11_60) rfl ((if0 _ _).trans (teq (h60 : (f11_0 x0 x1 x2 x3 x4 x5 x6) = (0 : Int32))).2) ?_
    show Steps p.tables e below (T1.setTop (mkF m 63 #[.val (.ref x0), .val (.int x1), .val (.int x2), .val (.int x3), .val (.ref x4), .val (.int x5), .val (.int x6), .val (.int (f11_0 x0 x1 x2 x3 x4 x5 x6)), .val (.int (f11_19 x0 x1 x2 x3 x4 x5 x6 (f11_0 x0 x1 x2 x3 x4 x5 x6))), .val (.int (if (f11_0 x0 x1 x2 x3 x4 x5 x6) = (0 : Int32) then own_K x2 x3 else -1)), .unset, .unset] [])) _
    refine XS.iloadN X1.here hx rfl (hb hby d11_63) rfl ?_
    show Steps p.tables e below (T1.setTop (mkF m 64 #[.val (.ref x0), .val (.int x1), .val (.int x2), .val (.int x3), .val (.ref x4), .val (.int x5), .val (.int x6), .val (.int (f11_0 x0 x1 x2 x3 x4 x5 x6)), .val (.int (f11_19 x0 x1 x2 x3 x4 x5 x6 (f11_0 x0 x1 x2 x3 x4 x5 x6))), .val (.int (if (f11_0 x0 x1 x2 x3 x4 x5 x6) = (0 : Int32) then own_K x2 x3 else -1)), .unset, .unset] [(.int x2)])) _
    refine XS.iconst X1.here hx rfl (hb hby d11_64) ?_
    show Steps p.tables e below (T1.setTop (mkF m 65 #[.val (.ref x0), .val (.int x1), .val (.int x2), .val (.int x3), .val (.ref x4), .val (.int x5), .val (.int x6), .val (.int (f11_0 x0 x1 x2 x3 x4 x5 x6)), .val (.int (f11_19 x0 x1 x2 x3 x4 x5 x6 (f11_0 x0 x1 x2 x3 x4 x5 x6))), .val (.int (if (f11_0 x0 x1 x2 x3 x4 x5 x6) = (0 : Int32) then own_K x2 x3 else -1)), .unset, .unset] [(.int (1 : Int32)), (.int x2)])) _
    refine XS.icmpYes X1.here hx rfl (pc0 := 65) (pc' := 73) rfl (hb hby d11_65) rfl (feq (h65 : ¬ (x2 = (1 : Int32)))).2 (by decide) (by decide) ?_
    show Steps p.tables e below (T1.setTop (mkF m 73 #[.val (.ref x0), .val (.int x1), .val (.int x2), .val (.int x3), .val (.ref x4), .val (.int x5), .val (.int x6), .val (.int (f11_0 x0 x1 x2 x3 x4 x5 x6)), .val (.int (f11_19 x0 x1 x2 x3 x4 x5 x6 (f11_0 x0 x1 x2 x3 x4 x5 x6))), .val (.int (if (f11_0 x0 x1 x2 x3 x4 x5 x6) = (0 : Int32) then own_K x2 x3 else -1)), .unset, .unset] [])) _
    refine XS.aconstNull X1.here hx rfl (hb hby d11_73) ?_
    show Steps p.tables e below (T1.setTop (mkF m 74 #[.val (.ref x0), .val (.int x1), .val (.int x2), .val (.int x3), .val (.ref x4), .val (.int x5), .val (.int x6), .val (.int (f11_0 x0 x1 x2 x3 x4 x5 x6)), .val (.int (f11_19 x0 x1 x2 x3 x4 x5 x6 (f11_0 x0 x1 x2 x3 x4 x5 x6))), .val (.int (if (f11_0 x0 x1 x2 x3 x4 x5 x6) = (0 : Int32) then own_K x2 x3 else -1)), .unset, .unset] [.null])) _
    refine XS.astore X1.here hx rfl (hb hby d11_74) rfl rfl (l' := #[.val (.ref x0), .val (.int x1), .val (.int x2), .val (.int x3), .val (.ref x4), .val (.int x5), .val (.int x6), .val (.int (f11_0 x0 x1 x2 x3 x4 x5 x6)), .val (.int (f11_19 x0 x1 x2 x3 x4 x5 x6 (f11_0 x0 x1 x2 x3 x4 x5 x6))), .val (.int (if (f11_0 x0 x1 x2 x3 x4 x5 x6) = (0 : Int32) then own_K x2 x3 else -1)), .val .null, .unset]) rfl ?_
    show Steps p.tables e below (T1.setTop (mkF m 76 #[.val (.ref x0), .val (.int x1), .val (.int x2), .val (.int x3), .val (.ref x4), .val (.int x5), .val (.int x6), .val (.int (f11_0 x0 x1 x2 x3 x4 x5 x6)), .val (.int (f11_19 x0 x1 x2 x3 x4 x5 x6 (f11_0 x0 x1 x2 x3 x4 x5 x6))), .val (.int (if (f11_0 x0 x1 x2 x3 x4 x5 x6) = (0 : Int32) then own_K x2 x3 else -1)), .val .null, .unset] [])) _
    refine XS.aloadN X1.here hx rfl (hb hby d11_76) rfl rfl ?_
    show Steps p.tables e below (T1.setTop (mkF m 77 #[.val (.ref x0), .val (.int x1), .val (.int x2), .val (.int x3), .val (.ref x4), .val (.int x5), .val (.int x6), .val (.int (f11_0 x0 x1 x2 x3 x4 x5 x6)), .val (.int (f11_19 x0 x1 x2 x3 x4 x5 x6 (f11_0 x0 x1 x2 x3 x4 x5 x6))), .val (.int (if (f11_0 x0 x1 x2 x3 x4 x5 x6) = (0 : Int32) then own_K x2 x3 else -1)), .val .null, .unset] [(.ref x0)])) _
    refine XS.iloadN X1.here hx rfl (hb hby d11_77) rfl ?_
    show Steps p.tables e below (T1.setTop (mkF m 78 #[.val (.ref x0), .val (.int x1), .val (.int x2), .val (.int x3), .val (.ref x4), .val (.int x5), .val (.int x6), .val (.int (f11_0 x0 x1 x2 x3 x4 x5 x6)), .val (.int (f11_19 x0 x1 x2 x3 x4 x5 x6 (f11_0 x0 x1 x2 x3 x4 x5 x6))), .val (.int (if (f11_0 x0 x1 x2 x3 x4 x5 x6) = (0 : Int32) then own_K x2 x3 else -1)), .val .null, .unset] [(.int x1), (.ref x0)])) _
    refine st2.trans ?_
    show Steps p.tables e below (T2.setTop (mkF m 81 #[.val (.ref x0), .val (.int x1), .val (.int x2), .val (.int x3), .val (.ref x4), .val (.int x5), .val (.int x6), .val (.int (f11_0 x0 x1 x2 x3 x4 x5 x6)), .val (.int (f11_19 x0 x1 x2 x3 x4 x5 x6 (f11_0 x0 x1 x2 x3 x4 x5 x6))), .val (.int (if (f11_0 x0 x1 x2 x3 x4 x5 x6) = (0 : Int32) then own_K x2 x3 else -1)), .val .null, .unset] [.null])) _
    refine XS.astore X2.here hx rfl (hb hby d11_81) rfl rfl (l' := #[.val (.ref x0), .val (.int x1), .val (.int x2), .val (.int x3), .val (.ref x4), .val (.int x5), .val (.int x6), .val (.int (f11_0 x0 x1 x2 x3 x4 x5 x6)), .val (.int (f11_19 x0 x1 x2 x3 x4 x5 x6 (f11_0 x0 x1 x2 x3 x4 x5 x6))), .val (.int (if (f11_0 x0 x1 x2 x3 x4 x5 x6) = (0 : Int32) then own_K x2 x3 else -1)), .val .null, .val .null]) rfl ?_
    show Steps p.tables e below (T2.setTop (mkF m 83 #[.val (.ref x0), .val (.int x1), .val (.int x2), .val (.int x3), .val (.ref x4), .val (.int x5), .val (.int x6), .val (.int (f11_0 x0 x1 x2 x3 x4 x5 x6)), .val (.int (f11_19 x0 x1 x2 x3 x4 x5 x6 (f11_0 x0 x1 x2 x3 x4 x5 x6))), .val (.int (if (f11_0 x0 x1 x2 x3 x4 x5 x6) = (0 : Int32) then own_K x2 x3 else -1)), .val .null, .val .null] [])) _
    refine XS.aload X2.here hx rfl (hb hby d11_83) rfl rfl ?_
    show Steps p.tables e below (T2.setTop (mkF m 85 #[.val (.ref x0), .val (.int x1), .val (.int x2), .val (.int x3), .val (.ref x4), .val (.int x5), .val (.int x6), .val (.int (f11_0 x0 x1 x2 x3 x4 x5 x6)), .val (.int (f11_19 x0 x1 x2 x3 x4 x5 x6 (f11_0 x0 x1 x2 x3 x4 x5 x6))), .val (.int (if (f11_0 x0 x1 x2 x3 x4 x5 x6) = (0 : Int32) then own_K x2 x3 else -1)), .val .null, .val .null] [.null])) _
    refine XS.aload X2.here hx rfl (hb hby d11_85) rfl rfl ?_
    show Steps p.tables e below (T2.setTop (mkF m 87 #[.val (.ref x0), .val (.int x1), .val (.int x2), .val (.int x3), .val (.ref x4), .val (.int x5), .val (.int x6), .val (.int (f11_0 x0 x1 x2 x3 x4 x5 x6)), .val (.int (f11_19 x0 x1 x2 x3 x4 x5 x6 (f11_0 x0 x1 x2 x3 x4 x5 x6))), .val (.int (if (f11_0 x0 x1 x2 x3 x4 x5 x6) = (0 : Int32) then own_K x2 x3 else -1)), .val .null, .val .null] [.null, .null])) _
    refine Jvm.RoadKit.acmp (g := (mkF m 87 #[.val (.ref x0), .val (.int x1), .val (.int x2), .val (.int x3), .val (.ref x4), .val (.int x5), .val (.int x6), .val (.int (f11_0 x0 x1 x2 x3 x4 x5 x6)), .val (.int (f11_19 x0 x1 x2 x3 x4 x5 x6 (f11_0 x0 x1 x2 x3 x4 x5 x6))), .val (.int (if (f11_0 x0 x1 x2 x3 x4 x5 x6) = (0 : Int32) then own_K x2 x3 else -1)), .val .null, .val .null] [.null, .null])) X2 hx rfl rfl rfl (pc0 := 87) (pc' := 92) (same := true) rfl (hb hby d11_87) rfl (decide_eq_true rfl) (by decide) (by decide) ?_
    show Steps p.tables e below (T2.setTop (mkF m 92 #[.val (.ref x0), .val (.int x1), .val (.int x2), .val (.int x3), .val (.ref x4), .val (.int x5), .val (.int x6), .val (.int (f11_0 x0 x1 x2 x3 x4 x5 x6)), .val (.int (f11_19 x0 x1 x2 x3 x4 x5 x6 (f11_0 x0 x1 x2 x3 x4 x5 x6))), .val (.int (if (f11_0 x0 x1 x2 x3 x4 x5 x6) = (0 : Int32) then own_K x2 x3 else -1)), .val .null, .val .null] [])) _
    refine XS.iconst X2.here hx rfl (hb hby d11_92) ?_
    show Steps p.tables e below (T2.setTop (mkF m 93 #[.val (.ref x0), .val (.int x1), .val (.int x2), .val (.int x3), .val (.ref x4), .val (.int x5), .val (.int x6), .val (.int (f11_0 x0 x1 x2 x3 x4 x5 x6)), .val (.int (f11_19 x0 x1 x2 x3 x4 x5 x6 (f11_0 x0 x1 x2 x3 x4 x5 x6))), .val (.int (if (f11_0 x0 x1 x2 x3 x4 x5 x6) = (0 : Int32) then own_K x2 x3 else -1)), .val .null, .val .null] [(.int (1 : Int32))])) _
    exact retN X2 hx (t := .boolean) Bd.returns (by simp) (hb hby d11_93) hr
  · show Q11 Z x0 x1 x2 x3 x4 x5 x6 w4 w7 ka kb vs ns h0 n0 _ T2.heap _
    rw [e2]
    exact ⟨rfl, N2, rfl⟩
set_option maxRecDepth 65536 in
set_option maxHeartbeats 40000000 in
theorem rm11d (l : Launch) (Z : State) (a0 : Array Value) (hw : ∀ d ∈ tables_1, d.before a0 Z = true) (ws : List Jvm.Cond) (x0 : Addr) (x1 : Int32) (x2 : Int32) (x3 : Int32) (x4 : Addr) (x5 : Int32) (x6 : Int32) (w4 w7 : Addr) (ka kb : ClassId) (vs ns : List Value) (h0 : Heap) (n0 : Nat) (Z0 : n0 ≤ h0.size) (S : Sl Z h0 x0 w4 w7 x4 ka kb vs ns) (hp : ¬ x1 < 0 ∧ x1 < 3) (hv : vs.getD x1.toNatClampNeg .null = if (f11_0 x0 x1 x2 x3 x4 x5 x6) = (0 : Int32) then own_T x2 x4 else .null) (hn : ns.getD x1.toNatClampNeg (.int (0 : Int32)) = .int (if (f11_0 x0 x1 x2 x3 x4 x5 x6) = (0 : Int32) then own_K x2 x3 else -1)) (h55 : (if (f11_0 x0 x1 x2 x3 x4 x5 x6) = (0 : Int32) then own_K x2 x3 else -1) = (-1 : Int32)) (h60 : (f11_0 x0 x1 x2 x3 x4 x5 x6) = (0 : Int32)) (h65 : x2 = (1 : Int32)) :
    MetFree l (⟨"com/example/tenet/tenet/term/SlotsClearPinLaw", "slotOk", "(Lcom/example/tenet/tenet/term/Slots;IIILcom/example/tenet/tenet/term/Term;II)Z"⟩ : MethodName) (head1 (Jvm.Cond.code (⟨"com/example/tenet/tenet/term/SlotsClearPinLaw", "slotOk", "(Lcom/example/tenet/tenet/term/Slots;IIILcom/example/tenet/tenet/term/Term;II)Z"⟩ : MethodName) method_3_code 12 (some .boolean) :: ws) ({ frames := 1, cells := 0, slots := 0, locals := 14 } : Room)) (fun a U => a = #[(.ref x0), (.int x1), (.int x2), (.int x3), (.ref x4), (.int x5), (.int x6)] ∧ Z.Warmed39 U.vm ∧ U.heap = h0) (fun _ _ _ _ _ => True) (fun _ U o U' => ∃ v L, o = .returned v ∧ Q11 Z x0 x1 x2 x3 x4 x5 x6 w4 w7 ka kb vs ns h0 n0 v U'.heap L ∧ FrameEnd U o U' L ({ frames := 1, cells := 0, slots := 0, locals := 14 } : Room).cells ({ frames := 1, cells := 0, slots := 0, locals := 14 } : Room).slots) := by
  refine MetFree.of_bodySF (plainFor_of_name pn_11) hisR ?_
  intro p e s m args below meth c s₁ Bd hml0 hP hK
  obtain ⟨rfl, hZ, hh⟩ := hP
  have hx := Bd.exec
  have hby := Bd.bytes
  have hml : c.maxLocals = 12 := hml0
  have hown : s.vm.findClass "com/example/tenet/tenet/term/SlotsClearPinLaw" = some m.cls := findClass_of_methodNamed Bd.named
  have hnm := (name_of_methodNamed Bd.named Bd.method).1
  have X0 : Stand p l e ({ frames := 1, cells := 0, slots := 0, locals := 14 } : Room) s m #[(.ref x0), (.int x1), (.int x2), (.int x3), (.ref x4), (.int x5), (.int x6)] below meth c s₁ [] 0 0 := Stand.of_body Bd
  have e0 : s₁.heap = h0 := by rw [← hh, Bd.state]; rfl
  have N0 := Fr.nil n0
  have pre0 : ∀ t, Steps p.tables e below (s₁.setTop (mkF m 0 #[.val (.ref x0), .val (.int x1), .val (.int x2), .val (.int x3), .val (.ref x4), .val (.int x5), .val (.int x6), .unset, .unset, .unset, .unset, .unset] [])) t → Steps p.tables e below (s₁.setTop (entryFrame m #[(.ref x0), (.int x1), (.int x2), (.int x3), (.ref x4), (.int x5), (.int x6)] 12)) t := fun t k => castTop (ef_11 m x0 x1 x2 x3 x4 x5 x6) k
  obtain ⟨cq1, kq1, q1a, q1b, q1c⟩ := isOf hZ e0 S.1
  obtain ⟨_, _, ⟨T1, L1, k1, n1⟩, -, X1, ⟨Lc1, hQ1, l1, y1, z1⟩, st1⟩ := X0.virtualBack hx (y := (⟨"com/example/tenet/tenet/term/Slots", "node", "(I)I"⟩ : MethodName)) (z := (⟨"com/example/tenet/tenet/term/Slots", "node", "(I)I"⟩ : MethodName)) hown (mvT hZ (hw _ (List.mem_of_getElem? (i := 62) rfl))) (mvT hZ (hw _ (List.mem_of_getElem? (i := 63) rfl))) (notFace_of_selects (args := #[]) (mvT hZ (hw _ (List.mem_of_getElem? (i := 65) rfl)))) (mvT hZ (hw _ (List.mem_of_getElem? (i := 65) rfl))) (mvT hZ (hw _ (List.mem_of_getElem? (i := 64) rfl))) (by decide) (backOf (W := 0) (rm12 l Z a0 hw [] x0 x1 (if (f11_0 x0 x1 x2 x3 x4 x5 x6) = (0 : Int32) then own_K x2 x3 else -1) x4 w4 w7 ka kb vs ns h0 n0 Z0 S hp hn) hZ (hw _ (List.mem_of_getElem? (i := 66) rfl)) (hw _ (List.mem_of_getElem? (i := 24) rfl)) (by decide) (by decide)) q1a q1c (g := (mkF m 38 #[.val (.ref x0), .val (.int x1), .val (.int x2), .val (.int x3), .val (.ref x4), .val (.int x5), .val (.int x6), .val (.int (f11_0 x0 x1 x2 x3 x4 x5 x6)), .val (.int (f11_19 x0 x1 x2 x3 x4 x5 x6 (f11_0 x0 x1 x2 x3 x4 x5 x6))), .unset, .unset, .unset] [(.int x1), (.ref x0)])) rfl (by rw [hml]; rfl) (Steps.refl _) (argsL := [(.int x1)]) (rest := []) (lenOf pdK_0 rfl) rfl (by show 2 * 0 + _ ≤ _; exact Nat.le_of_eq rfl) (hb hby d11_38) (fun _ _ => ⟨rfl, e0, (by decide : 0 + 0 ≤ _), (by decide : 0 + 0 ≤ _)⟩)
  dsimp only [Pt.U, Pt.locs, Pt.cells, Pt.slots] at X1 l1 y1 z1 st1 hQ1
  subst l1 y1 z1
  obtain ⟨rfl, N1q, e1⟩ := hQ1
  have N1 := Fr.app N0 N1q
  obtain ⟨cq2, kq2, q2a, q2b, q2c⟩ := isOf hZ e1 S.1
  obtain ⟨_, _, ⟨T2, L2, k2, n2⟩, -, X2, ⟨Lc2, hQ2, l2, y2, z2⟩, st2⟩ := X1.virtualBack hx (y := (⟨"com/example/tenet/tenet/term/Slots", "get", "(I)Lcom/example/tenet/tenet/term/Term;"⟩ : MethodName)) (z := (⟨"com/example/tenet/tenet/term/Slots", "get", "(I)Lcom/example/tenet/tenet/term/Term;"⟩ : MethodName)) hown (mvT hZ (hw _ (List.mem_of_getElem? (i := 67) rfl))) (mvT hZ (hw _ (List.mem_of_getElem? (i := 68) rfl))) (notFace_of_selects (args := #[]) (mvT hZ (hw _ (List.mem_of_getElem? (i := 70) rfl)))) (mvT hZ (hw _ (List.mem_of_getElem? (i := 70) rfl))) (mvT hZ (hw _ (List.mem_of_getElem? (i := 69) rfl))) (by decide) (backOf (W := 0) (rm13 l Z a0 hw [] x0 x1 (.ref x4) x4 w4 w7 ka kb vs ns h0 n0 Z0 S hp (by rw [hn, h55]) (hv.trans ((if_pos h60).trans (if_pos h65))) rfl) hZ (hw _ (List.mem_of_getElem? (i := 71) rfl)) (hw _ (List.mem_of_getElem? (i := 24) rfl)) (by decide) (by decide)) q2a q2c (g := (mkF m 78 #[.val (.ref x0), .val (.int x1), .val (.int x2), .val (.int x3), .val (.ref x4), .val (.int x5), .val (.int x6), .val (.int (f11_0 x0 x1 x2 x3 x4 x5 x6)), .val (.int (f11_19 x0 x1 x2 x3 x4 x5 x6 (f11_0 x0 x1 x2 x3 x4 x5 x6))), .val (.int (if (f11_0 x0 x1 x2 x3 x4 x5 x6) = (0 : Int32) then own_K x2 x3 else -1)), .val (.ref x4), .unset] [(.int x1), (.ref x0)])) rfl (by rw [hml]; rfl) (Steps.refl _) (argsL := [(.int x1)]) (rest := []) (lenOf pdK_1 rfl) rfl (by show 2 * 0 + _ ≤ _; exact Nat.le_of_eq rfl) (hb hby d11_78) (fun _ _ => ⟨rfl, e1, (by decide : 0 + 0 ≤ _), (by decide : 0 + 0 ≤ _)⟩)
  dsimp only [Pt.U, Pt.locs, Pt.cells, Pt.slots] at X2 l2 y2 z2 st2 hQ2
  subst l2 y2 z2
  obtain ⟨rfl, N2q, e2⟩ := hQ2
  have N2 := Fr.app N1 N2q
  obtain ⟨fs, hr, hrun, hended, hW, hsame⟩ := X2.leave (v := some (.int (1 : Int32))) (fun h => by rw [Bd.returns] at h; cases h)
  refine ⟨_, _, pre0 _ ?_, hrun, hended, _, _, rfl, ?_, ⟨_, rfl⟩, hW, hsame.mono (by decide) (by decide)⟩
  · show Steps p.tables e below (s₁.setTop (mkF m 0 #[.val (.ref x0), .val (.int x1), .val (.int x2), .val (.int x3), .val (.ref x4), .val (.int x5), .val (.int x6), .unset, .unset, .unset, .unset, .unset] [])) _
    refine b11_0 X0 hx hby x0 x1 x2 x3 x4 x5 x6 ?_
    show Steps p.tables e below (s₁.setTop (mkF m 17 #[.val (.ref x0), .val (.int x1), .val (.int x2), .val (.int x3), .val (.ref x4), .val (.int x5), .val (.int x6), .unset, .unset, .unset, .unset, .unset] [(.int (f11_0 x0 x1 x2 x3 x4 x5 x6))])) _
    refine XS.istore X0.here hx rfl (hb hby d11_17) rfl (l' := #[.val (.ref x0), .val (.int x1), .val (.int x2), .val (.int x3), .val (.ref x4), .val (.int x5), .val (.int x6), .val (.int (f11_0 x0 x1 x2 x3 x4 x5 x6)), .unset, .unset, .unset, .unset]) rfl ?_
    show Steps p.tables e below (s₁.setTop (mkF m 19 #[.val (.ref x0), .val (.int x1), .val (.int x2), .val (.int x3), .val (.ref x4), .val (.int x5), .val (.int x6), .val (.int (f11_0 x0 x1 x2 x3 x4 x5 x6)), .unset, .unset, .unset, .unset] [])) _
    refine b11_19 X0 hx hby x0 x1 x2 x3 x4 x5 x6 (f11_0 x0 x1 x2 x3 x4 x5 x6) ?_
    show Steps p.tables e below (s₁.setTop (mkF m 34 #[.val (.ref x0), .val (.int x1), .val (.int x2), .val (.int x3), .val (.ref x4), .val (.int x5), .val (.int x6), .val (.int (f11_0 x0 x1 x2 x3 x4 x5 x6)), .unset, .unset, .unset, .unset] [(.int (f11_19 x0 x1 x2 x3 x4 x5 x6 (f11_0 x0 x1 x2 x3 x4 x5 x6)))])) _
    refine XS.istore X0.here hx rfl (hb hby d11_34) rfl (l' := #[.val (.ref x0), .val (.int x1), .val (.int x2), .val (.int x3), .val (.ref x4), .val (.int x5), .val (.int x6), .val (.int (f11_0 x0 x1 x2 x3 x4 x5 x6)), .val (.int (f11_19 x0 x1 x2 x3 x4 x5 x6 (f11_0 x0 x1 x2 x3 x4 x5 x6))), .unset, .unset, .unset]) rfl ?_
    show Steps p.tables e below (s₁.setTop (mkF m 36 #[.val (.ref x0), .val (.int x1), .val (.int x2), .val (.int x3), .val (.ref x4), .val (.int x5), .val (.int x6), .val (.int (f11_0 x0 x1 x2 x3 x4 x5 x6)), .val (.int (f11_19 x0 x1 x2 x3 x4 x5 x6 (f11_0 x0 x1 x2 x3 x4 x5 x6))), .unset, .unset, .unset] [])) _
    refine XS.aloadN X0.here hx rfl (hb hby d11_36) rfl rfl ?_
    show Steps p.tables e below (s₁.setTop (mkF m 37 #[.val (.ref x0), .val (.int x1), .val (.int x2), .val (.int x3), .val (.ref x4), .val (.int x5), .val (.int x6), .val (.int (f11_0 x0 x1 x2 x3 x4 x5 x6)), .val (.int (f11_19 x0 x1 x2 x3 x4 x5 x6 (f11_0 x0 x1 x2 x3 x4 x5 x6))), .unset, .unset, .unset] [(.ref x0)])) _
    refine XS.iloadN X0.here hx rfl (hb hby d11_37) rfl ?_
    show Steps p.tables e below (s₁.setTop (mkF m 38 #[.val (.ref x0), .val (.int x1), .val (.int x2), .val (.int x3), .val (.ref x4), .val (.int x5), .val (.int x6), .val (.int (f11_0 x0 x1 x2 x3 x4 x5 x6)), .val (.int (f11_19 x0 x1 x2 x3 x4 x5 x6 (f11_0 x0 x1 x2 x3 x4 x5 x6))), .unset, .unset, .unset] [(.int x1), (.ref x0)])) _
    refine st1.trans ?_
    show Steps p.tables e below (T1.setTop (mkF m 41 #[.val (.ref x0), .val (.int x1), .val (.int x2), .val (.int x3), .val (.ref x4), .val (.int x5), .val (.int x6), .val (.int (f11_0 x0 x1 x2 x3 x4 x5 x6)), .val (.int (f11_19 x0 x1 x2 x3 x4 x5 x6 (f11_0 x0 x1 x2 x3 x4 x5 x6))), .unset, .unset, .unset] [(.int (if (f11_0 x0 x1 x2 x3 x4 x5 x6) = (0 : Int32) then own_K x2 x3 else -1))])) _
    refine XS.istore X1.here hx rfl (hb hby d11_41) rfl (l' := #[.val (.ref x0), .val (.int x1), .val (.int x2), .val (.int x3), .val (.ref x4), .val (.int x5), .val (.int x6), .val (.int (f11_0 x0 x1 x2 x3 x4 x5 x6)), .val (.int (f11_19 x0 x1 x2 x3 x4 x5 x6 (f11_0 x0 x1 x2 x3 x4 x5 x6))), .val (.int (if (f11_0 x0 x1 x2 x3 x4 x5 x6) = (0 : Int32) then own_K x2 x3 else -1)), .unset, .unset]) rfl ?_
    show Steps p.tables e below (T1.setTop (mkF m 43 #[.val (.ref x0), .val (.int x1), .val (.int x2), .val (.int x3), .val (.ref x4), .val (.int x5), .val (.int x6), .val (.int (f11_0 x0 x1 x2 x3 x4 x5 x6)), .val (.int (f11_19 x0 x1 x2 x3 x4 x5 x6 (f11_0 x0 x1 x2 x3 x4 x5 x6))), .val (.int (if (f11_0 x0 x1 x2 x3 x4 x5 x6) = (0 : Int32) then own_K x2 x3 else -1)), .unset, .unset] [])) _
    refine XS.iload X1.here hx rfl (hb hby d11_43) rfl ?_
    show Steps p.tables e below (T1.setTop (mkF m 45 #[.val (.ref x0), .val (.int x1), .val (.int x2), .val (.int x3), .val (.ref x4), .val (.int x5), .val (.int x6), .val (.int (f11_0 x0 x1 x2 x3 x4 x5 x6)), .val (.int (f11_19 x0 x1 x2 x3 x4 x5 x6 (f11_0 x0 x1 x2 x3 x4 x5 x6))), .val (.int (if (f11_0 x0 x1 x2 x3 x4 x5 x6) = (0 : Int32) then own_K x2 x3 else -1)), .unset, .unset] [(.int (if (f11_0 x0 x1 x2 x3 x4 x5 x6) = (0 : Int32) then own_K x2 x3 else -1))])) _
    refine XS.iload X1.here hx rfl (hb hby d11_45) rfl ?_
    show Steps p.tables e below (T1.setTop (mkF m 47 #[.val (.ref x0), .val (.int x1), .val (.int x2), .val (.int x3), .val (.ref x4), .val (.int x5), .val (.int x6), .val (.int (f11_0 x0 x1 x2 x3 x4 x5 x6)), .val (.int (f11_19 x0 x1 x2 x3 x4 x5 x6 (f11_0 x0 x1 x2 x3 x4 x5 x6))), .val (.int (if (f11_0 x0 x1 x2 x3 x4 x5 x6) = (0 : Int32) then own_K x2 x3 else -1)), .unset, .unset] [(.int (f11_19 x0 x1 x2 x3 x4 x5 x6 (f11_0 x0 x1 x2 x3 x4 x5 x6))), (.int (if (f11_0 x0 x1 x2 x3 x4 x5 x6) = (0 : Int32) then own_K x2 x3 else -1))])) _
    refine XS.icmpYes X1.here hx rfl (pc0 := 47) (pc' := 52) rfl (hb hby d11_47) rfl (teq ((own_exp x0 x1 x2 x3 x4 x5 x6 (f11_0 x0 x1 x2 x3 x4 x5 x6)).symm : (if (f11_0 x0 x1 x2 x3 x4 x5 x6) = (0 : Int32) then own_K x2 x3 else -1) = (f11_19 x0 x1 x2 x3 x4 x5 x6 (f11_0 x0 x1 x2 x3 x4 x5 x6)))).1 (by decide) (by decide) ?_
    show Steps p.tables e below (T1.setTop (mkF m 52 #[.val (.ref x0), .val (.int x1), .val (.int x2), .val (.int x3), .val (.ref x4), .val (.int x5), .val (.int x6), .val (.int (f11_0 x0 x1 x2 x3 x4 x5 x6)), .val (.int (f11_19 x0 x1 x2 x3 x4 x5 x6 (f11_0 x0 x1 x2 x3 x4 x5 x6))), .val (.int (if (f11_0 x0 x1 x2 x3 x4 x5 x6) = (0 : Int32) then own_K x2 x3 else -1)), .unset, .unset] [])) _
    refine XS.iload X1.here hx rfl (hb hby d11_52) rfl ?_
    show Steps p.tables e below (T1.setTop (mkF m 54 #[.val (.ref x0), .val (.int x1), .val (.int x2), .val (.int x3), .val (.ref x4), .val (.int x5), .val (.int x6), .val (.int (f11_0 x0 x1 x2 x3 x4 x5 x6)), .val (.int (f11_19 x0 x1 x2 x3 x4 x5 x6 (f11_0 x0 x1 x2 x3 x4 x5 x6))), .val (.int (if (f11_0 x0 x1 x2 x3 x4 x5 x6) = (0 : Int32) then own_K x2 x3 else -1)), .unset, .unset] [(.int (if (f11_0 x0 x1 x2 x3 x4 x5 x6) = (0 : Int32) then own_K x2 x3 else -1))])) _
    refine XS.iconst X1.here hx rfl (hb hby d11_54) ?_
    show Steps p.tables e below (T1.setTop (mkF m 55 #[.val (.ref x0), .val (.int x1), .val (.int x2), .val (.int x3), .val (.ref x4), .val (.int x5), .val (.int x6), .val (.int (f11_0 x0 x1 x2 x3 x4 x5 x6)), .val (.int (f11_19 x0 x1 x2 x3 x4 x5 x6 (f11_0 x0 x1 x2 x3 x4 x5 x6))), .val (.int (if (f11_0 x0 x1 x2 x3 x4 x5 x6) = (0 : Int32) then own_K x2 x3 else -1)), .unset, .unset] [(.int (-1 : Int32)), (.int (if (f11_0 x0 x1 x2 x3 x4 x5 x6) = (0 : Int32) then own_K x2 x3 else -1))])) _
    refine XS.icmpNo X1.here hx rfl (hb hby d11_55) rfl (teq (h55 : (if (f11_0 x0 x1 x2 x3 x4 x5 x6) = (0 : Int32) then own_K x2 x3 else -1) = (-1 : Int32))).2 ?_
    show Steps p.tables e below (T1.setTop (mkF m 58 #[.val (.ref x0), .val (.int x1), .val (.int x2), .val (.int x3), .val (.ref x4), .val (.int x5), .val (.int x6), .val (.int (f11_0 x0 x1 x2 x3 x4 x5 x6)), .val (.int (f11_19 x0 x1 x2 x3 x4 x5 x6 (f11_0 x0 x1 x2 x3 x4 x5 x6))), .val (.int (if (f11_0 x0 x1 x2 x3 x4 x5 x6) = (0 : Int32) then own_K x2 x3 else -1)), .unset, .unset] [])) _
    refine XS.iload X1.here hx rfl (hb hby d11_58) rfl ?_
    show Steps p.tables e below (T1.setTop (mkF m 60 #[.val (.ref x0), .val (.int x1), .val (.int x2), .val (.int x3), .val (.ref x4), .val (.int x5), .val (.int x6), .val (.int (f11_0 x0 x1 x2 x3 x4 x5 x6)), .val (.int (f11_19 x0 x1 x2 x3 x4 x5 x6 (f11_0 x0 x1 x2 x3 x4 x5 x6))), .val (.int (if (f11_0 x0 x1 x2 x3 x4 x5 x6) = (0 : Int32) then own_K x2 x3 else -1)), .unset, .unset] [(.int (f11_0 x0 x1 x2 x3 x4 x5 x6))])) _
    refine XS.ifNo X1.here hx rfl (hb hby d11_60) rfl ((if0 _ _).trans (teq (h60 : (f11_0 x0 x1 x2 x3 x4 x5 x6) = (0 : Int32))).2) ?_
    show Steps p.tables e below (T1.setTop (mkF m 63 #[.val (.ref x0), .val (.int x1), .val (.int x2), .val (.int x3), .val (.ref x4), .val (.int x5), .val (.int x6), .val (.int (f11_0 x0 x1 x2 x3 x4 x5 x6)), .val (.int (f11_19 x0 x1 x2 x3 x4 x5 x6 (f11_0 x0 x1 x2 x3 x4 x5 x6))), .val (.int (if (f11_0 x0 x1 x2 x3 x4 x5 x6) = (0 : Int32) then own_K x2 x3 else -1)), .unset, .unset] [])) _
    refine XS.iloadN X1.here hx rfl (hb hby d11_63) rfl ?_
    show Steps p.tables e below (T1.setTop (mkF m 64 #[.val (.ref x0), .val (.int x1), .val (.int x2), .val (.int x3), .val (.ref x4), .val (.int x5), .val (.int x6), .val (.int (f11_0 x0 x1 x2 x3 x4 x5 x6)), .val (.int (f11_19 x0 x1 x2 x3 x4 x5 x6 (f11_0 x0 x1 x2 x3 x4 x5 x6))), .val (.int (if (f11_0 x0 x1 x2 x3 x4 x5 x6) = (0 : Int32) then own_K x2 x3 else -1)), .unset, .unset] [(.int x2)])) _
    refine XS.iconst X1.here hx rfl (hb hby d11_64) ?_
    show Steps p.tables e below (T1.setTop (mkF m 65 #[.val (.ref x0), .val (.int x1), .val (.int x2), .val (.int x3), .val (.ref x4), .val (.int x5), .val (.int x6), .val (.int (f11_0 x0 x1 x2 x3 x4 x5 x6)), .val (.int (f11_19 x0 x1 x2 x3 x4 x5 x6 (f11_0 x0 x1 x2 x3 x4 x5 x6))), .val (.int (if (f11_0 x0 x1 x2 x3 x4 x5 x6) = (0 : Int32) then own_K x2 x3 else -1)), .unset, .unset] [(.int (1 : Int32)), (.int x2)])) _
    refine XS.icmpNo X1.here hx rfl (hb hby d11_65) rfl (teq (h65 : x2 = (1 : Int32))).2 ?_
    show Steps p.tables e below (T1.setTop (mkF m 68 #[.val (.ref x0), .val (.int x1), .val (.int x2), .val (.int x3), .val (.ref x4), .val (.int x5), .val (.int x6), .val (.int (f11_0 x0 x1 x2 x3 x4 x5 x6)), .val (.int (f11_19 x0 x1 x2 x3 x4 x5 x6 (f11_0 x0 x1 x2 x3 x4 x5 x6))), .val (.int (if (f11_0 x0 x1 x2 x3 x4 x5 x6) = (0 : Int32) then own_K x2 x3 else -1)), .unset, .unset] [])) _
    refine XS.aload X1.here hx rfl (hb hby d11_68) rfl rfl ?_
    show Steps p.tables e below (T1.setTop (mkF m 70 #[.val (.ref x0), .val (.int x1), .val (.int x2), .val (.int x3), .val (.ref x4), .val (.int x5), .val (.int x6), .val (.int (f11_0 x0 x1 x2 x3 x4 x5 x6)), .val (.int (f11_19 x0 x1 x2 x3 x4 x5 x6 (f11_0 x0 x1 x2 x3 x4 x5 x6))), .val (.int (if (f11_0 x0 x1 x2 x3 x4 x5 x6) = (0 : Int32) then own_K x2 x3 else -1)), .unset, .unset] [(.ref x4)])) _
    refine XS.goto X1.here hx rfl (pc0 := 70) (pc' := 74) rfl (hb hby d11_70) (by decide) (by decide) ?_
    show Steps p.tables e below (T1.setTop (mkF m 74 #[.val (.ref x0), .val (.int x1), .val (.int x2), .val (.int x3), .val (.ref x4), .val (.int x5), .val (.int x6), .val (.int (f11_0 x0 x1 x2 x3 x4 x5 x6)), .val (.int (f11_19 x0 x1 x2 x3 x4 x5 x6 (f11_0 x0 x1 x2 x3 x4 x5 x6))), .val (.int (if (f11_0 x0 x1 x2 x3 x4 x5 x6) = (0 : Int32) then own_K x2 x3 else -1)), .unset, .unset] [(.ref x4)])) _
    refine XS.astore X1.here hx rfl (hb hby d11_74) rfl rfl (l' := #[.val (.ref x0), .val (.int x1), .val (.int x2), .val (.int x3), .val (.ref x4), .val (.int x5), .val (.int x6), .val (.int (f11_0 x0 x1 x2 x3 x4 x5 x6)), .val (.int (f11_19 x0 x1 x2 x3 x4 x5 x6 (f11_0 x0 x1 x2 x3 x4 x5 x6))), .val (.int (if (f11_0 x0 x1 x2 x3 x4 x5 x6) = (0 : Int32) then own_K x2 x3 else -1)), .val (.ref x4), .unset]) rfl ?_
    show Steps p.tables e below (T1.setTop (mkF m 76 #[.val (.ref x0), .val (.int x1), .val (.int x2), .val (.int x3), .val (.ref x4), .val (.int x5), .val (.int x6), .val (.int (f11_0 x0 x1 x2 x3 x4 x5 x6)), .val (.int (f11_19 x0 x1 x2 x3 x4 x5 x6 (f11_0 x0 x1 x2 x3 x4 x5 x6))), .val (.int (if (f11_0 x0 x1 x2 x3 x4 x5 x6) = (0 : Int32) then own_K x2 x3 else -1)), .val (.ref x4), .unset] [])) _
    refine XS.aloadN X1.here hx rfl (hb hby d11_76) rfl rfl ?_
    show Steps p.tables e below (T1.setTop (mkF m 77 #[.val (.ref x0), .val (.int x1), .val (.int x2), .val (.int x3), .val (.ref x4), .val (.int x5), .val (.int x6), .val (.int (f11_0 x0 x1 x2 x3 x4 x5 x6)), .val (.int (f11_19 x0 x1 x2 x3 x4 x5 x6 (f11_0 x0 x1 x2 x3 x4 x5 x6))), .val (.int (if (f11_0 x0 x1 x2 x3 x4 x5 x6) = (0 : Int32) then own_K x2 x3 else -1)), .val (.ref x4), .unset] [(.ref x0)])) _
    refine XS.iloadN X1.here hx rfl (hb hby d11_77) rfl ?_
    show Steps p.tables e below (T1.setTop (mkF m 78 #[.val (.ref x0), .val (.int x1), .val (.int x2), .val (.int x3), .val (.ref x4), .val (.int x5), .val (.int x6), .val (.int (f11_0 x0 x1 x2 x3 x4 x5 x6)), .val (.int (f11_19 x0 x1 x2 x3 x4 x5 x6 (f11_0 x0 x1 x2 x3 x4 x5 x6))), .val (.int (if (f11_0 x0 x1 x2 x3 x4 x5 x6) = (0 : Int32) then own_K x2 x3 else -1)), .val (.ref x4), .unset] [(.int x1), (.ref x0)])) _
    refine st2.trans ?_
    show Steps p.tables e below (T2.setTop (mkF m 81 #[.val (.ref x0), .val (.int x1), .val (.int x2), .val (.int x3), .val (.ref x4), .val (.int x5), .val (.int x6), .val (.int (f11_0 x0 x1 x2 x3 x4 x5 x6)), .val (.int (f11_19 x0 x1 x2 x3 x4 x5 x6 (f11_0 x0 x1 x2 x3 x4 x5 x6))), .val (.int (if (f11_0 x0 x1 x2 x3 x4 x5 x6) = (0 : Int32) then own_K x2 x3 else -1)), .val (.ref x4), .unset] [(.ref x4)])) _
    refine XS.astore X2.here hx rfl (hb hby d11_81) rfl rfl (l' := #[.val (.ref x0), .val (.int x1), .val (.int x2), .val (.int x3), .val (.ref x4), .val (.int x5), .val (.int x6), .val (.int (f11_0 x0 x1 x2 x3 x4 x5 x6)), .val (.int (f11_19 x0 x1 x2 x3 x4 x5 x6 (f11_0 x0 x1 x2 x3 x4 x5 x6))), .val (.int (if (f11_0 x0 x1 x2 x3 x4 x5 x6) = (0 : Int32) then own_K x2 x3 else -1)), .val (.ref x4), .val (.ref x4)]) rfl ?_
    show Steps p.tables e below (T2.setTop (mkF m 83 #[.val (.ref x0), .val (.int x1), .val (.int x2), .val (.int x3), .val (.ref x4), .val (.int x5), .val (.int x6), .val (.int (f11_0 x0 x1 x2 x3 x4 x5 x6)), .val (.int (f11_19 x0 x1 x2 x3 x4 x5 x6 (f11_0 x0 x1 x2 x3 x4 x5 x6))), .val (.int (if (f11_0 x0 x1 x2 x3 x4 x5 x6) = (0 : Int32) then own_K x2 x3 else -1)), .val (.ref x4), .val (.ref x4)] [])) _
    refine XS.aload X2.here hx rfl (hb hby d11_83) rfl rfl ?_
    show Steps p.tables e below (T2.setTop (mkF m 85 #[.val (.ref x0), .val (.int x1), .val (.int x2), .val (.int x3), .val (.ref x4), .val (.int x5), .val (.int x6), .val (.int (f11_0 x0 x1 x2 x3 x4 x5 x6)), .val (.int (f11_19 x0 x1 x2 x3 x4 x5 x6 (f11_0 x0 x1 x2 x3 x4 x5 x6))), .val (.int (if (f11_0 x0 x1 x2 x3 x4 x5 x6) = (0 : Int32) then own_K x2 x3 else -1)), .val (.ref x4), .val (.ref x4)] [(.ref x4)])) _
    refine XS.aload X2.here hx rfl (hb hby d11_85) rfl rfl ?_
    show Steps p.tables e below (T2.setTop (mkF m 87 #[.val (.ref x0), .val (.int x1), .val (.int x2), .val (.int x3), .val (.ref x4), .val (.int x5), .val (.int x6), .val (.int (f11_0 x0 x1 x2 x3 x4 x5 x6)), .val (.int (f11_19 x0 x1 x2 x3 x4 x5 x6 (f11_0 x0 x1 x2 x3 x4 x5 x6))), .val (.int (if (f11_0 x0 x1 x2 x3 x4 x5 x6) = (0 : Int32) then own_K x2 x3 else -1)), .val (.ref x4), .val (.ref x4)] [(.ref x4), (.ref x4)])) _
    refine Jvm.RoadKit.acmp (g := (mkF m 87 #[.val (.ref x0), .val (.int x1), .val (.int x2), .val (.int x3), .val (.ref x4), .val (.int x5), .val (.int x6), .val (.int (f11_0 x0 x1 x2 x3 x4 x5 x6)), .val (.int (f11_19 x0 x1 x2 x3 x4 x5 x6 (f11_0 x0 x1 x2 x3 x4 x5 x6))), .val (.int (if (f11_0 x0 x1 x2 x3 x4 x5 x6) = (0 : Int32) then own_K x2 x3 else -1)), .val (.ref x4), .val (.ref x4)] [(.ref x4), (.ref x4)])) X2 hx rfl rfl rfl (pc0 := 87) (pc' := 92) (same := true) rfl (hb hby d11_87) rfl (decide_eq_true rfl) (by decide) (by decide) ?_
    show Steps p.tables e below (T2.setTop (mkF m 92 #[.val (.ref x0), .val (.int x1), .val (.int x2), .val (.int x3), .val (.ref x4), .val (.int x5), .val (.int x6), .val (.int (f11_0 x0 x1 x2 x3 x4 x5 x6)), .val (.int (f11_19 x0 x1 x2 x3 x4 x5 x6 (f11_0 x0 x1 x2 x3 x4 x5 x6))), .val (.int (if (f11_0 x0 x1 x2 x3 x4 x5 x6) = (0 : Int32) then own_K x2 x3 else -1)), .val (.ref x4), .val (.ref x4)] [])) _
    refine XS.iconst X2.here hx rfl (hb hby d11_92) ?_
    show Steps p.tables e below (T2.setTop (mkF m 93 #[.val (.ref x0), .val (.int x1), .val (.int x2), .val (.int x3), .val (.ref x4), .val (.int x5), .val (.int x6), .val (.int (f11_0 x0 x1 x2 x3 x4 x5 x6)), .val (.int (f11_19 x0 x1 x2 x3 x4 x5 x6 (f11_0 x0 x1 x2 x3 x4 x5 x6))), .val (.int (if (f11_0 x0 x1 x2 x3 x4 x5 x6) = (0 : Int32) then own_K x2 x3 else -1)), .val (.ref x4), .val (.ref x4)] [(.int (1 : Int32))])) _
    exact retN X2 hx (t := .boolean) Bd.returns (by simp) (hb hby d11_93) hr
  · show Q11 Z x0 x1 x2 x3 x4 x5 x6 w4 w7 ka kb vs ns h0 n0 _ T2.heap _
    rw [e2]
    exact ⟨rfl, N2, rfl⟩
set_option maxRecDepth 65536 in
theorem rm11 (l : Launch) (Z : State) (a0 : Array Value) (hw : ∀ d ∈ tables_1, d.before a0 Z = true) (ws : List Jvm.Cond) (x0 : Addr) (x1 : Int32) (x2 : Int32) (x3 : Int32) (x4 : Addr) (x5 : Int32) (x6 : Int32) (w4 w7 : Addr) (ka kb : ClassId) (vs ns : List Value) (h0 : Heap) (n0 : Nat) (Z0 : n0 ≤ h0.size) (S : Sl Z h0 x0 w4 w7 x4 ka kb vs ns) (hp : ¬ x1 < 0 ∧ x1 < 3) (hv : vs.getD x1.toNatClampNeg .null = if (f11_0 x0 x1 x2 x3 x4 x5 x6) = (0 : Int32) then own_T x2 x4 else .null) (hn : ns.getD x1.toNatClampNeg (.int (0 : Int32)) = .int (if (f11_0 x0 x1 x2 x3 x4 x5 x6) = (0 : Int32) then own_K x2 x3 else -1)) :
    MetFree l (⟨"com/example/tenet/tenet/term/SlotsClearPinLaw", "slotOk", "(Lcom/example/tenet/tenet/term/Slots;IIILcom/example/tenet/tenet/term/Term;II)Z"⟩ : MethodName) (head1 (Jvm.Cond.code (⟨"com/example/tenet/tenet/term/SlotsClearPinLaw", "slotOk", "(Lcom/example/tenet/tenet/term/Slots;IIILcom/example/tenet/tenet/term/Term;II)Z"⟩ : MethodName) method_3_code 12 (some .boolean) :: ws) ({ frames := 1, cells := 0, slots := 0, locals := 14 } : Room)) (fun a U => a = #[(.ref x0), (.int x1), (.int x2), (.int x3), (.ref x4), (.int x5), (.int x6)] ∧ Z.Warmed39 U.vm ∧ U.heap = h0) (fun _ _ _ _ _ => True) (fun _ U o U' => ∃ v L, o = .returned v ∧ Q11 Z x0 x1 x2 x3 x4 x5 x6 w4 w7 ka kb vs ns h0 n0 v U'.heap L ∧ FrameEnd U o U' L ({ frames := 1, cells := 0, slots := 0, locals := 14 } : Room).cells ({ frames := 1, cells := 0, slots := 0, locals := 14 } : Room).slots) := by
  by_cases h55 : (if (f11_0 x0 x1 x2 x3 x4 x5 x6) = (0 : Int32) then own_K x2 x3 else -1) = (-1 : Int32)
  · by_cases h60 : (f11_0 x0 x1 x2 x3 x4 x5 x6) = (0 : Int32)
    · by_cases h65 : x2 = (1 : Int32)
      · exact rm11d l Z a0 hw ws x0 x1 x2 x3 x4 x5 x6 w4 w7 ka kb vs ns h0 n0 Z0 S hp hv hn h55 h60 h65
      · exact rm11c l Z a0 hw ws x0 x1 x2 x3 x4 x5 x6 w4 w7 ka kb vs ns h0 n0 Z0 S hp hv hn h55 h60 h65
    · exact rm11b l Z a0 hw ws x0 x1 x2 x3 x4 x5 x6 w4 w7 ka kb vs ns h0 n0 Z0 S hp hv hn h55 h60
  · exact rm11a l Z a0 hw ws x0 x1 x2 x3 x4 x5 x6 w4 w7 ka kb vs ns h0 n0 Z0 S hp hv hn h55
theorem own_rem4 (x : Int32) : ∃ f : Nat, f ≤ 3 ∧ ((x &&& (2147483647 : Int32)) - ((x &&& (2147483647 : Int32)) / (4 : Int32)) * (4 : Int32)) = Int32.ofNat f := by
  have e : (x &&& 2147483647).toInt = x.toInt % 2 ^ 31 := Jvm.Kit.i32_mask x 2147483647 (k := 31) (by decide) (by decide)
  generalize (x &&& (2147483647 : Int32)) = y at *
  have h : 0 ≤ y.toInt := by omega
  have h4 : (4 : Int32).toInt = 4 := by decide
  have hd : (y / 4).toInt = y.toInt / 4 := by
    rw [Jvm.Kit.i32_div (by rw [h4]; omega), h4, Int.tdiv_eq_ediv_of_nonneg h]
  have hy := y.toInt_lt
  have hm : ((y / 4) * 4).toInt = y.toInt / 4 * 4 := by
    rw [Jvm.Kit.i32_mul (by rw [hd, h4]; omega) (by rw [hd, h4]; omega), hd, h4]
  have hr : (y - (y / 4) * 4).toInt = y.toInt % 4 := by
    rw [Jvm.Kit.i32_sub (by rw [hm]; omega) (by rw [hm]; omega), hm]; omega
  refine ⟨(y.toInt % 4).toNat, by omega, ?_⟩
  apply Int32.toInt_inj.mp
  rw [Int32.toInt_ofNat_of_lt (by omega), hr]
  omega
theorem own_c (s : Addr) (i m k : Int32) (t : Addr) (a b : Int32) : f11_0 s i m k t a b = if i < a then 0 else if i < b then 1 else 0 := rfl
theorem own_get (f t : Nat) (hf : f ≤ 3) (ht : t ≤ 3) (v0 v1 v2 w d : Value) :
    (own_clr (t - f) f [v0, v1, v2] w).getD 0 d = (if (if (0 : Int32) < Int32.ofNat f then (0 : Int32) else if (0 : Int32) < Int32.ofNat t then 1 else 0) = 0 then v0 else w) ∧
    (own_clr (t - f) f [v0, v1, v2] w).getD 1 d = (if (if (1 : Int32) < Int32.ofNat f then (0 : Int32) else if (1 : Int32) < Int32.ofNat t then 1 else 0) = 0 then v1 else w) ∧
    (own_clr (t - f) f [v0, v1, v2] w).getD 2 d = (if (if (2 : Int32) < Int32.ofNat f then (0 : Int32) else if (2 : Int32) < Int32.ofNat t then 1 else 0) = 0 then v2 else w) := by
  match f, t, hf, ht with
  | 0, 0, _, _ | 0, 1, _, _ | 0, 2, _, _ | 0, 3, _, _ | 1, 0, _, _ | 1, 1, _, _ | 1, 2, _, _ | 1, 3, _, _ | 2, 0, _, _ | 2, 1, _, _ | 2, 2, _, _ | 2, 3, _, _ | 3, 0, _, _ | 3, 1, _, _ | 3, 2, _, _ | 3, 3, _, _ => exact ⟨rfl, rfl, rfl⟩
theorem own_ite (c : Int32) (a b : Int32) : (if c = (0 : Int32) then (Value.int a) else (.int b)) = .int (if c = (0 : Int32) then a else b) := by split <;> rfl
theorem pdL_0 : parseMethodDescriptor "(J)Lcom/example/tenet/tenet/term/IntTerm;" = some ⟨[.long], some (.object "com/example/tenet/tenet/term/IntTerm")⟩ := by decide +kernel
theorem pdL_1 : parseMethodDescriptor "(I)V" = some ⟨[.int], none⟩ := by decide +kernel
theorem pdL_2 : parseMethodDescriptor "(Lcom/example/tenet/tenet/term/Slots;IIILcom/example/tenet/tenet/term/Term;)V" = some ⟨[(.object "com/example/tenet/tenet/term/Slots"), .int, .int, .int, (.object "com/example/tenet/tenet/term/Term")], none⟩ := by decide +kernel
theorem pdL_3 : parseMethodDescriptor "(II)V" = some ⟨[.int, .int], none⟩ := by decide +kernel
theorem pdL_4 : parseMethodDescriptor "(Lcom/example/tenet/tenet/term/Slots;IIILcom/example/tenet/tenet/term/Term;II)Z" = some ⟨[(.object "com/example/tenet/tenet/term/Slots"), .int, .int, .int, (.object "com/example/tenet/tenet/term/Term"), .int, .int], some .boolean⟩ := by decide +kernel
theorem pn_0 : plainName "com/example/tenet/tenet/term/SlotsClearPinLaw" = true := by first | (simp [plainName, overriddenIn]; done) | decide +kernel
theorem ef_0 (m : MethodId) (x0 : Int32) (x1 : Int32) (x2 : Int32) (x3 : Int32) (x4 : Int64) : entryFrame m #[(.int x0), (.int x1), (.int x2), (.int x3), (.long x4)] maxLocals = (mkF m 0 #[.val (.int x0), .val (.int x1), .val (.int x2), .val (.int x3), .val (.long x4), .second, .unset, .unset, .unset, .unset, .unset, .unset, .unset, .unset, .unset, .unset] []) := by first | (simp [entryFrame, mkF, argsToLocals, Value.category, maxLocals]; done) | rfl
def Q0 (Z : State) (x0 : Int32) (x1 : Int32) (x2 : Int32) (x3 : Int32) (x4 : Int64) (h0 : Heap) (n0 : Nat) (v : Option Value) (h : Heap) (L : List Loc) : Prop := v = some (.int (1 : Int32)) ∧ Fr n0 L
set_option maxRecDepth 65536 in
set_option maxHeartbeats 40000000 in
theorem rm0 (l : Launch) (Z : State) (a0 : Array Value) (hw : ∀ d ∈ tables_1, d.before a0 Z = true) (ws : List Jvm.Cond) (x0 : Int32) (x1 : Int32) (x2 : Int32) (x3 : Int32) (x4 : Int64) (h0 : Heap) (n0 : Nat) (Z0 : n0 ≤ h0.size) :
    MetFree l x (head1 (Jvm.Cond.code x code maxLocals ret :: ws) room_1) (fun a U => a = #[(.int x0), (.int x1), (.int x2), (.int x3), (.long x4)] ∧ Z.Warmed39 U.vm ∧ U.heap = h0) (fun _ _ _ _ _ => True) (fun _ U o U' => ∃ v L, o = .returned v ∧ Q0 Z x0 x1 x2 x3 x4 h0 n0 v U'.heap L ∧ FrameEnd U o U' L room_1.cells room_1.slots) := by
  refine MetFree.of_bodySF (plainFor_of_name pn_0) hisR ?_
  intro p e s m args below meth c s₁ Bd hml0 hP hK
  obtain ⟨rfl, hZ, hh⟩ := hP
  have hx := Bd.exec
  have hby := Bd.bytes
  have hml : c.maxLocals = 16 := hml0
  have hown : s.vm.findClass "com/example/tenet/tenet/term/SlotsClearPinLaw" = some m.cls := findClass_of_methodNamed Bd.named
  have hnm := (name_of_methodNamed Bd.named Bd.method).1
  have X0 : Stand p l e room_1 s m #[(.int x0), (.int x1), (.int x2), (.int x3), (.long x4)] below meth c s₁ [] 0 0 := Stand.of_body Bd
  have e0 : s₁.heap = h0 := by rw [← hh, Bd.state]; rfl
  have N0 := Fr.nil n0
  have pre0 : ∀ t, Steps p.tables e below (s₁.setTop (mkF m 0 #[.val (.int x0), .val (.int x1), .val (.int x2), .val (.int x3), .val (.long x4), .second, .unset, .unset, .unset, .unset, .unset, .unset, .unset, .unset, .unset, .unset] [])) t → Steps p.tables e below (s₁.setTop (entryFrame m #[(.int x0), (.int x1), (.int x2), (.int x3), (.long x4)] maxLocals)) t := fun t k => castTop (ef_0 m x0 x1 x2 x3 x4) k
  obtain ⟨f, hf, hf6⟩ := own_rem4 x0
  obtain ⟨t, ht, hf7⟩ := own_rem4 x1
  obtain ⟨m0, hm0⟩ : ∃ z, ((x2 &&& (3 : Int32)) - ((x2 &&& (3 : Int32)) / (3 : Int32)) * (3 : Int32)) = z := ⟨_, rfl⟩
  obtain ⟨m1, hm1⟩ : ∃ z, ((((x2.toUInt32 >>> ((2 : Int32) &&& 31).toUInt32).toInt32) &&& (3 : Int32)) - ((((x2.toUInt32 >>> ((2 : Int32) &&& 31).toUInt32).toInt32) &&& (3 : Int32)) / (3 : Int32)) * (3 : Int32)) = z := ⟨_, rfl⟩
  obtain ⟨m2, hm2⟩ : ∃ z, ((((x2.toUInt32 >>> ((4 : Int32) &&& 31).toUInt32).toInt32) &&& (3 : Int32)) - ((((x2.toUInt32 >>> ((4 : Int32) &&& 31).toUInt32).toInt32) &&& (3 : Int32)) / (3 : Int32)) * (3 : Int32)) = z := ⟨_, rfl⟩
  obtain ⟨k0, hk0⟩ : ∃ z, (x3 &&& (2147483647 : Int32)) = z := ⟨_, rfl⟩
  obtain ⟨k1, hk1⟩ : ∃ z, ((x3.toUInt32 >>> ((1 : Int32) &&& 31).toUInt32).toInt32) = z := ⟨_, rfl⟩
  obtain ⟨k2, hk2⟩ : ∃ z, ((x3.toUInt32 >>> ((2 : Int32) &&& 31).toUInt32).toInt32) = z := ⟨_, rfl⟩
  obtain ⟨_, _, ⟨T1, L1, k1', n1⟩, -, X1, ⟨Lc1, hQ1, l1, y1, z1⟩, st1⟩ := Jvm.LawKit.callS X0 hx (y := (⟨"com/example/tenet/tenet/term/IntTerm", "of", "(J)Lcom/example/tenet/tenet/term/IntTerm;"⟩ : MethodName)) hown (mvT hZ (hw _ (List.mem_of_getElem? (i := 1) rfl))) (mvT hZ (hw _ (List.mem_of_getElem? (i := 2) rfl))) (mvT hZ (hw _ (List.mem_of_getElem? (i := 3) rfl))) (mvT hZ (hw _ (List.mem_of_getElem? (i := 4) rfl))) (by decide) (backOf (W := 0) (rm1 l Z a0 hw [] x4 h0 n0 Z0) hZ (hw _ (List.mem_of_getElem? (i := 4) rfl)) (hw _ (List.mem_of_getElem? (i := 3) rfl)) (by decide) (by decide)) (g := (mkF m 59 #[.val (.int x0), .val (.int x1), .val (.int x2), .val (.int x3), .val (.long x4), .second, .val (.int (Int32.ofNat f)), .val (.int (Int32.ofNat t)), .val (.int m0), .val (.int m1), .val (.int m2), .val (.int k0), .val (.int k1), .val (.int k2), .unset, .unset] [(.long x4)])) rfl (by rw [hml]; rfl) (argsL := [(.long x4)]) (rest := []) (lenOf pdL_0 rfl) rfl (by show 2 * 0 + _ ≤ _; exact Nat.le_of_eq rfl) (hb hby at_59) (fun _ _ => ⟨rfl, e0, (by decide : 0 + 1 ≤ _), (by decide : 0 + 2 ≤ _)⟩)
  dsimp only [Pt.U, Pt.locs, Pt.cells, Pt.slots] at X1 l1 y1 z1 st1 hQ1
  subst l1 y1 z1
  obtain ⟨tt, rfl, N1q, sz1, Et1⟩ := hQ1
  have N1 := Fr.app N0 N1q
  have Z1 : n0 ≤ T1.heap.size := Nat.le_trans Z0 sz1
  obtain ⟨T2, h2, X2, e2, E2, A2, D2, -, st2⟩ := newO X1 hx hZ hown (hw _ (List.mem_of_getElem? (i := 22) rfl)) (hw _ (List.mem_of_getElem? (i := 23) rfl)) (hw _ (List.mem_of_getElem? (i := 24) rfl)) rfl (g := (mkF m 64 #[.val (.int x0), .val (.int x1), .val (.int x2), .val (.int x3), .val (.long x4), .second, .val (.int (Int32.ofNat f)), .val (.int (Int32.ofNat t)), .val (.int m0), .val (.int m1), .val (.int m2), .val (.int k0), .val (.int k1), .val (.int k2), .val (.ref tt), .unset] [])) rfl (hb hby at_64) (by decide) (by decide)
  obtain ⟨b2, g2⟩ : ∃ z, z = T1.heap.size := ⟨_, rfl⟩
  rw [← g2] at A2 D2 st2
  have gb2 : n0 ≤ b2 := Nat.le_trans Z1 (Nat.le_of_eq g2.symm)
  have Z2 : n0 ≤ h2.size := Nat.le_trans Z1 E2.1
  have Ft2 : Fld Z h2 b2 "com/example/tenet/tenet/term/Slots" "terms" "[Lcom/example/tenet/tenet/term/Term;" .null := D2 (Or.inr (hw _ (List.mem_of_getElem? (i := 35) rfl))) (ty := (.array (.object "com/example/tenet/tenet/term/Term"))) (by decide)
  have Fn2 : Fld Z h2 b2 "com/example/tenet/tenet/term/Slots" "nodes" "[I" .null := D2 (Or.inr (hw _ (List.mem_of_getElem? (i := 38) rfl))) (ty := (.array .int)) (by decide)
  have Fr_2 : Fld Z h2 b2 "com/example/tenet/tenet/term/Slots" "tree" "Lcom/example/tenet/tenet/term/Tree;" .null := D2 (Or.inr (hw _ (List.mem_of_getElem? (i := 40) rfl))) (ty := (.object "com/example/tenet/tenet/term/Tree")) (by decide)
  obtain ⟨_, _, ⟨T3, L3, k3, n3⟩, -, X3, ⟨Lc3, hQ3, l3, y3, z3⟩, st3⟩ := X2.specialBack hx (y := (⟨"com/example/tenet/tenet/term/Slots", "<init>", "(I)V"⟩ : MethodName)) rfl hown (mvT hZ (hw _ (List.mem_of_getElem? (i := 25) rfl))) (mvT hZ (hw _ (List.mem_of_getElem? (i := 26) rfl))) (mvT hZ (hw _ (List.mem_of_getElem? (i := 27) rfl))) (by decide) (backOf (W := 1) (rm5 l Z a0 hw [] b2 .null .null .null h2 n0 Z2 A2 Ft2 gb2 Fn2 Fr_2) hZ (hw _ (List.mem_of_getElem? (i := 27) rfl)) (hw _ (List.mem_of_getElem? (i := 24) rfl)) (by decide) (by decide)) (g := (mkF m 69 #[.val (.int x0), .val (.int x1), .val (.int x2), .val (.int x3), .val (.long x4), .second, .val (.int (Int32.ofNat f)), .val (.int (Int32.ofNat t)), .val (.int m0), .val (.int m1), .val (.int m2), .val (.int k0), .val (.int k1), .val (.int k2), .val (.ref tt), .unset] [(.int (3 : Int32)), (.ref b2), (.ref b2)])) rfl (by rw [hml]; rfl) (Steps.refl _) (a := b2) (argsL := [(.int (3 : Int32))]) (rest := [(.ref b2)]) (lenOf pdL_1 rfl) rfl (by show 2 * 0 + _ ≤ _; exact Nat.le_of_eq rfl) (hb hby at_69) (fun _ _ => ⟨rfl, e2, (by decide : 2 + 2 ≤ _), (by decide : 5 + 6 ≤ _)⟩)
  dsimp only [Pt.U, Pt.locs, Pt.cells, Pt.slots] at X3 l3 y3 z3 st3 hQ3
  subst l3 y3 z3
  obtain ⟨rfl, N3q, a3, b3, ka, kb, sz3, kp3, ga3, gb3, Es3, G13, G23, G33, U13, U23, Ov3, ne13, ne23, ne33⟩ := hQ3
  have N3 := Fr.app N1 N3q
  have Z3 : n0 ≤ T3.heap.size := Nat.le_trans Z2 sz3
  have Et3 : Exa Z T3.heap tt "com/example/tenet/tenet/term/IntTerm" := kp3 _ _ (Et1.ext E2)
  obtain ⟨cA, ArA, qA, rA⟩ := id U13
  have Sto3 : Sto Z T3.heap a3 (.ref tt) := Sto.of ArA (by rw [qA]; exact Ov3) (Ins.of_exa Et3 (hw _ (List.mem_of_getElem? (i := 77) rfl)))
  have S3 : Sl Z T3.heap b2 a3 b3 tt ka kb [.null, .null, .null] [(.int (-1 : Int32)), (.int (-1 : Int32)), (.int (-1 : Int32))] := ⟨Es3, G13, G23, G33, U13, U23, Sto3, ⟨ne13, ne23, ne33⟩, rfl, rfl⟩
  obtain ⟨_, _, ⟨T4, L4, kk4, n4⟩, -, X4, ⟨Lc4, hQ4, l4, y4, z4⟩, st4⟩ := Jvm.LawKit.callS X3 hx (y := (⟨"com/example/tenet/tenet/term/SlotsClearPinLaw", "fill", "(Lcom/example/tenet/tenet/term/Slots;IIILcom/example/tenet/tenet/term/Term;)V"⟩ : MethodName)) hown (mvT hZ (hw _ (List.mem_of_getElem? (i := 45) rfl))) (mvT hZ (hw _ (List.mem_of_getElem? (i := 46) rfl))) (mvT hZ (hw _ (List.mem_of_getElem? (i := 47) rfl))) (mvT hZ (hw _ (List.mem_of_getElem? (i := 48) rfl))) (by decide) (backOf (W := 0) (rm8 l Z a0 hw [] b2 (0 : Int32) m0 k0 tt a3 b3 ka kb [.null, .null, .null] [(.int (-1 : Int32)), (.int (-1 : Int32)), (.int (-1 : Int32))] T3.heap n0 Z3 S3 ⟨by decide, by decide⟩ ga3 gb3 rfl rfl) hZ (hw _ (List.mem_of_getElem? (i := 48) rfl)) (hw _ (List.mem_of_getElem? (i := 47) rfl)) (by decide) (by decide)) (g := (mkF m 83 #[.val (.int x0), .val (.int x1), .val (.int x2), .val (.int x3), .val (.long x4), .second, .val (.int (Int32.ofNat f)), .val (.int (Int32.ofNat t)), .val (.int m0), .val (.int m1), .val (.int m2), .val (.int k0), .val (.int k1), .val (.int k2), .val (.ref tt), .val (.ref b2)] [(.ref tt), (.int k0), (.int m0), (.int (0 : Int32)), (.ref b2)])) rfl (by rw [hml]; rfl) (argsL := [(.ref b2), (.int (0 : Int32)), (.int m0), (.int k0), (.ref tt)]) (rest := []) (lenOf pdL_2 rfl) rfl (by show 2 * 0 + _ ≤ _; exact Nat.le_of_eq rfl) (hb hby at_83) (fun _ _ => ⟨rfl, rfl, (by decide : 4 + 0 ≤ _), (by decide : 11 + 0 ≤ _)⟩)
  dsimp only [Pt.U, Pt.locs, Pt.cells, Pt.slots] at X4 l4 y4 z4 st4 hQ4
  subst l4 y4 z4
  obtain ⟨rfl, N4q, sz4, Sq4⟩ := hQ4
  have N4 := Fr.app N3 N4q
  have S4 : Sl Z T4.heap b2 a3 b3 tt ka kb [(own_T m0 tt), .null, .null] [(.int (own_K m0 k0)), (.int (-1 : Int32)), (.int (-1 : Int32))] := Sq4
  have Z4 : n0 ≤ T4.heap.size := Nat.le_trans Z3 sz4
  obtain ⟨_, _, ⟨T5, L5, kk5, n5⟩, -, X5, ⟨Lc5, hQ5, l5, y5, z5⟩, st5⟩ := Jvm.LawKit.callS X4 hx (y := (⟨"com/example/tenet/tenet/term/SlotsClearPinLaw", "fill", "(Lcom/example/tenet/tenet/term/Slots;IIILcom/example/tenet/tenet/term/Term;)V"⟩ : MethodName)) hown (mvT hZ (hw _ (List.mem_of_getElem? (i := 45) rfl))) (mvT hZ (hw _ (List.mem_of_getElem? (i := 46) rfl))) (mvT hZ (hw _ (List.mem_of_getElem? (i := 47) rfl))) (mvT hZ (hw _ (List.mem_of_getElem? (i := 48) rfl))) (by decide) (backOf (W := 0) (rm8 l Z a0 hw [] b2 (1 : Int32) m1 k1 tt a3 b3 ka kb [(own_T m0 tt), .null, .null] [(.int (own_K m0 k0)), (.int (-1 : Int32)), (.int (-1 : Int32))] T4.heap n0 Z4 S4 ⟨by decide, by decide⟩ ga3 gb3 rfl rfl) hZ (hw _ (List.mem_of_getElem? (i := 48) rfl)) (hw _ (List.mem_of_getElem? (i := 47) rfl)) (by decide) (by decide)) (g := (mkF m 95 #[.val (.int x0), .val (.int x1), .val (.int x2), .val (.int x3), .val (.long x4), .second, .val (.int (Int32.ofNat f)), .val (.int (Int32.ofNat t)), .val (.int m0), .val (.int m1), .val (.int m2), .val (.int k0), .val (.int k1), .val (.int k2), .val (.ref tt), .val (.ref b2)] [(.ref tt), (.int k1), (.int m1), (.int (1 : Int32)), (.ref b2)])) rfl (by rw [hml]; rfl) (argsL := [(.ref b2), (.int (1 : Int32)), (.int m1), (.int k1), (.ref tt)]) (rest := []) (lenOf pdL_2 rfl) rfl (by show 2 * 0 + _ ≤ _; exact Nat.le_of_eq rfl) (hb hby at_95) (fun _ _ => ⟨rfl, rfl, (by decide : 4 + 0 ≤ _), (by decide : 11 + 0 ≤ _)⟩)
  dsimp only [Pt.U, Pt.locs, Pt.cells, Pt.slots] at X5 l5 y5 z5 st5 hQ5
  subst l5 y5 z5
  obtain ⟨rfl, N5q, sz5, Sq5⟩ := hQ5
  have N5 := Fr.app N4 N5q
  have S5 : Sl Z T5.heap b2 a3 b3 tt ka kb [(own_T m0 tt), (own_T m1 tt), .null] [(.int (own_K m0 k0)), (.int (own_K m1 k1)), (.int (-1 : Int32))] := Sq5
  have Z5 : n0 ≤ T5.heap.size := Nat.le_trans Z4 sz5
  obtain ⟨_, _, ⟨T6, L6, kk6, n6⟩, -, X6, ⟨Lc6, hQ6, l6, y6, z6⟩, st6⟩ := Jvm.LawKit.callS X5 hx (y := (⟨"com/example/tenet/tenet/term/SlotsClearPinLaw", "fill", "(Lcom/example/tenet/tenet/term/Slots;IIILcom/example/tenet/tenet/term/Term;)V"⟩ : MethodName)) hown (mvT hZ (hw _ (List.mem_of_getElem? (i := 45) rfl))) (mvT hZ (hw _ (List.mem_of_getElem? (i := 46) rfl))) (mvT hZ (hw _ (List.mem_of_getElem? (i := 47) rfl))) (mvT hZ (hw _ (List.mem_of_getElem? (i := 48) rfl))) (by decide) (backOf (W := 0) (rm8 l Z a0 hw [] b2 (2 : Int32) m2 k2 tt a3 b3 ka kb [(own_T m0 tt), (own_T m1 tt), .null] [(.int (own_K m0 k0)), (.int (own_K m1 k1)), (.int (-1 : Int32))] T5.heap n0 Z5 S5 ⟨by decide, by decide⟩ ga3 gb3 rfl rfl) hZ (hw _ (List.mem_of_getElem? (i := 48) rfl)) (hw _ (List.mem_of_getElem? (i := 47) rfl)) (by decide) (by decide)) (g := (mkF m 107 #[.val (.int x0), .val (.int x1), .val (.int x2), .val (.int x3), .val (.long x4), .second, .val (.int (Int32.ofNat f)), .val (.int (Int32.ofNat t)), .val (.int m0), .val (.int m1), .val (.int m2), .val (.int k0), .val (.int k1), .val (.int k2), .val (.ref tt), .val (.ref b2)] [(.ref tt), (.int k2), (.int m2), (.int (2 : Int32)), (.ref b2)])) rfl (by rw [hml]; rfl) (argsL := [(.ref b2), (.int (2 : Int32)), (.int m2), (.int k2), (.ref tt)]) (rest := []) (lenOf pdL_2 rfl) rfl (by show 2 * 0 + _ ≤ _; exact Nat.le_of_eq rfl) (hb hby at_107) (fun _ _ => ⟨rfl, rfl, (by decide : 4 + 0 ≤ _), (by decide : 11 + 0 ≤ _)⟩)
  dsimp only [Pt.U, Pt.locs, Pt.cells, Pt.slots] at X6 l6 y6 z6 st6 hQ6
  subst l6 y6 z6
  obtain ⟨rfl, N6q, sz6, Sq6⟩ := hQ6
  have N6 := Fr.app N5 N6q
  have S6 : Sl Z T6.heap b2 a3 b3 tt ka kb [(own_T m0 tt), (own_T m1 tt), (own_T m2 tt)] [(.int (own_K m0 k0)), (.int (own_K m1 k1)), (.int (own_K m2 k2))] := Sq6
  have Z6 : n0 ≤ T6.heap.size := Nat.le_trans Z5 sz6
  obtain ⟨cq7, kq7, q7a, q7b, q7c⟩ := isOf hZ rfl S6.1
  obtain ⟨_, _, ⟨T7, L7, kk7, n7⟩, -, X7, ⟨Lc7, hQ7, l7, y7, z7⟩, st7⟩ := X6.virtualBack hx (y := (⟨"com/example/tenet/tenet/term/Slots", "clear", "(II)V"⟩ : MethodName)) (z := (⟨"com/example/tenet/tenet/term/Slots", "clear", "(II)V"⟩ : MethodName)) hown (mvT hZ (hw _ (List.mem_of_getElem? (i := 54) rfl))) (mvT hZ (hw _ (List.mem_of_getElem? (i := 55) rfl))) (notFace_of_selects (args := #[]) (mvT hZ (hw _ (List.mem_of_getElem? (i := 57) rfl)))) (mvT hZ (hw _ (List.mem_of_getElem? (i := 57) rfl))) (mvT hZ (hw _ (List.mem_of_getElem? (i := 56) rfl))) (by decide) (backOf (W := 0) (rm10 l Z a0 hw [] b2 f t a3 b3 tt ka kb [(own_T m0 tt), (own_T m1 tt), (own_T m2 tt)] [(.int (own_K m0 k0)), (.int (own_K m1 k1)), (.int (own_K m2 k2))] T6.heap n0 Z6 hf ht S6 ga3 gb3) hZ (hw _ (List.mem_of_getElem? (i := 58) rfl)) (hw _ (List.mem_of_getElem? (i := 24) rfl)) (by decide) (by decide)) q7a q7c (g := (mkF m 116 #[.val (.int x0), .val (.int x1), .val (.int x2), .val (.int x3), .val (.long x4), .second, .val (.int (Int32.ofNat f)), .val (.int (Int32.ofNat t)), .val (.int m0), .val (.int m1), .val (.int m2), .val (.int k0), .val (.int k1), .val (.int k2), .val (.ref tt), .val (.ref b2)] [(.int (Int32.ofNat t)), (.int (Int32.ofNat f)), (.ref b2)])) rfl (by rw [hml]; rfl) (Steps.refl _) (argsL := [(.int (Int32.ofNat f)), (.int (Int32.ofNat t))]) (rest := []) (lenOf pdL_3 rfl) rfl (by show 2 * 0 + _ ≤ _; exact Nat.le_of_eq rfl) (hb hby at_116) (fun _ _ => ⟨rfl, rfl, (by decide : 4 + 0 ≤ _), (by decide : 11 + 0 ≤ _)⟩)
  dsimp only [Pt.U, Pt.locs, Pt.cells, Pt.slots] at X7 l7 y7 z7 st7 hQ7
  subst l7 y7 z7
  obtain ⟨rfl, N7q, sz7, S7⟩ := hQ7
  have N7 := Fr.app N6 N7q
  have Z7 : n0 ≤ T7.heap.size := Nat.le_trans Z6 sz7
  have gv := own_get f t hf ht (own_T m0 tt) (own_T m1 tt) (own_T m2 tt) .null .null
  have gn := own_get f t hf ht (.int (own_K m0 k0)) (.int (own_K m1 k1)) (.int (own_K m2 k2)) (.int (-1 : Int32)) (.int (0 : Int32))
  obtain ⟨_, _, ⟨T8, L8, kk8, n8⟩, -, X8, ⟨Lc8, hQ8, l8, y8, z8⟩, st8⟩ := Jvm.LawKit.callS X7 hx (y := (⟨"com/example/tenet/tenet/term/SlotsClearPinLaw", "slotOk", "(Lcom/example/tenet/tenet/term/Slots;IIILcom/example/tenet/tenet/term/Term;II)Z"⟩ : MethodName)) hown (mvT hZ (hw _ (List.mem_of_getElem? (i := 59) rfl))) (mvT hZ (hw _ (List.mem_of_getElem? (i := 60) rfl))) (mvT hZ (hw _ (List.mem_of_getElem? (i := 47) rfl))) (mvT hZ (hw _ (List.mem_of_getElem? (i := 61) rfl))) (by decide) (backOf (W := 0) (rm11 l Z a0 hw [] b2 (0 : Int32) m0 k0 tt (Int32.ofNat f) (Int32.ofNat t) a3 b3 ka kb (own_clr (t - f) f [(own_T m0 tt), (own_T m1 tt), (own_T m2 tt)] .null) (own_clr (t - f) f [(.int (own_K m0 k0)), (.int (own_K m1 k1)), (.int (own_K m2 k2))] (.int (-1 : Int32))) T7.heap n0 Z7 S7 ⟨by decide, by decide⟩ (by rw [own_c]; exact gv.1) (by rw [own_c, show ((0 : Int32)).toNatClampNeg = 0 from rfl, gn.1]; exact own_ite _ _ _)) hZ (hw _ (List.mem_of_getElem? (i := 61) rfl)) (hw _ (List.mem_of_getElem? (i := 47) rfl)) (by decide) (by decide)) (g := (mkF m 132 #[.val (.int x0), .val (.int x1), .val (.int x2), .val (.int x3), .val (.long x4), .second, .val (.int (Int32.ofNat f)), .val (.int (Int32.ofNat t)), .val (.int m0), .val (.int m1), .val (.int m2), .val (.int k0), .val (.int k1), .val (.int k2), .val (.ref tt), .val (.ref b2)] [(.int (Int32.ofNat t)), (.int (Int32.ofNat f)), (.ref tt), (.int k0), (.int m0), (.int (0 : Int32)), (.ref b2)])) rfl (by rw [hml]; rfl) (argsL := [(.ref b2), (.int (0 : Int32)), (.int m0), (.int k0), (.ref tt), (.int (Int32.ofNat f)), (.int (Int32.ofNat t))]) (rest := []) (lenOf pdL_4 rfl) rfl (by show 2 * 0 + _ ≤ _; exact Nat.le_of_eq rfl) (hb hby at_132) (fun _ _ => ⟨rfl, rfl, (by decide : 4 + 0 ≤ _), (by decide : 11 + 0 ≤ _)⟩)
  dsimp only [Pt.U, Pt.locs, Pt.cells, Pt.slots] at X8 l8 y8 z8 st8 hQ8
  subst l8 y8 z8
  obtain ⟨rfl, N8q, e8⟩ := hQ8
  have N8 := Fr.app N7 N8q
  obtain ⟨_, _, ⟨T9, L9, kk9, n9⟩, -, X9, ⟨Lc9, hQ9, l9, y9, z9⟩, st9⟩ := Jvm.LawKit.callS X8 hx (y := (⟨"com/example/tenet/tenet/term/SlotsClearPinLaw", "slotOk", "(Lcom/example/tenet/tenet/term/Slots;IIILcom/example/tenet/tenet/term/Term;II)Z"⟩ : MethodName)) hown (mvT hZ (hw _ (List.mem_of_getElem? (i := 59) rfl))) (mvT hZ (hw _ (List.mem_of_getElem? (i := 60) rfl))) (mvT hZ (hw _ (List.mem_of_getElem? (i := 47) rfl))) (mvT hZ (hw _ (List.mem_of_getElem? (i := 61) rfl))) (by decide) (backOf (W := 0) (rm11 l Z a0 hw [] b2 (1 : Int32) m1 k1 tt (Int32.ofNat f) (Int32.ofNat t) a3 b3 ka kb (own_clr (t - f) f [(own_T m0 tt), (own_T m1 tt), (own_T m2 tt)] .null) (own_clr (t - f) f [(.int (own_K m0 k0)), (.int (own_K m1 k1)), (.int (own_K m2 k2))] (.int (-1 : Int32))) T7.heap n0 Z7 S7 ⟨by decide, by decide⟩ (by rw [own_c]; exact gv.2.1) (by rw [own_c, show ((1 : Int32)).toNatClampNeg = 1 from rfl, gn.2.1]; exact own_ite _ _ _)) hZ (hw _ (List.mem_of_getElem? (i := 61) rfl)) (hw _ (List.mem_of_getElem? (i := 47) rfl)) (by decide) (by decide)) (g := (mkF m 151 #[.val (.int x0), .val (.int x1), .val (.int x2), .val (.int x3), .val (.long x4), .second, .val (.int (Int32.ofNat f)), .val (.int (Int32.ofNat t)), .val (.int m0), .val (.int m1), .val (.int m2), .val (.int k0), .val (.int k1), .val (.int k2), .val (.ref tt), .val (.ref b2)] [(.int (Int32.ofNat t)), (.int (Int32.ofNat f)), (.ref tt), (.int k1), (.int m1), (.int (1 : Int32)), (.ref b2)])) rfl (by rw [hml]; rfl) (argsL := [(.ref b2), (.int (1 : Int32)), (.int m1), (.int k1), (.ref tt), (.int (Int32.ofNat f)), (.int (Int32.ofNat t))]) (rest := []) (lenOf pdL_4 rfl) rfl (by show 2 * 0 + _ ≤ _; exact Nat.le_of_eq rfl) (hb hby at_151) (fun _ _ => ⟨rfl, e8, (by decide : 4 + 0 ≤ _), (by decide : 11 + 0 ≤ _)⟩)
  dsimp only [Pt.U, Pt.locs, Pt.cells, Pt.slots] at X9 l9 y9 z9 st9 hQ9
  subst l9 y9 z9
  obtain ⟨rfl, N9q, e9⟩ := hQ9
  have N9 := Fr.app N8 N9q
  obtain ⟨_, _, ⟨T10, L10, kk10, n10⟩, -, X10, ⟨Lc10, hQ10, l10, y10, z10⟩, st10⟩ := Jvm.LawKit.callS X9 hx (y := (⟨"com/example/tenet/tenet/term/SlotsClearPinLaw", "slotOk", "(Lcom/example/tenet/tenet/term/Slots;IIILcom/example/tenet/tenet/term/Term;II)Z"⟩ : MethodName)) hown (mvT hZ (hw _ (List.mem_of_getElem? (i := 59) rfl))) (mvT hZ (hw _ (List.mem_of_getElem? (i := 60) rfl))) (mvT hZ (hw _ (List.mem_of_getElem? (i := 47) rfl))) (mvT hZ (hw _ (List.mem_of_getElem? (i := 61) rfl))) (by decide) (backOf (W := 0) (rm11 l Z a0 hw [] b2 (2 : Int32) m2 k2 tt (Int32.ofNat f) (Int32.ofNat t) a3 b3 ka kb (own_clr (t - f) f [(own_T m0 tt), (own_T m1 tt), (own_T m2 tt)] .null) (own_clr (t - f) f [(.int (own_K m0 k0)), (.int (own_K m1 k1)), (.int (own_K m2 k2))] (.int (-1 : Int32))) T7.heap n0 Z7 S7 ⟨by decide, by decide⟩ (by rw [own_c]; exact gv.2.2) (by rw [own_c, show ((2 : Int32)).toNatClampNeg = 2 from rfl, gn.2.2]; exact own_ite _ _ _)) hZ (hw _ (List.mem_of_getElem? (i := 61) rfl)) (hw _ (List.mem_of_getElem? (i := 47) rfl)) (by decide) (by decide)) (g := (mkF m 170 #[.val (.int x0), .val (.int x1), .val (.int x2), .val (.int x3), .val (.long x4), .second, .val (.int (Int32.ofNat f)), .val (.int (Int32.ofNat t)), .val (.int m0), .val (.int m1), .val (.int m2), .val (.int k0), .val (.int k1), .val (.int k2), .val (.ref tt), .val (.ref b2)] [(.int (Int32.ofNat t)), (.int (Int32.ofNat f)), (.ref tt), (.int k2), (.int m2), (.int (2 : Int32)), (.ref b2)])) rfl (by rw [hml]; rfl) (argsL := [(.ref b2), (.int (2 : Int32)), (.int m2), (.int k2), (.ref tt), (.int (Int32.ofNat f)), (.int (Int32.ofNat t))]) (rest := []) (lenOf pdL_4 rfl) rfl (by show 2 * 0 + _ ≤ _; exact Nat.le_of_eq rfl) (hb hby at_170) (fun _ _ => ⟨rfl, e9, (by decide : 4 + 0 ≤ _), (by decide : 11 + 0 ≤ _)⟩)
  dsimp only [Pt.U, Pt.locs, Pt.cells, Pt.slots] at X10 l10 y10 z10 st10 hQ10
  subst l10 y10 z10
  obtain ⟨rfl, N10q, e10⟩ := hQ10
  have N10 := Fr.app N9 N10q
  obtain ⟨fs, hr, hrun, hended, hW, hsame⟩ := X10.leave (v := some (.int (1 : Int32))) (fun h => by rw [Bd.returns] at h; cases h)
  refine ⟨_, _, pre0 _ ?_, hrun, hended, _, _, rfl, ?_, ⟨_, rfl⟩, hW, hsame.mono (by decide) (by decide)⟩
  · show Steps p.tables e below (s₁.setTop (mkF m 0 #[.val (.int x0), .val (.int x1), .val (.int x2), .val (.int x3), .val (.long x4), .second, .unset, .unset, .unset, .unset, .unset, .unset, .unset, .unset, .unset, .unset] [])) _
    refine XS.iloadN X0.here hx rfl (hb hby at_0) rfl ?_
    show Steps p.tables e below (s₁.setTop (mkF m 1 #[.val (.int x0), .val (.int x1), .val (.int x2), .val (.int x3), .val (.long x4), .second, .unset, .unset, .unset, .unset, .unset, .unset, .unset, .unset, .unset, .unset] [(.int x0)])) _
    refine X0.ldcInt hx hown (mvT hZ (hw _ (List.mem_of_getElem? (i := 0) rfl))) (g := (mkF m 1 #[.val (.int x0), .val (.int x1), .val (.int x2), .val (.int x3), .val (.long x4), .second, .unset, .unset, .unset, .unset, .unset, .unset, .unset, .unset, .unset, .unset] [(.int x0)])) rfl (hb hby at_1) _ ?_
    show Steps p.tables e below (s₁.setTop (mkF m 3 #[.val (.int x0), .val (.int x1), .val (.int x2), .val (.int x3), .val (.long x4), .second, .unset, .unset, .unset, .unset, .unset, .unset, .unset, .unset, .unset, .unset] [(.int (2147483647 : Int32)), (.int x0)])) _
    refine XS.iand X0.here hx rfl (hb hby at_3) rfl ?_
    show Steps p.tables e below (s₁.setTop (mkF m 4 #[.val (.int x0), .val (.int x1), .val (.int x2), .val (.int x3), .val (.long x4), .second, .unset, .unset, .unset, .unset, .unset, .unset, .unset, .unset, .unset, .unset] [(.int (x0 &&& (2147483647 : Int32)))])) _
    refine XS.iconst X0.here hx rfl (hb hby at_4) ?_
    show Steps p.tables e below (s₁.setTop (mkF m 5 #[.val (.int x0), .val (.int x1), .val (.int x2), .val (.int x3), .val (.long x4), .second, .unset, .unset, .unset, .unset, .unset, .unset, .unset, .unset, .unset, .unset] [(.int (4 : Int32)), (.int (x0 &&& (2147483647 : Int32)))])) _
    refine XS.irem X0.here hx rfl (hb hby at_5) rfl (by decide) ?_
    show Steps p.tables e below (s₁.setTop (mkF m 6 #[.val (.int x0), .val (.int x1), .val (.int x2), .val (.int x3), .val (.long x4), .second, .unset, .unset, .unset, .unset, .unset, .unset, .unset, .unset, .unset, .unset] [(.int ((x0 &&& (2147483647 : Int32)) - ((x0 &&& (2147483647 : Int32)) / (4 : Int32)) * (4 : Int32)))])) _
    refine XS.istore X0.here hx rfl (hb hby at_6) rfl (l' := #[.val (.int x0), .val (.int x1), .val (.int x2), .val (.int x3), .val (.long x4), .second, .val (.int ((x0 &&& (2147483647 : Int32)) - ((x0 &&& (2147483647 : Int32)) / (4 : Int32)) * (4 : Int32))), .unset, .unset, .unset, .unset, .unset, .unset, .unset, .unset, .unset]) rfl ?_
    show Steps p.tables e below (s₁.setTop (mkF m 8 #[.val (.int x0), .val (.int x1), .val (.int x2), .val (.int x3), .val (.long x4), .second, .val (.int ((x0 &&& (2147483647 : Int32)) - ((x0 &&& (2147483647 : Int32)) / (4 : Int32)) * (4 : Int32))), .unset, .unset, .unset, .unset, .unset, .unset, .unset, .unset, .unset] [])) _
    refine XS.iloadN X0.here hx rfl (hb hby at_8) rfl ?_
    show Steps p.tables e below (s₁.setTop (mkF m 9 #[.val (.int x0), .val (.int x1), .val (.int x2), .val (.int x3), .val (.long x4), .second, .val (.int ((x0 &&& (2147483647 : Int32)) - ((x0 &&& (2147483647 : Int32)) / (4 : Int32)) * (4 : Int32))), .unset, .unset, .unset, .unset, .unset, .unset, .unset, .unset, .unset] [(.int x1)])) _
    refine X0.ldcInt hx hown (mvT hZ (hw _ (List.mem_of_getElem? (i := 0) rfl))) (g := (mkF m 9 #[.val (.int x0), .val (.int x1), .val (.int x2), .val (.int x3), .val (.long x4), .second, .val (.int ((x0 &&& (2147483647 : Int32)) - ((x0 &&& (2147483647 : Int32)) / (4 : Int32)) * (4 : Int32))), .unset, .unset, .unset, .unset, .unset, .unset, .unset, .unset, .unset] [(.int x1)])) rfl (hb hby at_9) _ ?_
    show Steps p.tables e below (s₁.setTop (mkF m 11 #[.val (.int x0), .val (.int x1), .val (.int x2), .val (.int x3), .val (.long x4), .second, .val (.int ((x0 &&& (2147483647 : Int32)) - ((x0 &&& (2147483647 : Int32)) / (4 : Int32)) * (4 : Int32))), .unset, .unset, .unset, .unset, .unset, .unset, .unset, .unset, .unset] [(.int (2147483647 : Int32)), (.int x1)])) _
    refine XS.iand X0.here hx rfl (hb hby at_11) rfl ?_
    show Steps p.tables e below (s₁.setTop (mkF m 12 #[.val (.int x0), .val (.int x1), .val (.int x2), .val (.int x3), .val (.long x4), .second, .val (.int ((x0 &&& (2147483647 : Int32)) - ((x0 &&& (2147483647 : Int32)) / (4 : Int32)) * (4 : Int32))), .unset, .unset, .unset, .unset, .unset, .unset, .unset, .unset, .unset] [(.int (x1 &&& (2147483647 : Int32)))])) _
    refine XS.iconst X0.here hx rfl (hb hby at_12) ?_
    show Steps p.tables e below (s₁.setTop (mkF m 13 #[.val (.int x0), .val (.int x1), .val (.int x2), .val (.int x3), .val (.long x4), .second, .val (.int ((x0 &&& (2147483647 : Int32)) - ((x0 &&& (2147483647 : Int32)) / (4 : Int32)) * (4 : Int32))), .unset, .unset, .unset, .unset, .unset, .unset, .unset, .unset, .unset] [(.int (4 : Int32)), (.int (x1 &&& (2147483647 : Int32)))])) _
    refine XS.irem X0.here hx rfl (hb hby at_13) rfl (by decide) ?_
    show Steps p.tables e below (s₁.setTop (mkF m 14 #[.val (.int x0), .val (.int x1), .val (.int x2), .val (.int x3), .val (.long x4), .second, .val (.int ((x0 &&& (2147483647 : Int32)) - ((x0 &&& (2147483647 : Int32)) / (4 : Int32)) * (4 : Int32))), .unset, .unset, .unset, .unset, .unset, .unset, .unset, .unset, .unset] [(.int ((x1 &&& (2147483647 : Int32)) - ((x1 &&& (2147483647 : Int32)) / (4 : Int32)) * (4 : Int32)))])) _
    refine XS.istore X0.here hx rfl (hb hby at_14) rfl (l' := #[.val (.int x0), .val (.int x1), .val (.int x2), .val (.int x3), .val (.long x4), .second, .val (.int ((x0 &&& (2147483647 : Int32)) - ((x0 &&& (2147483647 : Int32)) / (4 : Int32)) * (4 : Int32))), .val (.int ((x1 &&& (2147483647 : Int32)) - ((x1 &&& (2147483647 : Int32)) / (4 : Int32)) * (4 : Int32))), .unset, .unset, .unset, .unset, .unset, .unset, .unset, .unset]) rfl ?_
    show Steps p.tables e below (s₁.setTop (mkF m 16 #[.val (.int x0), .val (.int x1), .val (.int x2), .val (.int x3), .val (.long x4), .second, .val (.int ((x0 &&& (2147483647 : Int32)) - ((x0 &&& (2147483647 : Int32)) / (4 : Int32)) * (4 : Int32))), .val (.int ((x1 &&& (2147483647 : Int32)) - ((x1 &&& (2147483647 : Int32)) / (4 : Int32)) * (4 : Int32))), .unset, .unset, .unset, .unset, .unset, .unset, .unset, .unset] [])) _
    refine XS.iloadN X0.here hx rfl (hb hby at_16) rfl ?_
    show Steps p.tables e below (s₁.setTop (mkF m 17 #[.val (.int x0), .val (.int x1), .val (.int x2), .val (.int x3), .val (.long x4), .second, .val (.int ((x0 &&& (2147483647 : Int32)) - ((x0 &&& (2147483647 : Int32)) / (4 : Int32)) * (4 : Int32))), .val (.int ((x1 &&& (2147483647 : Int32)) - ((x1 &&& (2147483647 : Int32)) / (4 : Int32)) * (4 : Int32))), .unset, .unset, .unset, .unset, .unset, .unset, .unset, .unset] [(.int x2)])) _
    refine XS.iconst X0.here hx rfl (hb hby at_17) ?_
    show Steps p.tables e below (s₁.setTop (mkF m 18 #[.val (.int x0), .val (.int x1), .val (.int x2), .val (.int x3), .val (.long x4), .second, .val (.int ((x0 &&& (2147483647 : Int32)) - ((x0 &&& (2147483647 : Int32)) / (4 : Int32)) * (4 : Int32))), .val (.int ((x1 &&& (2147483647 : Int32)) - ((x1 &&& (2147483647 : Int32)) / (4 : Int32)) * (4 : Int32))), .unset, .unset, .unset, .unset, .unset, .unset, .unset, .unset] [(.int (3 : Int32)), (.int x2)])) _
    refine XS.iand X0.here hx rfl (hb hby at_18) rfl ?_
    show Steps p.tables e below (s₁.setTop (mkF m 19 #[.val (.int x0), .val (.int x1), .val (.int x2), .val (.int x3), .val (.long x4), .second, .val (.int ((x0 &&& (2147483647 : Int32)) - ((x0 &&& (2147483647 : Int32)) / (4 : Int32)) * (4 : Int32))), .val (.int ((x1 &&& (2147483647 : Int32)) - ((x1 &&& (2147483647 : Int32)) / (4 : Int32)) * (4 : Int32))), .unset, .unset, .unset, .unset, .unset, .unset, .unset, .unset] [(.int (x2 &&& (3 : Int32)))])) _
    refine XS.iconst X0.here hx rfl (hb hby at_19) ?_
    show Steps p.tables e below (s₁.setTop (mkF m 20 #[.val (.int x0), .val (.int x1), .val (.int x2), .val (.int x3), .val (.long x4), .second, .val (.int ((x0 &&& (2147483647 : Int32)) - ((x0 &&& (2147483647 : Int32)) / (4 : Int32)) * (4 : Int32))), .val (.int ((x1 &&& (2147483647 : Int32)) - ((x1 &&& (2147483647 : Int32)) / (4 : Int32)) * (4 : Int32))), .unset, .unset, .unset, .unset, .unset, .unset, .unset, .unset] [(.int (3 : Int32)), (.int (x2 &&& (3 : Int32)))])) _
    refine XS.irem X0.here hx rfl (hb hby at_20) rfl (by decide) ?_
    show Steps p.tables e below (s₁.setTop (mkF m 21 #[.val (.int x0), .val (.int x1), .val (.int x2), .val (.int x3), .val (.long x4), .second, .val (.int ((x0 &&& (2147483647 : Int32)) - ((x0 &&& (2147483647 : Int32)) / (4 : Int32)) * (4 : Int32))), .val (.int ((x1 &&& (2147483647 : Int32)) - ((x1 &&& (2147483647 : Int32)) / (4 : Int32)) * (4 : Int32))), .unset, .unset, .unset, .unset, .unset, .unset, .unset, .unset] [(.int ((x2 &&& (3 : Int32)) - ((x2 &&& (3 : Int32)) / (3 : Int32)) * (3 : Int32)))])) _
    refine XS.istore X0.here hx rfl (hb hby at_21) rfl (l' := #[.val (.int x0), .val (.int x1), .val (.int x2), .val (.int x3), .val (.long x4), .second, .val (.int ((x0 &&& (2147483647 : Int32)) - ((x0 &&& (2147483647 : Int32)) / (4 : Int32)) * (4 : Int32))), .val (.int ((x1 &&& (2147483647 : Int32)) - ((x1 &&& (2147483647 : Int32)) / (4 : Int32)) * (4 : Int32))), .val (.int ((x2 &&& (3 : Int32)) - ((x2 &&& (3 : Int32)) / (3 : Int32)) * (3 : Int32))), .unset, .unset, .unset, .unset, .unset, .unset, .unset]) rfl ?_
    show Steps p.tables e below (s₁.setTop (mkF m 23 #[.val (.int x0), .val (.int x1), .val (.int x2), .val (.int x3), .val (.long x4), .second, .val (.int ((x0 &&& (2147483647 : Int32)) - ((x0 &&& (2147483647 : Int32)) / (4 : Int32)) * (4 : Int32))), .val (.int ((x1 &&& (2147483647 : Int32)) - ((x1 &&& (2147483647 : Int32)) / (4 : Int32)) * (4 : Int32))), .val (.int ((x2 &&& (3 : Int32)) - ((x2 &&& (3 : Int32)) / (3 : Int32)) * (3 : Int32))), .unset, .unset, .unset, .unset, .unset, .unset, .unset] [])) _
    refine XS.iloadN X0.here hx rfl (hb hby at_23) rfl ?_
    show Steps p.tables e below (s₁.setTop (mkF m 24 #[.val (.int x0), .val (.int x1), .val (.int x2), .val (.int x3), .val (.long x4), .second, .val (.int ((x0 &&& (2147483647 : Int32)) - ((x0 &&& (2147483647 : Int32)) / (4 : Int32)) * (4 : Int32))), .val (.int ((x1 &&& (2147483647 : Int32)) - ((x1 &&& (2147483647 : Int32)) / (4 : Int32)) * (4 : Int32))), .val (.int ((x2 &&& (3 : Int32)) - ((x2 &&& (3 : Int32)) / (3 : Int32)) * (3 : Int32))), .unset, .unset, .unset, .unset, .unset, .unset, .unset] [(.int x2)])) _
    refine XS.iconst X0.here hx rfl (hb hby at_24) ?_
    show Steps p.tables e below (s₁.setTop (mkF m 25 #[.val (.int x0), .val (.int x1), .val (.int x2), .val (.int x3), .val (.long x4), .second, .val (.int ((x0 &&& (2147483647 : Int32)) - ((x0 &&& (2147483647 : Int32)) / (4 : Int32)) * (4 : Int32))), .val (.int ((x1 &&& (2147483647 : Int32)) - ((x1 &&& (2147483647 : Int32)) / (4 : Int32)) * (4 : Int32))), .val (.int ((x2 &&& (3 : Int32)) - ((x2 &&& (3 : Int32)) / (3 : Int32)) * (3 : Int32))), .unset, .unset, .unset, .unset, .unset, .unset, .unset] [(.int (2 : Int32)), (.int x2)])) _
    refine XS.iushr X0.here hx rfl (hb hby at_25) rfl ?_
    show Steps p.tables e below (s₁.setTop (mkF m 26 #[.val (.int x0), .val (.int x1), .val (.int x2), .val (.int x3), .val (.long x4), .second, .val (.int ((x0 &&& (2147483647 : Int32)) - ((x0 &&& (2147483647 : Int32)) / (4 : Int32)) * (4 : Int32))), .val (.int ((x1 &&& (2147483647 : Int32)) - ((x1 &&& (2147483647 : Int32)) / (4 : Int32)) * (4 : Int32))), .val (.int ((x2 &&& (3 : Int32)) - ((x2 &&& (3 : Int32)) / (3 : Int32)) * (3 : Int32))), .unset, .unset, .unset, .unset, .unset, .unset, .unset] [(.int ((x2.toUInt32 >>> ((2 : Int32) &&& 31).toUInt32).toInt32))])) _
    refine XS.iconst X0.here hx rfl (hb hby at_26) ?_
    show Steps p.tables e below (s₁.setTop (mkF m 27 #[.val (.int x0), .val (.int x1), .val (.int x2), .val (.int x3), .val (.long x4), .second, .val (.int ((x0 &&& (2147483647 : Int32)) - ((x0 &&& (2147483647 : Int32)) / (4 : Int32)) * (4 : Int32))), .val (.int ((x1 &&& (2147483647 : Int32)) - ((x1 &&& (2147483647 : Int32)) / (4 : Int32)) * (4 : Int32))), .val (.int ((x2 &&& (3 : Int32)) - ((x2 &&& (3 : Int32)) / (3 : Int32)) * (3 : Int32))), .unset, .unset, .unset, .unset, .unset, .unset, .unset] [(.int (3 : Int32)), (.int ((x2.toUInt32 >>> ((2 : Int32) &&& 31).toUInt32).toInt32))])) _
    refine XS.iand X0.here hx rfl (hb hby at_27) rfl ?_
    show Steps p.tables e below (s₁.setTop (mkF m 28 #[.val (.int x0), .val (.int x1), .val (.int x2), .val (.int x3), .val (.long x4), .second, .val (.int ((x0 &&& (2147483647 : Int32)) - ((x0 &&& (2147483647 : Int32)) / (4 : Int32)) * (4 : Int32))), .val (.int ((x1 &&& (2147483647 : Int32)) - ((x1 &&& (2147483647 : Int32)) / (4 : Int32)) * (4 : Int32))), .val (.int ((x2 &&& (3 : Int32)) - ((x2 &&& (3 : Int32)) / (3 : Int32)) * (3 : Int32))), .unset, .unset, .unset, .unset, .unset, .unset, .unset] [(.int (((x2.toUInt32 >>> ((2 : Int32) &&& 31).toUInt32).toInt32) &&& (3 : Int32)))])) _
    refine XS.iconst X0.here hx rfl (hb hby at_28) ?_
    show Steps p.tables e below (s₁.setTop (mkF m 29 #[.val (.int x0), .val (.int x1), .val (.int x2), .val (.int x3), .val (.long x4), .second, .val (.int ((x0 &&& (2147483647 : Int32)) - ((x0 &&& (2147483647 : Int32)) / (4 : Int32)) * (4 : Int32))), .val (.int ((x1 &&& (2147483647 : Int32)) - ((x1 &&& (2147483647 : Int32)) / (4 : Int32)) * (4 : Int32))), .val (.int ((x2 &&& (3 : Int32)) - ((x2 &&& (3 : Int32)) / (3 : Int32)) * (3 : Int32))), .unset, .unset, .unset, .unset, .unset, .unset, .unset] [(.int (3 : Int32)), (.int (((x2.toUInt32 >>> ((2 : Int32) &&& 31).toUInt32).toInt32) &&& (3 : Int32)))])) _
    refine XS.irem X0.here hx rfl (hb hby at_29) rfl (by decide) ?_
    show Steps p.tables e below (s₁.setTop (mkF m 30 #[.val (.int x0), .val (.int x1), .val (.int x2), .val (.int x3), .val (.long x4), .second, .val (.int ((x0 &&& (2147483647 : Int32)) - ((x0 &&& (2147483647 : Int32)) / (4 : Int32)) * (4 : Int32))), .val (.int ((x1 &&& (2147483647 : Int32)) - ((x1 &&& (2147483647 : Int32)) / (4 : Int32)) * (4 : Int32))), .val (.int ((x2 &&& (3 : Int32)) - ((x2 &&& (3 : Int32)) / (3 : Int32)) * (3 : Int32))), .unset, .unset, .unset, .unset, .unset, .unset, .unset] [(.int ((((x2.toUInt32 >>> ((2 : Int32) &&& 31).toUInt32).toInt32) &&& (3 : Int32)) - ((((x2.toUInt32 >>> ((2 : Int32) &&& 31).toUInt32).toInt32) &&& (3 : Int32)) / (3 : Int32)) * (3 : Int32)))])) _
    refine XS.istore X0.here hx rfl (hb hby at_30) rfl (l' := #[.val (.int x0), .val (.int x1), .val (.int x2), .val (.int x3), .val (.long x4), .second, .val (.int ((x0 &&& (2147483647 : Int32)) - ((x0 &&& (2147483647 : Int32)) / (4 : Int32)) * (4 : Int32))), .val (.int ((x1 &&& (2147483647 : Int32)) - ((x1 &&& (2147483647 : Int32)) / (4 : Int32)) * (4 : Int32))), .val (.int ((x2 &&& (3 : Int32)) - ((x2 &&& (3 : Int32)) / (3 : Int32)) * (3 : Int32))), .val (.int ((((x2.toUInt32 >>> ((2 : Int32) &&& 31).toUInt32).toInt32) &&& (3 : Int32)) - ((((x2.toUInt32 >>> ((2 : Int32) &&& 31).toUInt32).toInt32) &&& (3 : Int32)) / (3 : Int32)) * (3 : Int32))), .unset, .unset, .unset, .unset, .unset, .unset]) rfl ?_
    show Steps p.tables e below (s₁.setTop (mkF m 32 #[.val (.int x0), .val (.int x1), .val (.int x2), .val (.int x3), .val (.long x4), .second, .val (.int ((x0 &&& (2147483647 : Int32)) - ((x0 &&& (2147483647 : Int32)) / (4 : Int32)) * (4 : Int32))), .val (.int ((x1 &&& (2147483647 : Int32)) - ((x1 &&& (2147483647 : Int32)) / (4 : Int32)) * (4 : Int32))), .val (.int ((x2 &&& (3 : Int32)) - ((x2 &&& (3 : Int32)) / (3 : Int32)) * (3 : Int32))), .val (.int ((((x2.toUInt32 >>> ((2 : Int32) &&& 31).toUInt32).toInt32) &&& (3 : Int32)) - ((((x2.toUInt32 >>> ((2 : Int32) &&& 31).toUInt32).toInt32) &&& (3 : Int32)) / (3 : Int32)) * (3 : Int32))), .unset, .unset, .unset, .unset, .unset, .unset] [])) _
    refine XS.iloadN X0.here hx rfl (hb hby at_32) rfl ?_
    show Steps p.tables e below (s₁.setTop (mkF m 33 #[.val (.int x0), .val (.int x1), .val (.int x2), .val (.int x3), .val (.long x4), .second, .val (.int ((x0 &&& (2147483647 : Int32)) - ((x0 &&& (2147483647 : Int32)) / (4 : Int32)) * (4 : Int32))), .val (.int ((x1 &&& (2147483647 : Int32)) - ((x1 &&& (2147483647 : Int32)) / (4 : Int32)) * (4 : Int32))), .val (.int ((x2 &&& (3 : Int32)) - ((x2 &&& (3 : Int32)) / (3 : Int32)) * (3 : Int32))), .val (.int ((((x2.toUInt32 >>> ((2 : Int32) &&& 31).toUInt32).toInt32) &&& (3 : Int32)) - ((((x2.toUInt32 >>> ((2 : Int32) &&& 31).toUInt32).toInt32) &&& (3 : Int32)) / (3 : Int32)) * (3 : Int32))), .unset, .unset, .unset, .unset, .unset, .unset] [(.int x2)])) _
    refine XS.iconst X0.here hx rfl (hb hby at_33) ?_
    show Steps p.tables e below (s₁.setTop (mkF m 34 #[.val (.int x0), .val (.int x1), .val (.int x2), .val (.int x3), .val (.long x4), .second, .val (.int ((x0 &&& (2147483647 : Int32)) - ((x0 &&& (2147483647 : Int32)) / (4 : Int32)) * (4 : Int32))), .val (.int ((x1 &&& (2147483647 : Int32)) - ((x1 &&& (2147483647 : Int32)) / (4 : Int32)) * (4 : Int32))), .val (.int ((x2 &&& (3 : Int32)) - ((x2 &&& (3 : Int32)) / (3 : Int32)) * (3 : Int32))), .val (.int ((((x2.toUInt32 >>> ((2 : Int32) &&& 31).toUInt32).toInt32) &&& (3 : Int32)) - ((((x2.toUInt32 >>> ((2 : Int32) &&& 31).toUInt32).toInt32) &&& (3 : Int32)) / (3 : Int32)) * (3 : Int32))), .unset, .unset, .unset, .unset, .unset, .unset] [(.int (4 : Int32)), (.int x2)])) _
    refine XS.iushr X0.here hx rfl (hb hby at_34) rfl ?_
    show Steps p.tables e below (s₁.setTop (mkF m 35 #[.val (.int x0), .val (.int x1), .val (.int x2), .val (.int x3), .val (.long x4), .second, .val (.int ((x0 &&& (2147483647 : Int32)) - ((x0 &&& (2147483647 : Int32)) / (4 : Int32)) * (4 : Int32))), .val (.int ((x1 &&& (2147483647 : Int32)) - ((x1 &&& (2147483647 : Int32)) / (4 : Int32)) * (4 : Int32))), .val (.int ((x2 &&& (3 : Int32)) - ((x2 &&& (3 : Int32)) / (3 : Int32)) * (3 : Int32))), .val (.int ((((x2.toUInt32 >>> ((2 : Int32) &&& 31).toUInt32).toInt32) &&& (3 : Int32)) - ((((x2.toUInt32 >>> ((2 : Int32) &&& 31).toUInt32).toInt32) &&& (3 : Int32)) / (3 : Int32)) * (3 : Int32))), .unset, .unset, .unset, .unset, .unset, .unset] [(.int ((x2.toUInt32 >>> ((4 : Int32) &&& 31).toUInt32).toInt32))])) _
    refine XS.iconst X0.here hx rfl (hb hby at_35) ?_
    show Steps p.tables e below (s₁.setTop (mkF m 36 #[.val (.int x0), .val (.int x1), .val (.int x2), .val (.int x3), .val (.long x4), .second, .val (.int ((x0 &&& (2147483647 : Int32)) - ((x0 &&& (2147483647 : Int32)) / (4 : Int32)) * (4 : Int32))), .val (.int ((x1 &&& (2147483647 : Int32)) - ((x1 &&& (2147483647 : Int32)) / (4 : Int32)) * (4 : Int32))), .val (.int ((x2 &&& (3 : Int32)) - ((x2 &&& (3 : Int32)) / (3 : Int32)) * (3 : Int32))), .val (.int ((((x2.toUInt32 >>> ((2 : Int32) &&& 31).toUInt32).toInt32) &&& (3 : Int32)) - ((((x2.toUInt32 >>> ((2 : Int32) &&& 31).toUInt32).toInt32) &&& (3 : Int32)) / (3 : Int32)) * (3 : Int32))), .unset, .unset, .unset, .unset, .unset, .unset] [(.int (3 : Int32)), (.int ((x2.toUInt32 >>> ((4 : Int32) &&& 31).toUInt32).toInt32))])) _
    refine XS.iand X0.here hx rfl (hb hby at_36) rfl ?_
    show Steps p.tables e below (s₁.setTop (mkF m 37 #[.val (.int x0), .val (.int x1), .val (.int x2), .val (.int x3), .val (.long x4), .second, .val (.int ((x0 &&& (2147483647 : Int32)) - ((x0 &&& (2147483647 : Int32)) / (4 : Int32)) * (4 : Int32))), .val (.int ((x1 &&& (2147483647 : Int32)) - ((x1 &&& (2147483647 : Int32)) / (4 : Int32)) * (4 : Int32))), .val (.int ((x2 &&& (3 : Int32)) - ((x2 &&& (3 : Int32)) / (3 : Int32)) * (3 : Int32))), .val (.int ((((x2.toUInt32 >>> ((2 : Int32) &&& 31).toUInt32).toInt32) &&& (3 : Int32)) - ((((x2.toUInt32 >>> ((2 : Int32) &&& 31).toUInt32).toInt32) &&& (3 : Int32)) / (3 : Int32)) * (3 : Int32))), .unset, .unset, .unset, .unset, .unset, .unset] [(.int (((x2.toUInt32 >>> ((4 : Int32) &&& 31).toUInt32).toInt32) &&& (3 : Int32)))])) _
    refine XS.iconst X0.here hx rfl (hb hby at_37) ?_
    show Steps p.tables e below (s₁.setTop (mkF m 38 #[.val (.int x0), .val (.int x1), .val (.int x2), .val (.int x3), .val (.long x4), .second, .val (.int ((x0 &&& (2147483647 : Int32)) - ((x0 &&& (2147483647 : Int32)) / (4 : Int32)) * (4 : Int32))), .val (.int ((x1 &&& (2147483647 : Int32)) - ((x1 &&& (2147483647 : Int32)) / (4 : Int32)) * (4 : Int32))), .val (.int ((x2 &&& (3 : Int32)) - ((x2 &&& (3 : Int32)) / (3 : Int32)) * (3 : Int32))), .val (.int ((((x2.toUInt32 >>> ((2 : Int32) &&& 31).toUInt32).toInt32) &&& (3 : Int32)) - ((((x2.toUInt32 >>> ((2 : Int32) &&& 31).toUInt32).toInt32) &&& (3 : Int32)) / (3 : Int32)) * (3 : Int32))), .unset, .unset, .unset, .unset, .unset, .unset] [(.int (3 : Int32)), (.int (((x2.toUInt32 >>> ((4 : Int32) &&& 31).toUInt32).toInt32) &&& (3 : Int32)))])) _
    refine XS.irem X0.here hx rfl (hb hby at_38) rfl (by decide) ?_
    show Steps p.tables e below (s₁.setTop (mkF m 39 #[.val (.int x0), .val (.int x1), .val (.int x2), .val (.int x3), .val (.long x4), .second, .val (.int ((x0 &&& (2147483647 : Int32)) - ((x0 &&& (2147483647 : Int32)) / (4 : Int32)) * (4 : Int32))), .val (.int ((x1 &&& (2147483647 : Int32)) - ((x1 &&& (2147483647 : Int32)) / (4 : Int32)) * (4 : Int32))), .val (.int ((x2 &&& (3 : Int32)) - ((x2 &&& (3 : Int32)) / (3 : Int32)) * (3 : Int32))), .val (.int ((((x2.toUInt32 >>> ((2 : Int32) &&& 31).toUInt32).toInt32) &&& (3 : Int32)) - ((((x2.toUInt32 >>> ((2 : Int32) &&& 31).toUInt32).toInt32) &&& (3 : Int32)) / (3 : Int32)) * (3 : Int32))), .unset, .unset, .unset, .unset, .unset, .unset] [(.int ((((x2.toUInt32 >>> ((4 : Int32) &&& 31).toUInt32).toInt32) &&& (3 : Int32)) - ((((x2.toUInt32 >>> ((4 : Int32) &&& 31).toUInt32).toInt32) &&& (3 : Int32)) / (3 : Int32)) * (3 : Int32)))])) _
    refine XS.istore X0.here hx rfl (hb hby at_39) rfl (l' := #[.val (.int x0), .val (.int x1), .val (.int x2), .val (.int x3), .val (.long x4), .second, .val (.int ((x0 &&& (2147483647 : Int32)) - ((x0 &&& (2147483647 : Int32)) / (4 : Int32)) * (4 : Int32))), .val (.int ((x1 &&& (2147483647 : Int32)) - ((x1 &&& (2147483647 : Int32)) / (4 : Int32)) * (4 : Int32))), .val (.int ((x2 &&& (3 : Int32)) - ((x2 &&& (3 : Int32)) / (3 : Int32)) * (3 : Int32))), .val (.int ((((x2.toUInt32 >>> ((2 : Int32) &&& 31).toUInt32).toInt32) &&& (3 : Int32)) - ((((x2.toUInt32 >>> ((2 : Int32) &&& 31).toUInt32).toInt32) &&& (3 : Int32)) / (3 : Int32)) * (3 : Int32))), .val (.int ((((x2.toUInt32 >>> ((4 : Int32) &&& 31).toUInt32).toInt32) &&& (3 : Int32)) - ((((x2.toUInt32 >>> ((4 : Int32) &&& 31).toUInt32).toInt32) &&& (3 : Int32)) / (3 : Int32)) * (3 : Int32))), .unset, .unset, .unset, .unset, .unset]) rfl ?_
    show Steps p.tables e below (s₁.setTop (mkF m 41 #[.val (.int x0), .val (.int x1), .val (.int x2), .val (.int x3), .val (.long x4), .second, .val (.int ((x0 &&& (2147483647 : Int32)) - ((x0 &&& (2147483647 : Int32)) / (4 : Int32)) * (4 : Int32))), .val (.int ((x1 &&& (2147483647 : Int32)) - ((x1 &&& (2147483647 : Int32)) / (4 : Int32)) * (4 : Int32))), .val (.int ((x2 &&& (3 : Int32)) - ((x2 &&& (3 : Int32)) / (3 : Int32)) * (3 : Int32))), .val (.int ((((x2.toUInt32 >>> ((2 : Int32) &&& 31).toUInt32).toInt32) &&& (3 : Int32)) - ((((x2.toUInt32 >>> ((2 : Int32) &&& 31).toUInt32).toInt32) &&& (3 : Int32)) / (3 : Int32)) * (3 : Int32))), .val (.int ((((x2.toUInt32 >>> ((4 : Int32) &&& 31).toUInt32).toInt32) &&& (3 : Int32)) - ((((x2.toUInt32 >>> ((4 : Int32) &&& 31).toUInt32).toInt32) &&& (3 : Int32)) / (3 : Int32)) * (3 : Int32))), .unset, .unset, .unset, .unset, .unset] [])) _
    refine XS.iloadN X0.here hx rfl (hb hby at_41) rfl ?_
    show Steps p.tables e below (s₁.setTop (mkF m 42 #[.val (.int x0), .val (.int x1), .val (.int x2), .val (.int x3), .val (.long x4), .second, .val (.int ((x0 &&& (2147483647 : Int32)) - ((x0 &&& (2147483647 : Int32)) / (4 : Int32)) * (4 : Int32))), .val (.int ((x1 &&& (2147483647 : Int32)) - ((x1 &&& (2147483647 : Int32)) / (4 : Int32)) * (4 : Int32))), .val (.int ((x2 &&& (3 : Int32)) - ((x2 &&& (3 : Int32)) / (3 : Int32)) * (3 : Int32))), .val (.int ((((x2.toUInt32 >>> ((2 : Int32) &&& 31).toUInt32).toInt32) &&& (3 : Int32)) - ((((x2.toUInt32 >>> ((2 : Int32) &&& 31).toUInt32).toInt32) &&& (3 : Int32)) / (3 : Int32)) * (3 : Int32))), .val (.int ((((x2.toUInt32 >>> ((4 : Int32) &&& 31).toUInt32).toInt32) &&& (3 : Int32)) - ((((x2.toUInt32 >>> ((4 : Int32) &&& 31).toUInt32).toInt32) &&& (3 : Int32)) / (3 : Int32)) * (3 : Int32))), .unset, .unset, .unset, .unset, .unset] [(.int x3)])) _
    refine X0.ldcInt hx hown (mvT hZ (hw _ (List.mem_of_getElem? (i := 0) rfl))) (g := (mkF m 42 #[.val (.int x0), .val (.int x1), .val (.int x2), .val (.int x3), .val (.long x4), .second, .val (.int ((x0 &&& (2147483647 : Int32)) - ((x0 &&& (2147483647 : Int32)) / (4 : Int32)) * (4 : Int32))), .val (.int ((x1 &&& (2147483647 : Int32)) - ((x1 &&& (2147483647 : Int32)) / (4 : Int32)) * (4 : Int32))), .val (.int ((x2 &&& (3 : Int32)) - ((x2 &&& (3 : Int32)) / (3 : Int32)) * (3 : Int32))), .val (.int ((((x2.toUInt32 >>> ((2 : Int32) &&& 31).toUInt32).toInt32) &&& (3 : Int32)) - ((((x2.toUInt32 >>> ((2 : Int32) &&& 31).toUInt32).toInt32) &&& (3 : Int32)) / (3 : Int32)) * (3 : Int32))), .val (.int ((((x2.toUInt32 >>> ((4 : Int32) &&& 31).toUInt32).toInt32) &&& (3 : Int32)) - ((((x2.toUInt32 >>> ((4 : Int32) &&& 31).toUInt32).toInt32) &&& (3 : Int32)) / (3 : Int32)) * (3 : Int32))), .unset, .unset, .unset, .unset, .unset] [(.int x3)])) rfl (hb hby at_42) _ ?_
    show Steps p.tables e below (s₁.setTop (mkF m 44 #[.val (.int x0), .val (.int x1), .val (.int x2), .val (.int x3), .val (.long x4), .second, .val (.int ((x0 &&& (2147483647 : Int32)) - ((x0 &&& (2147483647 : Int32)) / (4 : Int32)) * (4 : Int32))), .val (.int ((x1 &&& (2147483647 : Int32)) - ((x1 &&& (2147483647 : Int32)) / (4 : Int32)) * (4 : Int32))), .val (.int ((x2 &&& (3 : Int32)) - ((x2 &&& (3 : Int32)) / (3 : Int32)) * (3 : Int32))), .val (.int ((((x2.toUInt32 >>> ((2 : Int32) &&& 31).toUInt32).toInt32) &&& (3 : Int32)) - ((((x2.toUInt32 >>> ((2 : Int32) &&& 31).toUInt32).toInt32) &&& (3 : Int32)) / (3 : Int32)) * (3 : Int32))), .val (.int ((((x2.toUInt32 >>> ((4 : Int32) &&& 31).toUInt32).toInt32) &&& (3 : Int32)) - ((((x2.toUInt32 >>> ((4 : Int32) &&& 31).toUInt32).toInt32) &&& (3 : Int32)) / (3 : Int32)) * (3 : Int32))), .unset, .unset, .unset, .unset, .unset] [(.int (2147483647 : Int32)), (.int x3)])) _
    refine XS.iand X0.here hx rfl (hb hby at_44) rfl ?_
    show Steps p.tables e below (s₁.setTop (mkF m 45 #[.val (.int x0), .val (.int x1), .val (.int x2), .val (.int x3), .val (.long x4), .second, .val (.int ((x0 &&& (2147483647 : Int32)) - ((x0 &&& (2147483647 : Int32)) / (4 : Int32)) * (4 : Int32))), .val (.int ((x1 &&& (2147483647 : Int32)) - ((x1 &&& (2147483647 : Int32)) / (4 : Int32)) * (4 : Int32))), .val (.int ((x2 &&& (3 : Int32)) - ((x2 &&& (3 : Int32)) / (3 : Int32)) * (3 : Int32))), .val (.int ((((x2.toUInt32 >>> ((2 : Int32) &&& 31).toUInt32).toInt32) &&& (3 : Int32)) - ((((x2.toUInt32 >>> ((2 : Int32) &&& 31).toUInt32).toInt32) &&& (3 : Int32)) / (3 : Int32)) * (3 : Int32))), .val (.int ((((x2.toUInt32 >>> ((4 : Int32) &&& 31).toUInt32).toInt32) &&& (3 : Int32)) - ((((x2.toUInt32 >>> ((4 : Int32) &&& 31).toUInt32).toInt32) &&& (3 : Int32)) / (3 : Int32)) * (3 : Int32))), .unset, .unset, .unset, .unset, .unset] [(.int (x3 &&& (2147483647 : Int32)))])) _
    refine XS.istore X0.here hx rfl (hb hby at_45) rfl (l' := #[.val (.int x0), .val (.int x1), .val (.int x2), .val (.int x3), .val (.long x4), .second, .val (.int ((x0 &&& (2147483647 : Int32)) - ((x0 &&& (2147483647 : Int32)) / (4 : Int32)) * (4 : Int32))), .val (.int ((x1 &&& (2147483647 : Int32)) - ((x1 &&& (2147483647 : Int32)) / (4 : Int32)) * (4 : Int32))), .val (.int ((x2 &&& (3 : Int32)) - ((x2 &&& (3 : Int32)) / (3 : Int32)) * (3 : Int32))), .val (.int ((((x2.toUInt32 >>> ((2 : Int32) &&& 31).toUInt32).toInt32) &&& (3 : Int32)) - ((((x2.toUInt32 >>> ((2 : Int32) &&& 31).toUInt32).toInt32) &&& (3 : Int32)) / (3 : Int32)) * (3 : Int32))), .val (.int ((((x2.toUInt32 >>> ((4 : Int32) &&& 31).toUInt32).toInt32) &&& (3 : Int32)) - ((((x2.toUInt32 >>> ((4 : Int32) &&& 31).toUInt32).toInt32) &&& (3 : Int32)) / (3 : Int32)) * (3 : Int32))), .val (.int (x3 &&& (2147483647 : Int32))), .unset, .unset, .unset, .unset]) rfl ?_
    show Steps p.tables e below (s₁.setTop (mkF m 47 #[.val (.int x0), .val (.int x1), .val (.int x2), .val (.int x3), .val (.long x4), .second, .val (.int ((x0 &&& (2147483647 : Int32)) - ((x0 &&& (2147483647 : Int32)) / (4 : Int32)) * (4 : Int32))), .val (.int ((x1 &&& (2147483647 : Int32)) - ((x1 &&& (2147483647 : Int32)) / (4 : Int32)) * (4 : Int32))), .val (.int ((x2 &&& (3 : Int32)) - ((x2 &&& (3 : Int32)) / (3 : Int32)) * (3 : Int32))), .val (.int ((((x2.toUInt32 >>> ((2 : Int32) &&& 31).toUInt32).toInt32) &&& (3 : Int32)) - ((((x2.toUInt32 >>> ((2 : Int32) &&& 31).toUInt32).toInt32) &&& (3 : Int32)) / (3 : Int32)) * (3 : Int32))), .val (.int ((((x2.toUInt32 >>> ((4 : Int32) &&& 31).toUInt32).toInt32) &&& (3 : Int32)) - ((((x2.toUInt32 >>> ((4 : Int32) &&& 31).toUInt32).toInt32) &&& (3 : Int32)) / (3 : Int32)) * (3 : Int32))), .val (.int (x3 &&& (2147483647 : Int32))), .unset, .unset, .unset, .unset] [])) _
    refine XS.iloadN X0.here hx rfl (hb hby at_47) rfl ?_
    show Steps p.tables e below (s₁.setTop (mkF m 48 #[.val (.int x0), .val (.int x1), .val (.int x2), .val (.int x3), .val (.long x4), .second, .val (.int ((x0 &&& (2147483647 : Int32)) - ((x0 &&& (2147483647 : Int32)) / (4 : Int32)) * (4 : Int32))), .val (.int ((x1 &&& (2147483647 : Int32)) - ((x1 &&& (2147483647 : Int32)) / (4 : Int32)) * (4 : Int32))), .val (.int ((x2 &&& (3 : Int32)) - ((x2 &&& (3 : Int32)) / (3 : Int32)) * (3 : Int32))), .val (.int ((((x2.toUInt32 >>> ((2 : Int32) &&& 31).toUInt32).toInt32) &&& (3 : Int32)) - ((((x2.toUInt32 >>> ((2 : Int32) &&& 31).toUInt32).toInt32) &&& (3 : Int32)) / (3 : Int32)) * (3 : Int32))), .val (.int ((((x2.toUInt32 >>> ((4 : Int32) &&& 31).toUInt32).toInt32) &&& (3 : Int32)) - ((((x2.toUInt32 >>> ((4 : Int32) &&& 31).toUInt32).toInt32) &&& (3 : Int32)) / (3 : Int32)) * (3 : Int32))), .val (.int (x3 &&& (2147483647 : Int32))), .unset, .unset, .unset, .unset] [(.int x3)])) _
    refine XS.iconst X0.here hx rfl (hb hby at_48) ?_
    show Steps p.tables e below (s₁.setTop (mkF m 49 #[.val (.int x0), .val (.int x1), .val (.int x2), .val (.int x3), .val (.long x4), .second, .val (.int ((x0 &&& (2147483647 : Int32)) - ((x0 &&& (2147483647 : Int32)) / (4 : Int32)) * (4 : Int32))), .val (.int ((x1 &&& (2147483647 : Int32)) - ((x1 &&& (2147483647 : Int32)) / (4 : Int32)) * (4 : Int32))), .val (.int ((x2 &&& (3 : Int32)) - ((x2 &&& (3 : Int32)) / (3 : Int32)) * (3 : Int32))), .val (.int ((((x2.toUInt32 >>> ((2 : Int32) &&& 31).toUInt32).toInt32) &&& (3 : Int32)) - ((((x2.toUInt32 >>> ((2 : Int32) &&& 31).toUInt32).toInt32) &&& (3 : Int32)) / (3 : Int32)) * (3 : Int32))), .val (.int ((((x2.toUInt32 >>> ((4 : Int32) &&& 31).toUInt32).toInt32) &&& (3 : Int32)) - ((((x2.toUInt32 >>> ((4 : Int32) &&& 31).toUInt32).toInt32) &&& (3 : Int32)) / (3 : Int32)) * (3 : Int32))), .val (.int (x3 &&& (2147483647 : Int32))), .unset, .unset, .unset, .unset] [(.int (1 : Int32)), (.int x3)])) _
    refine XS.iushr X0.here hx rfl (hb hby at_49) rfl ?_
    show Steps p.tables e below (s₁.setTop (mkF m 50 #[.val (.int x0), .val (.int x1), .val (.int x2), .val (.int x3), .val (.long x4), .second, .val (.int ((x0 &&& (2147483647 : Int32)) - ((x0 &&& (2147483647 : Int32)) / (4 : Int32)) * (4 : Int32))), .val (.int ((x1 &&& (2147483647 : Int32)) - ((x1 &&& (2147483647 : Int32)) / (4 : Int32)) * (4 : Int32))), .val (.int ((x2 &&& (3 : Int32)) - ((x2 &&& (3 : Int32)) / (3 : Int32)) * (3 : Int32))), .val (.int ((((x2.toUInt32 >>> ((2 : Int32) &&& 31).toUInt32).toInt32) &&& (3 : Int32)) - ((((x2.toUInt32 >>> ((2 : Int32) &&& 31).toUInt32).toInt32) &&& (3 : Int32)) / (3 : Int32)) * (3 : Int32))), .val (.int ((((x2.toUInt32 >>> ((4 : Int32) &&& 31).toUInt32).toInt32) &&& (3 : Int32)) - ((((x2.toUInt32 >>> ((4 : Int32) &&& 31).toUInt32).toInt32) &&& (3 : Int32)) / (3 : Int32)) * (3 : Int32))), .val (.int (x3 &&& (2147483647 : Int32))), .unset, .unset, .unset, .unset] [(.int ((x3.toUInt32 >>> ((1 : Int32) &&& 31).toUInt32).toInt32))])) _
    refine XS.istore X0.here hx rfl (hb hby at_50) rfl (l' := #[.val (.int x0), .val (.int x1), .val (.int x2), .val (.int x3), .val (.long x4), .second, .val (.int ((x0 &&& (2147483647 : Int32)) - ((x0 &&& (2147483647 : Int32)) / (4 : Int32)) * (4 : Int32))), .val (.int ((x1 &&& (2147483647 : Int32)) - ((x1 &&& (2147483647 : Int32)) / (4 : Int32)) * (4 : Int32))), .val (.int ((x2 &&& (3 : Int32)) - ((x2 &&& (3 : Int32)) / (3 : Int32)) * (3 : Int32))), .val (.int ((((x2.toUInt32 >>> ((2 : Int32) &&& 31).toUInt32).toInt32) &&& (3 : Int32)) - ((((x2.toUInt32 >>> ((2 : Int32) &&& 31).toUInt32).toInt32) &&& (3 : Int32)) / (3 : Int32)) * (3 : Int32))), .val (.int ((((x2.toUInt32 >>> ((4 : Int32) &&& 31).toUInt32).toInt32) &&& (3 : Int32)) - ((((x2.toUInt32 >>> ((4 : Int32) &&& 31).toUInt32).toInt32) &&& (3 : Int32)) / (3 : Int32)) * (3 : Int32))), .val (.int (x3 &&& (2147483647 : Int32))), .val (.int ((x3.toUInt32 >>> ((1 : Int32) &&& 31).toUInt32).toInt32)), .unset, .unset, .unset]) rfl ?_
    show Steps p.tables e below (s₁.setTop (mkF m 52 #[.val (.int x0), .val (.int x1), .val (.int x2), .val (.int x3), .val (.long x4), .second, .val (.int ((x0 &&& (2147483647 : Int32)) - ((x0 &&& (2147483647 : Int32)) / (4 : Int32)) * (4 : Int32))), .val (.int ((x1 &&& (2147483647 : Int32)) - ((x1 &&& (2147483647 : Int32)) / (4 : Int32)) * (4 : Int32))), .val (.int ((x2 &&& (3 : Int32)) - ((x2 &&& (3 : Int32)) / (3 : Int32)) * (3 : Int32))), .val (.int ((((x2.toUInt32 >>> ((2 : Int32) &&& 31).toUInt32).toInt32) &&& (3 : Int32)) - ((((x2.toUInt32 >>> ((2 : Int32) &&& 31).toUInt32).toInt32) &&& (3 : Int32)) / (3 : Int32)) * (3 : Int32))), .val (.int ((((x2.toUInt32 >>> ((4 : Int32) &&& 31).toUInt32).toInt32) &&& (3 : Int32)) - ((((x2.toUInt32 >>> ((4 : Int32) &&& 31).toUInt32).toInt32) &&& (3 : Int32)) / (3 : Int32)) * (3 : Int32))), .val (.int (x3 &&& (2147483647 : Int32))), .val (.int ((x3.toUInt32 >>> ((1 : Int32) &&& 31).toUInt32).toInt32)), .unset, .unset, .unset] [])) _
    refine XS.iloadN X0.here hx rfl (hb hby at_52) rfl ?_
    show Steps p.tables e below (s₁.setTop (mkF m 53 #[.val (.int x0), .val (.int x1), .val (.int x2), .val (.int x3), .val (.long x4), .second, .val (.int ((x0 &&& (2147483647 : Int32)) - ((x0 &&& (2147483647 : Int32)) / (4 : Int32)) * (4 : Int32))), .val (.int ((x1 &&& (2147483647 : Int32)) - ((x1 &&& (2147483647 : Int32)) / (4 : Int32)) * (4 : Int32))), .val (.int ((x2 &&& (3 : Int32)) - ((x2 &&& (3 : Int32)) / (3 : Int32)) * (3 : Int32))), .val (.int ((((x2.toUInt32 >>> ((2 : Int32) &&& 31).toUInt32).toInt32) &&& (3 : Int32)) - ((((x2.toUInt32 >>> ((2 : Int32) &&& 31).toUInt32).toInt32) &&& (3 : Int32)) / (3 : Int32)) * (3 : Int32))), .val (.int ((((x2.toUInt32 >>> ((4 : Int32) &&& 31).toUInt32).toInt32) &&& (3 : Int32)) - ((((x2.toUInt32 >>> ((4 : Int32) &&& 31).toUInt32).toInt32) &&& (3 : Int32)) / (3 : Int32)) * (3 : Int32))), .val (.int (x3 &&& (2147483647 : Int32))), .val (.int ((x3.toUInt32 >>> ((1 : Int32) &&& 31).toUInt32).toInt32)), .unset, .unset, .unset] [(.int x3)])) _
    refine XS.iconst X0.here hx rfl (hb hby at_53) ?_
    show Steps p.tables e below (s₁.setTop (mkF m 54 #[.val (.int x0), .val (.int x1), .val (.int x2), .val (.int x3), .val (.long x4), .second, .val (.int ((x0 &&& (2147483647 : Int32)) - ((x0 &&& (2147483647 : Int32)) / (4 : Int32)) * (4 : Int32))), .val (.int ((x1 &&& (2147483647 : Int32)) - ((x1 &&& (2147483647 : Int32)) / (4 : Int32)) * (4 : Int32))), .val (.int ((x2 &&& (3 : Int32)) - ((x2 &&& (3 : Int32)) / (3 : Int32)) * (3 : Int32))), .val (.int ((((x2.toUInt32 >>> ((2 : Int32) &&& 31).toUInt32).toInt32) &&& (3 : Int32)) - ((((x2.toUInt32 >>> ((2 : Int32) &&& 31).toUInt32).toInt32) &&& (3 : Int32)) / (3 : Int32)) * (3 : Int32))), .val (.int ((((x2.toUInt32 >>> ((4 : Int32) &&& 31).toUInt32).toInt32) &&& (3 : Int32)) - ((((x2.toUInt32 >>> ((4 : Int32) &&& 31).toUInt32).toInt32) &&& (3 : Int32)) / (3 : Int32)) * (3 : Int32))), .val (.int (x3 &&& (2147483647 : Int32))), .val (.int ((x3.toUInt32 >>> ((1 : Int32) &&& 31).toUInt32).toInt32)), .unset, .unset, .unset] [(.int (2 : Int32)), (.int x3)])) _
    refine XS.iushr X0.here hx rfl (hb hby at_54) rfl ?_
    show Steps p.tables e below (s₁.setTop (mkF m 55 #[.val (.int x0), .val (.int x1), .val (.int x2), .val (.int x3), .val (.long x4), .second, .val (.int ((x0 &&& (2147483647 : Int32)) - ((x0 &&& (2147483647 : Int32)) / (4 : Int32)) * (4 : Int32))), .val (.int ((x1 &&& (2147483647 : Int32)) - ((x1 &&& (2147483647 : Int32)) / (4 : Int32)) * (4 : Int32))), .val (.int ((x2 &&& (3 : Int32)) - ((x2 &&& (3 : Int32)) / (3 : Int32)) * (3 : Int32))), .val (.int ((((x2.toUInt32 >>> ((2 : Int32) &&& 31).toUInt32).toInt32) &&& (3 : Int32)) - ((((x2.toUInt32 >>> ((2 : Int32) &&& 31).toUInt32).toInt32) &&& (3 : Int32)) / (3 : Int32)) * (3 : Int32))), .val (.int ((((x2.toUInt32 >>> ((4 : Int32) &&& 31).toUInt32).toInt32) &&& (3 : Int32)) - ((((x2.toUInt32 >>> ((4 : Int32) &&& 31).toUInt32).toInt32) &&& (3 : Int32)) / (3 : Int32)) * (3 : Int32))), .val (.int (x3 &&& (2147483647 : Int32))), .val (.int ((x3.toUInt32 >>> ((1 : Int32) &&& 31).toUInt32).toInt32)), .unset, .unset, .unset] [(.int ((x3.toUInt32 >>> ((2 : Int32) &&& 31).toUInt32).toInt32))])) _
    refine XS.istore X0.here hx rfl (hb hby at_55) rfl (l' := #[.val (.int x0), .val (.int x1), .val (.int x2), .val (.int x3), .val (.long x4), .second, .val (.int ((x0 &&& (2147483647 : Int32)) - ((x0 &&& (2147483647 : Int32)) / (4 : Int32)) * (4 : Int32))), .val (.int ((x1 &&& (2147483647 : Int32)) - ((x1 &&& (2147483647 : Int32)) / (4 : Int32)) * (4 : Int32))), .val (.int ((x2 &&& (3 : Int32)) - ((x2 &&& (3 : Int32)) / (3 : Int32)) * (3 : Int32))), .val (.int ((((x2.toUInt32 >>> ((2 : Int32) &&& 31).toUInt32).toInt32) &&& (3 : Int32)) - ((((x2.toUInt32 >>> ((2 : Int32) &&& 31).toUInt32).toInt32) &&& (3 : Int32)) / (3 : Int32)) * (3 : Int32))), .val (.int ((((x2.toUInt32 >>> ((4 : Int32) &&& 31).toUInt32).toInt32) &&& (3 : Int32)) - ((((x2.toUInt32 >>> ((4 : Int32) &&& 31).toUInt32).toInt32) &&& (3 : Int32)) / (3 : Int32)) * (3 : Int32))), .val (.int (x3 &&& (2147483647 : Int32))), .val (.int ((x3.toUInt32 >>> ((1 : Int32) &&& 31).toUInt32).toInt32)), .val (.int ((x3.toUInt32 >>> ((2 : Int32) &&& 31).toUInt32).toInt32)), .unset, .unset]) rfl ?_
    show Steps p.tables e below (s₁.setTop (mkF m 57 #[.val (.int x0), .val (.int x1), .val (.int x2), .val (.int x3), .val (.long x4), .second, .val (.int ((x0 &&& (2147483647 : Int32)) - ((x0 &&& (2147483647 : Int32)) / (4 : Int32)) * (4 : Int32))), .val (.int ((x1 &&& (2147483647 : Int32)) - ((x1 &&& (2147483647 : Int32)) / (4 : Int32)) * (4 : Int32))), .val (.int ((x2 &&& (3 : Int32)) - ((x2 &&& (3 : Int32)) / (3 : Int32)) * (3 : Int32))), .val (.int ((((x2.toUInt32 >>> ((2 : Int32) &&& 31).toUInt32).toInt32) &&& (3 : Int32)) - ((((x2.toUInt32 >>> ((2 : Int32) &&& 31).toUInt32).toInt32) &&& (3 : Int32)) / (3 : Int32)) * (3 : Int32))), .val (.int ((((x2.toUInt32 >>> ((4 : Int32) &&& 31).toUInt32).toInt32) &&& (3 : Int32)) - ((((x2.toUInt32 >>> ((4 : Int32) &&& 31).toUInt32).toInt32) &&& (3 : Int32)) / (3 : Int32)) * (3 : Int32))), .val (.int (x3 &&& (2147483647 : Int32))), .val (.int ((x3.toUInt32 >>> ((1 : Int32) &&& 31).toUInt32).toInt32)), .val (.int ((x3.toUInt32 >>> ((2 : Int32) &&& 31).toUInt32).toInt32)), .unset, .unset] [])) _
    rw [hf6, hf7, hm0, hm1, hm2, hk0, hk1, hk2]
    show Steps p.tables e below (s₁.setTop (mkF m 57 #[.val (.int x0), .val (.int x1), .val (.int x2), .val (.int x3), .val (.long x4), .second, .val (.int (Int32.ofNat f)), .val (.int (Int32.ofNat t)), .val (.int m0), .val (.int m1), .val (.int m2), .val (.int k0), .val (.int k1), .val (.int k2), .unset, .unset] [])) _
    refine XS.lload X0.here hx rfl (hb hby at_57) rfl ?_
    show Steps p.tables e below (s₁.setTop (mkF m 59 #[.val (.int x0), .val (.int x1), .val (.int x2), .val (.int x3), .val (.long x4), .second, .val (.int (Int32.ofNat f)), .val (.int (Int32.ofNat t)), .val (.int m0), .val (.int m1), .val (.int m2), .val (.int k0), .val (.int k1), .val (.int k2), .unset, .unset] [(.long x4)])) _
    refine st1 _ ?_
    show Steps p.tables e below (T1.setTop (mkF m 62 #[.val (.int x0), .val (.int x1), .val (.int x2), .val (.int x3), .val (.long x4), .second, .val (.int (Int32.ofNat f)), .val (.int (Int32.ofNat t)), .val (.int m0), .val (.int m1), .val (.int m2), .val (.int k0), .val (.int k1), .val (.int k2), .unset, .unset] [(.ref tt)])) _
    refine XS.astore X1.here hx rfl (hb hby at_62) rfl rfl (l' := #[.val (.int x0), .val (.int x1), .val (.int x2), .val (.int x3), .val (.long x4), .second, .val (.int (Int32.ofNat f)), .val (.int (Int32.ofNat t)), .val (.int m0), .val (.int m1), .val (.int m2), .val (.int k0), .val (.int k1), .val (.int k2), .val (.ref tt), .unset]) rfl ?_
    show Steps p.tables e below (T1.setTop (mkF m 64 #[.val (.int x0), .val (.int x1), .val (.int x2), .val (.int x3), .val (.long x4), .second, .val (.int (Int32.ofNat f)), .val (.int (Int32.ofNat t)), .val (.int m0), .val (.int m1), .val (.int m2), .val (.int k0), .val (.int k1), .val (.int k2), .val (.ref tt), .unset] [])) _
    refine st2 _ ?_
    show Steps p.tables e below (T2.setTop (mkF m 67 #[.val (.int x0), .val (.int x1), .val (.int x2), .val (.int x3), .val (.long x4), .second, .val (.int (Int32.ofNat f)), .val (.int (Int32.ofNat t)), .val (.int m0), .val (.int m1), .val (.int m2), .val (.int k0), .val (.int k1), .val (.int k2), .val (.ref tt), .unset] [(.ref b2)])) _
    refine XS.dup X2.here hx rfl (hb hby at_67) rfl rfl ?_
    show Steps p.tables e below (T2.setTop (mkF m 68 #[.val (.int x0), .val (.int x1), .val (.int x2), .val (.int x3), .val (.long x4), .second, .val (.int (Int32.ofNat f)), .val (.int (Int32.ofNat t)), .val (.int m0), .val (.int m1), .val (.int m2), .val (.int k0), .val (.int k1), .val (.int k2), .val (.ref tt), .unset] [(.ref b2), (.ref b2)])) _
    refine XS.iconst X2.here hx rfl (hb hby at_68) ?_
    show Steps p.tables e below (T2.setTop (mkF m 69 #[.val (.int x0), .val (.int x1), .val (.int x2), .val (.int x3), .val (.long x4), .second, .val (.int (Int32.ofNat f)), .val (.int (Int32.ofNat t)), .val (.int m0), .val (.int m1), .val (.int m2), .val (.int k0), .val (.int k1), .val (.int k2), .val (.ref tt), .unset] [(.int (3 : Int32)), (.ref b2), (.ref b2)])) _
    refine st3.trans ?_
    show Steps p.tables e below (T3.setTop (mkF m 72 #[.val (.int x0), .val (.int x1), .val (.int x2), .val (.int x3), .val (.long x4), .second, .val (.int (Int32.ofNat f)), .val (.int (Int32.ofNat t)), .val (.int m0), .val (.int m1), .val (.int m2), .val (.int k0), .val (.int k1), .val (.int k2), .val (.ref tt), .unset] [(.ref b2)])) _
    refine XS.astore X3.here hx rfl (hb hby at_72) rfl rfl (l' := #[.val (.int x0), .val (.int x1), .val (.int x2), .val (.int x3), .val (.long x4), .second, .val (.int (Int32.ofNat f)), .val (.int (Int32.ofNat t)), .val (.int m0), .val (.int m1), .val (.int m2), .val (.int k0), .val (.int k1), .val (.int k2), .val (.ref tt), .val (.ref b2)]) rfl ?_
    show Steps p.tables e below (T3.setTop (mkF m 74 #[.val (.int x0), .val (.int x1), .val (.int x2), .val (.int x3), .val (.long x4), .second, .val (.int (Int32.ofNat f)), .val (.int (Int32.ofNat t)), .val (.int m0), .val (.int m1), .val (.int m2), .val (.int k0), .val (.int k1), .val (.int k2), .val (.ref tt), .val (.ref b2)] [])) _
    refine XS.aload X3.here hx rfl (hb hby at_74) rfl rfl ?_
    show Steps p.tables e below (T3.setTop (mkF m 76 #[.val (.int x0), .val (.int x1), .val (.int x2), .val (.int x3), .val (.long x4), .second, .val (.int (Int32.ofNat f)), .val (.int (Int32.ofNat t)), .val (.int m0), .val (.int m1), .val (.int m2), .val (.int k0), .val (.int k1), .val (.int k2), .val (.ref tt), .val (.ref b2)] [(.ref b2)])) _
    refine XS.iconst X3.here hx rfl (hb hby at_76) ?_
    show Steps p.tables e below (T3.setTop (mkF m 77 #[.val (.int x0), .val (.int x1), .val (.int x2), .val (.int x3), .val (.long x4), .second, .val (.int (Int32.ofNat f)), .val (.int (Int32.ofNat t)), .val (.int m0), .val (.int m1), .val (.int m2), .val (.int k0), .val (.int k1), .val (.int k2), .val (.ref tt), .val (.ref b2)] [(.int (0 : Int32)), (.ref b2)])) _
    refine XS.iload X3.here hx rfl (hb hby at_77) rfl ?_
    show Steps p.tables e below (T3.setTop (mkF m 79 #[.val (.int x0), .val (.int x1), .val (.int x2), .val (.int x3), .val (.long x4), .second, .val (.int (Int32.ofNat f)), .val (.int (Int32.ofNat t)), .val (.int m0), .val (.int m1), .val (.int m2), .val (.int k0), .val (.int k1), .val (.int k2), .val (.ref tt), .val (.ref b2)] [(.int m0), (.int (0 : Int32)), (.ref b2)])) _
    refine XS.iload X3.here hx rfl (hb hby at_79) rfl ?_
    show Steps p.tables e below (T3.setTop (mkF m 81 #[.val (.int x0), .val (.int x1), .val (.int x2), .val (.int x3), .val (.long x4), .second, .val (.int (Int32.ofNat f)), .val (.int (Int32.ofNat t)), .val (.int m0), .val (.int m1), .val (.int m2), .val (.int k0), .val (.int k1), .val (.int k2), .val (.ref tt), .val (.ref b2)] [(.int k0), (.int m0), (.int (0 : Int32)), (.ref b2)])) _
    refine XS.aload X3.here hx rfl (hb hby at_81) rfl rfl ?_
    show Steps p.tables e below (T3.setTop (mkF m 83 #[.val (.int x0), .val (.int x1), .val (.int x2), .val (.int x3), .val (.long x4), .second, .val (.int (Int32.ofNat f)), .val (.int (Int32.ofNat t)), .val (.int m0), .val (.int m1), .val (.int m2), .val (.int k0), .val (.int k1), .val (.int k2), .val (.ref tt), .val (.ref b2)] [(.ref tt), (.int k0), (.int m0), (.int (0 : Int32)), (.ref b2)])) _
    refine st4 _ ?_
    show Steps p.tables e below (T4.setTop (mkF m 86 #[.val (.int x0), .val (.int x1), .val (.int x2), .val (.int x3), .val (.long x4), .second, .val (.int (Int32.ofNat f)), .val (.int (Int32.ofNat t)), .val (.int m0), .val (.int m1), .val (.int m2), .val (.int k0), .val (.int k1), .val (.int k2), .val (.ref tt), .val (.ref b2)] [])) _
    refine XS.aload X4.here hx rfl (hb hby at_86) rfl rfl ?_
    show Steps p.tables e below (T4.setTop (mkF m 88 #[.val (.int x0), .val (.int x1), .val (.int x2), .val (.int x3), .val (.long x4), .second, .val (.int (Int32.ofNat f)), .val (.int (Int32.ofNat t)), .val (.int m0), .val (.int m1), .val (.int m2), .val (.int k0), .val (.int k1), .val (.int k2), .val (.ref tt), .val (.ref b2)] [(.ref b2)])) _
    refine XS.iconst X4.here hx rfl (hb hby at_88) ?_
    show Steps p.tables e below (T4.setTop (mkF m 89 #[.val (.int x0), .val (.int x1), .val (.int x2), .val (.int x3), .val (.long x4), .second, .val (.int (Int32.ofNat f)), .val (.int (Int32.ofNat t)), .val (.int m0), .val (.int m1), .val (.int m2), .val (.int k0), .val (.int k1), .val (.int k2), .val (.ref tt), .val (.ref b2)] [(.int (1 : Int32)), (.ref b2)])) _
    refine XS.iload X4.here hx rfl (hb hby at_89) rfl ?_
    show Steps p.tables e below (T4.setTop (mkF m 91 #[.val (.int x0), .val (.int x1), .val (.int x2), .val (.int x3), .val (.long x4), .second, .val (.int (Int32.ofNat f)), .val (.int (Int32.ofNat t)), .val (.int m0), .val (.int m1), .val (.int m2), .val (.int k0), .val (.int k1), .val (.int k2), .val (.ref tt), .val (.ref b2)] [(.int m1), (.int (1 : Int32)), (.ref b2)])) _
    refine XS.iload X4.here hx rfl (hb hby at_91) rfl ?_
    show Steps p.tables e below (T4.setTop (mkF m 93 #[.val (.int x0), .val (.int x1), .val (.int x2), .val (.int x3), .val (.long x4), .second, .val (.int (Int32.ofNat f)), .val (.int (Int32.ofNat t)), .val (.int m0), .val (.int m1), .val (.int m2), .val (.int k0), .val (.int k1), .val (.int k2), .val (.ref tt), .val (.ref b2)] [(.int k1), (.int m1), (.int (1 : Int32)), (.ref b2)])) _
    refine XS.aload X4.here hx rfl (hb hby at_93) rfl rfl ?_
    show Steps p.tables e below (T4.setTop (mkF m 95 #[.val (.int x0), .val (.int x1), .val (.int x2), .val (.int x3), .val (.long x4), .second, .val (.int (Int32.ofNat f)), .val (.int (Int32.ofNat t)), .val (.int m0), .val (.int m1), .val (.int m2), .val (.int k0), .val (.int k1), .val (.int k2), .val (.ref tt), .val (.ref b2)] [(.ref tt), (.int k1), (.int m1), (.int (1 : Int32)), (.ref b2)])) _
    refine st5 _ ?_
    show Steps p.tables e below (T5.setTop (mkF m 98 #[.val (.int x0), .val (.int x1), .val (.int x2), .val (.int x3), .val (.long x4), .second, .val (.int (Int32.ofNat f)), .val (.int (Int32.ofNat t)), .val (.int m0), .val (.int m1), .val (.int m2), .val (.int k0), .val (.int k1), .val (.int k2), .val (.ref tt), .val (.ref b2)] [])) _
    refine XS.aload X5.here hx rfl (hb hby at_98) rfl rfl ?_
    show Steps p.tables e below (T5.setTop (mkF m 100 #[.val (.int x0), .val (.int x1), .val (.int x2), .val (.int x3), .val (.long x4), .second, .val (.int (Int32.ofNat f)), .val (.int (Int32.ofNat t)), .val (.int m0), .val (.int m1), .val (.int m2), .val (.int k0), .val (.int k1), .val (.int k2), .val (.ref tt), .val (.ref b2)] [(.ref b2)])) _
    refine XS.iconst X5.here hx rfl (hb hby at_100) ?_
    show Steps p.tables e below (T5.setTop (mkF m 101 #[.val (.int x0), .val (.int x1), .val (.int x2), .val (.int x3), .val (.long x4), .second, .val (.int (Int32.ofNat f)), .val (.int (Int32.ofNat t)), .val (.int m0), .val (.int m1), .val (.int m2), .val (.int k0), .val (.int k1), .val (.int k2), .val (.ref tt), .val (.ref b2)] [(.int (2 : Int32)), (.ref b2)])) _
    refine XS.iload X5.here hx rfl (hb hby at_101) rfl ?_
    show Steps p.tables e below (T5.setTop (mkF m 103 #[.val (.int x0), .val (.int x1), .val (.int x2), .val (.int x3), .val (.long x4), .second, .val (.int (Int32.ofNat f)), .val (.int (Int32.ofNat t)), .val (.int m0), .val (.int m1), .val (.int m2), .val (.int k0), .val (.int k1), .val (.int k2), .val (.ref tt), .val (.ref b2)] [(.int m2), (.int (2 : Int32)), (.ref b2)])) _
    refine XS.iload X5.here hx rfl (hb hby at_103) rfl ?_
    show Steps p.tables e below (T5.setTop (mkF m 105 #[.val (.int x0), .val (.int x1), .val (.int x2), .val (.int x3), .val (.long x4), .second, .val (.int (Int32.ofNat f)), .val (.int (Int32.ofNat t)), .val (.int m0), .val (.int m1), .val (.int m2), .val (.int k0), .val (.int k1), .val (.int k2), .val (.ref tt), .val (.ref b2)] [(.int k2), (.int m2), (.int (2 : Int32)), (.ref b2)])) _
    refine XS.aload X5.here hx rfl (hb hby at_105) rfl rfl ?_
    show Steps p.tables e below (T5.setTop (mkF m 107 #[.val (.int x0), .val (.int x1), .val (.int x2), .val (.int x3), .val (.long x4), .second, .val (.int (Int32.ofNat f)), .val (.int (Int32.ofNat t)), .val (.int m0), .val (.int m1), .val (.int m2), .val (.int k0), .val (.int k1), .val (.int k2), .val (.ref tt), .val (.ref b2)] [(.ref tt), (.int k2), (.int m2), (.int (2 : Int32)), (.ref b2)])) _
    refine st6 _ ?_
    show Steps p.tables e below (T6.setTop (mkF m 110 #[.val (.int x0), .val (.int x1), .val (.int x2), .val (.int x3), .val (.long x4), .second, .val (.int (Int32.ofNat f)), .val (.int (Int32.ofNat t)), .val (.int m0), .val (.int m1), .val (.int m2), .val (.int k0), .val (.int k1), .val (.int k2), .val (.ref tt), .val (.ref b2)] [])) _
    refine XS.aload X6.here hx rfl (hb hby at_110) rfl rfl ?_
    show Steps p.tables e below (T6.setTop (mkF m 112 #[.val (.int x0), .val (.int x1), .val (.int x2), .val (.int x3), .val (.long x4), .second, .val (.int (Int32.ofNat f)), .val (.int (Int32.ofNat t)), .val (.int m0), .val (.int m1), .val (.int m2), .val (.int k0), .val (.int k1), .val (.int k2), .val (.ref tt), .val (.ref b2)] [(.ref b2)])) _
    refine XS.iload X6.here hx rfl (hb hby at_112) rfl ?_
    show Steps p.tables e below (T6.setTop (mkF m 114 #[.val (.int x0), .val (.int x1), .val (.int x2), .val (.int x3), .val (.long x4), .second, .val (.int (Int32.ofNat f)), .val (.int (Int32.ofNat t)), .val (.int m0), .val (.int m1), .val (.int m2), .val (.int k0), .val (.int k1), .val (.int k2), .val (.ref tt), .val (.ref b2)] [(.int (Int32.ofNat f)), (.ref b2)])) _
    refine XS.iload X6.here hx rfl (hb hby at_114) rfl ?_
    show Steps p.tables e below (T6.setTop (mkF m 116 #[.val (.int x0), .val (.int x1), .val (.int x2), .val (.int x3), .val (.long x4), .second, .val (.int (Int32.ofNat f)), .val (.int (Int32.ofNat t)), .val (.int m0), .val (.int m1), .val (.int m2), .val (.int k0), .val (.int k1), .val (.int k2), .val (.ref tt), .val (.ref b2)] [(.int (Int32.ofNat t)), (.int (Int32.ofNat f)), (.ref b2)])) _
    refine st7.trans ?_
    show Steps p.tables e below (T7.setTop (mkF m 119 #[.val (.int x0), .val (.int x1), .val (.int x2), .val (.int x3), .val (.long x4), .second, .val (.int (Int32.ofNat f)), .val (.int (Int32.ofNat t)), .val (.int m0), .val (.int m1), .val (.int m2), .val (.int k0), .val (.int k1), .val (.int k2), .val (.ref tt), .val (.ref b2)] [])) _
    refine XS.aload X7.here hx rfl (hb hby at_119) rfl rfl ?_
    show Steps p.tables e below (T7.setTop (mkF m 121 #[.val (.int x0), .val (.int x1), .val (.int x2), .val (.int x3), .val (.long x4), .second, .val (.int (Int32.ofNat f)), .val (.int (Int32.ofNat t)), .val (.int m0), .val (.int m1), .val (.int m2), .val (.int k0), .val (.int k1), .val (.int k2), .val (.ref tt), .val (.ref b2)] [(.ref b2)])) _
    refine XS.iconst X7.here hx rfl (hb hby at_121) ?_
    show Steps p.tables e below (T7.setTop (mkF m 122 #[.val (.int x0), .val (.int x1), .val (.int x2), .val (.int x3), .val (.long x4), .second, .val (.int (Int32.ofNat f)), .val (.int (Int32.ofNat t)), .val (.int m0), .val (.int m1), .val (.int m2), .val (.int k0), .val (.int k1), .val (.int k2), .val (.ref tt), .val (.ref b2)] [(.int (0 : Int32)), (.ref b2)])) _
    refine XS.iload X7.here hx rfl (hb hby at_122) rfl ?_
    show Steps p.tables e below (T7.setTop (mkF m 124 #[.val (.int x0), .val (.int x1), .val (.int x2), .val (.int x3), .val (.long x4), .second, .val (.int (Int32.ofNat f)), .val (.int (Int32.ofNat t)), .val (.int m0), .val (.int m1), .val (.int m2), .val (.int k0), .val (.int k1), .val (.int k2), .val (.ref tt), .val (.ref b2)] [(.int m0), (.int (0 : Int32)), (.ref b2)])) _
    refine XS.iload X7.here hx rfl (hb hby at_124) rfl ?_
    show Steps p.tables e below (T7.setTop (mkF m 126 #[.val (.int x0), .val (.int x1), .val (.int x2), .val (.int x3), .val (.long x4), .second, .val (.int (Int32.ofNat f)), .val (.int (Int32.ofNat t)), .val (.int m0), .val (.int m1), .val (.int m2), .val (.int k0), .val (.int k1), .val (.int k2), .val (.ref tt), .val (.ref b2)] [(.int k0), (.int m0), (.int (0 : Int32)), (.ref b2)])) _
    refine XS.aload X7.here hx rfl (hb hby at_126) rfl rfl ?_
    show Steps p.tables e below (T7.setTop (mkF m 128 #[.val (.int x0), .val (.int x1), .val (.int x2), .val (.int x3), .val (.long x4), .second, .val (.int (Int32.ofNat f)), .val (.int (Int32.ofNat t)), .val (.int m0), .val (.int m1), .val (.int m2), .val (.int k0), .val (.int k1), .val (.int k2), .val (.ref tt), .val (.ref b2)] [(.ref tt), (.int k0), (.int m0), (.int (0 : Int32)), (.ref b2)])) _
    refine XS.iload X7.here hx rfl (hb hby at_128) rfl ?_
    show Steps p.tables e below (T7.setTop (mkF m 130 #[.val (.int x0), .val (.int x1), .val (.int x2), .val (.int x3), .val (.long x4), .second, .val (.int (Int32.ofNat f)), .val (.int (Int32.ofNat t)), .val (.int m0), .val (.int m1), .val (.int m2), .val (.int k0), .val (.int k1), .val (.int k2), .val (.ref tt), .val (.ref b2)] [(.int (Int32.ofNat f)), (.ref tt), (.int k0), (.int m0), (.int (0 : Int32)), (.ref b2)])) _
    refine XS.iload X7.here hx rfl (hb hby at_130) rfl ?_
    show Steps p.tables e below (T7.setTop (mkF m 132 #[.val (.int x0), .val (.int x1), .val (.int x2), .val (.int x3), .val (.long x4), .second, .val (.int (Int32.ofNat f)), .val (.int (Int32.ofNat t)), .val (.int m0), .val (.int m1), .val (.int m2), .val (.int k0), .val (.int k1), .val (.int k2), .val (.ref tt), .val (.ref b2)] [(.int (Int32.ofNat t)), (.int (Int32.ofNat f)), (.ref tt), (.int k0), (.int m0), (.int (0 : Int32)), (.ref b2)])) _
    refine st8 _ ?_
    show Steps p.tables e below (T8.setTop (mkF m 135 #[.val (.int x0), .val (.int x1), .val (.int x2), .val (.int x3), .val (.long x4), .second, .val (.int (Int32.ofNat f)), .val (.int (Int32.ofNat t)), .val (.int m0), .val (.int m1), .val (.int m2), .val (.int k0), .val (.int k1), .val (.int k2), .val (.ref tt), .val (.ref b2)] [(.int (1 : Int32))])) _
    refine XS.ifNo X8.here hx rfl (hb hby at_135) rfl ((if0 _ _).trans (feq (by decide : ¬ ((1 : Int32) = (0 : Int32)))).1) ?_
    show Steps p.tables e below (T8.setTop (mkF m 138 #[.val (.int x0), .val (.int x1), .val (.int x2), .val (.int x3), .val (.long x4), .second, .val (.int (Int32.ofNat f)), .val (.int (Int32.ofNat t)), .val (.int m0), .val (.int m1), .val (.int m2), .val (.int k0), .val (.int k1), .val (.int k2), .val (.ref tt), .val (.ref b2)] [])) _
    refine XS.aload X8.here hx rfl (hb hby at_138) rfl rfl ?_
    show Steps p.tables e below (T8.setTop (mkF m 140 #[.val (.int x0), .val (.int x1), .val (.int x2), .val (.int x3), .val (.long x4), .second, .val (.int (Int32.ofNat f)), .val (.int (Int32.ofNat t)), .val (.int m0), .val (.int m1), .val (.int m2), .val (.int k0), .val (.int k1), .val (.int k2), .val (.ref tt), .val (.ref b2)] [(.ref b2)])) _
    refine XS.iconst X8.here hx rfl (hb hby at_140) ?_
    show Steps p.tables e below (T8.setTop (mkF m 141 #[.val (.int x0), .val (.int x1), .val (.int x2), .val (.int x3), .val (.long x4), .second, .val (.int (Int32.ofNat f)), .val (.int (Int32.ofNat t)), .val (.int m0), .val (.int m1), .val (.int m2), .val (.int k0), .val (.int k1), .val (.int k2), .val (.ref tt), .val (.ref b2)] [(.int (1 : Int32)), (.ref b2)])) _
    refine XS.iload X8.here hx rfl (hb hby at_141) rfl ?_
    show Steps p.tables e below (T8.setTop (mkF m 143 #[.val (.int x0), .val (.int x1), .val (.int x2), .val (.int x3), .val (.long x4), .second, .val (.int (Int32.ofNat f)), .val (.int (Int32.ofNat t)), .val (.int m0), .val (.int m1), .val (.int m2), .val (.int k0), .val (.int k1), .val (.int k2), .val (.ref tt), .val (.ref b2)] [(.int m1), (.int (1 : Int32)), (.ref b2)])) _
    refine XS.iload X8.here hx rfl (hb hby at_143) rfl ?_
    show Steps p.tables e below (T8.setTop (mkF m 145 #[.val (.int x0), .val (.int x1), .val (.int x2), .val (.int x3), .val (.long x4), .second, .val (.int (Int32.ofNat f)), .val (.int (Int32.ofNat t)), .val (.int m0), .val (.int m1), .val (.int m2), .val (.int k0), .val (.int k1), .val (.int k2), .val (.ref tt), .val (.ref b2)] [(.int k1), (.int m1), (.int (1 : Int32)), (.ref b2)])) _
    refine XS.aload X8.here hx rfl (hb hby at_145) rfl rfl ?_
    show Steps p.tables e below (T8.setTop (mkF m 147 #[.val (.int x0), .val (.int x1), .val (.int x2), .val (.int x3), .val (.long x4), .second, .val (.int (Int32.ofNat f)), .val (.int (Int32.ofNat t)), .val (.int m0), .val (.int m1), .val (.int m2), .val (.int k0), .val (.int k1), .val (.int k2), .val (.ref tt), .val (.ref b2)] [(.ref tt), (.int k1), (.int m1), (.int (1 : Int32)), (.ref b2)])) _
    refine XS.iload X8.here hx rfl (hb hby at_147) rfl ?_
    show Steps p.tables e below (T8.setTop (mkF m 149 #[.val (.int x0), .val (.int x1), .val (.int x2), .val (.int x3), .val (.long x4), .second, .val (.int (Int32.ofNat f)), .val (.int (Int32.ofNat t)), .val (.int m0), .val (.int m1), .val (.int m2), .val (.int k0), .val (.int k1), .val (.int k2), .val (.ref tt), .val (.ref b2)] [(.int (Int32.ofNat f)), (.ref tt), (.int k1), (.int m1), (.int (1 : Int32)), (.ref b2)])) _
    refine XS.iload X8.here hx rfl (hb hby at_149) rfl ?_
    show Steps p.tables e below (T8.setTop (mkF m 151 #[.val (.int x0), .val (.int x1), .val (.int x2), .val (.int x3), .val (.long x4), .second, .val (.int (Int32.ofNat f)), .val (.int (Int32.ofNat t)), .val (.int m0), .val (.int m1), .val (.int m2), .val (.int k0), .val (.int k1), .val (.int k2), .val (.ref tt), .val (.ref b2)] [(.int (Int32.ofNat t)), (.int (Int32.ofNat f)), (.ref tt), (.int k1), (.int m1), (.int (1 : Int32)), (.ref b2)])) _
    refine st9 _ ?_
    show Steps p.tables e below (T9.setTop (mkF m 154 #[.val (.int x0), .val (.int x1), .val (.int x2), .val (.int x3), .val (.long x4), .second, .val (.int (Int32.ofNat f)), .val (.int (Int32.ofNat t)), .val (.int m0), .val (.int m1), .val (.int m2), .val (.int k0), .val (.int k1), .val (.int k2), .val (.ref tt), .val (.ref b2)] [(.int (1 : Int32))])) _
    refine XS.ifNo X9.here hx rfl (hb hby at_154) rfl ((if0 _ _).trans (feq (by decide : ¬ ((1 : Int32) = (0 : Int32)))).1) ?_
    show Steps p.tables e below (T9.setTop (mkF m 157 #[.val (.int x0), .val (.int x1), .val (.int x2), .val (.int x3), .val (.long x4), .second, .val (.int (Int32.ofNat f)), .val (.int (Int32.ofNat t)), .val (.int m0), .val (.int m1), .val (.int m2), .val (.int k0), .val (.int k1), .val (.int k2), .val (.ref tt), .val (.ref b2)] [])) _
    refine XS.aload X9.here hx rfl (hb hby at_157) rfl rfl ?_
    show Steps p.tables e below (T9.setTop (mkF m 159 #[.val (.int x0), .val (.int x1), .val (.int x2), .val (.int x3), .val (.long x4), .second, .val (.int (Int32.ofNat f)), .val (.int (Int32.ofNat t)), .val (.int m0), .val (.int m1), .val (.int m2), .val (.int k0), .val (.int k1), .val (.int k2), .val (.ref tt), .val (.ref b2)] [(.ref b2)])) _
    refine XS.iconst X9.here hx rfl (hb hby at_159) ?_
    show Steps p.tables e below (T9.setTop (mkF m 160 #[.val (.int x0), .val (.int x1), .val (.int x2), .val (.int x3), .val (.long x4), .second, .val (.int (Int32.ofNat f)), .val (.int (Int32.ofNat t)), .val (.int m0), .val (.int m1), .val (.int m2), .val (.int k0), .val (.int k1), .val (.int k2), .val (.ref tt), .val (.ref b2)] [(.int (2 : Int32)), (.ref b2)])) _
    refine XS.iload X9.here hx rfl (hb hby at_160) rfl ?_
    show Steps p.tables e below (T9.setTop (mkF m 162 #[.val (.int x0), .val (.int x1), .val (.int x2), .val (.int x3), .val (.long x4), .second, .val (.int (Int32.ofNat f)), .val (.int (Int32.ofNat t)), .val (.int m0), .val (.int m1), .val (.int m2), .val (.int k0), .val (.int k1), .val (.int k2), .val (.ref tt), .val (.ref b2)] [(.int m2), (.int (2 : Int32)), (.ref b2)])) _
    refine XS.iload X9.here hx rfl (hb hby at_162) rfl ?_
    show Steps p.tables e below (T9.setTop (mkF m 164 #[.val (.int x0), .val (.int x1), .val (.int x2), .val (.int x3), .val (.long x4), .second, .val (.int (Int32.ofNat f)), .val (.int (Int32.ofNat t)), .val (.int m0), .val (.int m1), .val (.int m2), .val (.int k0), .val (.int k1), .val (.int k2), .val (.ref tt), .val (.ref b2)] [(.int k2), (.int m2), (.int (2 : Int32)), (.ref b2)])) _
    refine XS.aload X9.here hx rfl (hb hby at_164) rfl rfl ?_
    show Steps p.tables e below (T9.setTop (mkF m 166 #[.val (.int x0), .val (.int x1), .val (.int x2), .val (.int x3), .val (.long x4), .second, .val (.int (Int32.ofNat f)), .val (.int (Int32.ofNat t)), .val (.int m0), .val (.int m1), .val (.int m2), .val (.int k0), .val (.int k1), .val (.int k2), .val (.ref tt), .val (.ref b2)] [(.ref tt), (.int k2), (.int m2), (.int (2 : Int32)), (.ref b2)])) _
    refine XS.iload X9.here hx rfl (hb hby at_166) rfl ?_
    show Steps p.tables e below (T9.setTop (mkF m 168 #[.val (.int x0), .val (.int x1), .val (.int x2), .val (.int x3), .val (.long x4), .second, .val (.int (Int32.ofNat f)), .val (.int (Int32.ofNat t)), .val (.int m0), .val (.int m1), .val (.int m2), .val (.int k0), .val (.int k1), .val (.int k2), .val (.ref tt), .val (.ref b2)] [(.int (Int32.ofNat f)), (.ref tt), (.int k2), (.int m2), (.int (2 : Int32)), (.ref b2)])) _
    refine XS.iload X9.here hx rfl (hb hby at_168) rfl ?_
    show Steps p.tables e below (T9.setTop (mkF m 170 #[.val (.int x0), .val (.int x1), .val (.int x2), .val (.int x3), .val (.long x4), .second, .val (.int (Int32.ofNat f)), .val (.int (Int32.ofNat t)), .val (.int m0), .val (.int m1), .val (.int m2), .val (.int k0), .val (.int k1), .val (.int k2), .val (.ref tt), .val (.ref b2)] [(.int (Int32.ofNat t)), (.int (Int32.ofNat f)), (.ref tt), (.int k2), (.int m2), (.int (2 : Int32)), (.ref b2)])) _
    refine st10 _ ?_
    show Steps p.tables e below (T10.setTop (mkF m 173 #[.val (.int x0), .val (.int x1), .val (.int x2), .val (.int x3), .val (.long x4), .second, .val (.int (Int32.ofNat f)), .val (.int (Int32.ofNat t)), .val (.int m0), .val (.int m1), .val (.int m2), .val (.int k0), .val (.int k1), .val (.int k2), .val (.ref tt), .val (.ref b2)] [(.int (1 : Int32))])) _
    refine XS.ifNo X10.here hx rfl (hb hby at_173) rfl ((if0 _ _).trans (feq (by decide : ¬ ((1 : Int32) = (0 : Int32)))).1) ?_
    show Steps p.tables e below (T10.setTop (mkF m 176 #[.val (.int x0), .val (.int x1), .val (.int x2), .val (.int x3), .val (.long x4), .second, .val (.int (Int32.ofNat f)), .val (.int (Int32.ofNat t)), .val (.int m0), .val (.int m1), .val (.int m2), .val (.int k0), .val (.int k1), .val (.int k2), .val (.ref tt), .val (.ref b2)] [])) _
    refine XS.iconst X10.here hx rfl (hb hby at_176) ?_
    show Steps p.tables e below (T10.setTop (mkF m 177 #[.val (.int x0), .val (.int x1), .val (.int x2), .val (.int x3), .val (.long x4), .second, .val (.int (Int32.ofNat f)), .val (.int (Int32.ofNat t)), .val (.int m0), .val (.int m1), .val (.int m2), .val (.int k0), .val (.int k1), .val (.int k2), .val (.ref tt), .val (.ref b2)] [(.int (1 : Int32))])) _
    refine XS.goto X10.here hx rfl (pc0 := 177) (pc' := 181) rfl (hb hby at_177) (by decide) (by decide) ?_
    show Steps p.tables e below (T10.setTop (mkF m 181 #[.val (.int x0), .val (.int x1), .val (.int x2), .val (.int x3), .val (.long x4), .second, .val (.int (Int32.ofNat f)), .val (.int (Int32.ofNat t)), .val (.int m0), .val (.int m1), .val (.int m2), .val (.int k0), .val (.int k1), .val (.int k2), .val (.ref tt), .val (.ref b2)] [(.int (1 : Int32))])) _
    exact retN X10 hx (t := .boolean) Bd.returns (by simp) (hb hby at_181) hr
  · exact ⟨rfl, N10⟩
set_option maxRecDepth 65536 in
set_option maxHeartbeats 40000000 in
theorem comes_1 {Post : Tables → Env → Array Value → State → Outcome → State → Prop} (hpost : ∀ tb e args s v u, (limb_1_1.after args s (.returned v) u = true ∧ limb_1_2.after args s (.returned v) u = true ∧ True) → FrameEnd s (.returned v) u (Jvm.fieldLocs frame_1_writes args s ++ Jvm.arrayLocs frame_1_arrays args s ++ Jvm.staticLocs frame_1_statics s) 16 128 → Post tb e args s (.returned v) u) :
    ArmFor flags0 classFile x code maxLocals ret World_1 tables_1 room_1 Calls_1 rest_1 Pre_1 Post := by
  intro l hfl _ _ p e ha hc hk s m args below hf hA hF happ hP
  obtain ⟨hcalls, hrest, hpre⟩ := hP
  obtain ⟨-, -, -, hnamed, -, -, -, hat⟩ := (Spec.applies_iff hf).mp happ
  obtain ⟨hg, hn⟩ := and_e (Cond.before_iff.mp (show (Jvm.Cond.and given_1 narrow_1).before args s = true from hpre))
  obtain ⟨g0, r0⟩ := and_e hg
  obtain ⟨g1, r1⟩ := and_e r0
  obtain ⟨g2, r2⟩ := and_e r1
  obtain ⟨g3, r3⟩ := and_e r2
  obtain ⟨g4, r4⟩ := and_e r3
  obtain ⟨w0, w1, w2, w3, w4, rfl⟩ : ∃ w0 w1 w2 w3 w4 : Value, args = #[w0, w1, w2, w3, w4] := by
    have hs : args.size = 5 := by simpa [Cond.value, given_1] using g0
    obtain ⟨L⟩ := args
    match L, hs with
    | [w0, w1, w2, w3, w4], _ => exact ⟨w0, w1, w2, w3, w4, rfl⟩
  have hw := fun d (hd : d ∈ tables_1) => atoms_spec (ws := Jvm.Cond.code x code maxLocals ret :: tables_1) hat d (List.mem_cons_of_mem _ hd)
  obtain ⟨i0, ei0⟩ := is_v g1
  obtain rfl : w0 = (.int i0) := Option.some.inj ei0
  obtain ⟨i1, ei1⟩ := is_v g2
  obtain rfl : w1 = (.int i1) := Option.some.inj ei1
  obtain ⟨i2, ei2⟩ := is_v g3
  obtain rfl : w2 = (.int i2) := Option.some.inj ei2
  obtain ⟨i3, ei3⟩ := is_v g4
  obtain rfl : w3 = (.int i3) := Option.some.inj ei3
  obtain ⟨i4, ei4⟩ := isL_v r4
  obtain rfl : w4 = (.long i4) := Option.some.inj ei4
  obtain ⟨n, o, h1, h2, h3, _, L, rfl, ⟨rfl, N⟩, hq⟩ := rm0 l s _ hw tables_1 i0 i1 i2 i3 i4 s.heap s.heap.size (Nat.le_refl _) p e ha hc hk s m _ below hf ((Spec.applies_iff_loose hf).mp happ).1 ⟨rfl, State.Warmed39.refl s, rfl⟩ trivial
  refine ⟨n, _, h1, h2, h3, hpost _ _ _ _ _ _ ⟨Cond.after_iff.mpr rfl, Cond.after_iff.mpr (eq_i res_at (Term.int_eval (1)) rfl), trivial⟩ ⟨hq.1, hq.2.1, (hq.2.2.sift fun y hy => Or.inr (N y hy)).mono (by decide) (by decide)⟩⟩
theorem main_1_1 : Claimed_1_1 := comes_1 fun _ _ _ _ _ _ h hF => ⟨h.1, hF⟩
theorem main_1_2 : Claimed_1_2 := comes_1 fun _ _ _ _ _ _ h hF => ⟨h.2.1, hF⟩
end Jvm.Pilot.@@N@@
namespace Jvm.Pilot.@@N@@
open Jvm Jvm.ClassFile Sem Op Lib Jvm.Free Jvm.Stand Jvm.Pilot.@@N@@.Jvm.D
/-! MADE BY PROGRAM (witnessworld.py) out of the Statement's table words and the real class files: 13 classes; the members and pool entries that the words name. The judged class is class 1, her method 3. -/
namespace start1
open Jvm.ClassFile
def u (s : String) : CpInfo := .utf8 (stringToUtf16 s)
/-- a pool by its gaps: so many unusable entries, then the entry; so many at the end -/
def gap : Nat → List CpInfo → List CpInfo
  | 0, r => r
  | n + 1, r => .unusable :: gap n r
def poolList (es : List (Nat × CpInfo)) (last : Nat) : List CpInfo := es.foldr (fun e r => gap e.1 (e.2 :: r)) (gap last [])
def pool (es : List (Nat × CpInfo)) (last : Nat) : Array CpInfo := ⟨poolList es last⟩
def fileOf (pool : Array CpInfo) (this : Nat) (attrs : Array Attribute := #[]) (ms : Array MethodInfo := #[]) (fl : Nat := 33) (sup : Nat := 0) (ifs : Array Nat := #[]) (fds : Array FieldInfo := #[]) : ClassFile where
  minorVersion := 0
  majorVersion := 65
  constantPool := pool
  accessFlags := fl
  thisClass := this
  superClass := sup
  interfaces := ifs
  fields := fds
  methods := ms
  attributes := attrs
def plain (name : String) (sup : Option ClassId) : Class where
  name := name
  kind := .ordinary
  loader := none
  accessFlags := 33
  super := sup
  interfaces := #[]
  cf := none
  fields := #[]
  methods := #[]
  instanceTypes := #[]
  staticTypes := #[]
  resolved := #[]
  callSites := []
  init := .initialized
  statics := none
  mirror := none

def pool0 : Array CpInfo := pool [(5, u "<init>"), (0, u "()V"), (1, .class_ 10), (1, u "java/lang/Object")] 113

def k0c0 : Code := { maxStack := 0, maxLocals := 1, code := object_method_1_code, exceptionTable := #[], attributes := #[] }
def k0m0 : Method := { name := "<init>", desc := "()V", sig := { parameters := [], returnType := none }, accessFlags := 1, code := some k0c0 }
/-- java/lang/Object -/
def k0 : Class := { plain "java/lang/Object" none with
  accessFlags := 33
  interfaces := #[]
  cf := some (fileOf pool0 8 #[] #[{ accessFlags := 1, nameIndex := 5, descriptorIndex := 6, attributes := #[] }] 33 0 #[] #[])
  fields := #[]
  methods := #[k0m0]
  instanceTypes := #[]
  staticTypes := #[]
  resolved := Array.replicate 124 none
  statics := none }

def pool1 : Array CpInfo := pool [(2, .class_ 4), (1, u "java/lang/Object"), (0, u "<init>"), (0, u "()V"), (0, .methodref 8 9), (0, .class_ 10), (0, .nameAndType 11 12), (0, u "com/example/tenet/tenet/term/Slots"), (0, u "set"), (0, u "(ILcom/example/tenet/tenet/term/Term;)V"), (0, .methodref 8 14), (0, .nameAndType 15 16), (0, u "setNode"), (0, u "(ILcom/example/tenet/tenet/term/Tree;I)V"), (2, .methodref 8 20), (0, .nameAndType 21 22), (0, u "node"), (0, u "(I)I"), (0, .methodref 8 24), (0, .nameAndType 25 26), (0, u "get"), (0, u "(I)Lcom/example/tenet/tenet/term/Term;"), (0, .integer 2147483647), (0, .methodref 29 30), (0, .class_ 31), (0, .nameAndType 32 33), (0, u "com/example/tenet/tenet/term/IntTerm"), (0, u "of"), (0, u "(J)Lcom/example/tenet/tenet/term/IntTerm;"), (0, .methodref 8 35), (0, .nameAndType 5 36), (0, u "(I)V"), (0, .methodref 38 39), (0, .class_ 40), (0, .nameAndType 41 42), (0, u "com/example/tenet/tenet/term/SlotsClearPinLaw"), (0, u "fill"), (0, u "(Lcom/example/tenet/tenet/term/Slots;IIILcom/example/tenet/tenet/term/Term;)V"), (0, .methodref 8 44), (0, .nameAndType 45 46), (0, u "clear"), (0, u "(II)V"), (0, .methodref 38 48), (0, .nameAndType 49 50), (0, u "slotOk"), (0, u "(Lcom/example/tenet/tenet/term/Slots;IIILcom/example/tenet/tenet/term/Term;II)Z"), (3, u "law"), (0, u "(IIIIJ)Z")] 2

def k1m0 : Method := { name := "<init>", desc := "()V", sig := { parameters := [], returnType := none }, accessFlags := 1, code := none }
def k1c1 : Code := { maxStack := 4, maxLocals := 5, code := method_2_code, exceptionTable := #[], attributes := #[] }
def k1m1 : Method := { name := "fill", desc := "(Lcom/example/tenet/tenet/term/Slots;IIILcom/example/tenet/tenet/term/Term;)V", sig := { parameters := [(.object "com/example/tenet/tenet/term/Slots"), .int, .int, .int, (.object "com/example/tenet/tenet/term/Term")], returnType := none }, accessFlags := 10, code := some k1c1 }
def k1c2 : Code := { maxStack := 2, maxLocals := 12, code := method_3_code, exceptionTable := #[], attributes := #[] }
def k1m2 : Method := { name := "slotOk", desc := "(Lcom/example/tenet/tenet/term/Slots;IIILcom/example/tenet/tenet/term/Term;II)Z", sig := { parameters := [(.object "com/example/tenet/tenet/term/Slots"), .int, .int, .int, (.object "com/example/tenet/tenet/term/Term"), .int, .int], returnType := some .boolean }, accessFlags := 10, code := some k1c2 }
def k1c3 : Code := { maxStack := 7, maxLocals := 16, code := code, exceptionTable := #[], attributes := #[] }
def k1m3 : Method := { name := "law", desc := "(IIIIJ)Z", sig := { parameters := [.int, .int, .int, .int, .long], returnType := some .boolean }, accessFlags := 9, code := some k1c3 }
/-- com/example/tenet/tenet/term/SlotsClearPinLaw -/
def k1 : Class := { plain "com/example/tenet/tenet/term/SlotsClearPinLaw" (some 0) with
  accessFlags := 49
  interfaces := #[]
  cf := some (fileOf pool1 38 #[] #[{ accessFlags := 1, nameIndex := 5, descriptorIndex := 6, attributes := #[] }, { accessFlags := 10, nameIndex := 41, descriptorIndex := 42, attributes := #[] }, { accessFlags := 10, nameIndex := 49, descriptorIndex := 50, attributes := #[] }, { accessFlags := 9, nameIndex := 54, descriptorIndex := 55, attributes := #[] }] 49 2 #[] #[])
  fields := #[]
  methods := #[k1m0, k1m1, k1m2, k1m3]
  instanceTypes := #[]
  staticTypes := #[]
  resolved := Array.replicate 58 none
  statics := none }

def pool2 : Array CpInfo := pool [(1, .methodref 2 3), (0, .class_ 4), (0, .nameAndType 5 6), (0, u "java/lang/Object"), (0, u "<init>"), (0, u "()V"), (7, .class_ 16), (1, u "com/example/tenet/tenet/term/Term"), (0, u "NO_TERMS"), (0, u "[Lcom/example/tenet/tenet/term/Term;"), (4, u "NOT_A_NODE"), (0, u "I")] 38

def k2c0 : Code := { maxStack := 1, maxLocals := 1, code := prog_147_method_1_code, exceptionTable := #[], attributes := #[] }
def k2m0 : Method := { name := "<init>", desc := "()V", sig := { parameters := [], returnType := none }, accessFlags := 0, code := some k2c0 }
/-- com/example/tenet/tenet/term/Term -/
def k2 : Class := { plain "com/example/tenet/tenet/term/Term" (some 0) with
  accessFlags := 1057
  interfaces := #[]
  cf := some (fileOf pool2 14 #[] #[{ accessFlags := 0, nameIndex := 5, descriptorIndex := 6, attributes := #[] }] 1057 2 #[] #[{ accessFlags := 25, nameIndex := 23, descriptorIndex := 24, attributes := #[] }, { accessFlags := 24, nameIndex := 17, descriptorIndex := 18, attributes := #[] }])
  fields := #[{ name := "NOT_A_NODE", type := .int, accessFlags := 25, slot := 0, constantValue := 0 }, { name := "NO_TERMS", type := (.array (.object "com/example/tenet/tenet/term/Term")), accessFlags := 24, slot := 1, constantValue := 0 }]
  methods := #[k2m0]
  instanceTypes := #[]
  staticTypes := #[.int, (.array (.object "com/example/tenet/tenet/term/Term"))]
  resolved := Array.replicate 63 none
  statics := none }

def pool3 : Array CpInfo := pool [(1, .methodref 2 3), (0, .class_ 4), (0, .nameAndType 5 6), (0, u "com/example/tenet/tenet/term/Term"), (0, u "<init>"), (0, u "()V"), (0, .fieldref 8 9), (0, .class_ 10), (0, .nameAndType 11 12), (0, u "com/example/tenet/tenet/term/IntTerm"), (0, u "value"), (0, u "J"), (0, .fieldref 8 14), (0, .nameAndType 15 16), (0, u "index"), (0, u "I"), (0, .methodref 8 18), (0, .nameAndType 5 19), (0, u "(JI)V"), (8, u "of"), (0, u "(J)Lcom/example/tenet/tenet/term/IntTerm;")] 10

def k3c0 : Code := { maxStack := 3, maxLocals := 4, code := prog_133_method_1_code, exceptionTable := #[], attributes := #[] }
def k3m0 : Method := { name := "<init>", desc := "(JI)V", sig := { parameters := [.long, .int], returnType := none }, accessFlags := 0, code := some k3c0 }
def k3c1 : Code := { maxStack := 5, maxLocals := 2, code := prog_133_method_2_code, exceptionTable := #[], attributes := #[] }
def k3m1 : Method := { name := "of", desc := "(J)Lcom/example/tenet/tenet/term/IntTerm;", sig := { parameters := [.long], returnType := some (.object "com/example/tenet/tenet/term/IntTerm") }, accessFlags := 9, code := some k3c1 }
/-- com/example/tenet/tenet/term/IntTerm -/
def k3 : Class := { plain "com/example/tenet/tenet/term/IntTerm" (some 2) with
  accessFlags := 49
  interfaces := #[]
  cf := some (fileOf pool3 8 #[] #[{ accessFlags := 0, nameIndex := 5, descriptorIndex := 19, attributes := #[] }, { accessFlags := 9, nameIndex := 28, descriptorIndex := 29, attributes := #[] }] 49 2 #[] #[{ accessFlags := 18, nameIndex := 11, descriptorIndex := 12, attributes := #[] }, { accessFlags := 18, nameIndex := 15, descriptorIndex := 16, attributes := #[] }])
  fields := #[{ name := "value", type := .long, accessFlags := 18, slot := 0, constantValue := 0 }, { name := "index", type := .int, accessFlags := 18, slot := 1, constantValue := 0 }]
  methods := #[k3m0, k3m1]
  instanceTypes := #[.long, .int]
  staticTypes := #[]
  resolved := Array.replicate 40 none
  statics := none }

def pool4 : Array CpInfo := pool [(1, .methodref 2 3), (0, .class_ 4), (0, .nameAndType 5 6), (0, u "com/example/tenet/tenet/term/Slots"), (0, u "<init>"), (0, u "(ILcom/example/tenet/tenet/term/Tree;)V"), (0, .methodref 8 9), (0, .class_ 10), (0, .nameAndType 5 11), (0, u "java/lang/Object"), (0, u "()V"), (0, .class_ 13), (0, u "com/example/tenet/tenet/term/Term"), (0, .fieldref 2 15), (0, .nameAndType 16 17), (0, u "terms"), (0, u "[Lcom/example/tenet/tenet/term/Term;"), (0, .fieldref 2 19), (0, .nameAndType 20 21), (0, u "nodes"), (0, u "[I"), (0, .fieldref 2 23), (0, .nameAndType 24 25), (0, u "tree"), (0, u "Lcom/example/tenet/tenet/term/Tree;"), (0, .methodref 27 28), (0, .class_ 29), (0, .nameAndType 30 31), (0, u "java/util/Arrays"), (0, u "fill"), (0, u "([II)V"), (5, u "(I)Lcom/example/tenet/tenet/term/Term;"), (0, .methodref 2 39), (0, .nameAndType 40 41), (0, u "set"), (0, u "(ILcom/example/tenet/tenet/term/Term;)V"), (2, u "setNode"), (0, u "(ILcom/example/tenet/tenet/term/Tree;I)V"), (5, u "get"), (0, u "(I)V"), (6, u "node"), (0, u "(I)I"), (0, u "clear"), (0, u "(II)V")] 7

def k4c0 : Code := { maxStack := 3, maxLocals := 2, code := prog_144_method_1_code, exceptionTable := #[], attributes := #[] }
def k4m0 : Method := { name := "<init>", desc := "(I)V", sig := { parameters := [.int], returnType := none }, accessFlags := 1, code := some k4c0 }
def k4c1 : Code := { maxStack := 2, maxLocals := 3, code := prog_144_method_2_code, exceptionTable := #[], attributes := #[] }
def k4m1 : Method := { name := "<init>", desc := "(ILcom/example/tenet/tenet/term/Tree;)V", sig := { parameters := [.int, (.object "com/example/tenet/tenet/term/Tree")], returnType := none }, accessFlags := 1, code := some k4c1 }
def k4c2 : Code := { maxStack := 2, maxLocals := 3, code := prog_144_method_5_code, exceptionTable := #[], attributes := #[] }
def k4m2 : Method := { name := "get", desc := "(I)Lcom/example/tenet/tenet/term/Term;", sig := { parameters := [.int], returnType := some (.object "com/example/tenet/tenet/term/Term") }, accessFlags := 1, code := some k4c2 }
def k4c3 : Code := { maxStack := 2, maxLocals := 2, code := prog_144_method_6_code, exceptionTable := #[], attributes := #[] }
def k4m3 : Method := { name := "node", desc := "(I)I", sig := { parameters := [.int], returnType := some .int }, accessFlags := 1, code := some k4c3 }
def k4c4 : Code := { maxStack := 3, maxLocals := 3, code := prog_144_method_7_code, exceptionTable := #[], attributes := #[] }
def k4m4 : Method := { name := "set", desc := "(ILcom/example/tenet/tenet/term/Term;)V", sig := { parameters := [.int, (.object "com/example/tenet/tenet/term/Term")], returnType := none }, accessFlags := 1, code := some k4c4 }
def k4c5 : Code := { maxStack := 4, maxLocals := 4, code := prog_144_method_9_code, exceptionTable := #[], attributes := #[] }
def k4m5 : Method := { name := "setNode", desc := "(ILcom/example/tenet/tenet/term/Tree;I)V", sig := { parameters := [.int, (.object "com/example/tenet/tenet/term/Tree"), .int], returnType := none }, accessFlags := 1, code := some k4c5 }
def k4c6 : Code := { maxStack := 3, maxLocals := 4, code := prog_144_method_10_code, exceptionTable := #[], attributes := #[] }
def k4m6 : Method := { name := "clear", desc := "(II)V", sig := { parameters := [.int, .int], returnType := none }, accessFlags := 1, code := some k4c6 }
/-- com/example/tenet/tenet/term/Slots -/
def k4 : Class := { plain "com/example/tenet/tenet/term/Slots" (some 0) with
  accessFlags := 49
  interfaces := #[]
  cf := some (fileOf pool4 2 #[] #[{ accessFlags := 1, nameIndex := 5, descriptorIndex := 52, attributes := #[] }, { accessFlags := 1, nameIndex := 5, descriptorIndex := 6, attributes := #[] }, { accessFlags := 1, nameIndex := 51, descriptorIndex := 37, attributes := #[] }, { accessFlags := 1, nameIndex := 59, descriptorIndex := 60, attributes := #[] }, { accessFlags := 1, nameIndex := 40, descriptorIndex := 41, attributes := #[] }, { accessFlags := 1, nameIndex := 44, descriptorIndex := 45, attributes := #[] }, { accessFlags := 1, nameIndex := 61, descriptorIndex := 62, attributes := #[] }] 49 8 #[] #[{ accessFlags := 18, nameIndex := 16, descriptorIndex := 17, attributes := #[] }, { accessFlags := 18, nameIndex := 20, descriptorIndex := 21, attributes := #[] }, { accessFlags := 18, nameIndex := 24, descriptorIndex := 25, attributes := #[] }])
  fields := #[{ name := "terms", type := (.array (.object "com/example/tenet/tenet/term/Term")), accessFlags := 18, slot := 0, constantValue := 0 }, { name := "nodes", type := (.array .int), accessFlags := 18, slot := 1, constantValue := 0 }, { name := "tree", type := (.object "com/example/tenet/tenet/term/Tree"), accessFlags := 18, slot := 2, constantValue := 0 }]
  methods := #[k4m0, k4m1, k4m2, k4m3, k4m4, k4m5, k4m6]
  instanceTypes := #[(.array (.object "com/example/tenet/tenet/term/Term")), (.array .int), (.object "com/example/tenet/tenet/term/Tree")]
  staticTypes := #[]
  resolved := Array.replicate 70 none
  statics := none }

def pool5 : Array CpInfo := pool [(2, .class_ 4), (1, u "java/lang/Object"), (0, u "<init>"), (0, u "()V"), (7, .class_ 16), (1, u "java/util/Arrays"), (57, .class_ 76), (1, u "java/util/Arrays$NaturalOrder"), (36, .class_ 115), (1, u "java/util/Arrays$LegacyMergeSort"), (1, u "Z"), (257, .class_ 376), (0, u "java/util/Arrays$ArrayList"), (68, u "$assertionsDisabled"), (269, u "MIN_ARRAY_SORT_GRAN"), (0, u "I"), (2, u "INSERTIONSORT_THRESHOLD"), (120, u "fill"), (4, u "([II)V"), (129, .class_ 976), (0, u "java/util/Arrays$ArrayItr")] 52

def k5m0 : Method := { name := "<init>", desc := "()V", sig := { parameters := [], returnType := none }, accessFlags := 2, code := none }
def k5c1 : Code := { maxStack := 3, maxLocals := 4, code := jdk_65_method_103_code, exceptionTable := #[], attributes := #[] }
def k5m1 : Method := { name := "fill", desc := "([II)V", sig := { parameters := [(.array .int), .int], returnType := none }, accessFlags := 9, code := some k5c1 }
/-- java/util/Arrays -/
def k5 : Class := { plain "java/util/Arrays" (some 0) with
  accessFlags := 49
  interfaces := #[]
  cf := some (fileOf pool5 14 #[.nestMembers #[975, 375, 113, 74]] #[{ accessFlags := 2, nameIndex := 5, descriptorIndex := 6, attributes := #[] }, { accessFlags := 9, nameIndex := 840, descriptorIndex := 845, attributes := #[] }] 49 2 #[] #[{ accessFlags := 26, nameIndex := 715, descriptorIndex := 716, attributes := #[] }, { accessFlags := 26, nameIndex := 719, descriptorIndex := 716, attributes := #[] }, { accessFlags := 4120, nameIndex := 445, descriptorIndex := 117, attributes := #[] }])
  fields := #[{ name := "MIN_ARRAY_SORT_GRAN", type := .int, accessFlags := 26, slot := 0, constantValue := 0 }, { name := "INSERTIONSORT_THRESHOLD", type := .int, accessFlags := 26, slot := 1, constantValue := 0 }, { name := "$assertionsDisabled", type := .boolean, accessFlags := 4120, slot := 2, constantValue := 0 }]
  methods := #[k5m0, k5m1]
  instanceTypes := #[]
  staticTypes := #[.int, .int, .boolean]
  resolved := Array.replicate 1029 none
  statics := none }

def pool6 : Array CpInfo := pool [(1, u "java/lang/Cloneable"), (0, .class_ 1), (0, u "java/lang/Object"), (0, .class_ 3)] 3

/-- java/lang/Cloneable -/
def k6 : Class := { plain "java/lang/Cloneable" (some 0) with
  accessFlags := 1537
  interfaces := #[]
  cf := some (fileOf pool6 2 #[] #[] 1537 4 #[] #[])
  fields := #[]
  methods := #[]
  instanceTypes := #[]
  staticTypes := #[]
  resolved := Array.replicate 8 none
  statics := none }

def pool7 : Array CpInfo := pool [(1, u "java/io/Serializable"), (0, .class_ 1), (0, u "java/lang/Object"), (0, .class_ 3)] 3

/-- java/io/Serializable -/
def k7 : Class := { plain "java/io/Serializable" (some 0) with
  accessFlags := 1537
  interfaces := #[]
  cf := some (fileOf pool7 2 #[] #[] 1537 4 #[] #[])
  fields := #[]
  methods := #[]
  instanceTypes := #[]
  staticTypes := #[]
  resolved := Array.replicate 8 none
  statics := none }

/-- the primitive byte -/
def k8 : Class := { plain "byte" none with kind := .primitive 'B', accessFlags := 0x411 }
/-- [B -/
def k9 : Class := { plain "[B" (some 0) with kind := .array 8 .byte, interfaces := #[6, 7], accessFlags := 1041 }

/-- the primitive int -/
def k10 : Class := { plain "int" none with kind := .primitive 'I', accessFlags := 0x411 }
/-- [I -/
def k11 : Class := { plain "[I" (some 0) with kind := .array 10 .int, interfaces := #[6, 7], accessFlags := 1041 }

/-- [Lcom/example/tenet/tenet/term/Term; -/
def k12 : Class := { plain "[Lcom/example/tenet/tenet/term/Term;" (some 0) with kind := .array 2 (.object "com/example/tenet/tenet/term/Term"), interfaces := #[6, 7], accessFlags := 1041 }

def heap : Heap := #[]
def classes : Array Class := #[k0, k1, k2, k3, k4, k5, k6, k7, k8, k9, k10, k11, k12]
def interned : List (Array UInt16 × Addr) := []
def slotsUsed : Nat := 0
def theMethod : MethodId := ⟨1, 3⟩
def args0 : Array Value := #[.int 1, .int 2, .int 6, .int 7, .long 9]
def aboutOver (below : List Frame) : State where
  vm := { classes := classes, interned := interned.toArray }
  heap := heap
  slotsUsed := slotsUsed
  threads := #[{ frames := .invoking theMethod args0 :: below }]
def below0 : List Frame := [.native { method := ⟨0, 0⟩, args := #[] }]
def about1 : State := aboutOver below0
def p0 : Program := .bare "" "" ""
def e0 : Env := launch0.env 0 0 0
theorem w_frames : about1.frames = Frame.invoking theMethod args0 :: below0 := rfl
set_option maxRecDepth 65536 in
theorem w_args : argsFit about1.vm theMethod args0 = true := by decide +kernel
set_option maxRecDepth 65536 in
theorem w_heap : heapFits about1 = true := by decide +kernel
set_option maxRecDepth 65536 in
theorem w_runnable : about1.curStatus? = some .runnable := by decide +kernel
set_option maxRecDepth 65536 in
theorem w_alone : about1.alone = true := by decide +kernel
set_option maxRecDepth 65536 in
theorem w_named : about1.methodNamed? x = some theMethod := by decide +kernel
set_option maxRecDepth 65536 in
theorem w_hears : about1.hears theMethod below0 = true := by decide +kernel
set_option maxRecDepth 65536 in
theorem w_ripe : about1.ripe theMethod args0 below0 = true := by decide +kernel
theorem w_running : about1.status = .running := rfl
set_option maxRecDepth 65536 in
theorem w_room : about1.hasRoom e0.platform room_1 = true :=
  launch0.hasRoom_least _ room_1 (by decide +kernel) (by decide +kernel) (by decide +kernel) (by decide +kernel) (by decide +kernel) (by decide +kernel)
theorem allAtoms_all (ts : List Jvm.Cond) (a : Array Jvm.Value) (st : Jvm.State) : (allAtoms ts).before a st = ts.all (fun c => c.before a st) := by
  induction ts with
  | nil => rfl
  | cons c t ih =>
    show (Jvm.Cond.and c (allAtoms t)).before a st = _
    rw [Jvm.Cond.before_and, ih, List.all_cons]
def words1 : List Jvm.Cond := Jvm.Cond.code x code maxLocals ret :: tables_1
/-- a 'code' word, met by the world's own term for the bytes: nothing is compared byte by byte -/
theorem code_word {y : MethodName} {bytes : ByteArray} {mx : Nat} {rt : Option FieldType} {a : Array Value} {s : State} {m : MethodId} {meth : Method} {c : Code} (h1 : s.methodNamed? y = some m) (h2 : s.vm.method? m = some meth) (h3 : meth.code = some c) (h4 : c.code = bytes)
    (h5 : (c.maxLocals == mx && c.exceptionTable.isEmpty && decide (c.maxStack ≤ mostOperands) && decide (meth.sig.returnType = rt) && !meth.locks && decide (parseMethodDescriptor y.desc = some meth.sig)) = true) : (Jvm.Cond.code y bytes mx rt).before a s = true := by
  simp only [Bool.and_eq_true, beq_iff_eq, Bool.not_eq_true', decide_eq_true_eq] at h5
  obtain ⟨⟨⟨⟨⟨g1, g2⟩, g3⟩, g4⟩, g5⟩, g6⟩ := h5
  simp [Cond.before, Cond.holds, Cond.value, h1, h2, h3, h4, g1, g2, g3, g4, g5, g6]
def isCode : Jvm.Cond → Bool
  | .code _ _ _ _ => true
  | _ => false
theorem all_split {L : List Jvm.Cond} {P : Jvm.Cond → Bool} (h1 : L.all (fun c => isCode c || P c) = true) (h2 : ∀ c ∈ L.filter isCode, P c = true) : L.all P = true := by
  refine List.all_eq_true.mpr fun c hc => ?_
  have h := List.all_eq_true.mp h1 c hc
  rcases Bool.eq_false_or_eq_true (isCode c) with hi | hi
  · exact h2 c (List.mem_filter.mpr ⟨hc, hi⟩)
  · simpa [hi] using h
set_option maxRecDepth 65536 in
theorem w_c0 : (Jvm.Cond.code x code maxLocals ret).before args0 about1 = true := code_word (m := ⟨1, 3⟩) (meth := k1m3) (c := k1c3) (by decide +kernel) rfl rfl rfl (by decide +kernel)
set_option maxRecDepth 65536 in
theorem w_c1 : (Jvm.Cond.code ({ cls := "com/example/tenet/tenet/term/IntTerm", name := "of", desc := "(J)Lcom/example/tenet/tenet/term/IntTerm;" } : Jvm.MethodName) prog_133_method_2_code (2 : Nat) (Option.some (Jvm.ClassFile.FieldType.object "com/example/tenet/tenet/term/IntTerm"))).before args0 about1 = true := code_word (m := ⟨3, 1⟩) (meth := k3m1) (c := k3c1) (by decide +kernel) rfl rfl rfl (by decide +kernel)
set_option maxRecDepth 65536 in
theorem w_c2 : (Jvm.Cond.code ({ cls := "com/example/tenet/tenet/term/IntTerm", name := "<init>", desc := "(JI)V" } : Jvm.MethodName) prog_133_method_1_code (4 : Nat) (Option.none : Option Jvm.ClassFile.FieldType)).before args0 about1 = true := code_word (m := ⟨3, 0⟩) (meth := k3m0) (c := k3c0) (by decide +kernel) rfl rfl rfl (by decide +kernel)
set_option maxRecDepth 65536 in
theorem w_c3 : (Jvm.Cond.code ({ cls := "com/example/tenet/tenet/term/Term", name := "<init>", desc := "()V" } : Jvm.MethodName) prog_147_method_1_code (1 : Nat) (Option.none : Option Jvm.ClassFile.FieldType)).before args0 about1 = true := code_word (m := ⟨2, 0⟩) (meth := k2m0) (c := k2c0) (by decide +kernel) rfl rfl rfl (by decide +kernel)
set_option maxRecDepth 65536 in
theorem w_c4 : (Jvm.Cond.code ({ cls := "java/lang/Object", name := "<init>", desc := "()V" } : Jvm.MethodName) object_method_1_code (1 : Nat) (Option.none : Option Jvm.ClassFile.FieldType)).before args0 about1 = true := code_word (m := ⟨0, 0⟩) (meth := k0m0) (c := k0c0) (by decide +kernel) rfl rfl rfl (by decide +kernel)
set_option maxRecDepth 65536 in
theorem w_c5 : (Jvm.Cond.code ({ cls := "com/example/tenet/tenet/term/Slots", name := "<init>", desc := "(I)V" } : Jvm.MethodName) prog_144_method_1_code (2 : Nat) (Option.none : Option Jvm.ClassFile.FieldType)).before args0 about1 = true := code_word (m := ⟨4, 0⟩) (meth := k4m0) (c := k4c0) (by decide +kernel) rfl rfl rfl (by decide +kernel)
set_option maxRecDepth 65536 in
theorem w_c6 : (Jvm.Cond.code ({ cls := "com/example/tenet/tenet/term/Slots", name := "<init>", desc := "(ILcom/example/tenet/tenet/term/Tree;)V" } : Jvm.MethodName) prog_144_method_2_code (3 : Nat) (Option.none : Option Jvm.ClassFile.FieldType)).before args0 about1 = true := code_word (m := ⟨4, 1⟩) (meth := k4m1) (c := k4c1) (by decide +kernel) rfl rfl rfl (by decide +kernel)
set_option maxRecDepth 65536 in
theorem w_c7 : (Jvm.Cond.code ({ cls := "java/util/Arrays", name := "fill", desc := "([II)V" } : Jvm.MethodName) jdk_65_method_103_code (4 : Nat) (Option.none : Option Jvm.ClassFile.FieldType)).before args0 about1 = true := code_word (m := ⟨5, 1⟩) (meth := k5m1) (c := k5c1) (by decide +kernel) rfl rfl rfl (by decide +kernel)
set_option maxRecDepth 65536 in
theorem w_c8 : (Jvm.Cond.code ({ cls := "com/example/tenet/tenet/term/SlotsClearPinLaw", name := "fill", desc := "(Lcom/example/tenet/tenet/term/Slots;IIILcom/example/tenet/tenet/term/Term;)V" } : Jvm.MethodName) method_2_code (5 : Nat) (Option.none : Option Jvm.ClassFile.FieldType)).before args0 about1 = true := code_word (m := ⟨1, 1⟩) (meth := k1m1) (c := k1c1) (by decide +kernel) rfl rfl rfl (by decide +kernel)
set_option maxRecDepth 65536 in
theorem w_c9 : (Jvm.Cond.code ({ cls := "com/example/tenet/tenet/term/Slots", name := "setNode", desc := "(ILcom/example/tenet/tenet/term/Tree;I)V" } : Jvm.MethodName) prog_144_method_9_code (4 : Nat) (Option.none : Option Jvm.ClassFile.FieldType)).before args0 about1 = true := code_word (m := ⟨4, 5⟩) (meth := k4m5) (c := k4c5) (by decide +kernel) rfl rfl rfl (by decide +kernel)
set_option maxRecDepth 65536 in
theorem w_c10 : (Jvm.Cond.code ({ cls := "com/example/tenet/tenet/term/Slots", name := "clear", desc := "(II)V" } : Jvm.MethodName) prog_144_method_10_code (4 : Nat) (Option.none : Option Jvm.ClassFile.FieldType)).before args0 about1 = true := code_word (m := ⟨4, 6⟩) (meth := k4m6) (c := k4c6) (by decide +kernel) rfl rfl rfl (by decide +kernel)
set_option maxRecDepth 65536 in
theorem w_c11 : (Jvm.Cond.code ({ cls := "com/example/tenet/tenet/term/SlotsClearPinLaw", name := "slotOk", desc := "(Lcom/example/tenet/tenet/term/Slots;IIILcom/example/tenet/tenet/term/Term;II)Z" } : Jvm.MethodName) method_3_code (12 : Nat) (Option.some Jvm.ClassFile.FieldType.boolean)).before args0 about1 = true := code_word (m := ⟨1, 2⟩) (meth := k1m2) (c := k1c2) (by decide +kernel) rfl rfl rfl (by decide +kernel)
set_option maxRecDepth 65536 in
theorem w_c12 : (Jvm.Cond.code ({ cls := "com/example/tenet/tenet/term/Slots", name := "node", desc := "(I)I" } : Jvm.MethodName) prog_144_method_6_code (2 : Nat) (Option.some Jvm.ClassFile.FieldType.int)).before args0 about1 = true := code_word (m := ⟨4, 3⟩) (meth := k4m3) (c := k4c3) (by decide +kernel) rfl rfl rfl (by decide +kernel)
set_option maxRecDepth 65536 in
theorem w_c13 : (Jvm.Cond.code ({ cls := "com/example/tenet/tenet/term/Slots", name := "get", desc := "(I)Lcom/example/tenet/tenet/term/Term;" } : Jvm.MethodName) prog_144_method_5_code (3 : Nat) (Option.some (Jvm.ClassFile.FieldType.object "com/example/tenet/tenet/term/Term"))).before args0 about1 = true := code_word (m := ⟨4, 2⟩) (meth := k4m2) (c := k4c2) (by decide +kernel) rfl rfl rfl (by decide +kernel)
set_option maxRecDepth 65536 in
theorem w_c14 : (Jvm.Cond.code ({ cls := "com/example/tenet/tenet/term/Slots", name := "set", desc := "(ILcom/example/tenet/tenet/term/Term;)V" } : Jvm.MethodName) prog_144_method_7_code (3 : Nat) (Option.none : Option Jvm.ClassFile.FieldType)).before args0 about1 = true := code_word (m := ⟨4, 4⟩) (meth := k4m4) (c := k4c4) (by decide +kernel) rfl rfl rfl (by decide +kernel)
def codes1 : List Jvm.Cond := [Jvm.Cond.code x code maxLocals ret, Jvm.Cond.code ({ cls := "com/example/tenet/tenet/term/IntTerm", name := "of", desc := "(J)Lcom/example/tenet/tenet/term/IntTerm;" } : Jvm.MethodName) prog_133_method_2_code (2 : Nat) (Option.some (Jvm.ClassFile.FieldType.object "com/example/tenet/tenet/term/IntTerm")), Jvm.Cond.code ({ cls := "com/example/tenet/tenet/term/IntTerm", name := "<init>", desc := "(JI)V" } : Jvm.MethodName) prog_133_method_1_code (4 : Nat) (Option.none : Option Jvm.ClassFile.FieldType), Jvm.Cond.code ({ cls := "com/example/tenet/tenet/term/Term", name := "<init>", desc := "()V" } : Jvm.MethodName) prog_147_method_1_code (1 : Nat) (Option.none : Option Jvm.ClassFile.FieldType), Jvm.Cond.code ({ cls := "java/lang/Object", name := "<init>", desc := "()V" } : Jvm.MethodName) object_method_1_code (1 : Nat) (Option.none : Option Jvm.ClassFile.FieldType), Jvm.Cond.code ({ cls := "com/example/tenet/tenet/term/Slots", name := "<init>", desc := "(I)V" } : Jvm.MethodName) prog_144_method_1_code (2 : Nat) (Option.none : Option Jvm.ClassFile.FieldType), Jvm.Cond.code ({ cls := "com/example/tenet/tenet/term/Slots", name := "<init>", desc := "(ILcom/example/tenet/tenet/term/Tree;)V" } : Jvm.MethodName) prog_144_method_2_code (3 : Nat) (Option.none : Option Jvm.ClassFile.FieldType), Jvm.Cond.code ({ cls := "java/util/Arrays", name := "fill", desc := "([II)V" } : Jvm.MethodName) jdk_65_method_103_code (4 : Nat) (Option.none : Option Jvm.ClassFile.FieldType), Jvm.Cond.code ({ cls := "com/example/tenet/tenet/term/SlotsClearPinLaw", name := "fill", desc := "(Lcom/example/tenet/tenet/term/Slots;IIILcom/example/tenet/tenet/term/Term;)V" } : Jvm.MethodName) method_2_code (5 : Nat) (Option.none : Option Jvm.ClassFile.FieldType), Jvm.Cond.code ({ cls := "com/example/tenet/tenet/term/Slots", name := "setNode", desc := "(ILcom/example/tenet/tenet/term/Tree;I)V" } : Jvm.MethodName) prog_144_method_9_code (4 : Nat) (Option.none : Option Jvm.ClassFile.FieldType), Jvm.Cond.code ({ cls := "com/example/tenet/tenet/term/Slots", name := "clear", desc := "(II)V" } : Jvm.MethodName) prog_144_method_10_code (4 : Nat) (Option.none : Option Jvm.ClassFile.FieldType), Jvm.Cond.code ({ cls := "com/example/tenet/tenet/term/SlotsClearPinLaw", name := "slotOk", desc := "(Lcom/example/tenet/tenet/term/Slots;IIILcom/example/tenet/tenet/term/Term;II)Z" } : Jvm.MethodName) method_3_code (12 : Nat) (Option.some Jvm.ClassFile.FieldType.boolean), Jvm.Cond.code ({ cls := "com/example/tenet/tenet/term/Slots", name := "node", desc := "(I)I" } : Jvm.MethodName) prog_144_method_6_code (2 : Nat) (Option.some Jvm.ClassFile.FieldType.int), Jvm.Cond.code ({ cls := "com/example/tenet/tenet/term/Slots", name := "get", desc := "(I)Lcom/example/tenet/tenet/term/Term;" } : Jvm.MethodName) prog_144_method_5_code (3 : Nat) (Option.some (Jvm.ClassFile.FieldType.object "com/example/tenet/tenet/term/Term")), Jvm.Cond.code ({ cls := "com/example/tenet/tenet/term/Slots", name := "set", desc := "(ILcom/example/tenet/tenet/term/Term;)V" } : Jvm.MethodName) prog_144_method_7_code (3 : Nat) (Option.none : Option Jvm.ClassFile.FieldType)]
set_option maxRecDepth 65536 in
theorem codes_eq : words1.filter isCode = codes1 := rfl
theorem w_codes : ∀ c ∈ words1.filter isCode, c.before args0 about1 = true := by
  rw [codes_eq]
  intro c hc
  simp only [codes1, List.mem_cons, List.not_mem_nil, or_false] at hc
  rcases hc with rfl | rfl | rfl | rfl | rfl | rfl | rfl | rfl | rfl | rfl | rfl | rfl | rfl | rfl | rfl
  · exact w_c0
  · exact w_c1
  · exact w_c2
  · exact w_c3
  · exact w_c4
  · exact w_c5
  · exact w_c6
  · exact w_c7
  · exact w_c8
  · exact w_c9
  · exact w_c10
  · exact w_c11
  · exact w_c12
  · exact w_c13
  · exact w_c14
set_option maxRecDepth 65536 in
theorem w_t1 : (words1.take 24).all (fun c => isCode c || c.before args0 about1) = true := by decide +kernel
set_option maxRecDepth 65536 in
theorem w_t2 : ((words1.drop 24).take 24).all (fun c => isCode c || c.before args0 about1) = true := by decide +kernel
set_option maxRecDepth 65536 in
theorem w_t3 : (((words1.drop 24).drop 24).take 24).all (fun c => isCode c || c.before args0 about1) = true := by decide +kernel
set_option maxRecDepth 65536 in
theorem w_t4 : (((words1.drop 24).drop 24).drop 24).all (fun c => isCode c || c.before args0 about1) = true := by decide +kernel
theorem w_tables : (allAtoms (Jvm.Cond.code x code maxLocals ret :: tables_1)).before args0 about1 = true := by
  rw [allAtoms_all]
  show words1.all (fun c => c.before args0 about1) = true
  refine all_split ?_ w_codes
  rw [← List.take_append_drop 24 words1, List.all_append, w_t1, ← List.take_append_drop 24 (words1.drop 24), List.all_append, w_t2, ← List.take_append_drop 24 ((words1.drop 24).drop 24), List.all_append, w_t3, w_t4]
  rfl
set_option maxRecDepth 65536 in
theorem w_case : (Jvm.Cond.and given_1 narrow_1).before args0 about1 = true := by decide +kernel
theorem w_applies : (headSpec (Jvm.Cond.code x code maxLocals ret :: tables_1) room_1).applies x e0.platform about1 = true :=
  (Spec.applies_iff w_frames).mpr ⟨w_running, w_runnable, w_alone, w_named, w_hears, w_ripe, w_room, w_tables⟩
theorem atStart : AtStart classFile x code maxLocals ret World_1 tables_1 room_1 Calls_1 rest_1 Pre_1 launch0 p0 e0 about1 theMethod args0 below0 :=
  ⟨lists_1, trivial, launch0.admits_env _ _ _, launch0.least_env, fairChoices_fair.cas, fairChoices_fair.clock, w_frames, w_args, w_heap, w_applies, trivial, trivial, w_case⟩
end start1
theorem witness_1 : WitnessClaimed_1 := ⟨start1.p0, start1.e0, start1.about1, start1.theMethod, start1.args0, start1.below0, start1.atStart⟩
end Jvm.Pilot.@@N@@
