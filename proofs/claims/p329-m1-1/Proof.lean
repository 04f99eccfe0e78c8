import JvmDerived
import JvmDerived.Pilot.@@N@@Statement
import JvmDerived.Pilot.@@N@@Code
set_option linter.unusedVariables false
set_option linter.unusedSimpArgs false
namespace Jvm.RoadKit
open Sem ClassFile Op Lib Jvm.Stand Jvm.Free Jvm.LawKit
section New
variable {p : Program} {l : Launch} {e : Env} {R : Room} {s : State} {m : MethodId} {args : Array Value} {below : List Frame} {meth : Method} {c : Code} {T : State} {locs : List Loc} {cells slots : Nat}
theorem retI (X : Stand p l e R s m args below meth c T locs cells slots) (hx : p.tables.exec = Jvm.exec) {pc : Nat} {Ls : Array Slot} {z : Int32} {rest : List Value} (hret : meth.sig.returnType = some .int) (hd : decode c.code pc = .ok (.ireturn, 1)) {fs : List Frame}
    (hl : ∀ (f : JFrame) (acts : List Action), f.method = m → f.locked = none → f.entered = [] → (doReturn e (T.setTop f) acts (some (.int z))).1 = T.setFrames fs) : Steps p.tables e below (T.setTop (mkF m pc Ls (.int z :: rest))) (T.setFrames fs) := by
  have hm' : T.vm.method? m = some meth := X.method'
  have hn : narrow .int (.int z) = .int z := rfl
  show Steps p.tables e below (T.setTop { method := m, pc := pc, locals := Ls, stack := _ :: rest, locked := none }) _
  jvm_step X.here [X.here.top, hx, hd, hm', hret, hn]
  first | (intro acts; rw [hl _ acts rfl rfl rfl]) | rw [hl _ _ rfl rfl rfl]
  exact Steps.refl _
end New
end Jvm.RoadKit
namespace Jvm.Pilot.@@N@@
open Jvm Jvm.ClassFile Sem Op Lib Jvm.Free Jvm.Stand Jvm.LawKit Jvm.RoadKit Bundle Jvm.Pilot.@@N@@.Jvm.D
def own_Obj (Z : State) (h : Heap) (a : Addr) (w0 w1 w2 w3 : Int32) : Prop := Exa Z h a "com/example/bridgework/bridgework/model/CorrespondenceUse" ∧ Fld Z h a "com/example/bridgework/bridgework/model/CorrespondenceUse" "used" "I" (.int w0) ∧ Fld Z h a "com/example/bridgework/bridgework/model/CorrespondenceUse" "notBetweenNamedClasses" "I" (.int w1) ∧ Fld Z h a "com/example/bridgework/bridgework/model/CorrespondenceUse" "unsupportedRelation" "I" (.int w2) ∧ Fld Z h a "com/example/bridgework/bridgework/model/CorrespondenceUse" "undeclaredClass" "I" (.int w3)
theorem own_Obj.ext {Z : State} {h h' : Heap} {a : Addr} {w0 w1 w2 w3 : Int32} (O : own_Obj Z h a w0 w1 w2 w3) (E : Ext h h') : own_Obj Z h' a w0 w1 w2 w3 := ⟨O.1.ext E, O.2.1.ext E, O.2.2.1.ext E, O.2.2.2.1.ext E, O.2.2.2.2.ext E⟩
theorem own_Obj.keep {Z : State} {h h' : Heap} {a : Addr} {ws : List Addr} {w0 w1 w2 w3 : Int32} (O : own_Obj Z h a w0 w1 w2 w3) (K : Keep h h' ws) (q : a ∉ ws) : own_Obj Z h' a w0 w1 w2 w3 := ⟨O.1.keep K, O.2.1.keep K q, O.2.2.1.keep K q, O.2.2.2.1.keep K q, O.2.2.2.2.keep K q⟩
theorem d2_0 : decode jdk_30_method_1_code 0 = .ok (.aload_n 0, 1) := by decide +kernel
theorem d2_1 : decode jdk_30_method_1_code 1 = .ok (.invokespecial 1, 3) := by decide +kernel
theorem d2_4 : decode jdk_30_method_1_code 4 = .ok (.return_, 1) := by decide +kernel
theorem pn_2 : plainName "java/lang/Record" = true := by first | (simp [plainName, overriddenIn]; done) | decide +kernel
theorem ef_2 (m : MethodId) (x0 : Addr) : entryFrame m #[(.ref x0)] 1 = mkF m 0 #[.val (.ref x0)] [] := by first | (simp [entryFrame, mkF, argsToLocals, Value.category]; done) | rfl
def Q2 (Z : State) (a1 : Addr) (h0 : Heap) (n0 : Nat) (v : Option Value) (h : Heap) (L : List Loc) : Prop := v = none ∧ Fr n0 L ∧ h = h0
set_option maxRecDepth 65536 in
set_option maxHeartbeats 40000000 in
theorem rm2 (l : Launch) (Z : State) (a0 : Array Value) (hw : ∀ d ∈ tables_1, d.before a0 Z = true) (ws : List Jvm.Cond) (a1 : Addr) (h0 : Heap) (n0 : Nat) (Z0 : n0 ≤ h0.size) :
    MetFree l (⟨"java/lang/Record", "<init>", "()V"⟩ : MethodName) (head1 (Jvm.Cond.code (⟨"java/lang/Record", "<init>", "()V"⟩ : MethodName) jdk_30_method_1_code 1 none :: ws) ({ frames := 1, cells := 0, slots := 0, locals := 12 } : Room)) (fun a U => a = #[(.ref a1)] ∧ Z.Warmed39 U.vm ∧ U.heap = h0) (fun _ _ _ _ _ => True) (fun _ U o U' => ∃ v L, o = .returned v ∧ Q2 Z a1 h0 n0 v U'.heap L ∧ FrameEnd U o U' L ({ frames := 1, cells := 0, slots := 0, locals := 12 } : Room).cells ({ frames := 1, cells := 0, slots := 0, locals := 12 } : Room).slots) := by
  refine MetFree.of_bodySF (plainFor_of_name pn_2) hisR ?_
  intro p e s m args below meth c s₁ Bd hml0 hP hK
  obtain ⟨rfl, hZ, hh⟩ := hP
  have hx := Bd.exec
  have hby := Bd.bytes
  have hml : c.maxLocals = 1 := hml0
  have hown : s.vm.findClass "java/lang/Record" = some m.cls := findClass_of_methodNamed Bd.named
  have hnm := (name_of_methodNamed Bd.named Bd.method).1
  have X0 : Stand p l e ({ frames := 1, cells := 0, slots := 0, locals := 12 } : Room) s m #[(.ref a1)] below meth c s₁ [] 0 0 := Stand.of_body Bd
  have e0 : s₁.heap = h0 := by rw [← hh, Bd.state]; rfl
  have N0 := Fr.nil n0
  have pre0 : ∀ t, Steps p.tables e below (s₁.setTop (mkF m 0 #[.val (.ref a1)] [])) t → Steps p.tables e below (s₁.setTop (entryFrame m #[(.ref a1)] 1)) t := fun t k => castTop (ef_2 m a1) k
  obtain ⟨T2, X2, e2, st2⟩ := initO X0 hx hZ hown (hw _ (List.mem_of_getElem? (i := 11) rfl)) (hw _ (List.mem_of_getElem? (i := 12) rfl)) (hw _ (List.mem_of_getElem? (i := 13) rfl)) e0 (g := (mkF m 1 #[.val (.ref a1)] [(.ref a1)])) rfl (by rw [hml]; rfl) rfl (hb hby d2_1) (by decide) (W := 0) (by show 2 * 0 + _ ≤ _; exact Nat.le_of_eq rfl) (by decide)
  obtain ⟨fs, hr, hrun, hended, hW, hsame⟩ := X2.leave (v := none) (fun _ => rfl)
  refine ⟨_, _, pre0 _ ?_, hrun, hended, _, _, rfl, ?_, ⟨_, rfl⟩, hW, hsame.mono (by decide) (by decide)⟩
  · show Steps p.tables e below (s₁.setTop (mkF m 0 #[.val (.ref a1)] [])) _
    refine XS.aloadN X0.here hx rfl (hb hby d2_0) rfl rfl ?_
    show Steps p.tables e below (s₁.setTop (mkF m 1 #[.val (.ref a1)] [(.ref a1)])) _
    refine st2 _ ?_
    show Steps p.tables e below (T2.setTop (mkF m 4 #[.val (.ref a1)] [])) _
    exact X2.returnOut hx Bd.returns (hb hby d2_4) hr
  · show Q2 Z a1 h0 n0 _ T2.heap _
    rw [e2]
    exact ⟨rfl, N0, rfl⟩

theorem d1_0 : decode prog_10_method_1_code 0 = .ok (.aload_n 0, 1) := by decide +kernel
theorem d1_1 : decode prog_10_method_1_code 1 = .ok (.invokespecial 1, 3) := by decide +kernel
theorem d1_4 : decode prog_10_method_1_code 4 = .ok (.aload_n 0, 1) := by decide +kernel
theorem d1_5 : decode prog_10_method_1_code 5 = .ok (.iload_n 1, 1) := by decide +kernel
theorem d1_6 : decode prog_10_method_1_code 6 = .ok (.putfield 7, 3) := by decide +kernel
theorem d1_9 : decode prog_10_method_1_code 9 = .ok (.aload_n 0, 1) := by decide +kernel
theorem d1_10 : decode prog_10_method_1_code 10 = .ok (.iload_n 2, 1) := by decide +kernel
theorem d1_11 : decode prog_10_method_1_code 11 = .ok (.putfield 13, 3) := by decide +kernel
theorem d1_14 : decode prog_10_method_1_code 14 = .ok (.aload_n 0, 1) := by decide +kernel
theorem d1_15 : decode prog_10_method_1_code 15 = .ok (.iload_n 3, 1) := by decide +kernel
theorem d1_16 : decode prog_10_method_1_code 16 = .ok (.putfield 16, 3) := by decide +kernel
theorem d1_19 : decode prog_10_method_1_code 19 = .ok (.aload_n 0, 1) := by decide +kernel
theorem d1_20 : decode prog_10_method_1_code 20 = .ok (.iload 4, 2) := by decide +kernel
theorem d1_22 : decode prog_10_method_1_code 22 = .ok (.putfield 19, 3) := by decide +kernel
theorem d1_25 : decode prog_10_method_1_code 25 = .ok (.return_, 1) := by decide +kernel
theorem pn_1 : plainName "com/example/bridgework/bridgework/model/CorrespondenceUse" = true := by first | (simp [plainName, overriddenIn]; done) | decide +kernel
theorem pd_1_1 : parseMethodDescriptor "()V" = some ⟨[], none⟩ := by decide +kernel
theorem ef_1 (m : MethodId) (x0 : Addr) (x1 : Int32) (x2 : Int32) (x3 : Int32) (x4 : Int32) : entryFrame m #[(.ref x0), (.int x1), (.int x2), (.int x3), (.int x4)] 5 = mkF m 0 #[.val (.ref x0), .val (.int x1), .val (.int x2), .val (.int x3), .val (.int x4)] [] := by first | (simp [entryFrame, mkF, argsToLocals, Value.category]; done) | rfl
def Q1 (Z : State) (a1 : Addr) (p2 : Int32) (p3 : Int32) (p4 : Int32) (p5 : Int32) (u_used_a1 : Value) (u_notBetweenNamedClasses_a1 : Value) (u_unsupportedRelation_a1 : Value) (u_undeclaredClass_a1 : Value) (h0 : Heap) (n0 : Nat) (v : Option Value) (h : Heap) (L : List Loc) : Prop := v = none ∧ Fr n0 L ∧ Keep h0 h [a1] ∧ own_Obj Z h a1 p2 p3 p4 p5
set_option maxRecDepth 65536 in
set_option maxHeartbeats 40000000 in
theorem rm1 (l : Launch) (Z : State) (a0 : Array Value) (hw : ∀ d ∈ tables_1, d.before a0 Z = true) (ws : List Jvm.Cond) (a1 : Addr) (p2 : Int32) (p3 : Int32) (p4 : Int32) (p5 : Int32) (u_used_a1 : Value) (u_notBetweenNamedClasses_a1 : Value) (u_unsupportedRelation_a1 : Value) (u_undeclaredClass_a1 : Value) (h0 : Heap) (n0 : Nat) (Z0 : n0 ≤ h0.size) (E_a1 : Exa Z h0 a1 "com/example/bridgework/bridgework/model/CorrespondenceUse") (F_used_a1 : Fld Z h0 a1 "com/example/bridgework/bridgework/model/CorrespondenceUse" "used" "I" u_used_a1) (g_a1 : n0 ≤ a1) (F_notBetweenNamedClasses_a1 : Fld Z h0 a1 "com/example/bridgework/bridgework/model/CorrespondenceUse" "notBetweenNamedClasses" "I" u_notBetweenNamedClasses_a1) (F_unsupportedRelation_a1 : Fld Z h0 a1 "com/example/bridgework/bridgework/model/CorrespondenceUse" "unsupportedRelation" "I" u_unsupportedRelation_a1) (F_undeclaredClass_a1 : Fld Z h0 a1 "com/example/bridgework/bridgework/model/CorrespondenceUse" "undeclaredClass" "I" u_undeclaredClass_a1) :
    MetFree l (⟨"com/example/bridgework/bridgework/model/CorrespondenceUse", "<init>", "(IIII)V"⟩ : MethodName) (head1 (Jvm.Cond.code (⟨"com/example/bridgework/bridgework/model/CorrespondenceUse", "<init>", "(IIII)V"⟩ : MethodName) prog_10_method_1_code 5 none :: ws) ({ frames := 2, cells := 0, slots := 0, locals := 24 } : Room)) (fun a U => a = #[(.ref a1), (.int p2), (.int p3), (.int p4), (.int p5)] ∧ Z.Warmed39 U.vm ∧ U.heap = h0) (fun _ _ _ _ _ => True) (fun _ U o U' => ∃ v L, o = .returned v ∧ Q1 Z a1 p2 p3 p4 p5 u_used_a1 u_notBetweenNamedClasses_a1 u_unsupportedRelation_a1 u_undeclaredClass_a1 h0 n0 v U'.heap L ∧ FrameEnd U o U' L ({ frames := 2, cells := 0, slots := 0, locals := 24 } : Room).cells ({ frames := 2, cells := 0, slots := 0, locals := 24 } : Room).slots) := by
  refine MetFree.of_bodySF (plainFor_of_name pn_1) hisR ?_
  intro p e s m args below meth c s₁ Bd hml0 hP hK
  obtain ⟨rfl, hZ, hh⟩ := hP
  have hx := Bd.exec
  have hby := Bd.bytes
  have hml : c.maxLocals = 5 := hml0
  have hown : s.vm.findClass "com/example/bridgework/bridgework/model/CorrespondenceUse" = some m.cls := findClass_of_methodNamed Bd.named
  have hnm := (name_of_methodNamed Bd.named Bd.method).1
  have X0 : Stand p l e ({ frames := 2, cells := 0, slots := 0, locals := 24 } : Room) s m #[(.ref a1), (.int p2), (.int p3), (.int p4), (.int p5)] below meth c s₁ [] 0 0 := Stand.of_body Bd
  have e0 : s₁.heap = h0 := by rw [← hh, Bd.state]; rfl
  have N0 := Fr.nil n0
  have pre0 : ∀ t, Steps p.tables e below (s₁.setTop (mkF m 0 #[.val (.ref a1), .val (.int p2), .val (.int p3), .val (.int p4), .val (.int p5)] [])) t → Steps p.tables e below (s₁.setTop (entryFrame m #[(.ref a1), (.int p2), (.int p3), (.int p4), (.int p5)] 5)) t := fun t k => castTop (ef_1 m a1 p2 p3 p4 p5) k
  obtain ⟨_, _, ⟨T6, L6, k6, n6⟩, -, X6, ⟨Lc6, hQ6, l6, y6, z6⟩, st6⟩ := X0.specialBack hx (y := (⟨"java/lang/Record", "<init>", "()V"⟩ : MethodName)) rfl hown (mvT hZ (hw _ (List.mem_of_getElem? (i := 6) rfl))) (mvT hZ (hw _ (List.mem_of_getElem? (i := 7) rfl))) (mvT hZ (hw _ (List.mem_of_getElem? (i := 10) rfl))) (by decide) (backOf (W := 0) (rm2 l Z a0 hw [] a1 h0 n0 Z0) hZ (hw _ (List.mem_of_getElem? (i := 10) rfl)) (hw _ (List.mem_of_getElem? (i := 9) rfl)) (by decide) (by decide)) (g := (mkF m 1 #[.val (.ref a1), .val (.int p2), .val (.int p3), .val (.int p4), .val (.int p5)] [(.ref a1)])) rfl (by rw [hml]; rfl) (Steps.refl _) (a := a1) (argsL := []) (rest := []) (lenOf pd_1_1 rfl) rfl (by show 2 * 0 + _ ≤ _; exact Nat.le_of_eq rfl) (hb hby d1_1) (fun _ _ => ⟨rfl, e0, (by decide : 0 + 0 ≤ _), (by decide : 0 + 0 ≤ _)⟩)
  dsimp only [Pt.U, Pt.locs, Pt.cells, Pt.slots] at X6 l6 y6 z6 st6 hQ6
  subst l6 y6 z6
  obtain ⟨rfl, N6q, he6⟩ := hQ6
  have K6 : Keep h0 T6.heap [] := by rw [he6]; exact Keep.refl _ _
  have KH6 : Keep h0 T6.heap [a1] := by rw [he6]; exact Keep.refl _ _
  have N6 := Fr.app N0 N6q
  obtain ⟨T7, h7, X7, e7, W7, st7⟩ := putF X6 hx hZ hown (host := "") (Or.inl (hw _ (List.mem_of_getElem? (i := 14) rfl))) Via.refl rfl (F_used_a1.keep K6 nin0) (E_a1.keep K6) (Or.inr ⟨(hw _ (List.mem_of_getElem? (i := 15) rfl)), rfl, hnm⟩) (hw _ (List.mem_of_getElem? (i := 1) rfl)) (ty := .int) (by decide) rfl rfl (g := (mkF m 6 #[.val (.ref a1), .val (.int p2), .val (.int p3), .val (.int p4), .val (.int p5)] [(.int p2), (.ref a1)])) rfl rfl (hb hby d1_6)
  have Fw7 := (F_used_a1.keep K6 nin0).same W7
  have K7 : Keep h0 h7 [a1] := KH6.wr W7 (Or.inl (List.mem_of_getElem? (i := 0) rfl))
  have N7 := Fr.snoc X7 N6 g_a1
  obtain ⟨T8, h8, X8, e8, W8, st8⟩ := putF X7 hx hZ hown (host := "") (Or.inl (hw _ (List.mem_of_getElem? (i := 16) rfl))) Via.refl e7 ((F_notBetweenNamedClasses_a1.keep K6 nin0).other W7 (Or.inr (slot_ne (Or.inr (hw _ (List.mem_of_getElem? (i := 17) rfl))) (Or.inr (hw _ (List.mem_of_getElem? (i := 15) rfl))) (by decide) (t := .int) (t' := .int) (by decide) (by decide)))) ((E_a1.keep K6).wr W7) (Or.inr ⟨(hw _ (List.mem_of_getElem? (i := 17) rfl)), rfl, hnm⟩) (hw _ (List.mem_of_getElem? (i := 1) rfl)) (ty := .int) (by decide) rfl rfl (g := (mkF m 11 #[.val (.ref a1), .val (.int p2), .val (.int p3), .val (.int p4), .val (.int p5)] [(.int p3), (.ref a1)])) rfl rfl (hb hby d1_11)
  have Fw8 := ((F_notBetweenNamedClasses_a1.keep K6 nin0).other W7 (Or.inr (slot_ne (Or.inr (hw _ (List.mem_of_getElem? (i := 17) rfl))) (Or.inr (hw _ (List.mem_of_getElem? (i := 15) rfl))) (by decide) (t := .int) (t' := .int) (by decide) (by decide)))).same W8
  have K8 : Keep h0 h8 [a1] := K7.wr W8 (Or.inl (List.mem_of_getElem? (i := 0) rfl))
  have N8 := Fr.snoc X8 N7 g_a1
  obtain ⟨T9, h9, X9, e9, W9, st9⟩ := putF X8 hx hZ hown (host := "") (Or.inl (hw _ (List.mem_of_getElem? (i := 18) rfl))) Via.refl e8 (((F_unsupportedRelation_a1.keep K6 nin0).other W7 (Or.inr (slot_ne (Or.inr (hw _ (List.mem_of_getElem? (i := 19) rfl))) (Or.inr (hw _ (List.mem_of_getElem? (i := 15) rfl))) (by decide) (t := .int) (t' := .int) (by decide) (by decide)))).other W8 (Or.inr (slot_ne (Or.inr (hw _ (List.mem_of_getElem? (i := 19) rfl))) (Or.inr (hw _ (List.mem_of_getElem? (i := 17) rfl))) (by decide) (t := .int) (t' := .int) (by decide) (by decide)))) (((E_a1.keep K6).wr W7).wr W8) (Or.inr ⟨(hw _ (List.mem_of_getElem? (i := 19) rfl)), rfl, hnm⟩) (hw _ (List.mem_of_getElem? (i := 1) rfl)) (ty := .int) (by decide) rfl rfl (g := (mkF m 16 #[.val (.ref a1), .val (.int p2), .val (.int p3), .val (.int p4), .val (.int p5)] [(.int p4), (.ref a1)])) rfl rfl (hb hby d1_16)
  have Fw9 := (((F_unsupportedRelation_a1.keep K6 nin0).other W7 (Or.inr (slot_ne (Or.inr (hw _ (List.mem_of_getElem? (i := 19) rfl))) (Or.inr (hw _ (List.mem_of_getElem? (i := 15) rfl))) (by decide) (t := .int) (t' := .int) (by decide) (by decide)))).other W8 (Or.inr (slot_ne (Or.inr (hw _ (List.mem_of_getElem? (i := 19) rfl))) (Or.inr (hw _ (List.mem_of_getElem? (i := 17) rfl))) (by decide) (t := .int) (t' := .int) (by decide) (by decide)))).same W9
  have K9 : Keep h0 h9 [a1] := K8.wr W9 (Or.inl (List.mem_of_getElem? (i := 0) rfl))
  have N9 := Fr.snoc X9 N8 g_a1
  obtain ⟨T10, h10, X10, e10, W10, st10⟩ := putF X9 hx hZ hown (host := "") (Or.inl (hw _ (List.mem_of_getElem? (i := 20) rfl))) Via.refl e9 ((((F_undeclaredClass_a1.keep K6 nin0).other W7 (Or.inr (slot_ne (Or.inr (hw _ (List.mem_of_getElem? (i := 21) rfl))) (Or.inr (hw _ (List.mem_of_getElem? (i := 15) rfl))) (by decide) (t := .int) (t' := .int) (by decide) (by decide)))).other W8 (Or.inr (slot_ne (Or.inr (hw _ (List.mem_of_getElem? (i := 21) rfl))) (Or.inr (hw _ (List.mem_of_getElem? (i := 17) rfl))) (by decide) (t := .int) (t' := .int) (by decide) (by decide)))).other W9 (Or.inr (slot_ne (Or.inr (hw _ (List.mem_of_getElem? (i := 21) rfl))) (Or.inr (hw _ (List.mem_of_getElem? (i := 19) rfl))) (by decide) (t := .int) (t' := .int) (by decide) (by decide)))) ((((E_a1.keep K6).wr W7).wr W8).wr W9) (Or.inr ⟨(hw _ (List.mem_of_getElem? (i := 21) rfl)), rfl, hnm⟩) (hw _ (List.mem_of_getElem? (i := 1) rfl)) (ty := .int) (by decide) rfl rfl (g := (mkF m 22 #[.val (.ref a1), .val (.int p2), .val (.int p3), .val (.int p4), .val (.int p5)] [(.int p5), (.ref a1)])) rfl rfl (hb hby d1_22)
  have Fw10 := ((((F_undeclaredClass_a1.keep K6 nin0).other W7 (Or.inr (slot_ne (Or.inr (hw _ (List.mem_of_getElem? (i := 21) rfl))) (Or.inr (hw _ (List.mem_of_getElem? (i := 15) rfl))) (by decide) (t := .int) (t' := .int) (by decide) (by decide)))).other W8 (Or.inr (slot_ne (Or.inr (hw _ (List.mem_of_getElem? (i := 21) rfl))) (Or.inr (hw _ (List.mem_of_getElem? (i := 17) rfl))) (by decide) (t := .int) (t' := .int) (by decide) (by decide)))).other W9 (Or.inr (slot_ne (Or.inr (hw _ (List.mem_of_getElem? (i := 21) rfl))) (Or.inr (hw _ (List.mem_of_getElem? (i := 19) rfl))) (by decide) (t := .int) (t' := .int) (by decide) (by decide)))).same W10
  have K10 : Keep h0 h10 [a1] := K9.wr W10 (Or.inl (List.mem_of_getElem? (i := 0) rfl))
  have N10 := Fr.snoc X10 N9 g_a1
  obtain ⟨fs, hr, hrun, hended, hW, hsame⟩ := X10.leave (v := none) (fun _ => rfl)
  refine ⟨_, _, pre0 _ ?_, hrun, hended, _, _, rfl, ?_, ⟨_, rfl⟩, hW, hsame.mono (by decide) (by decide)⟩
  · show Steps p.tables e below (s₁.setTop (mkF m 0 #[.val (.ref a1), .val (.int p2), .val (.int p3), .val (.int p4), .val (.int p5)] [])) _
    refine XS.aloadN X0.here hx rfl (hb hby d1_0) rfl rfl ?_
    show Steps p.tables e below (s₁.setTop (mkF m 1 #[.val (.ref a1), .val (.int p2), .val (.int p3), .val (.int p4), .val (.int p5)] [(.ref a1)])) _
    refine st6.trans ?_
    show Steps p.tables e below (T6.setTop (mkF m 4 #[.val (.ref a1), .val (.int p2), .val (.int p3), .val (.int p4), .val (.int p5)] [])) _
    refine XS.aloadN X6.here hx rfl (hb hby d1_4) rfl rfl ?_
    show Steps p.tables e below (T6.setTop (mkF m 5 #[.val (.ref a1), .val (.int p2), .val (.int p3), .val (.int p4), .val (.int p5)] [(.ref a1)])) _
    refine XS.iloadN X6.here hx rfl (hb hby d1_5) rfl ?_
    show Steps p.tables e below (T6.setTop (mkF m 6 #[.val (.ref a1), .val (.int p2), .val (.int p3), .val (.int p4), .val (.int p5)] [(.int p2), (.ref a1)])) _
    refine st7 _ ?_
    show Steps p.tables e below (T7.setTop (mkF m 9 #[.val (.ref a1), .val (.int p2), .val (.int p3), .val (.int p4), .val (.int p5)] [])) _
    refine XS.aloadN X7.here hx rfl (hb hby d1_9) rfl rfl ?_
    show Steps p.tables e below (T7.setTop (mkF m 10 #[.val (.ref a1), .val (.int p2), .val (.int p3), .val (.int p4), .val (.int p5)] [(.ref a1)])) _
    refine XS.iloadN X7.here hx rfl (hb hby d1_10) rfl ?_
    show Steps p.tables e below (T7.setTop (mkF m 11 #[.val (.ref a1), .val (.int p2), .val (.int p3), .val (.int p4), .val (.int p5)] [(.int p3), (.ref a1)])) _
    refine st8 _ ?_
    show Steps p.tables e below (T8.setTop (mkF m 14 #[.val (.ref a1), .val (.int p2), .val (.int p3), .val (.int p4), .val (.int p5)] [])) _
    refine XS.aloadN X8.here hx rfl (hb hby d1_14) rfl rfl ?_
    show Steps p.tables e below (T8.setTop (mkF m 15 #[.val (.ref a1), .val (.int p2), .val (.int p3), .val (.int p4), .val (.int p5)] [(.ref a1)])) _
    refine XS.iloadN X8.here hx rfl (hb hby d1_15) rfl ?_
    show Steps p.tables e below (T8.setTop (mkF m 16 #[.val (.ref a1), .val (.int p2), .val (.int p3), .val (.int p4), .val (.int p5)] [(.int p4), (.ref a1)])) _
    refine st9 _ ?_
    show Steps p.tables e below (T9.setTop (mkF m 19 #[.val (.ref a1), .val (.int p2), .val (.int p3), .val (.int p4), .val (.int p5)] [])) _
    refine XS.aloadN X9.here hx rfl (hb hby d1_19) rfl rfl ?_
    show Steps p.tables e below (T9.setTop (mkF m 20 #[.val (.ref a1), .val (.int p2), .val (.int p3), .val (.int p4), .val (.int p5)] [(.ref a1)])) _
    refine XS.iload X9.here hx rfl (hb hby d1_20) rfl ?_
    show Steps p.tables e below (T9.setTop (mkF m 22 #[.val (.ref a1), .val (.int p2), .val (.int p3), .val (.int p4), .val (.int p5)] [(.int p5), (.ref a1)])) _
    refine st10 _ ?_
    show Steps p.tables e below (T10.setTop (mkF m 25 #[.val (.ref a1), .val (.int p2), .val (.int p3), .val (.int p4), .val (.int p5)] [])) _
    exact X10.returnOut hx Bd.returns (hb hby d1_25) hr
  · show Q1 Z a1 p2 p3 p4 p5 u_used_a1 u_notBetweenNamedClasses_a1 u_unsupportedRelation_a1 u_undeclaredClass_a1 h0 n0 _ T10.heap _
    rw [e10]
    exact ⟨rfl, N10, K10, ((((E_a1.keep K6).wr W7).wr W8).wr W9).wr W10, ((Fw7.other W8 (Or.inr (slot_ne (Or.inr (hw _ (List.mem_of_getElem? (i := 15) rfl))) (Or.inr (hw _ (List.mem_of_getElem? (i := 17) rfl))) (by decide) (t := .int) (t' := .int) (by decide) (by decide)))).other W9 (Or.inr (slot_ne (Or.inr (hw _ (List.mem_of_getElem? (i := 15) rfl))) (Or.inr (hw _ (List.mem_of_getElem? (i := 19) rfl))) (by decide) (t := .int) (t' := .int) (by decide) (by decide)))).other W10 (Or.inr (slot_ne (Or.inr (hw _ (List.mem_of_getElem? (i := 15) rfl))) (Or.inr (hw _ (List.mem_of_getElem? (i := 21) rfl))) (by decide) (t := .int) (t' := .int) (by decide) (by decide))), (Fw8.other W9 (Or.inr (slot_ne (Or.inr (hw _ (List.mem_of_getElem? (i := 17) rfl))) (Or.inr (hw _ (List.mem_of_getElem? (i := 19) rfl))) (by decide) (t := .int) (t' := .int) (by decide) (by decide)))).other W10 (Or.inr (slot_ne (Or.inr (hw _ (List.mem_of_getElem? (i := 17) rfl))) (Or.inr (hw _ (List.mem_of_getElem? (i := 21) rfl))) (by decide) (t := .int) (t' := .int) (by decide) (by decide))), Fw9.other W10 (Or.inr (slot_ne (Or.inr (hw _ (List.mem_of_getElem? (i := 19) rfl))) (Or.inr (hw _ (List.mem_of_getElem? (i := 21) rfl))) (by decide) (t := .int) (t' := .int) (by decide) (by decide))), Fw10⟩

theorem d4_0 : decode prog_10_method_2_code 0 = .ok (.aload_n 0, 1) := by decide +kernel
theorem d4_1 : decode prog_10_method_2_code 1 = .ok (.getfield 7, 3) := by decide +kernel
theorem d4_4 : decode prog_10_method_2_code 4 = .ok (.aload_n 0, 1) := by decide +kernel
theorem d4_5 : decode prog_10_method_2_code 5 = .ok (.getfield 13, 3) := by decide +kernel
theorem d4_8 : decode prog_10_method_2_code 8 = .ok (.iadd, 1) := by decide +kernel
theorem d4_9 : decode prog_10_method_2_code 9 = .ok (.aload_n 0, 1) := by decide +kernel
theorem d4_10 : decode prog_10_method_2_code 10 = .ok (.getfield 16, 3) := by decide +kernel
theorem d4_13 : decode prog_10_method_2_code 13 = .ok (.iadd, 1) := by decide +kernel
theorem d4_14 : decode prog_10_method_2_code 14 = .ok (.aload_n 0, 1) := by decide +kernel
theorem d4_15 : decode prog_10_method_2_code 15 = .ok (.getfield 19, 3) := by decide +kernel
theorem d4_18 : decode prog_10_method_2_code 18 = .ok (.iadd, 1) := by decide +kernel
theorem d4_19 : decode prog_10_method_2_code 19 = .ok (.ireturn, 1) := by decide +kernel
theorem pn_4 : plainName "com/example/bridgework/bridgework/model/CorrespondenceUse" = true := by first | (simp [plainName, overriddenIn]; done) | decide +kernel
theorem ef_4 (m : MethodId) (x0 : Addr) : entryFrame m #[(.ref x0)] 1 = mkF m 0 #[.val (.ref x0)] [] := by first | (simp [entryFrame, mkF, argsToLocals, Value.category]; done) | rfl
def Q4 (Z : State) (a1 : Addr) (w2 : Int32) (w4 : Int32) (w6 : Int32) (w8 : Int32) (h0 : Heap) (n0 : Nat) (v : Option Value) (h : Heap) (L : List Loc) : Prop := v = some (.int (((w2 + w4) + w6) + w8)) ∧ Fr n0 L ∧ h = h0
set_option maxRecDepth 65536 in
set_option maxHeartbeats 40000000 in
theorem rm4 (l : Launch) (Z : State) (a0 : Array Value) (hw : ∀ d ∈ tables_1, d.before a0 Z = true) (ws : List Jvm.Cond) (a1 : Addr) (w2 : Int32) (w4 : Int32) (w6 : Int32) (w8 : Int32) (h0 : Heap) (n0 : Nat) (Z0 : n0 ≤ h0.size) (F_used_a1 : Fld Z h0 a1 "com/example/bridgework/bridgework/model/CorrespondenceUse" "used" "I" (.int w2)) (F_notBetweenNamedClasses_a1 : Fld Z h0 a1 "com/example/bridgework/bridgework/model/CorrespondenceUse" "notBetweenNamedClasses" "I" (.int w4)) (F_unsupportedRelation_a1 : Fld Z h0 a1 "com/example/bridgework/bridgework/model/CorrespondenceUse" "unsupportedRelation" "I" (.int w6)) (F_undeclaredClass_a1 : Fld Z h0 a1 "com/example/bridgework/bridgework/model/CorrespondenceUse" "undeclaredClass" "I" (.int w8)) :
    MetFree l (⟨"com/example/bridgework/bridgework/model/CorrespondenceUse", "total", "()I"⟩ : MethodName) (head1 (Jvm.Cond.code (⟨"com/example/bridgework/bridgework/model/CorrespondenceUse", "total", "()I"⟩ : MethodName) prog_10_method_2_code 1 (some .int) :: ws) ({ frames := 0, cells := 0, slots := 0, locals := 0 } : Room)) (fun a U => a = #[(.ref a1)] ∧ Z.Warmed39 U.vm ∧ U.heap = h0) (fun _ _ _ _ _ => True) (fun _ U o U' => ∃ v L, o = .returned v ∧ Q4 Z a1 w2 w4 w6 w8 h0 n0 v U'.heap L ∧ FrameEnd U o U' L ({ frames := 0, cells := 0, slots := 0, locals := 0 } : Room).cells ({ frames := 0, cells := 0, slots := 0, locals := 0 } : Room).slots) := by
  refine MetFree.of_bodySF (plainFor_of_name pn_4) hisR ?_
  intro p e s m args below meth c s₁ Bd hml0 hP hK
  obtain ⟨rfl, hZ, hh⟩ := hP
  have hx := Bd.exec
  have hby := Bd.bytes
  have hml : c.maxLocals = 1 := hml0
  have hown : s.vm.findClass "com/example/bridgework/bridgework/model/CorrespondenceUse" = some m.cls := findClass_of_methodNamed Bd.named
  have hnm := (name_of_methodNamed Bd.named Bd.method).1
  have X0 : Stand p l e ({ frames := 0, cells := 0, slots := 0, locals := 0 } : Room) s m #[(.ref a1)] below meth c s₁ [] 0 0 := Stand.of_body Bd
  have e0 : s₁.heap = h0 := by rw [← hh, Bd.state]; rfl
  have N0 := Fr.nil n0
  have pre0 : ∀ t, Steps p.tables e below (s₁.setTop (mkF m 0 #[.val (.ref a1)] [])) t → Steps p.tables e below (s₁.setTop (entryFrame m #[(.ref a1)] 1)) t := fun t k => castTop (ef_4 m a1) k
  obtain ⟨T3, X3, e3, st3⟩ := getF X0 hx hZ hown (host := "") (Or.inl (hw _ (List.mem_of_getElem? (i := 14) rfl))) Via.refl e0 F_used_a1 (g := (mkF m 1 #[.val (.ref a1)] [(.ref a1)])) rfl rfl (hb hby d4_1)
  obtain ⟨T5, X5, e5, st5⟩ := getF X3 hx hZ hown (host := "") (Or.inl (hw _ (List.mem_of_getElem? (i := 16) rfl))) Via.refl e3 F_notBetweenNamedClasses_a1 (g := (mkF m 5 #[.val (.ref a1)] [(.ref a1), (.int w2)])) rfl rfl (hb hby d4_5)
  obtain ⟨T7, X7, e7, st7⟩ := getF X5 hx hZ hown (host := "") (Or.inl (hw _ (List.mem_of_getElem? (i := 18) rfl))) Via.refl e5 F_unsupportedRelation_a1 (g := (mkF m 10 #[.val (.ref a1)] [(.ref a1), (.int (w2 + w4))])) rfl rfl (hb hby d4_10)
  obtain ⟨T9, X9, e9, st9⟩ := getF X7 hx hZ hown (host := "") (Or.inl (hw _ (List.mem_of_getElem? (i := 20) rfl))) Via.refl e7 F_undeclaredClass_a1 (g := (mkF m 15 #[.val (.ref a1)] [(.ref a1), (.int ((w2 + w4) + w6))])) rfl rfl (hb hby d4_15)
  obtain ⟨fs, hr, hrun, hended, hW, hsame⟩ := X9.leave (v := some (.int (((w2 + w4) + w6) + w8))) (fun h => by rw [Bd.returns] at h; cases h)
  refine ⟨_, _, pre0 _ ?_, hrun, hended, _, _, rfl, ?_, ⟨_, rfl⟩, hW, hsame.mono (by decide) (by decide)⟩
  · show Steps p.tables e below (s₁.setTop (mkF m 0 #[.val (.ref a1)] [])) _
    refine XS.aloadN X0.here hx rfl (hb hby d4_0) rfl rfl ?_
    show Steps p.tables e below (s₁.setTop (mkF m 1 #[.val (.ref a1)] [(.ref a1)])) _
    refine st3 _ ?_
    show Steps p.tables e below (T3.setTop (mkF m 4 #[.val (.ref a1)] [(.int w2)])) _
    refine XS.aloadN X3.here hx rfl (hb hby d4_4) rfl rfl ?_
    show Steps p.tables e below (T3.setTop (mkF m 5 #[.val (.ref a1)] [(.ref a1), (.int w2)])) _
    refine st5 _ ?_
    show Steps p.tables e below (T5.setTop (mkF m 8 #[.val (.ref a1)] [(.int w4), (.int w2)])) _
    refine XS.iadd X5.here hx rfl (hb hby d4_8) rfl ?_
    show Steps p.tables e below (T5.setTop (mkF m 9 #[.val (.ref a1)] [(.int (w2 + w4))])) _
    refine XS.aloadN X5.here hx rfl (hb hby d4_9) rfl rfl ?_
    show Steps p.tables e below (T5.setTop (mkF m 10 #[.val (.ref a1)] [(.ref a1), (.int (w2 + w4))])) _
    refine st7 _ ?_
    show Steps p.tables e below (T7.setTop (mkF m 13 #[.val (.ref a1)] [(.int w6), (.int (w2 + w4))])) _
    refine XS.iadd X7.here hx rfl (hb hby d4_13) rfl ?_
    show Steps p.tables e below (T7.setTop (mkF m 14 #[.val (.ref a1)] [(.int ((w2 + w4) + w6))])) _
    refine XS.aloadN X7.here hx rfl (hb hby d4_14) rfl rfl ?_
    show Steps p.tables e below (T7.setTop (mkF m 15 #[.val (.ref a1)] [(.ref a1), (.int ((w2 + w4) + w6))])) _
    refine st9 _ ?_
    show Steps p.tables e below (T9.setTop (mkF m 18 #[.val (.ref a1)] [(.int w8), (.int ((w2 + w4) + w6))])) _
    refine XS.iadd X9.here hx rfl (hb hby d4_18) rfl ?_
    show Steps p.tables e below (T9.setTop (mkF m 19 #[.val (.ref a1)] [(.int (((w2 + w4) + w6) + w8))])) _
    exact retI X9 hx Bd.returns (hb hby d4_19) hr
  · show Q4 Z a1 w2 w4 w6 w8 h0 n0 _ T9.heap _
    rw [e9]
    exact ⟨rfl, N0, rfl⟩

theorem pn_0 : plainName "com/example/bridgework/bridgework/model/CorrespondenceUseTotalPinLaw" = true := by first | (simp [plainName, overriddenIn]; done) | decide +kernel
theorem pd_0_0 : parseMethodDescriptor "(IIII)V" = some ⟨[.int, .int, .int, .int], none⟩ := by decide +kernel
theorem pd_0_2 : parseMethodDescriptor "()I" = some ⟨[], some .int⟩ := by decide +kernel
theorem ef_0 (m : MethodId) (x0 : Int32) (x1 : Int32) (x2 : Int32) (x3 : Int32) : entryFrame m #[(.int x0), (.int x1), (.int x2), (.int x3)] maxLocals = mkF m 0 #[.val (.int x0), .val (.int x1), .val (.int x2), .val (.int x3), .unset, .unset, .unset, .unset, .unset, .unset, .unset, .unset, .unset, .unset] [] := by first | (simp [entryFrame, mkF, argsToLocals, Value.category, maxLocals]; done) | rfl
def Q0 (Z : State) (p1 : Int32) (p2 : Int32) (p3 : Int32) (p4 : Int32) (h0 : Heap) (n0 : Nat) (v : Option Value) (h : Heap) (L : List Loc) : Prop := v = some (.int (1 : Int32)) ∧ Fr n0 L
set_option maxRecDepth 65536 in
set_option maxHeartbeats 40000000 in
theorem rm0 (l : Launch) (Z : State) (a0 : Array Value) (hw : ∀ d ∈ tables_1, d.before a0 Z = true) (ws : List Jvm.Cond) (p1 : Int32) (p2 : Int32) (p3 : Int32) (p4 : Int32) (h0 : Heap) (n0 : Nat) (Z0 : n0 ≤ h0.size) :
    MetFree l x (head1 (Jvm.Cond.code x code maxLocals ret :: ws) room_1) (fun a U => a = #[(.int p1), (.int p2), (.int p3), (.int p4)] ∧ Z.Warmed39 U.vm ∧ U.heap = h0) (fun _ _ _ _ _ => True) (fun _ U o U' => ∃ v L, o = .returned v ∧ Q0 Z p1 p2 p3 p4 h0 n0 v U'.heap L ∧ FrameEnd U o U' L room_1.cells room_1.slots) := by
  refine MetFree.of_bodySF (plainFor_of_name pn_0) hisR ?_
  intro p e s m args below meth c s₁ Bd hml0 hP hK
  obtain ⟨rfl, hZ, hh⟩ := hP
  have hx := Bd.exec
  have hby := Bd.bytes
  have hml : c.maxLocals = 14 := hml0
  have hown : s.vm.findClass "com/example/bridgework/bridgework/model/CorrespondenceUseTotalPinLaw" = some m.cls := findClass_of_methodNamed Bd.named
  have hnm := (name_of_methodNamed Bd.named Bd.method).1
  have X0 : Stand p l e room_1 s m #[(.int p1), (.int p2), (.int p3), (.int p4)] below meth c s₁ [] 0 0 := Stand.of_body Bd
  have e0 : s₁.heap = h0 := by rw [← hh, Bd.state]; rfl
  have N0 := Fr.nil n0
  have pre0 : ∀ t, Steps p.tables e below (s₁.setTop (mkF m 0 #[.val (.int p1), .val (.int p2), .val (.int p3), .val (.int p4), .unset, .unset, .unset, .unset, .unset, .unset, .unset, .unset, .unset, .unset] [])) t → Steps p.tables e below (s₁.setTop (entryFrame m #[(.int p1), (.int p2), (.int p3), (.int p4)] maxLocals)) t := fun t k => castTop (ef_0 m p1 p2 p3 p4) k
  obtain ⟨T5, h5, X5, e5, E5, A5, D5, -, st5⟩ := newO X0 hx hZ hown (hw _ (List.mem_of_getElem? (i := 0) rfl)) (hw _ (List.mem_of_getElem? (i := 1) rfl)) (hw _ (List.mem_of_getElem? (i := 2) rfl)) e0 (g := (mkF m 0 #[.val (.int p1), .val (.int p2), .val (.int p3), .val (.int p4), .unset, .unset, .unset, .unset, .unset, .unset, .unset, .unset, .unset, .unset] [])) rfl (hb hby at_0) (by decide) (by decide)
  obtain ⟨b5, g5⟩ : ∃ z, z = h0.size := ⟨_, rfl⟩
  rw [← g5] at A5 D5 st5
  have F_used_b5 : Fld Z h5 b5 "com/example/bridgework/bridgework/model/CorrespondenceUse" "used" "I" (.int (0 : Int32)) := D5 (Or.inr (hw _ (List.mem_of_getElem? (i := 15) rfl))) (ty := .int) (by decide)
  have F_notBetweenNamedClasses_b5 : Fld Z h5 b5 "com/example/bridgework/bridgework/model/CorrespondenceUse" "notBetweenNamedClasses" "I" (.int (0 : Int32)) := D5 (Or.inr (hw _ (List.mem_of_getElem? (i := 17) rfl))) (ty := .int) (by decide)
  have F_unsupportedRelation_b5 : Fld Z h5 b5 "com/example/bridgework/bridgework/model/CorrespondenceUse" "unsupportedRelation" "I" (.int (0 : Int32)) := D5 (Or.inr (hw _ (List.mem_of_getElem? (i := 19) rfl))) (ty := .int) (by decide)
  have F_undeclaredClass_b5 : Fld Z h5 b5 "com/example/bridgework/bridgework/model/CorrespondenceUse" "undeclaredClass" "I" (.int (0 : Int32)) := D5 (Or.inr (hw _ (List.mem_of_getElem? (i := 21) rfl))) (ty := .int) (by decide)
  have E_b5 := A5
  have g_b5 : n0 ≤ b5 := Nat.le_trans Z0 (Nat.le_of_eq g5.symm)
  have sz_b5 : h0.size ≤ b5 := (Nat.le_trans (Keep.refl h0 []).1 (Nat.le_of_eq g5.symm))
  have K5 : Keep h0 h5 [] := (Keep.refl h0 []).ext E5
  obtain ⟨_, _, ⟨T6, L6, k6, n6⟩, -, X6, ⟨Lc6, hQ6, l6, y6, z6⟩, st6⟩ := X5.specialBack hx (y := (⟨"com/example/bridgework/bridgework/model/CorrespondenceUse", "<init>", "(IIII)V"⟩ : MethodName)) rfl hown (mvT hZ (hw _ (List.mem_of_getElem? (i := 3) rfl))) (mvT hZ (hw _ (List.mem_of_getElem? (i := 4) rfl))) (mvT hZ (hw _ (List.mem_of_getElem? (i := 5) rfl))) (by decide) (backOf (W := 1) (rm1 l Z a0 hw [] b5 p1 p2 p3 p4 (.int (0 : Int32)) (.int (0 : Int32)) (.int (0 : Int32)) (.int (0 : Int32)) h5 n0 (Nat.le_trans g_b5 (Nat.le_of_lt E_b5.lt)) E_b5 F_used_b5 g_b5 F_notBetweenNamedClasses_b5 F_unsupportedRelation_b5 F_undeclaredClass_b5) hZ (hw _ (List.mem_of_getElem? (i := 5) rfl)) (hw _ (List.mem_of_getElem? (i := 2) rfl)) (by decide) (by decide)) (g := (mkF m 8 #[.val (.int p1), .val (.int p2), .val (.int p3), .val (.int p4), .unset, .unset, .unset, .unset, .unset, .unset, .unset, .unset, .unset, .unset] [(.int p4), (.int p3), (.int p2), (.int p1), (.ref b5), (.ref b5)])) rfl (by rw [hml]; rfl) (Steps.refl _) (a := b5) (argsL := [(.int p1), (.int p2), (.int p3), (.int p4)]) (rest := [(.ref b5)]) (lenOf pd_0_0 rfl) rfl (by show 2 * 0 + _ ≤ _; exact Nat.le_of_eq rfl) (hb hby at_8) (fun _ _ => ⟨rfl, e5, (by decide : 1 + 0 ≤ _), (by decide : 4 + 0 ≤ _)⟩)
  dsimp only [Pt.U, Pt.locs, Pt.cells, Pt.slots] at X6 l6 y6 z6 st6 hQ6
  subst l6 y6 z6
  obtain ⟨rfl, N6q, K6, O6_5⟩ := hQ6
  have KH6 : Keep h0 T6.heap [] := K5.trans K6 (fun x hx => by cases List.mem_singleton.mp hx; exact Or.inr sz_b5)
  have N6 := Fr.app N0 N6q
  obtain ⟨T7, h7, X7, e7, E7, A7, D7, -, st7⟩ := newO X6 hx hZ hown (hw _ (List.mem_of_getElem? (i := 0) rfl)) (hw _ (List.mem_of_getElem? (i := 1) rfl)) (hw _ (List.mem_of_getElem? (i := 2) rfl)) rfl (g := (mkF m 13 #[.val (.int p1), .val (.int p2), .val (.int p3), .val (.int p4), .val (.ref b5), .unset, .unset, .unset, .unset, .unset, .unset, .unset, .unset, .unset] [])) rfl (hb hby at_13) (by decide) (by decide)
  obtain ⟨b7, g7⟩ : ∃ z, z = T6.heap.size := ⟨_, rfl⟩
  rw [← g7] at A7 D7 st7
  have F_used_b7 : Fld Z h7 b7 "com/example/bridgework/bridgework/model/CorrespondenceUse" "used" "I" (.int (0 : Int32)) := D7 (Or.inr (hw _ (List.mem_of_getElem? (i := 15) rfl))) (ty := .int) (by decide)
  have F_notBetweenNamedClasses_b7 : Fld Z h7 b7 "com/example/bridgework/bridgework/model/CorrespondenceUse" "notBetweenNamedClasses" "I" (.int (0 : Int32)) := D7 (Or.inr (hw _ (List.mem_of_getElem? (i := 17) rfl))) (ty := .int) (by decide)
  have F_unsupportedRelation_b7 : Fld Z h7 b7 "com/example/bridgework/bridgework/model/CorrespondenceUse" "unsupportedRelation" "I" (.int (0 : Int32)) := D7 (Or.inr (hw _ (List.mem_of_getElem? (i := 19) rfl))) (ty := .int) (by decide)
  have F_undeclaredClass_b7 : Fld Z h7 b7 "com/example/bridgework/bridgework/model/CorrespondenceUse" "undeclaredClass" "I" (.int (0 : Int32)) := D7 (Or.inr (hw _ (List.mem_of_getElem? (i := 21) rfl))) (ty := .int) (by decide)
  have E_b7 := A7
  have g_b7 : n0 ≤ b7 := Nat.le_trans (Nat.le_trans (Nat.le_trans Z0 E5.1) K6.1) (Nat.le_of_eq g7.symm)
  have sz_b7 : h0.size ≤ b7 := (Nat.le_trans KH6.1 (Nat.le_of_eq g7.symm))
  have K7 : Keep h0 h7 [] := KH6.ext E7
  obtain ⟨_, _, ⟨T8, L8, k8, n8⟩, -, X8, ⟨Lc8, hQ8, l8, y8, z8⟩, st8⟩ := X7.specialBack hx (y := (⟨"com/example/bridgework/bridgework/model/CorrespondenceUse", "<init>", "(IIII)V"⟩ : MethodName)) rfl hown (mvT hZ (hw _ (List.mem_of_getElem? (i := 3) rfl))) (mvT hZ (hw _ (List.mem_of_getElem? (i := 4) rfl))) (mvT hZ (hw _ (List.mem_of_getElem? (i := 5) rfl))) (by decide) (backOf (W := 1) (rm1 l Z a0 hw [] b7 p1 (0 : Int32) (0 : Int32) (0 : Int32) (.int (0 : Int32)) (.int (0 : Int32)) (.int (0 : Int32)) (.int (0 : Int32)) h7 n0 (Nat.le_trans g_b7 (Nat.le_of_lt E_b7.lt)) E_b7 F_used_b7 g_b7 F_notBetweenNamedClasses_b7 F_unsupportedRelation_b7 F_undeclaredClass_b7) hZ (hw _ (List.mem_of_getElem? (i := 5) rfl)) (hw _ (List.mem_of_getElem? (i := 2) rfl)) (by decide) (by decide)) (g := (mkF m 21 #[.val (.int p1), .val (.int p2), .val (.int p3), .val (.int p4), .val (.ref b5), .unset, .unset, .unset, .unset, .unset, .unset, .unset, .unset, .unset] [(.int (0 : Int32)), (.int (0 : Int32)), (.int (0 : Int32)), (.int p1), (.ref b7), (.ref b7)])) rfl (by rw [hml]; rfl) (Steps.refl _) (a := b7) (argsL := [(.int p1), (.int (0 : Int32)), (.int (0 : Int32)), (.int (0 : Int32))]) (rest := [(.ref b7)]) (lenOf pd_0_0 rfl) rfl (by show 2 * 0 + _ ≤ _; exact Nat.le_of_eq rfl) (hb hby at_21) (fun _ _ => ⟨rfl, e7, (by decide : 2 + 0 ≤ _), (by decide : 8 + 0 ≤ _)⟩)
  dsimp only [Pt.U, Pt.locs, Pt.cells, Pt.slots] at X8 l8 y8 z8 st8 hQ8
  subst l8 y8 z8
  obtain ⟨rfl, N8q, K8, O8_7⟩ := hQ8
  have KH8 : Keep h0 T8.heap [] := K7.trans K8 (fun x hx => by cases List.mem_singleton.mp hx; exact Or.inr sz_b7)
  have ne8_5 : b5 ≠ b7 := Nat.ne_of_lt (g7 ▸ O6_5.1.lt)
  have O8_5 := (O6_5.ext E7).keep K8 (ninS ne8_5 nin0)
  have N8 := Fr.app N6 N8q
  obtain ⟨T9, h9, X9, e9, E9, A9, D9, -, st9⟩ := newO X8 hx hZ hown (hw _ (List.mem_of_getElem? (i := 0) rfl)) (hw _ (List.mem_of_getElem? (i := 1) rfl)) (hw _ (List.mem_of_getElem? (i := 2) rfl)) rfl (g := (mkF m 26 #[.val (.int p1), .val (.int p2), .val (.int p3), .val (.int p4), .val (.ref b5), .val (.ref b7), .unset, .unset, .unset, .unset, .unset, .unset, .unset, .unset] [])) rfl (hb hby at_26) (by decide) (by decide)
  obtain ⟨b9, g9⟩ : ∃ z, z = T8.heap.size := ⟨_, rfl⟩
  rw [← g9] at A9 D9 st9
  have F_used_b9 : Fld Z h9 b9 "com/example/bridgework/bridgework/model/CorrespondenceUse" "used" "I" (.int (0 : Int32)) := D9 (Or.inr (hw _ (List.mem_of_getElem? (i := 15) rfl))) (ty := .int) (by decide)
  have F_notBetweenNamedClasses_b9 : Fld Z h9 b9 "com/example/bridgework/bridgework/model/CorrespondenceUse" "notBetweenNamedClasses" "I" (.int (0 : Int32)) := D9 (Or.inr (hw _ (List.mem_of_getElem? (i := 17) rfl))) (ty := .int) (by decide)
  have F_unsupportedRelation_b9 : Fld Z h9 b9 "com/example/bridgework/bridgework/model/CorrespondenceUse" "unsupportedRelation" "I" (.int (0 : Int32)) := D9 (Or.inr (hw _ (List.mem_of_getElem? (i := 19) rfl))) (ty := .int) (by decide)
  have F_undeclaredClass_b9 : Fld Z h9 b9 "com/example/bridgework/bridgework/model/CorrespondenceUse" "undeclaredClass" "I" (.int (0 : Int32)) := D9 (Or.inr (hw _ (List.mem_of_getElem? (i := 21) rfl))) (ty := .int) (by decide)
  have E_b9 := A9
  have g_b9 : n0 ≤ b9 := Nat.le_trans (Nat.le_trans (Nat.le_trans (Nat.le_trans (Nat.le_trans Z0 E5.1) K6.1) E7.1) K8.1) (Nat.le_of_eq g9.symm)
  have sz_b9 : h0.size ≤ b9 := (Nat.le_trans KH8.1 (Nat.le_of_eq g9.symm))
  have K9 : Keep h0 h9 [] := KH8.ext E9
  obtain ⟨_, _, ⟨T10, L10, k10, n10⟩, -, X10, ⟨Lc10, hQ10, l10, y10, z10⟩, st10⟩ := X9.specialBack hx (y := (⟨"com/example/bridgework/bridgework/model/CorrespondenceUse", "<init>", "(IIII)V"⟩ : MethodName)) rfl hown (mvT hZ (hw _ (List.mem_of_getElem? (i := 3) rfl))) (mvT hZ (hw _ (List.mem_of_getElem? (i := 4) rfl))) (mvT hZ (hw _ (List.mem_of_getElem? (i := 5) rfl))) (by decide) (backOf (W := 1) (rm1 l Z a0 hw [] b9 (0 : Int32) p2 (0 : Int32) (0 : Int32) (.int (0 : Int32)) (.int (0 : Int32)) (.int (0 : Int32)) (.int (0 : Int32)) h9 n0 (Nat.le_trans g_b9 (Nat.le_of_lt E_b9.lt)) E_b9 F_used_b9 g_b9 F_notBetweenNamedClasses_b9 F_unsupportedRelation_b9 F_undeclaredClass_b9) hZ (hw _ (List.mem_of_getElem? (i := 5) rfl)) (hw _ (List.mem_of_getElem? (i := 2) rfl)) (by decide) (by decide)) (g := (mkF m 34 #[.val (.int p1), .val (.int p2), .val (.int p3), .val (.int p4), .val (.ref b5), .val (.ref b7), .unset, .unset, .unset, .unset, .unset, .unset, .unset, .unset] [(.int (0 : Int32)), (.int (0 : Int32)), (.int p2), (.int (0 : Int32)), (.ref b9), (.ref b9)])) rfl (by rw [hml]; rfl) (Steps.refl _) (a := b9) (argsL := [(.int (0 : Int32)), (.int p2), (.int (0 : Int32)), (.int (0 : Int32))]) (rest := [(.ref b9)]) (lenOf pd_0_0 rfl) rfl (by show 2 * 0 + _ ≤ _; exact Nat.le_of_eq rfl) (hb hby at_34) (fun _ _ => ⟨rfl, e9, (by decide : 3 + 0 ≤ _), (by decide : 12 + 0 ≤ _)⟩)
  dsimp only [Pt.U, Pt.locs, Pt.cells, Pt.slots] at X10 l10 y10 z10 st10 hQ10
  subst l10 y10 z10
  obtain ⟨rfl, N10q, K10, O10_9⟩ := hQ10
  have KH10 : Keep h0 T10.heap [] := K9.trans K10 (fun x hx => by cases List.mem_singleton.mp hx; exact Or.inr sz_b9)
  have ne10_5 : b5 ≠ b9 := Nat.ne_of_lt (g9 ▸ O8_5.1.lt)
  have O10_5 := (O8_5.ext E9).keep K10 (ninS ne10_5 nin0)
  have ne10_7 : b7 ≠ b9 := Nat.ne_of_lt (g9 ▸ O8_7.1.lt)
  have O10_7 := (O8_7.ext E9).keep K10 (ninS ne10_7 nin0)
  have N10 := Fr.app N8 N10q
  obtain ⟨T11, h11, X11, e11, E11, A11, D11, -, st11⟩ := newO X10 hx hZ hown (hw _ (List.mem_of_getElem? (i := 0) rfl)) (hw _ (List.mem_of_getElem? (i := 1) rfl)) (hw _ (List.mem_of_getElem? (i := 2) rfl)) rfl (g := (mkF m 39 #[.val (.int p1), .val (.int p2), .val (.int p3), .val (.int p4), .val (.ref b5), .val (.ref b7), .val (.ref b9), .unset, .unset, .unset, .unset, .unset, .unset, .unset] [])) rfl (hb hby at_39) (by decide) (by decide)
  obtain ⟨b11, g11⟩ : ∃ z, z = T10.heap.size := ⟨_, rfl⟩
  rw [← g11] at A11 D11 st11
  have F_used_b11 : Fld Z h11 b11 "com/example/bridgework/bridgework/model/CorrespondenceUse" "used" "I" (.int (0 : Int32)) := D11 (Or.inr (hw _ (List.mem_of_getElem? (i := 15) rfl))) (ty := .int) (by decide)
  have F_notBetweenNamedClasses_b11 : Fld Z h11 b11 "com/example/bridgework/bridgework/model/CorrespondenceUse" "notBetweenNamedClasses" "I" (.int (0 : Int32)) := D11 (Or.inr (hw _ (List.mem_of_getElem? (i := 17) rfl))) (ty := .int) (by decide)
  have F_unsupportedRelation_b11 : Fld Z h11 b11 "com/example/bridgework/bridgework/model/CorrespondenceUse" "unsupportedRelation" "I" (.int (0 : Int32)) := D11 (Or.inr (hw _ (List.mem_of_getElem? (i := 19) rfl))) (ty := .int) (by decide)
  have F_undeclaredClass_b11 : Fld Z h11 b11 "com/example/bridgework/bridgework/model/CorrespondenceUse" "undeclaredClass" "I" (.int (0 : Int32)) := D11 (Or.inr (hw _ (List.mem_of_getElem? (i := 21) rfl))) (ty := .int) (by decide)
  have E_b11 := A11
  have g_b11 : n0 ≤ b11 := Nat.le_trans (Nat.le_trans (Nat.le_trans (Nat.le_trans (Nat.le_trans (Nat.le_trans (Nat.le_trans Z0 E5.1) K6.1) E7.1) K8.1) E9.1) K10.1) (Nat.le_of_eq g11.symm)
  have sz_b11 : h0.size ≤ b11 := (Nat.le_trans KH10.1 (Nat.le_of_eq g11.symm))
  have K11 : Keep h0 h11 [] := KH10.ext E11
  obtain ⟨_, _, ⟨T12, L12, k12, n12⟩, -, X12, ⟨Lc12, hQ12, l12, y12, z12⟩, st12⟩ := X11.specialBack hx (y := (⟨"com/example/bridgework/bridgework/model/CorrespondenceUse", "<init>", "(IIII)V"⟩ : MethodName)) rfl hown (mvT hZ (hw _ (List.mem_of_getElem? (i := 3) rfl))) (mvT hZ (hw _ (List.mem_of_getElem? (i := 4) rfl))) (mvT hZ (hw _ (List.mem_of_getElem? (i := 5) rfl))) (by decide) (backOf (W := 1) (rm1 l Z a0 hw [] b11 (0 : Int32) (0 : Int32) p3 (0 : Int32) (.int (0 : Int32)) (.int (0 : Int32)) (.int (0 : Int32)) (.int (0 : Int32)) h11 n0 (Nat.le_trans g_b11 (Nat.le_of_lt E_b11.lt)) E_b11 F_used_b11 g_b11 F_notBetweenNamedClasses_b11 F_unsupportedRelation_b11 F_undeclaredClass_b11) hZ (hw _ (List.mem_of_getElem? (i := 5) rfl)) (hw _ (List.mem_of_getElem? (i := 2) rfl)) (by decide) (by decide)) (g := (mkF m 47 #[.val (.int p1), .val (.int p2), .val (.int p3), .val (.int p4), .val (.ref b5), .val (.ref b7), .val (.ref b9), .unset, .unset, .unset, .unset, .unset, .unset, .unset] [(.int (0 : Int32)), (.int p3), (.int (0 : Int32)), (.int (0 : Int32)), (.ref b11), (.ref b11)])) rfl (by rw [hml]; rfl) (Steps.refl _) (a := b11) (argsL := [(.int (0 : Int32)), (.int (0 : Int32)), (.int p3), (.int (0 : Int32))]) (rest := [(.ref b11)]) (lenOf pd_0_0 rfl) rfl (by show 2 * 0 + _ ≤ _; exact Nat.le_of_eq rfl) (hb hby at_47) (fun _ _ => ⟨rfl, e11, (by decide : 4 + 0 ≤ _), (by decide : 16 + 0 ≤ _)⟩)
  dsimp only [Pt.U, Pt.locs, Pt.cells, Pt.slots] at X12 l12 y12 z12 st12 hQ12
  subst l12 y12 z12
  obtain ⟨rfl, N12q, K12, O12_11⟩ := hQ12
  have KH12 : Keep h0 T12.heap [] := K11.trans K12 (fun x hx => by cases List.mem_singleton.mp hx; exact Or.inr sz_b11)
  have ne12_5 : b5 ≠ b11 := Nat.ne_of_lt (g11 ▸ O10_5.1.lt)
  have O12_5 := (O10_5.ext E11).keep K12 (ninS ne12_5 nin0)
  have ne12_7 : b7 ≠ b11 := Nat.ne_of_lt (g11 ▸ O10_7.1.lt)
  have O12_7 := (O10_7.ext E11).keep K12 (ninS ne12_7 nin0)
  have ne12_9 : b9 ≠ b11 := Nat.ne_of_lt (g11 ▸ O10_9.1.lt)
  have O12_9 := (O10_9.ext E11).keep K12 (ninS ne12_9 nin0)
  have N12 := Fr.app N10 N12q
  obtain ⟨T13, h13, X13, e13, E13, A13, D13, -, st13⟩ := newO X12 hx hZ hown (hw _ (List.mem_of_getElem? (i := 0) rfl)) (hw _ (List.mem_of_getElem? (i := 1) rfl)) (hw _ (List.mem_of_getElem? (i := 2) rfl)) rfl (g := (mkF m 52 #[.val (.int p1), .val (.int p2), .val (.int p3), .val (.int p4), .val (.ref b5), .val (.ref b7), .val (.ref b9), .val (.ref b11), .unset, .unset, .unset, .unset, .unset, .unset] [])) rfl (hb hby at_52) (by decide) (by decide)
  obtain ⟨b13, g13⟩ : ∃ z, z = T12.heap.size := ⟨_, rfl⟩
  rw [← g13] at A13 D13 st13
  have F_used_b13 : Fld Z h13 b13 "com/example/bridgework/bridgework/model/CorrespondenceUse" "used" "I" (.int (0 : Int32)) := D13 (Or.inr (hw _ (List.mem_of_getElem? (i := 15) rfl))) (ty := .int) (by decide)
  have F_notBetweenNamedClasses_b13 : Fld Z h13 b13 "com/example/bridgework/bridgework/model/CorrespondenceUse" "notBetweenNamedClasses" "I" (.int (0 : Int32)) := D13 (Or.inr (hw _ (List.mem_of_getElem? (i := 17) rfl))) (ty := .int) (by decide)
  have F_unsupportedRelation_b13 : Fld Z h13 b13 "com/example/bridgework/bridgework/model/CorrespondenceUse" "unsupportedRelation" "I" (.int (0 : Int32)) := D13 (Or.inr (hw _ (List.mem_of_getElem? (i := 19) rfl))) (ty := .int) (by decide)
  have F_undeclaredClass_b13 : Fld Z h13 b13 "com/example/bridgework/bridgework/model/CorrespondenceUse" "undeclaredClass" "I" (.int (0 : Int32)) := D13 (Or.inr (hw _ (List.mem_of_getElem? (i := 21) rfl))) (ty := .int) (by decide)
  have E_b13 := A13
  have g_b13 : n0 ≤ b13 := Nat.le_trans (Nat.le_trans (Nat.le_trans (Nat.le_trans (Nat.le_trans (Nat.le_trans (Nat.le_trans (Nat.le_trans (Nat.le_trans Z0 E5.1) K6.1) E7.1) K8.1) E9.1) K10.1) E11.1) K12.1) (Nat.le_of_eq g13.symm)
  have sz_b13 : h0.size ≤ b13 := (Nat.le_trans KH12.1 (Nat.le_of_eq g13.symm))
  have K13 : Keep h0 h13 [] := KH12.ext E13
  obtain ⟨_, _, ⟨T14, L14, k14, n14⟩, -, X14, ⟨Lc14, hQ14, l14, y14, z14⟩, st14⟩ := X13.specialBack hx (y := (⟨"com/example/bridgework/bridgework/model/CorrespondenceUse", "<init>", "(IIII)V"⟩ : MethodName)) rfl hown (mvT hZ (hw _ (List.mem_of_getElem? (i := 3) rfl))) (mvT hZ (hw _ (List.mem_of_getElem? (i := 4) rfl))) (mvT hZ (hw _ (List.mem_of_getElem? (i := 5) rfl))) (by decide) (backOf (W := 1) (rm1 l Z a0 hw [] b13 (0 : Int32) (0 : Int32) (0 : Int32) p4 (.int (0 : Int32)) (.int (0 : Int32)) (.int (0 : Int32)) (.int (0 : Int32)) h13 n0 (Nat.le_trans g_b13 (Nat.le_of_lt E_b13.lt)) E_b13 F_used_b13 g_b13 F_notBetweenNamedClasses_b13 F_unsupportedRelation_b13 F_undeclaredClass_b13) hZ (hw _ (List.mem_of_getElem? (i := 5) rfl)) (hw _ (List.mem_of_getElem? (i := 2) rfl)) (by decide) (by decide)) (g := (mkF m 60 #[.val (.int p1), .val (.int p2), .val (.int p3), .val (.int p4), .val (.ref b5), .val (.ref b7), .val (.ref b9), .val (.ref b11), .unset, .unset, .unset, .unset, .unset, .unset] [(.int p4), (.int (0 : Int32)), (.int (0 : Int32)), (.int (0 : Int32)), (.ref b13), (.ref b13)])) rfl (by rw [hml]; rfl) (Steps.refl _) (a := b13) (argsL := [(.int (0 : Int32)), (.int (0 : Int32)), (.int (0 : Int32)), (.int p4)]) (rest := [(.ref b13)]) (lenOf pd_0_0 rfl) rfl (by show 2 * 0 + _ ≤ _; exact Nat.le_of_eq rfl) (hb hby at_60) (fun _ _ => ⟨rfl, e13, (by decide : 5 + 0 ≤ _), (by decide : 20 + 0 ≤ _)⟩)
  dsimp only [Pt.U, Pt.locs, Pt.cells, Pt.slots] at X14 l14 y14 z14 st14 hQ14
  subst l14 y14 z14
  obtain ⟨rfl, N14q, K14, O14_13⟩ := hQ14
  have KH14 : Keep h0 T14.heap [] := K13.trans K14 (fun x hx => by cases List.mem_singleton.mp hx; exact Or.inr sz_b13)
  have ne14_5 : b5 ≠ b13 := Nat.ne_of_lt (g13 ▸ O12_5.1.lt)
  have O14_5 := (O12_5.ext E13).keep K14 (ninS ne14_5 nin0)
  have ne14_7 : b7 ≠ b13 := Nat.ne_of_lt (g13 ▸ O12_7.1.lt)
  have O14_7 := (O12_7.ext E13).keep K14 (ninS ne14_7 nin0)
  have ne14_9 : b9 ≠ b13 := Nat.ne_of_lt (g13 ▸ O12_9.1.lt)
  have O14_9 := (O12_9.ext E13).keep K14 (ninS ne14_9 nin0)
  have ne14_11 : b11 ≠ b13 := Nat.ne_of_lt (g13 ▸ O12_11.1.lt)
  have O14_11 := (O12_11.ext E13).keep K14 (ninS ne14_11 nin0)
  have N14 := Fr.app N12 N14q
  obtain ⟨cq15, kq15, q15a, q15b, q15c⟩ := isOf hZ rfl (((((((E_b7.keep K8).ext E9).keep K10).ext E11).keep K12).ext E13).keep K14)
  obtain ⟨_, _, ⟨T15, L15, k15, n15⟩, -, X15, ⟨Lc15, hQ15, l15, y15, z15⟩, st15⟩ := X14.virtualBack hx (y := (⟨"com/example/bridgework/bridgework/model/CorrespondenceUse", "total", "()I"⟩ : MethodName)) (z := (⟨"com/example/bridgework/bridgework/model/CorrespondenceUse", "total", "()I"⟩ : MethodName)) hown (mvT hZ (hw _ (List.mem_of_getElem? (i := 22) rfl))) (mvT hZ (hw _ (List.mem_of_getElem? (i := 23) rfl))) (notFace_of_selects (args := #[]) (mvT hZ (hw _ (List.mem_of_getElem? (i := 25) rfl)))) (mvT hZ (hw _ (List.mem_of_getElem? (i := 25) rfl))) (mvT hZ (hw _ (List.mem_of_getElem? (i := 24) rfl))) (by decide) (backOf (W := 0) (rm4 l Z a0 hw [] b7 p1 (0 : Int32) (0 : Int32) (0 : Int32) T14.heap n0 (Nat.le_trans g_b7 (Nat.le_of_lt O14_7.1.lt)) O14_7.2.1 O14_7.2.2.1 O14_7.2.2.2.1 O14_7.2.2.2.2) hZ (hw _ (List.mem_of_getElem? (i := 26) rfl)) (hw _ (List.mem_of_getElem? (i := 2) rfl)) (by decide) (by decide)) q15a q15c (g := (mkF m 67 #[.val (.int p1), .val (.int p2), .val (.int p3), .val (.int p4), .val (.ref b5), .val (.ref b7), .val (.ref b9), .val (.ref b11), .val (.ref b13), .unset, .unset, .unset, .unset, .unset] [(.ref b7)])) rfl (by rw [hml]; rfl) (Steps.refl _) (argsL := []) (rest := []) (lenOf pd_0_2 rfl) rfl (by show 2 * 0 + _ ≤ _; exact Nat.le_of_eq rfl) (hb hby at_67) (fun _ _ => ⟨rfl, rfl, (by decide : 5 + 0 ≤ _), (by decide : 20 + 0 ≤ _)⟩)
  dsimp only [Pt.U, Pt.locs, Pt.cells, Pt.slots] at X15 l15 y15 z15 st15 hQ15
  subst l15 y15 z15
  obtain ⟨rfl, N15q, he15⟩ := hQ15
  have K15 : Keep T14.heap T15.heap [] := by rw [he15]; exact Keep.refl _ _
  have O15_5 := O14_5.keep K15 nin0
  have O15_7 := O14_7.keep K15 nin0
  have O15_9 := O14_9.keep K15 nin0
  have O15_11 := O14_11.keep K15 nin0
  have O15_13 := O14_13.keep K15 nin0
  have N15 := Fr.app N14 N15q
  obtain ⟨cq16, kq16, q16a, q16b, q16c⟩ := isOf hZ rfl ((((((E_b9.keep K10).ext E11).keep K12).ext E13).keep K14).keep K15)
  obtain ⟨_, _, ⟨T16, L16, k16, n16⟩, -, X16, ⟨Lc16, hQ16, l16, y16, z16⟩, st16⟩ := X15.virtualBack hx (y := (⟨"com/example/bridgework/bridgework/model/CorrespondenceUse", "total", "()I"⟩ : MethodName)) (z := (⟨"com/example/bridgework/bridgework/model/CorrespondenceUse", "total", "()I"⟩ : MethodName)) hown (mvT hZ (hw _ (List.mem_of_getElem? (i := 22) rfl))) (mvT hZ (hw _ (List.mem_of_getElem? (i := 23) rfl))) (notFace_of_selects (args := #[]) (mvT hZ (hw _ (List.mem_of_getElem? (i := 25) rfl)))) (mvT hZ (hw _ (List.mem_of_getElem? (i := 25) rfl))) (mvT hZ (hw _ (List.mem_of_getElem? (i := 24) rfl))) (by decide) (backOf (W := 0) (rm4 l Z a0 hw [] b9 (0 : Int32) p2 (0 : Int32) (0 : Int32) T15.heap n0 (Nat.le_trans g_b9 (Nat.le_of_lt O15_9.1.lt)) O15_9.2.1 O15_9.2.2.1 O15_9.2.2.2.1 O15_9.2.2.2.2) hZ (hw _ (List.mem_of_getElem? (i := 26) rfl)) (hw _ (List.mem_of_getElem? (i := 2) rfl)) (by decide) (by decide)) q16a q16c (g := (mkF m 74 #[.val (.int p1), .val (.int p2), .val (.int p3), .val (.int p4), .val (.ref b5), .val (.ref b7), .val (.ref b9), .val (.ref b11), .val (.ref b13), .val (.int (((p1 + (0 : Int32)) + (0 : Int32)) + (0 : Int32))), .unset, .unset, .unset, .unset] [(.ref b9)])) rfl (by rw [hml]; rfl) (Steps.refl _) (argsL := []) (rest := []) (lenOf pd_0_2 rfl) rfl (by show 2 * 0 + _ ≤ _; exact Nat.le_of_eq rfl) (hb hby at_74) (fun _ _ => ⟨rfl, rfl, (by decide : 5 + 0 ≤ _), (by decide : 20 + 0 ≤ _)⟩)
  dsimp only [Pt.U, Pt.locs, Pt.cells, Pt.slots] at X16 l16 y16 z16 st16 hQ16
  subst l16 y16 z16
  obtain ⟨rfl, N16q, he16⟩ := hQ16
  have K16 : Keep T15.heap T16.heap [] := by rw [he16]; exact Keep.refl _ _
  have O16_5 := O15_5.keep K16 nin0
  have O16_7 := O15_7.keep K16 nin0
  have O16_9 := O15_9.keep K16 nin0
  have O16_11 := O15_11.keep K16 nin0
  have O16_13 := O15_13.keep K16 nin0
  have N16 := Fr.app N15 N16q
  obtain ⟨cq17, kq17, q17a, q17b, q17c⟩ := isOf hZ rfl (((((E_b11.keep K12).ext E13).keep K14).keep K15).keep K16)
  obtain ⟨_, _, ⟨T17, L17, k17, n17⟩, -, X17, ⟨Lc17, hQ17, l17, y17, z17⟩, st17⟩ := X16.virtualBack hx (y := (⟨"com/example/bridgework/bridgework/model/CorrespondenceUse", "total", "()I"⟩ : MethodName)) (z := (⟨"com/example/bridgework/bridgework/model/CorrespondenceUse", "total", "()I"⟩ : MethodName)) hown (mvT hZ (hw _ (List.mem_of_getElem? (i := 22) rfl))) (mvT hZ (hw _ (List.mem_of_getElem? (i := 23) rfl))) (notFace_of_selects (args := #[]) (mvT hZ (hw _ (List.mem_of_getElem? (i := 25) rfl)))) (mvT hZ (hw _ (List.mem_of_getElem? (i := 25) rfl))) (mvT hZ (hw _ (List.mem_of_getElem? (i := 24) rfl))) (by decide) (backOf (W := 0) (rm4 l Z a0 hw [] b11 (0 : Int32) (0 : Int32) p3 (0 : Int32) T16.heap n0 (Nat.le_trans g_b11 (Nat.le_of_lt O16_11.1.lt)) O16_11.2.1 O16_11.2.2.1 O16_11.2.2.2.1 O16_11.2.2.2.2) hZ (hw _ (List.mem_of_getElem? (i := 26) rfl)) (hw _ (List.mem_of_getElem? (i := 2) rfl)) (by decide) (by decide)) q17a q17c (g := (mkF m 81 #[.val (.int p1), .val (.int p2), .val (.int p3), .val (.int p4), .val (.ref b5), .val (.ref b7), .val (.ref b9), .val (.ref b11), .val (.ref b13), .val (.int (((p1 + (0 : Int32)) + (0 : Int32)) + (0 : Int32))), .val (.int ((((0 : Int32) + p2) + (0 : Int32)) + (0 : Int32))), .unset, .unset, .unset] [(.ref b11)])) rfl (by rw [hml]; rfl) (Steps.refl _) (argsL := []) (rest := []) (lenOf pd_0_2 rfl) rfl (by show 2 * 0 + _ ≤ _; exact Nat.le_of_eq rfl) (hb hby at_81) (fun _ _ => ⟨rfl, rfl, (by decide : 5 + 0 ≤ _), (by decide : 20 + 0 ≤ _)⟩)
  dsimp only [Pt.U, Pt.locs, Pt.cells, Pt.slots] at X17 l17 y17 z17 st17 hQ17
  subst l17 y17 z17
  obtain ⟨rfl, N17q, he17⟩ := hQ17
  have K17 : Keep T16.heap T17.heap [] := by rw [he17]; exact Keep.refl _ _
  have O17_5 := O16_5.keep K17 nin0
  have O17_7 := O16_7.keep K17 nin0
  have O17_9 := O16_9.keep K17 nin0
  have O17_11 := O16_11.keep K17 nin0
  have O17_13 := O16_13.keep K17 nin0
  have N17 := Fr.app N16 N17q
  obtain ⟨cq18, kq18, q18a, q18b, q18c⟩ := isOf hZ rfl ((((E_b13.keep K14).keep K15).keep K16).keep K17)
  obtain ⟨_, _, ⟨T18, L18, k18, n18⟩, -, X18, ⟨Lc18, hQ18, l18, y18, z18⟩, st18⟩ := X17.virtualBack hx (y := (⟨"com/example/bridgework/bridgework/model/CorrespondenceUse", "total", "()I"⟩ : MethodName)) (z := (⟨"com/example/bridgework/bridgework/model/CorrespondenceUse", "total", "()I"⟩ : MethodName)) hown (mvT hZ (hw _ (List.mem_of_getElem? (i := 22) rfl))) (mvT hZ (hw _ (List.mem_of_getElem? (i := 23) rfl))) (notFace_of_selects (args := #[]) (mvT hZ (hw _ (List.mem_of_getElem? (i := 25) rfl)))) (mvT hZ (hw _ (List.mem_of_getElem? (i := 25) rfl))) (mvT hZ (hw _ (List.mem_of_getElem? (i := 24) rfl))) (by decide) (backOf (W := 0) (rm4 l Z a0 hw [] b13 (0 : Int32) (0 : Int32) (0 : Int32) p4 T17.heap n0 (Nat.le_trans g_b13 (Nat.le_of_lt O17_13.1.lt)) O17_13.2.1 O17_13.2.2.1 O17_13.2.2.2.1 O17_13.2.2.2.2) hZ (hw _ (List.mem_of_getElem? (i := 26) rfl)) (hw _ (List.mem_of_getElem? (i := 2) rfl)) (by decide) (by decide)) q18a q18c (g := (mkF m 88 #[.val (.int p1), .val (.int p2), .val (.int p3), .val (.int p4), .val (.ref b5), .val (.ref b7), .val (.ref b9), .val (.ref b11), .val (.ref b13), .val (.int (((p1 + (0 : Int32)) + (0 : Int32)) + (0 : Int32))), .val (.int ((((0 : Int32) + p2) + (0 : Int32)) + (0 : Int32))), .val (.int ((((0 : Int32) + (0 : Int32)) + p3) + (0 : Int32))), .unset, .unset] [(.ref b13)])) rfl (by rw [hml]; rfl) (Steps.refl _) (argsL := []) (rest := []) (lenOf pd_0_2 rfl) rfl (by show 2 * 0 + _ ≤ _; exact Nat.le_of_eq rfl) (hb hby at_88) (fun _ _ => ⟨rfl, rfl, (by decide : 5 + 0 ≤ _), (by decide : 20 + 0 ≤ _)⟩)
  dsimp only [Pt.U, Pt.locs, Pt.cells, Pt.slots] at X18 l18 y18 z18 st18 hQ18
  subst l18 y18 z18
  obtain ⟨rfl, N18q, he18⟩ := hQ18
  have K18 : Keep T17.heap T18.heap [] := by rw [he18]; exact Keep.refl _ _
  have O18_5 := O17_5.keep K18 nin0
  have O18_7 := O17_7.keep K18 nin0
  have O18_9 := O17_9.keep K18 nin0
  have O18_11 := O17_11.keep K18 nin0
  have O18_13 := O17_13.keep K18 nin0
  have N18 := Fr.app N17 N18q
  obtain ⟨cq19, kq19, q19a, q19b, q19c⟩ := isOf hZ rfl (((((((((((((E_b5.keep K6).ext E7).keep K8).ext E9).keep K10).ext E11).keep K12).ext E13).keep K14).keep K15).keep K16).keep K17).keep K18)
  obtain ⟨_, _, ⟨T19, L19, k19, n19⟩, -, X19, ⟨Lc19, hQ19, l19, y19, z19⟩, st19⟩ := X18.virtualBack hx (y := (⟨"com/example/bridgework/bridgework/model/CorrespondenceUse", "total", "()I"⟩ : MethodName)) (z := (⟨"com/example/bridgework/bridgework/model/CorrespondenceUse", "total", "()I"⟩ : MethodName)) hown (mvT hZ (hw _ (List.mem_of_getElem? (i := 22) rfl))) (mvT hZ (hw _ (List.mem_of_getElem? (i := 23) rfl))) (notFace_of_selects (args := #[]) (mvT hZ (hw _ (List.mem_of_getElem? (i := 25) rfl)))) (mvT hZ (hw _ (List.mem_of_getElem? (i := 25) rfl))) (mvT hZ (hw _ (List.mem_of_getElem? (i := 24) rfl))) (by decide) (backOf (W := 0) (rm4 l Z a0 hw [] b5 p1 p2 p3 p4 T18.heap n0 (Nat.le_trans g_b5 (Nat.le_of_lt O18_5.1.lt)) O18_5.2.1 O18_5.2.2.1 O18_5.2.2.2.1 O18_5.2.2.2.2) hZ (hw _ (List.mem_of_getElem? (i := 26) rfl)) (hw _ (List.mem_of_getElem? (i := 2) rfl)) (by decide) (by decide)) q19a q19c (g := (mkF m 95 #[.val (.int p1), .val (.int p2), .val (.int p3), .val (.int p4), .val (.ref b5), .val (.ref b7), .val (.ref b9), .val (.ref b11), .val (.ref b13), .val (.int (((p1 + (0 : Int32)) + (0 : Int32)) + (0 : Int32))), .val (.int ((((0 : Int32) + p2) + (0 : Int32)) + (0 : Int32))), .val (.int ((((0 : Int32) + (0 : Int32)) + p3) + (0 : Int32))), .val (.int ((((0 : Int32) + (0 : Int32)) + (0 : Int32)) + p4)), .unset] [(.ref b5)])) rfl (by rw [hml]; rfl) (Steps.refl _) (argsL := []) (rest := []) (lenOf pd_0_2 rfl) rfl (by show 2 * 0 + _ ≤ _; exact Nat.le_of_eq rfl) (hb hby at_95) (fun _ _ => ⟨rfl, rfl, (by decide : 5 + 0 ≤ _), (by decide : 20 + 0 ≤ _)⟩)
  dsimp only [Pt.U, Pt.locs, Pt.cells, Pt.slots] at X19 l19 y19 z19 st19 hQ19
  subst l19 y19 z19
  obtain ⟨rfl, N19q, he19⟩ := hQ19
  have K19 : Keep T18.heap T19.heap [] := by rw [he19]; exact Keep.refl _ _
  have O19_5 := O18_5.keep K19 nin0
  have O19_7 := O18_7.keep K19 nin0
  have O19_9 := O18_9.keep K19 nin0
  have O19_11 := O18_11.keep K19 nin0
  have O19_13 := O18_13.keep K19 nin0
  have N19 := Fr.app N18 N19q
  obtain ⟨fs, hr, hrun, hended, hW, hsame⟩ := X19.leave (v := some (.int (1 : Int32))) (fun h => by rw [Bd.returns] at h; cases h)
  refine ⟨_, _, pre0 _ ?_, hrun, hended, _, _, rfl, ?_, ⟨_, rfl⟩, hW, hsame.mono (by decide) (by decide)⟩
  · show Steps p.tables e below (s₁.setTop (mkF m 0 #[.val (.int p1), .val (.int p2), .val (.int p3), .val (.int p4), .unset, .unset, .unset, .unset, .unset, .unset, .unset, .unset, .unset, .unset] [])) _
    refine st5 _ ?_
    show Steps p.tables e below (T5.setTop (mkF m 3 #[.val (.int p1), .val (.int p2), .val (.int p3), .val (.int p4), .unset, .unset, .unset, .unset, .unset, .unset, .unset, .unset, .unset, .unset] [(.ref b5)])) _
    refine XS.dup X5.here hx rfl (hb hby at_3) rfl rfl ?_
    show Steps p.tables e below (T5.setTop (mkF m 4 #[.val (.int p1), .val (.int p2), .val (.int p3), .val (.int p4), .unset, .unset, .unset, .unset, .unset, .unset, .unset, .unset, .unset, .unset] [(.ref b5), (.ref b5)])) _
    refine XS.iloadN X5.here hx rfl (hb hby at_4) rfl ?_
    show Steps p.tables e below (T5.setTop (mkF m 5 #[.val (.int p1), .val (.int p2), .val (.int p3), .val (.int p4), .unset, .unset, .unset, .unset, .unset, .unset, .unset, .unset, .unset, .unset] [(.int p1), (.ref b5), (.ref b5)])) _
    refine XS.iloadN X5.here hx rfl (hb hby at_5) rfl ?_
    show Steps p.tables e below (T5.setTop (mkF m 6 #[.val (.int p1), .val (.int p2), .val (.int p3), .val (.int p4), .unset, .unset, .unset, .unset, .unset, .unset, .unset, .unset, .unset, .unset] [(.int p2), (.int p1), (.ref b5), (.ref b5)])) _
    refine XS.iloadN X5.here hx rfl (hb hby at_6) rfl ?_
    show Steps p.tables e below (T5.setTop (mkF m 7 #[.val (.int p1), .val (.int p2), .val (.int p3), .val (.int p4), .unset, .unset, .unset, .unset, .unset, .unset, .unset, .unset, .unset, .unset] [(.int p3), (.int p2), (.int p1), (.ref b5), (.ref b5)])) _
    refine XS.iloadN X5.here hx rfl (hb hby at_7) rfl ?_
    show Steps p.tables e below (T5.setTop (mkF m 8 #[.val (.int p1), .val (.int p2), .val (.int p3), .val (.int p4), .unset, .unset, .unset, .unset, .unset, .unset, .unset, .unset, .unset, .unset] [(.int p4), (.int p3), (.int p2), (.int p1), (.ref b5), (.ref b5)])) _
    refine st6.trans ?_
    show Steps p.tables e below (T6.setTop (mkF m 11 #[.val (.int p1), .val (.int p2), .val (.int p3), .val (.int p4), .unset, .unset, .unset, .unset, .unset, .unset, .unset, .unset, .unset, .unset] [(.ref b5)])) _
    refine XS.astore X6.here hx rfl (hb hby at_11) rfl rfl (l' := #[.val (.int p1), .val (.int p2), .val (.int p3), .val (.int p4), .val (.ref b5), .unset, .unset, .unset, .unset, .unset, .unset, .unset, .unset, .unset]) rfl ?_
    show Steps p.tables e below (T6.setTop (mkF m 13 #[.val (.int p1), .val (.int p2), .val (.int p3), .val (.int p4), .val (.ref b5), .unset, .unset, .unset, .unset, .unset, .unset, .unset, .unset, .unset] [])) _
    refine st7 _ ?_
    show Steps p.tables e below (T7.setTop (mkF m 16 #[.val (.int p1), .val (.int p2), .val (.int p3), .val (.int p4), .val (.ref b5), .unset, .unset, .unset, .unset, .unset, .unset, .unset, .unset, .unset] [(.ref b7)])) _
    refine XS.dup X7.here hx rfl (hb hby at_16) rfl rfl ?_
    show Steps p.tables e below (T7.setTop (mkF m 17 #[.val (.int p1), .val (.int p2), .val (.int p3), .val (.int p4), .val (.ref b5), .unset, .unset, .unset, .unset, .unset, .unset, .unset, .unset, .unset] [(.ref b7), (.ref b7)])) _
    refine XS.iloadN X7.here hx rfl (hb hby at_17) rfl ?_
    show Steps p.tables e below (T7.setTop (mkF m 18 #[.val (.int p1), .val (.int p2), .val (.int p3), .val (.int p4), .val (.ref b5), .unset, .unset, .unset, .unset, .unset, .unset, .unset, .unset, .unset] [(.int p1), (.ref b7), (.ref b7)])) _
    refine XS.iconst X7.here hx rfl (hb hby at_18) ?_
    show Steps p.tables e below (T7.setTop (mkF m 19 #[.val (.int p1), .val (.int p2), .val (.int p3), .val (.int p4), .val (.ref b5), .unset, .unset, .unset, .unset, .unset, .unset, .unset, .unset, .unset] [(.int (0 : Int32)), (.int p1), (.ref b7), (.ref b7)])) _
    refine XS.iconst X7.here hx rfl (hb hby at_19) ?_
    show Steps p.tables e below (T7.setTop (mkF m 20 #[.val (.int p1), .val (.int p2), .val (.int p3), .val (.int p4), .val (.ref b5), .unset, .unset, .unset, .unset, .unset, .unset, .unset, .unset, .unset] [(.int (0 : Int32)), (.int (0 : Int32)), (.int p1), (.ref b7), (.ref b7)])) _
    refine XS.iconst X7.here hx rfl (hb hby at_20) ?_
    show Steps p.tables e below (T7.setTop (mkF m 21 #[.val (.int p1), .val (.int p2), .val (.int p3), .val (.int p4), .val (.ref b5), .unset, .unset, .unset, .unset, .unset, .unset, .unset, .unset, .unset] [(.int (0 : Int32)), (.int (0 : Int32)), (.int (0 : Int32)), (.int p1), (.ref b7), (.ref b7)])) _
    refine st8.trans ?_
    show Steps p.tables e below (T8.setTop (mkF m 24 #[.val (.int p1), .val (.int p2), .val (.int p3), .val (.int p4), .val (.ref b5), .unset, .unset, .unset, .unset, .unset, .unset, .unset, .unset, .unset] [(.ref b7)])) _
    refine XS.astore X8.here hx rfl (hb hby at_24) rfl rfl (l' := #[.val (.int p1), .val (.int p2), .val (.int p3), .val (.int p4), .val (.ref b5), .val (.ref b7), .unset, .unset, .unset, .unset, .unset, .unset, .unset, .unset]) rfl ?_
    show Steps p.tables e below (T8.setTop (mkF m 26 #[.val (.int p1), .val (.int p2), .val (.int p3), .val (.int p4), .val (.ref b5), .val (.ref b7), .unset, .unset, .unset, .unset, .unset, .unset, .unset, .unset] [])) _
    refine st9 _ ?_
    show Steps p.tables e below (T9.setTop (mkF m 29 #[.val (.int p1), .val (.int p2), .val (.int p3), .val (.int p4), .val (.ref b5), .val (.ref b7), .unset, .unset, .unset, .unset, .unset, .unset, .unset, .unset] [(.ref b9)])) _
    refine XS.dup X9.here hx rfl (hb hby at_29) rfl rfl ?_
    show Steps p.tables e below (T9.setTop (mkF m 30 #[.val (.int p1), .val (.int p2), .val (.int p3), .val (.int p4), .val (.ref b5), .val (.ref b7), .unset, .unset, .unset, .unset, .unset, .unset, .unset, .unset] [(.ref b9), (.ref b9)])) _
    refine XS.iconst X9.here hx rfl (hb hby at_30) ?_
    show Steps p.tables e below (T9.setTop (mkF m 31 #[.val (.int p1), .val (.int p2), .val (.int p3), .val (.int p4), .val (.ref b5), .val (.ref b7), .unset, .unset, .unset, .unset, .unset, .unset, .unset, .unset] [(.int (0 : Int32)), (.ref b9), (.ref b9)])) _
    refine XS.iloadN X9.here hx rfl (hb hby at_31) rfl ?_
    show Steps p.tables e below (T9.setTop (mkF m 32 #[.val (.int p1), .val (.int p2), .val (.int p3), .val (.int p4), .val (.ref b5), .val (.ref b7), .unset, .unset, .unset, .unset, .unset, .unset, .unset, .unset] [(.int p2), (.int (0 : Int32)), (.ref b9), (.ref b9)])) _
    refine XS.iconst X9.here hx rfl (hb hby at_32) ?_
    show Steps p.tables e below (T9.setTop (mkF m 33 #[.val (.int p1), .val (.int p2), .val (.int p3), .val (.int p4), .val (.ref b5), .val (.ref b7), .unset, .unset, .unset, .unset, .unset, .unset, .unset, .unset] [(.int (0 : Int32)), (.int p2), (.int (0 : Int32)), (.ref b9), (.ref b9)])) _
    refine XS.iconst X9.here hx rfl (hb hby at_33) ?_
    show Steps p.tables e below (T9.setTop (mkF m 34 #[.val (.int p1), .val (.int p2), .val (.int p3), .val (.int p4), .val (.ref b5), .val (.ref b7), .unset, .unset, .unset, .unset, .unset, .unset, .unset, .unset] [(.int (0 : Int32)), (.int (0 : Int32)), (.int p2), (.int (0 : Int32)), (.ref b9), (.ref b9)])) _
    refine st10.trans ?_
    show Steps p.tables e below (T10.setTop (mkF m 37 #[.val (.int p1), .val (.int p2), .val (.int p3), .val (.int p4), .val (.ref b5), .val (.ref b7), .unset, .unset, .unset, .unset, .unset, .unset, .unset, .unset] [(.ref b9)])) _
    refine XS.astore X10.here hx rfl (hb hby at_37) rfl rfl (l' := #[.val (.int p1), .val (.int p2), .val (.int p3), .val (.int p4), .val (.ref b5), .val (.ref b7), .val (.ref b9), .unset, .unset, .unset, .unset, .unset, .unset, .unset]) rfl ?_
    show Steps p.tables e below (T10.setTop (mkF m 39 #[.val (.int p1), .val (.int p2), .val (.int p3), .val (.int p4), .val (.ref b5), .val (.ref b7), .val (.ref b9), .unset, .unset, .unset, .unset, .unset, .unset, .unset] [])) _
    refine st11 _ ?_
    show Steps p.tables e below (T11.setTop (mkF m 42 #[.val (.int p1), .val (.int p2), .val (.int p3), .val (.int p4), .val (.ref b5), .val (.ref b7), .val (.ref b9), .unset, .unset, .unset, .unset, .unset, .unset, .unset] [(.ref b11)])) _
    refine XS.dup X11.here hx rfl (hb hby at_42) rfl rfl ?_
    show Steps p.tables e below (T11.setTop (mkF m 43 #[.val (.int p1), .val (.int p2), .val (.int p3), .val (.int p4), .val (.ref b5), .val (.ref b7), .val (.ref b9), .unset, .unset, .unset, .unset, .unset, .unset, .unset] [(.ref b11), (.ref b11)])) _
    refine XS.iconst X11.here hx rfl (hb hby at_43) ?_
    show Steps p.tables e below (T11.setTop (mkF m 44 #[.val (.int p1), .val (.int p2), .val (.int p3), .val (.int p4), .val (.ref b5), .val (.ref b7), .val (.ref b9), .unset, .unset, .unset, .unset, .unset, .unset, .unset] [(.int (0 : Int32)), (.ref b11), (.ref b11)])) _
    refine XS.iconst X11.here hx rfl (hb hby at_44) ?_
    show Steps p.tables e below (T11.setTop (mkF m 45 #[.val (.int p1), .val (.int p2), .val (.int p3), .val (.int p4), .val (.ref b5), .val (.ref b7), .val (.ref b9), .unset, .unset, .unset, .unset, .unset, .unset, .unset] [(.int (0 : Int32)), (.int (0 : Int32)), (.ref b11), (.ref b11)])) _
    refine XS.iloadN X11.here hx rfl (hb hby at_45) rfl ?_
    show Steps p.tables e below (T11.setTop (mkF m 46 #[.val (.int p1), .val (.int p2), .val (.int p3), .val (.int p4), .val (.ref b5), .val (.ref b7), .val (.ref b9), .unset, .unset, .unset, .unset, .unset, .unset, .unset] [(.int p3), (.int (0 : Int32)), (.int (0 : Int32)), (.ref b11), (.ref b11)])) _
    refine XS.iconst X11.here hx rfl (hb hby at_46) ?_
    show Steps p.tables e below (T11.setTop (mkF m 47 #[.val (.int p1), .val (.int p2), .val (.int p3), .val (.int p4), .val (.ref b5), .val (.ref b7), .val (.ref b9), .unset, .unset, .unset, .unset, .unset, .unset, .unset] [(.int (0 : Int32)), (.int p3), (.int (0 : Int32)), (.int (0 : Int32)), (.ref b11), (.ref b11)])) _
    refine st12.trans ?_
    show Steps p.tables e below (T12.setTop (mkF m 50 #[.val (.int p1), .val (.int p2), .val (.int p3), .val (.int p4), .val (.ref b5), .val (.ref b7), .val (.ref b9), .unset, .unset, .unset, .unset, .unset, .unset, .unset] [(.ref b11)])) _
    refine XS.astore X12.here hx rfl (hb hby at_50) rfl rfl (l' := #[.val (.int p1), .val (.int p2), .val (.int p3), .val (.int p4), .val (.ref b5), .val (.ref b7), .val (.ref b9), .val (.ref b11), .unset, .unset, .unset, .unset, .unset, .unset]) rfl ?_
    show Steps p.tables e below (T12.setTop (mkF m 52 #[.val (.int p1), .val (.int p2), .val (.int p3), .val (.int p4), .val (.ref b5), .val (.ref b7), .val (.ref b9), .val (.ref b11), .unset, .unset, .unset, .unset, .unset, .unset] [])) _
    refine st13 _ ?_
    show Steps p.tables e below (T13.setTop (mkF m 55 #[.val (.int p1), .val (.int p2), .val (.int p3), .val (.int p4), .val (.ref b5), .val (.ref b7), .val (.ref b9), .val (.ref b11), .unset, .unset, .unset, .unset, .unset, .unset] [(.ref b13)])) _
    refine XS.dup X13.here hx rfl (hb hby at_55) rfl rfl ?_
    show Steps p.tables e below (T13.setTop (mkF m 56 #[.val (.int p1), .val (.int p2), .val (.int p3), .val (.int p4), .val (.ref b5), .val (.ref b7), .val (.ref b9), .val (.ref b11), .unset, .unset, .unset, .unset, .unset, .unset] [(.ref b13), (.ref b13)])) _
    refine XS.iconst X13.here hx rfl (hb hby at_56) ?_
    show Steps p.tables e below (T13.setTop (mkF m 57 #[.val (.int p1), .val (.int p2), .val (.int p3), .val (.int p4), .val (.ref b5), .val (.ref b7), .val (.ref b9), .val (.ref b11), .unset, .unset, .unset, .unset, .unset, .unset] [(.int (0 : Int32)), (.ref b13), (.ref b13)])) _
    refine XS.iconst X13.here hx rfl (hb hby at_57) ?_
    show Steps p.tables e below (T13.setTop (mkF m 58 #[.val (.int p1), .val (.int p2), .val (.int p3), .val (.int p4), .val (.ref b5), .val (.ref b7), .val (.ref b9), .val (.ref b11), .unset, .unset, .unset, .unset, .unset, .unset] [(.int (0 : Int32)), (.int (0 : Int32)), (.ref b13), (.ref b13)])) _
    refine XS.iconst X13.here hx rfl (hb hby at_58) ?_
    show Steps p.tables e below (T13.setTop (mkF m 59 #[.val (.int p1), .val (.int p2), .val (.int p3), .val (.int p4), .val (.ref b5), .val (.ref b7), .val (.ref b9), .val (.ref b11), .unset, .unset, .unset, .unset, .unset, .unset] [(.int (0 : Int32)), (.int (0 : Int32)), (.int (0 : Int32)), (.ref b13), (.ref b13)])) _
    refine XS.iloadN X13.here hx rfl (hb hby at_59) rfl ?_
    show Steps p.tables e below (T13.setTop (mkF m 60 #[.val (.int p1), .val (.int p2), .val (.int p3), .val (.int p4), .val (.ref b5), .val (.ref b7), .val (.ref b9), .val (.ref b11), .unset, .unset, .unset, .unset, .unset, .unset] [(.int p4), (.int (0 : Int32)), (.int (0 : Int32)), (.int (0 : Int32)), (.ref b13), (.ref b13)])) _
    refine st14.trans ?_
    show Steps p.tables e below (T14.setTop (mkF m 63 #[.val (.int p1), .val (.int p2), .val (.int p3), .val (.int p4), .val (.ref b5), .val (.ref b7), .val (.ref b9), .val (.ref b11), .unset, .unset, .unset, .unset, .unset, .unset] [(.ref b13)])) _
    refine XS.astore X14.here hx rfl (hb hby at_63) rfl rfl (l' := #[.val (.int p1), .val (.int p2), .val (.int p3), .val (.int p4), .val (.ref b5), .val (.ref b7), .val (.ref b9), .val (.ref b11), .val (.ref b13), .unset, .unset, .unset, .unset, .unset]) rfl ?_
    show Steps p.tables e below (T14.setTop (mkF m 65 #[.val (.int p1), .val (.int p2), .val (.int p3), .val (.int p4), .val (.ref b5), .val (.ref b7), .val (.ref b9), .val (.ref b11), .val (.ref b13), .unset, .unset, .unset, .unset, .unset] [])) _
    refine XS.aload X14.here hx rfl (hb hby at_65) rfl rfl ?_
    show Steps p.tables e below (T14.setTop (mkF m 67 #[.val (.int p1), .val (.int p2), .val (.int p3), .val (.int p4), .val (.ref b5), .val (.ref b7), .val (.ref b9), .val (.ref b11), .val (.ref b13), .unset, .unset, .unset, .unset, .unset] [(.ref b7)])) _
    refine st15.trans ?_
    show Steps p.tables e below (T15.setTop (mkF m 70 #[.val (.int p1), .val (.int p2), .val (.int p3), .val (.int p4), .val (.ref b5), .val (.ref b7), .val (.ref b9), .val (.ref b11), .val (.ref b13), .unset, .unset, .unset, .unset, .unset] [(.int (((p1 + (0 : Int32)) + (0 : Int32)) + (0 : Int32)))])) _
    refine XS.istore X15.here hx rfl (hb hby at_70) rfl (l' := #[.val (.int p1), .val (.int p2), .val (.int p3), .val (.int p4), .val (.ref b5), .val (.ref b7), .val (.ref b9), .val (.ref b11), .val (.ref b13), .val (.int (((p1 + (0 : Int32)) + (0 : Int32)) + (0 : Int32))), .unset, .unset, .unset, .unset]) rfl ?_
    show Steps p.tables e below (T15.setTop (mkF m 72 #[.val (.int p1), .val (.int p2), .val (.int p3), .val (.int p4), .val (.ref b5), .val (.ref b7), .val (.ref b9), .val (.ref b11), .val (.ref b13), .val (.int (((p1 + (0 : Int32)) + (0 : Int32)) + (0 : Int32))), .unset, .unset, .unset, .unset] [])) _
    refine XS.aload X15.here hx rfl (hb hby at_72) rfl rfl ?_
    show Steps p.tables e below (T15.setTop (mkF m 74 #[.val (.int p1), .val (.int p2), .val (.int p3), .val (.int p4), .val (.ref b5), .val (.ref b7), .val (.ref b9), .val (.ref b11), .val (.ref b13), .val (.int (((p1 + (0 : Int32)) + (0 : Int32)) + (0 : Int32))), .unset, .unset, .unset, .unset] [(.ref b9)])) _
    refine st16.trans ?_
    show Steps p.tables e below (T16.setTop (mkF m 77 #[.val (.int p1), .val (.int p2), .val (.int p3), .val (.int p4), .val (.ref b5), .val (.ref b7), .val (.ref b9), .val (.ref b11), .val (.ref b13), .val (.int (((p1 + (0 : Int32)) + (0 : Int32)) + (0 : Int32))), .unset, .unset, .unset, .unset] [(.int ((((0 : Int32) + p2) + (0 : Int32)) + (0 : Int32)))])) _
    refine XS.istore X16.here hx rfl (hb hby at_77) rfl (l' := #[.val (.int p1), .val (.int p2), .val (.int p3), .val (.int p4), .val (.ref b5), .val (.ref b7), .val (.ref b9), .val (.ref b11), .val (.ref b13), .val (.int (((p1 + (0 : Int32)) + (0 : Int32)) + (0 : Int32))), .val (.int ((((0 : Int32) + p2) + (0 : Int32)) + (0 : Int32))), .unset, .unset, .unset]) rfl ?_
    show Steps p.tables e below (T16.setTop (mkF m 79 #[.val (.int p1), .val (.int p2), .val (.int p3), .val (.int p4), .val (.ref b5), .val (.ref b7), .val (.ref b9), .val (.ref b11), .val (.ref b13), .val (.int (((p1 + (0 : Int32)) + (0 : Int32)) + (0 : Int32))), .val (.int ((((0 : Int32) + p2) + (0 : Int32)) + (0 : Int32))), .unset, .unset, .unset] [])) _
    refine XS.aload X16.here hx rfl (hb hby at_79) rfl rfl ?_
    show Steps p.tables e below (T16.setTop (mkF m 81 #[.val (.int p1), .val (.int p2), .val (.int p3), .val (.int p4), .val (.ref b5), .val (.ref b7), .val (.ref b9), .val (.ref b11), .val (.ref b13), .val (.int (((p1 + (0 : Int32)) + (0 : Int32)) + (0 : Int32))), .val (.int ((((0 : Int32) + p2) + (0 : Int32)) + (0 : Int32))), .unset, .unset, .unset] [(.ref b11)])) _
    refine st17.trans ?_
    show Steps p.tables e below (T17.setTop (mkF m 84 #[.val (.int p1), .val (.int p2), .val (.int p3), .val (.int p4), .val (.ref b5), .val (.ref b7), .val (.ref b9), .val (.ref b11), .val (.ref b13), .val (.int (((p1 + (0 : Int32)) + (0 : Int32)) + (0 : Int32))), .val (.int ((((0 : Int32) + p2) + (0 : Int32)) + (0 : Int32))), .unset, .unset, .unset] [(.int ((((0 : Int32) + (0 : Int32)) + p3) + (0 : Int32)))])) _
    refine XS.istore X17.here hx rfl (hb hby at_84) rfl (l' := #[.val (.int p1), .val (.int p2), .val (.int p3), .val (.int p4), .val (.ref b5), .val (.ref b7), .val (.ref b9), .val (.ref b11), .val (.ref b13), .val (.int (((p1 + (0 : Int32)) + (0 : Int32)) + (0 : Int32))), .val (.int ((((0 : Int32) + p2) + (0 : Int32)) + (0 : Int32))), .val (.int ((((0 : Int32) + (0 : Int32)) + p3) + (0 : Int32))), .unset, .unset]) rfl ?_
    show Steps p.tables e below (T17.setTop (mkF m 86 #[.val (.int p1), .val (.int p2), .val (.int p3), .val (.int p4), .val (.ref b5), .val (.ref b7), .val (.ref b9), .val (.ref b11), .val (.ref b13), .val (.int (((p1 + (0 : Int32)) + (0 : Int32)) + (0 : Int32))), .val (.int ((((0 : Int32) + p2) + (0 : Int32)) + (0 : Int32))), .val (.int ((((0 : Int32) + (0 : Int32)) + p3) + (0 : Int32))), .unset, .unset] [])) _
    refine XS.aload X17.here hx rfl (hb hby at_86) rfl rfl ?_
    show Steps p.tables e below (T17.setTop (mkF m 88 #[.val (.int p1), .val (.int p2), .val (.int p3), .val (.int p4), .val (.ref b5), .val (.ref b7), .val (.ref b9), .val (.ref b11), .val (.ref b13), .val (.int (((p1 + (0 : Int32)) + (0 : Int32)) + (0 : Int32))), .val (.int ((((0 : Int32) + p2) + (0 : Int32)) + (0 : Int32))), .val (.int ((((0 : Int32) + (0 : Int32)) + p3) + (0 : Int32))), .unset, .unset] [(.ref b13)])) _
    refine st18.trans ?_
    show Steps p.tables e below (T18.setTop (mkF m 91 #[.val (.int p1), .val (.int p2), .val (.int p3), .val (.int p4), .val (.ref b5), .val (.ref b7), .val (.ref b9), .val (.ref b11), .val (.ref b13), .val (.int (((p1 + (0 : Int32)) + (0 : Int32)) + (0 : Int32))), .val (.int ((((0 : Int32) + p2) + (0 : Int32)) + (0 : Int32))), .val (.int ((((0 : Int32) + (0 : Int32)) + p3) + (0 : Int32))), .unset, .unset] [(.int ((((0 : Int32) + (0 : Int32)) + (0 : Int32)) + p4))])) _
    refine XS.istore X18.here hx rfl (hb hby at_91) rfl (l' := #[.val (.int p1), .val (.int p2), .val (.int p3), .val (.int p4), .val (.ref b5), .val (.ref b7), .val (.ref b9), .val (.ref b11), .val (.ref b13), .val (.int (((p1 + (0 : Int32)) + (0 : Int32)) + (0 : Int32))), .val (.int ((((0 : Int32) + p2) + (0 : Int32)) + (0 : Int32))), .val (.int ((((0 : Int32) + (0 : Int32)) + p3) + (0 : Int32))), .val (.int ((((0 : Int32) + (0 : Int32)) + (0 : Int32)) + p4)), .unset]) rfl ?_
    show Steps p.tables e below (T18.setTop (mkF m 93 #[.val (.int p1), .val (.int p2), .val (.int p3), .val (.int p4), .val (.ref b5), .val (.ref b7), .val (.ref b9), .val (.ref b11), .val (.ref b13), .val (.int (((p1 + (0 : Int32)) + (0 : Int32)) + (0 : Int32))), .val (.int ((((0 : Int32) + p2) + (0 : Int32)) + (0 : Int32))), .val (.int ((((0 : Int32) + (0 : Int32)) + p3) + (0 : Int32))), .val (.int ((((0 : Int32) + (0 : Int32)) + (0 : Int32)) + p4)), .unset] [])) _
    refine XS.aload X18.here hx rfl (hb hby at_93) rfl rfl ?_
    show Steps p.tables e below (T18.setTop (mkF m 95 #[.val (.int p1), .val (.int p2), .val (.int p3), .val (.int p4), .val (.ref b5), .val (.ref b7), .val (.ref b9), .val (.ref b11), .val (.ref b13), .val (.int (((p1 + (0 : Int32)) + (0 : Int32)) + (0 : Int32))), .val (.int ((((0 : Int32) + p2) + (0 : Int32)) + (0 : Int32))), .val (.int ((((0 : Int32) + (0 : Int32)) + p3) + (0 : Int32))), .val (.int ((((0 : Int32) + (0 : Int32)) + (0 : Int32)) + p4)), .unset] [(.ref b5)])) _
    refine st19.trans ?_
    show Steps p.tables e below (T19.setTop (mkF m 98 #[.val (.int p1), .val (.int p2), .val (.int p3), .val (.int p4), .val (.ref b5), .val (.ref b7), .val (.ref b9), .val (.ref b11), .val (.ref b13), .val (.int (((p1 + (0 : Int32)) + (0 : Int32)) + (0 : Int32))), .val (.int ((((0 : Int32) + p2) + (0 : Int32)) + (0 : Int32))), .val (.int ((((0 : Int32) + (0 : Int32)) + p3) + (0 : Int32))), .val (.int ((((0 : Int32) + (0 : Int32)) + (0 : Int32)) + p4)), .unset] [(.int (((p1 + p2) + p3) + p4))])) _
    refine XS.istore X19.here hx rfl (hb hby at_98) rfl (l' := #[.val (.int p1), .val (.int p2), .val (.int p3), .val (.int p4), .val (.ref b5), .val (.ref b7), .val (.ref b9), .val (.ref b11), .val (.ref b13), .val (.int (((p1 + (0 : Int32)) + (0 : Int32)) + (0 : Int32))), .val (.int ((((0 : Int32) + p2) + (0 : Int32)) + (0 : Int32))), .val (.int ((((0 : Int32) + (0 : Int32)) + p3) + (0 : Int32))), .val (.int ((((0 : Int32) + (0 : Int32)) + (0 : Int32)) + p4)), .val (.int (((p1 + p2) + p3) + p4))]) rfl ?_
    show Steps p.tables e below (T19.setTop (mkF m 100 #[.val (.int p1), .val (.int p2), .val (.int p3), .val (.int p4), .val (.ref b5), .val (.ref b7), .val (.ref b9), .val (.ref b11), .val (.ref b13), .val (.int (((p1 + (0 : Int32)) + (0 : Int32)) + (0 : Int32))), .val (.int ((((0 : Int32) + p2) + (0 : Int32)) + (0 : Int32))), .val (.int ((((0 : Int32) + (0 : Int32)) + p3) + (0 : Int32))), .val (.int ((((0 : Int32) + (0 : Int32)) + (0 : Int32)) + p4)), .val (.int (((p1 + p2) + p3) + p4))] [])) _
    refine XS.iload X19.here hx rfl (hb hby at_100) rfl ?_
    show Steps p.tables e below (T19.setTop (mkF m 102 #[.val (.int p1), .val (.int p2), .val (.int p3), .val (.int p4), .val (.ref b5), .val (.ref b7), .val (.ref b9), .val (.ref b11), .val (.ref b13), .val (.int (((p1 + (0 : Int32)) + (0 : Int32)) + (0 : Int32))), .val (.int ((((0 : Int32) + p2) + (0 : Int32)) + (0 : Int32))), .val (.int ((((0 : Int32) + (0 : Int32)) + p3) + (0 : Int32))), .val (.int ((((0 : Int32) + (0 : Int32)) + (0 : Int32)) + p4)), .val (.int (((p1 + p2) + p3) + p4))] [(.int (((p1 + (0 : Int32)) + (0 : Int32)) + (0 : Int32)))])) _
    refine XS.iloadN X19.here hx rfl (hb hby at_102) rfl ?_
    show Steps p.tables e below (T19.setTop (mkF m 103 #[.val (.int p1), .val (.int p2), .val (.int p3), .val (.int p4), .val (.ref b5), .val (.ref b7), .val (.ref b9), .val (.ref b11), .val (.ref b13), .val (.int (((p1 + (0 : Int32)) + (0 : Int32)) + (0 : Int32))), .val (.int ((((0 : Int32) + p2) + (0 : Int32)) + (0 : Int32))), .val (.int ((((0 : Int32) + (0 : Int32)) + p3) + (0 : Int32))), .val (.int ((((0 : Int32) + (0 : Int32)) + (0 : Int32)) + p4)), .val (.int (((p1 + p2) + p3) + p4))] [(.int p1), (.int (((p1 + (0 : Int32)) + (0 : Int32)) + (0 : Int32)))])) _
    refine XS.icmpYes X19.here hx rfl (pc0 := 103) (pc' := 108) rfl (hb hby at_103) rfl (teq (by simp : (((p1 + (0 : Int32)) + (0 : Int32)) + (0 : Int32)) = p1)).1 (by decide) (by decide) ?_
    show Steps p.tables e below (T19.setTop (mkF m 108 #[.val (.int p1), .val (.int p2), .val (.int p3), .val (.int p4), .val (.ref b5), .val (.ref b7), .val (.ref b9), .val (.ref b11), .val (.ref b13), .val (.int (((p1 + (0 : Int32)) + (0 : Int32)) + (0 : Int32))), .val (.int ((((0 : Int32) + p2) + (0 : Int32)) + (0 : Int32))), .val (.int ((((0 : Int32) + (0 : Int32)) + p3) + (0 : Int32))), .val (.int ((((0 : Int32) + (0 : Int32)) + (0 : Int32)) + p4)), .val (.int (((p1 + p2) + p3) + p4))] [])) _
    refine XS.iload X19.here hx rfl (hb hby at_108) rfl ?_
    show Steps p.tables e below (T19.setTop (mkF m 110 #[.val (.int p1), .val (.int p2), .val (.int p3), .val (.int p4), .val (.ref b5), .val (.ref b7), .val (.ref b9), .val (.ref b11), .val (.ref b13), .val (.int (((p1 + (0 : Int32)) + (0 : Int32)) + (0 : Int32))), .val (.int ((((0 : Int32) + p2) + (0 : Int32)) + (0 : Int32))), .val (.int ((((0 : Int32) + (0 : Int32)) + p3) + (0 : Int32))), .val (.int ((((0 : Int32) + (0 : Int32)) + (0 : Int32)) + p4)), .val (.int (((p1 + p2) + p3) + p4))] [(.int ((((0 : Int32) + p2) + (0 : Int32)) + (0 : Int32)))])) _
    refine XS.iloadN X19.here hx rfl (hb hby at_110) rfl ?_
    show Steps p.tables e below (T19.setTop (mkF m 111 #[.val (.int p1), .val (.int p2), .val (.int p3), .val (.int p4), .val (.ref b5), .val (.ref b7), .val (.ref b9), .val (.ref b11), .val (.ref b13), .val (.int (((p1 + (0 : Int32)) + (0 : Int32)) + (0 : Int32))), .val (.int ((((0 : Int32) + p2) + (0 : Int32)) + (0 : Int32))), .val (.int ((((0 : Int32) + (0 : Int32)) + p3) + (0 : Int32))), .val (.int ((((0 : Int32) + (0 : Int32)) + (0 : Int32)) + p4)), .val (.int (((p1 + p2) + p3) + p4))] [(.int p2), (.int ((((0 : Int32) + p2) + (0 : Int32)) + (0 : Int32)))])) _
    refine XS.icmpYes X19.here hx rfl (pc0 := 111) (pc' := 116) rfl (hb hby at_111) rfl (teq (by simp : ((((0 : Int32) + p2) + (0 : Int32)) + (0 : Int32)) = p2)).1 (by decide) (by decide) ?_
    show Steps p.tables e below (T19.setTop (mkF m 116 #[.val (.int p1), .val (.int p2), .val (.int p3), .val (.int p4), .val (.ref b5), .val (.ref b7), .val (.ref b9), .val (.ref b11), .val (.ref b13), .val (.int (((p1 + (0 : Int32)) + (0 : Int32)) + (0 : Int32))), .val (.int ((((0 : Int32) + p2) + (0 : Int32)) + (0 : Int32))), .val (.int ((((0 : Int32) + (0 : Int32)) + p3) + (0 : Int32))), .val (.int ((((0 : Int32) + (0 : Int32)) + (0 : Int32)) + p4)), .val (.int (((p1 + p2) + p3) + p4))] [])) _
    refine XS.iload X19.here hx rfl (hb hby at_116) rfl ?_
    show Steps p.tables e below (T19.setTop (mkF m 118 #[.val (.int p1), .val (.int p2), .val (.int p3), .val (.int p4), .val (.ref b5), .val (.ref b7), .val (.ref b9), .val (.ref b11), .val (.ref b13), .val (.int (((p1 + (0 : Int32)) + (0 : Int32)) + (0 : Int32))), .val (.int ((((0 : Int32) + p2) + (0 : Int32)) + (0 : Int32))), .val (.int ((((0 : Int32) + (0 : Int32)) + p3) + (0 : Int32))), .val (.int ((((0 : Int32) + (0 : Int32)) + (0 : Int32)) + p4)), .val (.int (((p1 + p2) + p3) + p4))] [(.int ((((0 : Int32) + (0 : Int32)) + p3) + (0 : Int32)))])) _
    refine XS.iloadN X19.here hx rfl (hb hby at_118) rfl ?_
    show Steps p.tables e below (T19.setTop (mkF m 119 #[.val (.int p1), .val (.int p2), .val (.int p3), .val (.int p4), .val (.ref b5), .val (.ref b7), .val (.ref b9), .val (.ref b11), .val (.ref b13), .val (.int (((p1 + (0 : Int32)) + (0 : Int32)) + (0 : Int32))), .val (.int ((((0 : Int32) + p2) + (0 : Int32)) + (0 : Int32))), .val (.int ((((0 : Int32) + (0 : Int32)) + p3) + (0 : Int32))), .val (.int ((((0 : Int32) + (0 : Int32)) + (0 : Int32)) + p4)), .val (.int (((p1 + p2) + p3) + p4))] [(.int p3), (.int ((((0 : Int32) + (0 : Int32)) + p3) + (0 : Int32)))])) _
    refine XS.icmpYes X19.here hx rfl (pc0 := 119) (pc' := 124) rfl (hb hby at_119) rfl (teq (by simp : ((((0 : Int32) + (0 : Int32)) + p3) + (0 : Int32)) = p3)).1 (by decide) (by decide) ?_
    show Steps p.tables e below (T19.setTop (mkF m 124 #[.val (.int p1), .val (.int p2), .val (.int p3), .val (.int p4), .val (.ref b5), .val (.ref b7), .val (.ref b9), .val (.ref b11), .val (.ref b13), .val (.int (((p1 + (0 : Int32)) + (0 : Int32)) + (0 : Int32))), .val (.int ((((0 : Int32) + p2) + (0 : Int32)) + (0 : Int32))), .val (.int ((((0 : Int32) + (0 : Int32)) + p3) + (0 : Int32))), .val (.int ((((0 : Int32) + (0 : Int32)) + (0 : Int32)) + p4)), .val (.int (((p1 + p2) + p3) + p4))] [])) _
    refine XS.iload X19.here hx rfl (hb hby at_124) rfl ?_
    show Steps p.tables e below (T19.setTop (mkF m 126 #[.val (.int p1), .val (.int p2), .val (.int p3), .val (.int p4), .val (.ref b5), .val (.ref b7), .val (.ref b9), .val (.ref b11), .val (.ref b13), .val (.int (((p1 + (0 : Int32)) + (0 : Int32)) + (0 : Int32))), .val (.int ((((0 : Int32) + p2) + (0 : Int32)) + (0 : Int32))), .val (.int ((((0 : Int32) + (0 : Int32)) + p3) + (0 : Int32))), .val (.int ((((0 : Int32) + (0 : Int32)) + (0 : Int32)) + p4)), .val (.int (((p1 + p2) + p3) + p4))] [(.int ((((0 : Int32) + (0 : Int32)) + (0 : Int32)) + p4))])) _
    refine XS.iloadN X19.here hx rfl (hb hby at_126) rfl ?_
    show Steps p.tables e below (T19.setTop (mkF m 127 #[.val (.int p1), .val (.int p2), .val (.int p3), .val (.int p4), .val (.ref b5), .val (.ref b7), .val (.ref b9), .val (.ref b11), .val (.ref b13), .val (.int (((p1 + (0 : Int32)) + (0 : Int32)) + (0 : Int32))), .val (.int ((((0 : Int32) + p2) + (0 : Int32)) + (0 : Int32))), .val (.int ((((0 : Int32) + (0 : Int32)) + p3) + (0 : Int32))), .val (.int ((((0 : Int32) + (0 : Int32)) + (0 : Int32)) + p4)), .val (.int (((p1 + p2) + p3) + p4))] [(.int p4), (.int ((((0 : Int32) + (0 : Int32)) + (0 : Int32)) + p4))])) _
    refine XS.icmpYes X19.here hx rfl (pc0 := 127) (pc' := 132) rfl (hb hby at_127) rfl (teq (by simp : ((((0 : Int32) + (0 : Int32)) + (0 : Int32)) + p4) = p4)).1 (by decide) (by decide) ?_
    show Steps p.tables e below (T19.setTop (mkF m 132 #[.val (.int p1), .val (.int p2), .val (.int p3), .val (.int p4), .val (.ref b5), .val (.ref b7), .val (.ref b9), .val (.ref b11), .val (.ref b13), .val (.int (((p1 + (0 : Int32)) + (0 : Int32)) + (0 : Int32))), .val (.int ((((0 : Int32) + p2) + (0 : Int32)) + (0 : Int32))), .val (.int ((((0 : Int32) + (0 : Int32)) + p3) + (0 : Int32))), .val (.int ((((0 : Int32) + (0 : Int32)) + (0 : Int32)) + p4)), .val (.int (((p1 + p2) + p3) + p4))] [])) _
    refine XS.iload X19.here hx rfl (hb hby at_132) rfl ?_
    show Steps p.tables e below (T19.setTop (mkF m 134 #[.val (.int p1), .val (.int p2), .val (.int p3), .val (.int p4), .val (.ref b5), .val (.ref b7), .val (.ref b9), .val (.ref b11), .val (.ref b13), .val (.int (((p1 + (0 : Int32)) + (0 : Int32)) + (0 : Int32))), .val (.int ((((0 : Int32) + p2) + (0 : Int32)) + (0 : Int32))), .val (.int ((((0 : Int32) + (0 : Int32)) + p3) + (0 : Int32))), .val (.int ((((0 : Int32) + (0 : Int32)) + (0 : Int32)) + p4)), .val (.int (((p1 + p2) + p3) + p4))] [(.int (((p1 + p2) + p3) + p4))])) _
    refine XS.iload X19.here hx rfl (hb hby at_134) rfl ?_
    show Steps p.tables e below (T19.setTop (mkF m 136 #[.val (.int p1), .val (.int p2), .val (.int p3), .val (.int p4), .val (.ref b5), .val (.ref b7), .val (.ref b9), .val (.ref b11), .val (.ref b13), .val (.int (((p1 + (0 : Int32)) + (0 : Int32)) + (0 : Int32))), .val (.int ((((0 : Int32) + p2) + (0 : Int32)) + (0 : Int32))), .val (.int ((((0 : Int32) + (0 : Int32)) + p3) + (0 : Int32))), .val (.int ((((0 : Int32) + (0 : Int32)) + (0 : Int32)) + p4)), .val (.int (((p1 + p2) + p3) + p4))] [(.int (((p1 + (0 : Int32)) + (0 : Int32)) + (0 : Int32))), (.int (((p1 + p2) + p3) + p4))])) _
    refine XS.iload X19.here hx rfl (hb hby at_136) rfl ?_
    show Steps p.tables e below (T19.setTop (mkF m 138 #[.val (.int p1), .val (.int p2), .val (.int p3), .val (.int p4), .val (.ref b5), .val (.ref b7), .val (.ref b9), .val (.ref b11), .val (.ref b13), .val (.int (((p1 + (0 : Int32)) + (0 : Int32)) + (0 : Int32))), .val (.int ((((0 : Int32) + p2) + (0 : Int32)) + (0 : Int32))), .val (.int ((((0 : Int32) + (0 : Int32)) + p3) + (0 : Int32))), .val (.int ((((0 : Int32) + (0 : Int32)) + (0 : Int32)) + p4)), .val (.int (((p1 + p2) + p3) + p4))] [(.int ((((0 : Int32) + p2) + (0 : Int32)) + (0 : Int32))), (.int (((p1 + (0 : Int32)) + (0 : Int32)) + (0 : Int32))), (.int (((p1 + p2) + p3) + p4))])) _
    refine XS.iadd X19.here hx rfl (hb hby at_138) rfl ?_
    show Steps p.tables e below (T19.setTop (mkF m 139 #[.val (.int p1), .val (.int p2), .val (.int p3), .val (.int p4), .val (.ref b5), .val (.ref b7), .val (.ref b9), .val (.ref b11), .val (.ref b13), .val (.int (((p1 + (0 : Int32)) + (0 : Int32)) + (0 : Int32))), .val (.int ((((0 : Int32) + p2) + (0 : Int32)) + (0 : Int32))), .val (.int ((((0 : Int32) + (0 : Int32)) + p3) + (0 : Int32))), .val (.int ((((0 : Int32) + (0 : Int32)) + (0 : Int32)) + p4)), .val (.int (((p1 + p2) + p3) + p4))] [(.int ((((p1 + (0 : Int32)) + (0 : Int32)) + (0 : Int32)) + ((((0 : Int32) + p2) + (0 : Int32)) + (0 : Int32)))), (.int (((p1 + p2) + p3) + p4))])) _
    refine XS.iload X19.here hx rfl (hb hby at_139) rfl ?_
    show Steps p.tables e below (T19.setTop (mkF m 141 #[.val (.int p1), .val (.int p2), .val (.int p3), .val (.int p4), .val (.ref b5), .val (.ref b7), .val (.ref b9), .val (.ref b11), .val (.ref b13), .val (.int (((p1 + (0 : Int32)) + (0 : Int32)) + (0 : Int32))), .val (.int ((((0 : Int32) + p2) + (0 : Int32)) + (0 : Int32))), .val (.int ((((0 : Int32) + (0 : Int32)) + p3) + (0 : Int32))), .val (.int ((((0 : Int32) + (0 : Int32)) + (0 : Int32)) + p4)), .val (.int (((p1 + p2) + p3) + p4))] [(.int ((((0 : Int32) + (0 : Int32)) + p3) + (0 : Int32))), (.int ((((p1 + (0 : Int32)) + (0 : Int32)) + (0 : Int32)) + ((((0 : Int32) + p2) + (0 : Int32)) + (0 : Int32)))), (.int (((p1 + p2) + p3) + p4))])) _
    refine XS.iadd X19.here hx rfl (hb hby at_141) rfl ?_
    show Steps p.tables e below (T19.setTop (mkF m 142 #[.val (.int p1), .val (.int p2), .val (.int p3), .val (.int p4), .val (.ref b5), .val (.ref b7), .val (.ref b9), .val (.ref b11), .val (.ref b13), .val (.int (((p1 + (0 : Int32)) + (0 : Int32)) + (0 : Int32))), .val (.int ((((0 : Int32) + p2) + (0 : Int32)) + (0 : Int32))), .val (.int ((((0 : Int32) + (0 : Int32)) + p3) + (0 : Int32))), .val (.int ((((0 : Int32) + (0 : Int32)) + (0 : Int32)) + p4)), .val (.int (((p1 + p2) + p3) + p4))] [(.int (((((p1 + (0 : Int32)) + (0 : Int32)) + (0 : Int32)) + ((((0 : Int32) + p2) + (0 : Int32)) + (0 : Int32))) + ((((0 : Int32) + (0 : Int32)) + p3) + (0 : Int32)))), (.int (((p1 + p2) + p3) + p4))])) _
    refine XS.iload X19.here hx rfl (hb hby at_142) rfl ?_
    show Steps p.tables e below (T19.setTop (mkF m 144 #[.val (.int p1), .val (.int p2), .val (.int p3), .val (.int p4), .val (.ref b5), .val (.ref b7), .val (.ref b9), .val (.ref b11), .val (.ref b13), .val (.int (((p1 + (0 : Int32)) + (0 : Int32)) + (0 : Int32))), .val (.int ((((0 : Int32) + p2) + (0 : Int32)) + (0 : Int32))), .val (.int ((((0 : Int32) + (0 : Int32)) + p3) + (0 : Int32))), .val (.int ((((0 : Int32) + (0 : Int32)) + (0 : Int32)) + p4)), .val (.int (((p1 + p2) + p3) + p4))] [(.int ((((0 : Int32) + (0 : Int32)) + (0 : Int32)) + p4)), (.int (((((p1 + (0 : Int32)) + (0 : Int32)) + (0 : Int32)) + ((((0 : Int32) + p2) + (0 : Int32)) + (0 : Int32))) + ((((0 : Int32) + (0 : Int32)) + p3) + (0 : Int32)))), (.int (((p1 + p2) + p3) + p4))])) _
    refine XS.iadd X19.here hx rfl (hb hby at_144) rfl ?_
    show Steps p.tables e below (T19.setTop (mkF m 145 #[.val (.int p1), .val (.int p2), .val (.int p3), .val (.int p4), .val (.ref b5), .val (.ref b7), .val (.ref b9), .val (.ref b11), .val (.ref b13), .val (.int (((p1 + (0 : Int32)) + (0 : Int32)) + (0 : Int32))), .val (.int ((((0 : Int32) + p2) + (0 : Int32)) + (0 : Int32))), .val (.int ((((0 : Int32) + (0 : Int32)) + p3) + (0 : Int32))), .val (.int ((((0 : Int32) + (0 : Int32)) + (0 : Int32)) + p4)), .val (.int (((p1 + p2) + p3) + p4))] [(.int ((((((p1 + (0 : Int32)) + (0 : Int32)) + (0 : Int32)) + ((((0 : Int32) + p2) + (0 : Int32)) + (0 : Int32))) + ((((0 : Int32) + (0 : Int32)) + p3) + (0 : Int32))) + ((((0 : Int32) + (0 : Int32)) + (0 : Int32)) + p4))), (.int (((p1 + p2) + p3) + p4))])) _
    refine XS.icmpNo X19.here hx rfl (hb hby at_145) rfl (teq (by simp : (((p1 + p2) + p3) + p4) = ((((((p1 + (0 : Int32)) + (0 : Int32)) + (0 : Int32)) + ((((0 : Int32) + p2) + (0 : Int32)) + (0 : Int32))) + ((((0 : Int32) + (0 : Int32)) + p3) + (0 : Int32))) + ((((0 : Int32) + (0 : Int32)) + (0 : Int32)) + p4)))).2 ?_
    show Steps p.tables e below (T19.setTop (mkF m 148 #[.val (.int p1), .val (.int p2), .val (.int p3), .val (.int p4), .val (.ref b5), .val (.ref b7), .val (.ref b9), .val (.ref b11), .val (.ref b13), .val (.int (((p1 + (0 : Int32)) + (0 : Int32)) + (0 : Int32))), .val (.int ((((0 : Int32) + p2) + (0 : Int32)) + (0 : Int32))), .val (.int ((((0 : Int32) + (0 : Int32)) + p3) + (0 : Int32))), .val (.int ((((0 : Int32) + (0 : Int32)) + (0 : Int32)) + p4)), .val (.int (((p1 + p2) + p3) + p4))] [])) _
    refine XS.iconst X19.here hx rfl (hb hby at_148) ?_
    show Steps p.tables e below (T19.setTop (mkF m 149 #[.val (.int p1), .val (.int p2), .val (.int p3), .val (.int p4), .val (.ref b5), .val (.ref b7), .val (.ref b9), .val (.ref b11), .val (.ref b13), .val (.int (((p1 + (0 : Int32)) + (0 : Int32)) + (0 : Int32))), .val (.int ((((0 : Int32) + p2) + (0 : Int32)) + (0 : Int32))), .val (.int ((((0 : Int32) + (0 : Int32)) + p3) + (0 : Int32))), .val (.int ((((0 : Int32) + (0 : Int32)) + (0 : Int32)) + p4)), .val (.int (((p1 + p2) + p3) + p4))] [(.int (1 : Int32))])) _
    refine XS.goto X19.here hx rfl (pc0 := 149) (pc' := 153) rfl (hb hby at_149) (by decide) (by decide) ?_
    show Steps p.tables e below (T19.setTop (mkF m 153 #[.val (.int p1), .val (.int p2), .val (.int p3), .val (.int p4), .val (.ref b5), .val (.ref b7), .val (.ref b9), .val (.ref b11), .val (.ref b13), .val (.int (((p1 + (0 : Int32)) + (0 : Int32)) + (0 : Int32))), .val (.int ((((0 : Int32) + p2) + (0 : Int32)) + (0 : Int32))), .val (.int ((((0 : Int32) + (0 : Int32)) + p3) + (0 : Int32))), .val (.int ((((0 : Int32) + (0 : Int32)) + (0 : Int32)) + p4)), .val (.int (((p1 + p2) + p3) + p4))] [(.int (1 : Int32))])) _
    exact retN X19 hx (t := .boolean) Bd.returns (by simp) (hb hby at_153) hr
  · show Q0 Z p1 p2 p3 p4 h0 n0 _ T19.heap _
    exact ⟨rfl, N19⟩
set_option maxRecDepth 65536 in
set_option maxHeartbeats 40000000 in
theorem comes_1 {Post : Tables → Env → Array Value → State → Outcome → State → Prop} (hpost : ∀ tb e args s v u, (limb_1_1.after args s (.returned v) u = true ∧ limb_1_2.after args s (.returned v) u = true ∧ True) → FrameEnd s (.returned v) u (Jvm.fieldLocs frame_1_writes args s ++ Jvm.arrayLocs frame_1_arrays args s ++ Jvm.staticLocs frame_1_statics s) 24 128 → Post tb e args s (.returned v) u) :
    ArmFor flags0 classFile x code maxLocals ret World_1 tables_1 room_1 Calls_1 rest_1 Pre_1 Post := by
  intro l hfl _ _ p e ha hc hk s m args below hf hA hF happ hP
  obtain ⟨hcalls, hrest, hpre⟩ := hP
  obtain ⟨-, -, -, hnamed, -, -, -, hat⟩ := (Spec.applies_iff hf).mp happ
  obtain ⟨hg, hn⟩ := and_e (Cond.before_iff.mp (show (Jvm.Cond.and given_1 narrow_1).before args s = true from hpre))
  obtain ⟨g20, g21⟩ := and_e hg
  obtain ⟨g22, g23⟩ := and_e g21
  obtain ⟨g24, g25⟩ := and_e g23
  obtain ⟨g26, g27⟩ := and_e g25
  obtain ⟨w0, w1, w2, w3, rfl⟩ : ∃ w0 w1 w2 w3 : Value, args = #[w0, w1, w2, w3] := by
    have hs : args.size = 4 := by simpa [Cond.value, given_1] using g20
    obtain ⟨L⟩ := args
    match L, hs with
    | [w0, w1, w2, w3], _ => exact ⟨w0, w1, w2, w3, rfl⟩
  have hw := fun d (hd : d ∈ tables_1) => atoms_spec (ws := Jvm.Cond.code x code maxLocals ret :: tables_1) hat d (List.mem_cons_of_mem _ hd)
  have hfit : Fit s := fun {y c} hc i hi => by
    obtain ⟨ha, rfl⟩ := Array.getElem?_eq_some_iff.mp hc
    have q := List.all_eq_true.mp ((Array.all_eq_true_iff_forall_mem.mp hF) _ (Array.getElem_mem ha)) i (List.mem_range.mpr hi)
    simpa [Array.getElem?_eq_getElem hi] using q
  obtain ⟨i0, ei0⟩ := is_v g22
  obtain rfl : w0 = (.int i0) := Option.some.inj ei0
  obtain ⟨i1, ei1⟩ := is_v g24
  obtain rfl : w1 = (.int i1) := Option.some.inj ei1
  obtain ⟨i2, ei2⟩ := is_v g26
  obtain rfl : w2 = (.int i2) := Option.some.inj ei2
  obtain ⟨i3, ei3⟩ := is_v g27
  obtain rfl : w3 = (.int i3) := Option.some.inj ei3
  obtain ⟨n, o, h1, h2, h3, _, L, rfl, ⟨rfl, N⟩, hq⟩ := rm0 l s _ hw tables_1 i0 i1 i2 i3 s.heap s.heap.size (Nat.le_refl _) p e ha hc hk s m _ below hf ((Spec.applies_iff_loose hf).mp happ).1 ⟨rfl, State.Warmed39.refl s, rfl⟩ trivial
  refine ⟨n, _, h1, h2, h3, hpost _ _ _ _ _ _ ⟨Cond.after_iff.mpr rfl, Cond.after_iff.mpr (eq_i res_at (Term.int_eval (1)) rfl), trivial⟩ ⟨hq.1, hq.2.1, (hq.2.2.sift fun y hy => Or.inr (N y hy)).mono (by decide) (by decide)⟩⟩
theorem main_1_1 : Claimed_1_1 := comes_1 fun _ _ _ _ _ _ h hF => ⟨h.1, hF⟩
theorem main_1_2 : Claimed_1_2 := comes_1 fun _ _ _ _ _ _ h hF => ⟨h.2.1, hF⟩

end Jvm.Pilot.@@N@@
namespace Jvm.Pilot.@@N@@
open Jvm Jvm.ClassFile Sem Op Lib Jvm.Free Jvm.Stand Jvm.Pilot.@@N@@.Jvm.D
/-! MADE BY PROGRAM (witnessworld.py) out of the Statement's table words and the real class files: 8 classes; the members and pool entries that the words name. The judged class is class 1, her method 1. -/
namespace start1
open Jvm.ClassFile
def u (s : String) : CpInfo := .utf8 (stringToUtf16 s)
/-- a pool by its gaps: so many unusable entries, then the entry; so many at the end -/
def gap : Nat → List CpInfo → List CpInfo
  | 0, r => r
  | n + 1, r => .unusable :: gap n r
def poolList (es : List (Nat × CpInfo)) (last : Nat) : List CpInfo := es.foldr (fun e r => gap e.1 (e.2 :: r)) (gap last [])
def pool (es : List (Nat × CpInfo)) (last : Nat) : Array CpInfo := ⟨poolList es last⟩
def fileOf (pool : Array CpInfo) (this : Nat) (attrs : Array Attribute := #[]) (ms : Array MethodInfo := #[]) (fl : Nat := 33) (sup : Nat := 0) (ifs : Array Nat := #[]) (fds : Array FieldInfo := #[]) : ClassFile where
  minorVersion := 0
  majorVersion := 65
  constantPool := pool
  accessFlags := fl
  thisClass := this
  superClass := sup
  interfaces := ifs
  fields := fds
  methods := ms
  attributes := attrs
def plain (name : String) (sup : Option ClassId) : Class where
  name := name
  kind := .ordinary
  loader := none
  accessFlags := 33
  super := sup
  interfaces := #[]
  cf := none
  fields := #[]
  methods := #[]
  instanceTypes := #[]
  staticTypes := #[]
  resolved := #[]
  callSites := []
  init := .initialized
  statics := none
  mirror := none

def pool0 : Array CpInfo := pool [(5, u "<init>"), (0, u "()V"), (1, .class_ 10), (1, u "java/lang/Object")] 113

def k0c0 : Code := { maxStack := 0, maxLocals := 1, code := object_method_1_code, exceptionTable := #[], attributes := #[] }
def k0m0 : Method := { name := "<init>", desc := "()V", sig := { parameters := [], returnType := none }, accessFlags := 1, code := some k0c0 }
/-- java/lang/Object -/
def k0 : Class := { plain "java/lang/Object" none with
  accessFlags := 33
  interfaces := #[]
  cf := some (fileOf pool0 8 #[] #[{ accessFlags := 1, nameIndex := 5, descriptorIndex := 6, attributes := #[] }] 33 0 #[] #[])
  fields := #[]
  methods := #[k0m0]
  instanceTypes := #[]
  staticTypes := #[]
  resolved := Array.replicate 124 none
  statics := none }

def pool1 : Array CpInfo := pool [(2, .class_ 4), (1, u "java/lang/Object"), (0, u "<init>"), (0, u "()V"), (0, .class_ 8), (0, u "com/example/bridgework/bridgework/model/CorrespondenceUse"), (0, .methodref 7 10), (0, .nameAndType 5 11), (0, u "(IIII)V"), (0, .methodref 7 13), (0, .nameAndType 14 15), (0, u "total"), (0, u "()I"), (0, .class_ 17), (0, u "com/example/bridgework/bridgework/model/CorrespondenceUseTotalPinLaw"), (2, u "law"), (0, u "(IIII)Z")] 3

def k1m0 : Method := { name := "<init>", desc := "()V", sig := { parameters := [], returnType := none }, accessFlags := 1, code := none }
def k1c1 : Code := { maxStack := 6, maxLocals := 14, code := code, exceptionTable := #[], attributes := #[] }
def k1m1 : Method := { name := "law", desc := "(IIII)Z", sig := { parameters := [.int, .int, .int, .int], returnType := some .boolean }, accessFlags := 9, code := some k1c1 }
/-- com/example/bridgework/bridgework/model/CorrespondenceUseTotalPinLaw -/
def k1 : Class := { plain "com/example/bridgework/bridgework/model/CorrespondenceUseTotalPinLaw" (some 0) with
  accessFlags := 49
  interfaces := #[]
  cf := some (fileOf pool1 16 #[] #[{ accessFlags := 1, nameIndex := 5, descriptorIndex := 6, attributes := #[] }, { accessFlags := 9, nameIndex := 20, descriptorIndex := 21, attributes := #[] }] 49 2 #[] #[])
  fields := #[]
  methods := #[k1m0, k1m1]
  instanceTypes := #[]
  staticTypes := #[]
  resolved := Array.replicate 25 none
  statics := none }

def pool2 : Array CpInfo := pool [(1, .methodref 2 3), (0, .class_ 4), (0, .nameAndType 5 6), (0, u "java/lang/Object"), (0, u "<init>"), (0, u "()V"), (0, .class_ 8), (0, u "java/lang/Record")] 13

def k2c0 : Code := { maxStack := 1, maxLocals := 1, code := jdk_30_method_1_code, exceptionTable := #[], attributes := #[] }
def k2m0 : Method := { name := "<init>", desc := "()V", sig := { parameters := [], returnType := none }, accessFlags := 4, code := some k2c0 }
/-- java/lang/Record -/
def k2 : Class := { plain "java/lang/Record" (some 0) with
  accessFlags := 1057
  interfaces := #[]
  cf := some (fileOf pool2 7 #[] #[{ accessFlags := 4, nameIndex := 5, descriptorIndex := 6, attributes := #[] }] 1057 2 #[] #[])
  fields := #[]
  methods := #[k2m0]
  instanceTypes := #[]
  staticTypes := #[]
  resolved := Array.replicate 22 none
  statics := none }

def pool3 : Array CpInfo := pool [(1, .methodref 2 3), (0, .class_ 4), (0, .nameAndType 5 6), (0, u "java/lang/Record"), (0, u "<init>"), (0, u "()V"), (0, .fieldref 8 9), (0, .class_ 10), (0, .nameAndType 11 12), (0, u "com/example/bridgework/bridgework/model/CorrespondenceUse"), (0, u "used"), (0, u "I"), (0, .fieldref 8 14), (0, .nameAndType 15 12), (0, u "notBetweenNamedClasses"), (0, .fieldref 8 17), (0, .nameAndType 18 12), (0, u "unsupportedRelation"), (0, .fieldref 8 20), (0, .nameAndType 21 12), (0, u "undeclaredClass"), (12, u "(IIII)V"), (3, u "total"), (0, u "()I")] 25

def k3c0 : Code := { maxStack := 2, maxLocals := 5, code := prog_10_method_1_code, exceptionTable := #[], attributes := #[] }
def k3m0 : Method := { name := "<init>", desc := "(IIII)V", sig := { parameters := [.int, .int, .int, .int], returnType := none }, accessFlags := 1, code := some k3c0 }
def k3c1 : Code := { maxStack := 2, maxLocals := 1, code := prog_10_method_2_code, exceptionTable := #[], attributes := #[] }
def k3m1 : Method := { name := "total", desc := "()I", sig := { parameters := [], returnType := some .int }, accessFlags := 1, code := some k3c1 }
/-- com/example/bridgework/bridgework/model/CorrespondenceUse -/
def k3 : Class := { plain "com/example/bridgework/bridgework/model/CorrespondenceUse" (some 2) with
  accessFlags := 49
  interfaces := #[]
  cf := some (fileOf pool3 8 #[] #[{ accessFlags := 1, nameIndex := 5, descriptorIndex := 34, attributes := #[] }, { accessFlags := 1, nameIndex := 38, descriptorIndex := 39, attributes := #[] }] 49 2 #[] #[{ accessFlags := 18, nameIndex := 11, descriptorIndex := 12, attributes := #[] }, { accessFlags := 18, nameIndex := 15, descriptorIndex := 12, attributes := #[] }, { accessFlags := 18, nameIndex := 18, descriptorIndex := 12, attributes := #[] }, { accessFlags := 18, nameIndex := 21, descriptorIndex := 12, attributes := #[] }])
  fields := #[{ name := "used", type := .int, accessFlags := 18, slot := 0, constantValue := 0 }, { name := "notBetweenNamedClasses", type := .int, accessFlags := 18, slot := 1, constantValue := 0 }, { name := "unsupportedRelation", type := .int, accessFlags := 18, slot := 2, constantValue := 0 }, { name := "undeclaredClass", type := .int, accessFlags := 18, slot := 3, constantValue := 0 }]
  methods := #[k3m0, k3m1]
  instanceTypes := #[.int, .int, .int, .int]
  staticTypes := #[]
  resolved := Array.replicate 65 none
  statics := none }

def pool4 : Array CpInfo := pool [(1, u "java/lang/Cloneable"), (0, .class_ 1), (0, u "java/lang/Object"), (0, .class_ 3)] 3

/-- java/lang/Cloneable -/
def k4 : Class := { plain "java/lang/Cloneable" (some 0) with
  accessFlags := 1537
  interfaces := #[]
  cf := some (fileOf pool4 2 #[] #[] 1537 4 #[] #[])
  fields := #[]
  methods := #[]
  instanceTypes := #[]
  staticTypes := #[]
  resolved := Array.replicate 8 none
  statics := none }

def pool5 : Array CpInfo := pool [(1, u "java/io/Serializable"), (0, .class_ 1), (0, u "java/lang/Object"), (0, .class_ 3)] 3

/-- java/io/Serializable -/
def k5 : Class := { plain "java/io/Serializable" (some 0) with
  accessFlags := 1537
  interfaces := #[]
  cf := some (fileOf pool5 2 #[] #[] 1537 4 #[] #[])
  fields := #[]
  methods := #[]
  instanceTypes := #[]
  staticTypes := #[]
  resolved := Array.replicate 8 none
  statics := none }

/-- the primitive byte -/
def k6 : Class := { plain "byte" none with kind := .primitive 'B', accessFlags := 0x411 }
/-- [B -/
def k7 : Class := { plain "[B" (some 0) with kind := .array 6 .byte, interfaces := #[4, 5], accessFlags := 1041 }

def heap : Heap := #[]
def classes : Array Class := #[k0, k1, k2, k3, k4, k5, k6, k7]
def interned : List (Array UInt16 × Addr) := []
def slotsUsed : Nat := 0
def theMethod : MethodId := ⟨1, 1⟩
def args0 : Array Value := #[.int 5, .int 6, .int 7, .int 8]
def aboutOver (below : List Frame) : State where
  vm := { classes := classes, interned := interned.toArray }
  heap := heap
  slotsUsed := slotsUsed
  threads := #[{ frames := .invoking theMethod args0 :: below }]
def below0 : List Frame := [.native { method := ⟨0, 0⟩, args := #[] }]
def about1 : State := aboutOver below0
def p0 : Program := .bare "" "" ""
def e0 : Env := launch0.env 0 0 0
theorem w_frames : about1.frames = Frame.invoking theMethod args0 :: below0 := rfl
set_option maxRecDepth 65536 in
theorem w_args : argsFit about1.vm theMethod args0 = true := by decide +kernel
set_option maxRecDepth 65536 in
theorem w_heap : heapFits about1 = true := by decide +kernel
set_option maxRecDepth 65536 in
theorem w_runnable : about1.curStatus? = some .runnable := by decide +kernel
set_option maxRecDepth 65536 in
theorem w_alone : about1.alone = true := by decide +kernel
set_option maxRecDepth 65536 in
theorem w_named : about1.methodNamed? x = some theMethod := by decide +kernel
set_option maxRecDepth 65536 in
theorem w_hears : about1.hears theMethod below0 = true := by decide +kernel
set_option maxRecDepth 65536 in
theorem w_ripe : about1.ripe theMethod args0 below0 = true := by decide +kernel
theorem w_running : about1.status = .running := rfl
set_option maxRecDepth 65536 in
theorem w_room : about1.hasRoom e0.platform room_1 = true :=
  launch0.hasRoom_least _ room_1 (by decide +kernel) (by decide +kernel) (by decide +kernel) (by decide +kernel) (by decide +kernel) (by decide +kernel)
theorem allAtoms_all (ts : List Jvm.Cond) (a : Array Jvm.Value) (st : Jvm.State) : (allAtoms ts).before a st = ts.all (fun c => c.before a st) := by
  induction ts with
  | nil => rfl
  | cons c t ih =>
    show (Jvm.Cond.and c (allAtoms t)).before a st = _
    rw [Jvm.Cond.before_and, ih, List.all_cons]
def words1 : List Jvm.Cond := Jvm.Cond.code x code maxLocals ret :: tables_1
/-- a 'code' word, met by the world's own term for the bytes: nothing is compared byte by byte -/
theorem code_word {y : MethodName} {bytes : ByteArray} {mx : Nat} {rt : Option FieldType} {a : Array Value} {s : State} {m : MethodId} {meth : Method} {c : Code} (h1 : s.methodNamed? y = some m) (h2 : s.vm.method? m = some meth) (h3 : meth.code = some c) (h4 : c.code = bytes)
    (h5 : (c.maxLocals == mx && c.exceptionTable.isEmpty && decide (c.maxStack ≤ mostOperands) && decide (meth.sig.returnType = rt) && !meth.locks && decide (parseMethodDescriptor y.desc = some meth.sig)) = true) : (Jvm.Cond.code y bytes mx rt).before a s = true := by
  simp only [Bool.and_eq_true, beq_iff_eq, Bool.not_eq_true', decide_eq_true_eq] at h5
  obtain ⟨⟨⟨⟨⟨g1, g2⟩, g3⟩, g4⟩, g5⟩, g6⟩ := h5
  simp [Cond.before, Cond.holds, Cond.value, h1, h2, h3, h4, g1, g2, g3, g4, g5, g6]
def isCode : Jvm.Cond → Bool
  | .code _ _ _ _ => true
  | _ => false
theorem all_split {L : List Jvm.Cond} {P : Jvm.Cond → Bool} (h1 : L.all (fun c => isCode c || P c) = true) (h2 : ∀ c ∈ L.filter isCode, P c = true) : L.all P = true := by
  refine List.all_eq_true.mpr fun c hc => ?_
  have h := List.all_eq_true.mp h1 c hc
  rcases Bool.eq_false_or_eq_true (isCode c) with hi | hi
  · exact h2 c (List.mem_filter.mpr ⟨hc, hi⟩)
  · simpa [hi] using h
set_option maxRecDepth 65536 in
theorem w_c0 : (Jvm.Cond.code x code maxLocals ret).before args0 about1 = true := code_word (m := ⟨1, 1⟩) (meth := k1m1) (c := k1c1) (by decide +kernel) rfl rfl rfl (by decide +kernel)
set_option maxRecDepth 65536 in
theorem w_c1 : (Jvm.Cond.code ({ cls := "com/example/bridgework/bridgework/model/CorrespondenceUse", name := "<init>", desc := "(IIII)V" } : Jvm.MethodName) prog_10_method_1_code (5 : Nat) (Option.none : Option Jvm.ClassFile.FieldType)).before args0 about1 = true := code_word (m := ⟨3, 0⟩) (meth := k3m0) (c := k3c0) (by decide +kernel) rfl rfl rfl (by decide +kernel)
set_option maxRecDepth 65536 in
theorem w_c2 : (Jvm.Cond.code ({ cls := "java/lang/Record", name := "<init>", desc := "()V" } : Jvm.MethodName) jdk_30_method_1_code (1 : Nat) (Option.none : Option Jvm.ClassFile.FieldType)).before args0 about1 = true := code_word (m := ⟨2, 0⟩) (meth := k2m0) (c := k2c0) (by decide +kernel) rfl rfl rfl (by decide +kernel)
set_option maxRecDepth 65536 in
theorem w_c3 : (Jvm.Cond.code ({ cls := "java/lang/Object", name := "<init>", desc := "()V" } : Jvm.MethodName) object_method_1_code (1 : Nat) (Option.none : Option Jvm.ClassFile.FieldType)).before args0 about1 = true := code_word (m := ⟨0, 0⟩) (meth := k0m0) (c := k0c0) (by decide +kernel) rfl rfl rfl (by decide +kernel)
set_option maxRecDepth 65536 in
theorem w_c4 : (Jvm.Cond.code ({ cls := "com/example/bridgework/bridgework/model/CorrespondenceUse", name := "total", desc := "()I" } : Jvm.MethodName) prog_10_method_2_code (1 : Nat) (Option.some Jvm.ClassFile.FieldType.int)).before args0 about1 = true := code_word (m := ⟨3, 1⟩) (meth := k3m1) (c := k3c1) (by decide +kernel) rfl rfl rfl (by decide +kernel)
def codes1 : List Jvm.Cond := [Jvm.Cond.code x code maxLocals ret, Jvm.Cond.code ({ cls := "com/example/bridgework/bridgework/model/CorrespondenceUse", name := "<init>", desc := "(IIII)V" } : Jvm.MethodName) prog_10_method_1_code (5 : Nat) (Option.none : Option Jvm.ClassFile.FieldType), Jvm.Cond.code ({ cls := "java/lang/Record", name := "<init>", desc := "()V" } : Jvm.MethodName) jdk_30_method_1_code (1 : Nat) (Option.none : Option Jvm.ClassFile.FieldType), Jvm.Cond.code ({ cls := "java/lang/Object", name := "<init>", desc := "()V" } : Jvm.MethodName) object_method_1_code (1 : Nat) (Option.none : Option Jvm.ClassFile.FieldType), Jvm.Cond.code ({ cls := "com/example/bridgework/bridgework/model/CorrespondenceUse", name := "total", desc := "()I" } : Jvm.MethodName) prog_10_method_2_code (1 : Nat) (Option.some Jvm.ClassFile.FieldType.int)]
set_option maxRecDepth 65536 in
theorem codes_eq : words1.filter isCode = codes1 := rfl
theorem w_codes : ∀ c ∈ words1.filter isCode, c.before args0 about1 = true := by
  rw [codes_eq]
  intro c hc
  simp only [codes1, List.mem_cons, List.not_mem_nil, or_false] at hc
  rcases hc with rfl | rfl | rfl | rfl | rfl
  · exact w_c0
  · exact w_c1
  · exact w_c2
  · exact w_c3
  · exact w_c4
set_option maxRecDepth 65536 in
theorem w_t1 : (words1.take 24).all (fun c => isCode c || c.before args0 about1) = true := by decide +kernel
set_option maxRecDepth 65536 in
theorem w_t2 : (words1.drop 24).all (fun c => isCode c || c.before args0 about1) = true := by decide +kernel
theorem w_tables : (allAtoms (Jvm.Cond.code x code maxLocals ret :: tables_1)).before args0 about1 = true := by
  rw [allAtoms_all]
  show words1.all (fun c => c.before args0 about1) = true
  refine all_split ?_ w_codes
  rw [← List.take_append_drop 24 words1, List.all_append, w_t1, w_t2]
  rfl
set_option maxRecDepth 65536 in
theorem w_case : (Jvm.Cond.and given_1 narrow_1).before args0 about1 = true := by decide +kernel
theorem w_applies : (headSpec (Jvm.Cond.code x code maxLocals ret :: tables_1) room_1).applies x e0.platform about1 = true :=
  (Spec.applies_iff w_frames).mpr ⟨w_running, w_runnable, w_alone, w_named, w_hears, w_ripe, w_room, w_tables⟩
theorem atStart : AtStart classFile x code maxLocals ret World_1 tables_1 room_1 Calls_1 rest_1 Pre_1 launch0 p0 e0 about1 theMethod args0 below0 :=
  ⟨lists_1, trivial, launch0.admits_env _ _ _, launch0.least_env, fairChoices_fair.cas, fairChoices_fair.clock, w_frames, w_args, w_heap, w_applies, trivial, trivial, w_case⟩
end start1
theorem witness_1 : WitnessClaimed_1 := ⟨start1.p0, start1.e0, start1.about1, start1.theMethod, start1.args0, start1.below0, start1.atStart⟩
end Jvm.Pilot.@@N@@
