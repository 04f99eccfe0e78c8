import JvmDerived
import JvmDerived.Pilot.@@N@@Statement
import JvmDerived.Pilot.@@N@@Code
set_option linter.unusedVariables false
set_option linter.unusedSimpArgs false
namespace Jvm.RoadKit
open Sem ClassFile Op Lib Jvm.Stand Jvm.Free Jvm.LawKit
section New
variable {p : Program} {l : Launch} {e : Env} {R : Room} {s : State} {m : MethodId} {args : Array Value} {below : List Frame} {meth : Method} {c : Code} {T : State} {locs : List Loc} {cells slots : Nat}
theorem retI (X : Stand p l e R s m args below meth c T locs cells slots) (hx : p.tables.exec = Jvm.exec) {pc : Nat} {Ls : Array Slot} {z : Int32} {rest : List Value} (hret : meth.sig.returnType = some .int) (hd : decode c.code pc = .ok (.ireturn, 1)) {fs : List Frame}
    (hl : ∀ (f : JFrame) (acts : List Action), f.method = m → f.locked = none → f.entered = [] → (doReturn e (T.setTop f) acts (some (.int z))).1 = T.setFrames fs) : Steps p.tables e below (T.setTop (mkF m pc Ls (.int z :: rest))) (T.setFrames fs) := by
  have hm' : T.vm.method? m = some meth := X.method'
  have hn : narrow .int (.int z) = .int z := rfl
  show Steps p.tables e below (T.setTop { method := m, pc := pc, locals := Ls, stack := _ :: rest, locked := none }) _
  jvm_step X.here [X.here.top, hx, hd, hm', hret, hn]
  first | (intro acts; rw [hl _ acts rfl rfl rfl]) | rw [hl _ _ rfl rfl rfl]
  exact Steps.refl _
end New
end Jvm.RoadKit
namespace Jvm.Pilot.@@N@@
open Jvm Jvm.ClassFile Sem Op Lib Jvm.Free Jvm.Stand Jvm.LawKit Jvm.RoadKit Bundle Jvm.Pilot.@@N@@.Jvm.D
def own_Obj (Z : State) (h : Heap) (a : Addr) (w0 w1 w2 w3 : Int64) : Prop := Exa Z h a "com/example/recoup/recoup/Comparison$Counts" ∧ Fld Z h a "com/example/recoup/recoup/Comparison$Counts" "compared" "J" (.long w0) ∧ Fld Z h a "com/example/recoup/recoup/Comparison$Counts" "differ" "J" (.long w1) ∧ Fld Z h a "com/example/recoup/recoup/Comparison$Counts" "missing" "J" (.long w2) ∧ Fld Z h a "com/example/recoup/recoup/Comparison$Counts" "extra" "J" (.long w3)
theorem own_and (x : Int64) : 0 ≤ (x &&& (2305843009213693951 : Int64)).toInt ∧ (x &&& (2305843009213693951 : Int64)).toInt < 2305843009213693952 := by
  have h := c_maskL x 2305843009213693951 61 (by decide) (by decide)
  rw [h]; omega
theorem own_if (z k : Int32) (x d : Int64) (hd : d = if (z &&& k) = (0 : Int32) then x &&& (2305843009213693951 : Int64) else 0) : 0 ≤ d.toInt ∧ d.toInt < 2305843009213693952 := by
  subst hd; split
  · exact own_and x
  · decide
theorem own_pos (d m e : Int64) (hd : 0 ≤ d.toInt ∧ d.toInt < 2305843009213693952) (hm : 0 ≤ m.toInt ∧ m.toInt < 2305843009213693952) (he : 0 ≤ e.toInt ∧ e.toInt < 2305843009213693952) :
    (0 : Int64) < (d + m) + e ↔ (¬ d = 0 ∨ ¬ m = 0 ∨ ¬ e = 0) := by
  have a1 := c_ladd d m
  have r1 := rng64 (d + m)
  have a2 := c_ladd (d + m) e
  have r2 := rng64 (d + m + e)
  have z : (0 : Int64).toInt = 0 := rfl
  rw [Int64.lt_iff_toInt_lt]
  simp only [← Int64.toInt_inj]
  rw [z]
  omega
theorem own_four (d m e : Int64) : ¬ d = 0 ∨ (d = 0 ∧ ¬ m = 0) ∨ (d = 0 ∧ m = 0 ∧ ¬ e = 0) ∨ (d = 0 ∧ m = 0 ∧ e = 0) := by
  by_cases h1 : d = 0 <;> by_cases h2 : m = 0 <;> by_cases h3 : e = 0 <;> simp [h1, h2, h3]
theorem d1_0 : decode prog_5_method_1_code 0 = .ok (.aload_n 0, 1) := by decide +kernel
theorem d1_1 : decode prog_5_method_1_code 1 = .ok (.invokespecial 1, 3) := by decide +kernel
theorem d1_4 : decode prog_5_method_1_code 4 = .ok (.aload_n 0, 1) := by decide +kernel
theorem d1_5 : decode prog_5_method_1_code 5 = .ok (.lload_n 1, 1) := by decide +kernel
theorem d1_6 : decode prog_5_method_1_code 6 = .ok (.putfield 7, 3) := by decide +kernel
theorem d1_9 : decode prog_5_method_1_code 9 = .ok (.aload_n 0, 1) := by decide +kernel
theorem d1_10 : decode prog_5_method_1_code 10 = .ok (.lload_n 3, 1) := by decide +kernel
theorem d1_11 : decode prog_5_method_1_code 11 = .ok (.putfield 13, 3) := by decide +kernel
theorem d1_14 : decode prog_5_method_1_code 14 = .ok (.aload_n 0, 1) := by decide +kernel
theorem d1_15 : decode prog_5_method_1_code 15 = .ok (.lload 5, 2) := by decide +kernel
theorem d1_17 : decode prog_5_method_1_code 17 = .ok (.putfield 16, 3) := by decide +kernel
theorem d1_20 : decode prog_5_method_1_code 20 = .ok (.aload_n 0, 1) := by decide +kernel
theorem d1_21 : decode prog_5_method_1_code 21 = .ok (.lload 7, 2) := by decide +kernel
theorem d1_23 : decode prog_5_method_1_code 23 = .ok (.putfield 19, 3) := by decide +kernel
theorem d1_26 : decode prog_5_method_1_code 26 = .ok (.return_, 1) := by decide +kernel
theorem d2_0 : decode jdk_30_method_1_code 0 = .ok (.aload_n 0, 1) := by decide +kernel
theorem d2_1 : decode jdk_30_method_1_code 1 = .ok (.invokespecial 1, 3) := by decide +kernel
theorem d2_4 : decode jdk_30_method_1_code 4 = .ok (.return_, 1) := by decide +kernel
theorem d4_0 : decode prog_5_method_2_code 0 = .ok (.aload_n 0, 1) := by decide +kernel
theorem d4_1 : decode prog_5_method_2_code 1 = .ok (.getfield 13, 3) := by decide +kernel
theorem d4_4 : decode prog_5_method_2_code 4 = .ok (.aload_n 0, 1) := by decide +kernel
theorem d4_5 : decode prog_5_method_2_code 5 = .ok (.getfield 16, 3) := by decide +kernel
theorem d4_8 : decode prog_5_method_2_code 8 = .ok (.ladd, 1) := by decide +kernel
theorem d4_9 : decode prog_5_method_2_code 9 = .ok (.aload_n 0, 1) := by decide +kernel
theorem d4_10 : decode prog_5_method_2_code 10 = .ok (.getfield 19, 3) := by decide +kernel
theorem d4_13 : decode prog_5_method_2_code 13 = .ok (.ladd, 1) := by decide +kernel
theorem d4_14 : decode prog_5_method_2_code 14 = .ok (.lconst 0, 1) := by decide +kernel
theorem d4_15 : decode prog_5_method_2_code 15 = .ok (.lcmp, 1) := by decide +kernel
theorem d4_16 : decode prog_5_method_2_code 16 = .ok (.ifCond .le 7, 3) := by decide +kernel
theorem d4_19 : decode prog_5_method_2_code 19 = .ok (.iconst 1, 1) := by decide +kernel
theorem d4_20 : decode prog_5_method_2_code 20 = .ok (.goto 4, 3) := by decide +kernel
theorem d4_23 : decode prog_5_method_2_code 23 = .ok (.iconst 0, 1) := by decide +kernel
theorem d4_24 : decode prog_5_method_2_code 24 = .ok (.ireturn, 1) := by decide +kernel
theorem pd_0 : parseMethodDescriptor "()V" = some ⟨[], none⟩ := by decide +kernel
theorem pd_1 : parseMethodDescriptor "(JJJJ)V" = some ⟨[.long, .long, .long, .long], none⟩ := by decide +kernel
theorem pd_2 : parseMethodDescriptor "()Z" = some ⟨[], some .boolean⟩ := by decide +kernel
theorem pn_0 : plainName "java/lang/Record" = true := by first | (simp [plainName, overriddenIn]; done) | decide +kernel
theorem pn_1 : plainName "com/example/recoup/recoup/Comparison$Counts" = true := by first | (simp [plainName, overriddenIn]; done) | decide +kernel
theorem pn_2 : plainName "com/example/recoup/recoup/CountsAnyFindingPinLaw" = true := by first | (simp [plainName, overriddenIn]; done) | decide +kernel
theorem ef_2 (m : MethodId) (x0 : Addr) : entryFrame m #[(.ref x0)] 1 = mkF m 0 #[.val (.ref x0)] [] := by first | (simp [entryFrame, mkF, argsToLocals, Value.category]; done) | rfl
def Q2 (Z : State) (a1 : Addr) (h0 : Heap) (n0 : Nat) (v : Option Value) (h : Heap) (L : List Loc) : Prop := v = none ∧ Fr n0 L ∧ h = h0
set_option maxRecDepth 65536 in
set_option maxHeartbeats 40000000 in
theorem rm2 (l : Launch) (Z : State) (a0 : Array Value) (hw : ∀ d ∈ tables_1, d.before a0 Z = true) (ws : List Jvm.Cond) (a1 : Addr) (h0 : Heap) (n0 : Nat) (Z0 : n0 ≤ h0.size) :
    MetFree l (⟨"java/lang/Record", "<init>", "()V"⟩ : MethodName) (head1 (Jvm.Cond.code (⟨"java/lang/Record", "<init>", "()V"⟩ : MethodName) jdk_30_method_1_code 1 none :: ws) ({ frames := 1, cells := 0, slots := 0, locals := 12 } : Room)) (fun a U => a = #[(.ref a1)] ∧ Z.Warmed39 U.vm ∧ U.heap = h0) (fun _ _ _ _ _ => True) (fun _ U o U' => ∃ v L, o = .returned v ∧ Q2 Z a1 h0 n0 v U'.heap L ∧ FrameEnd U o U' L ({ frames := 1, cells := 0, slots := 0, locals := 12 } : Room).cells ({ frames := 1, cells := 0, slots := 0, locals := 12 } : Room).slots) := by
  refine MetFree.of_bodySF (plainFor_of_name pn_0) hisR ?_
  intro p e s m args below meth c s₁ Bd hml0 hP hK
  obtain ⟨rfl, hZ, hh⟩ := hP
  have hx := Bd.exec
  have hby := Bd.bytes
  have hml : c.maxLocals = 1 := hml0
  have hown : s.vm.findClass "java/lang/Record" = some m.cls := findClass_of_methodNamed Bd.named
  have hnm := (name_of_methodNamed Bd.named Bd.method).1
  have X0 : Stand p l e ({ frames := 1, cells := 0, slots := 0, locals := 12 } : Room) s m #[(.ref a1)] below meth c s₁ [] 0 0 := Stand.of_body Bd
  have e0 : s₁.heap = h0 := by rw [← hh, Bd.state]; rfl
  have N0 := Fr.nil n0
  have pre0 : ∀ t, Steps p.tables e below (s₁.setTop (mkF m 0 #[.val (.ref a1)] [])) t → Steps p.tables e below (s₁.setTop (entryFrame m #[(.ref a1)] 1)) t := fun t k => castTop (ef_2 m a1) k
  obtain ⟨T1, X1, e1, st1⟩ := initO X0 hx hZ hown (hw _ (List.mem_of_getElem? (i := 12) rfl)) (hw _ (List.mem_of_getElem? (i := 13) rfl)) (hw _ (List.mem_of_getElem? (i := 14) rfl)) e0 (g := (mkF m 1 #[.val (.ref a1)] [(.ref a1)])) rfl (by rw [hml]; rfl) rfl (hb hby d2_1) (by decide) (W := 0) (by show 2 * 0 + _ ≤ _; exact Nat.le_of_eq rfl) (by decide)
  have fl2 : ∀ target, Steps p.tables e below (T1.setTop (mkF m 4 #[.val (.ref a1)] [])) target → Steps p.tables e below (s₁.setTop (mkF m 0 #[.val (.ref a1)] [])) target := fun target kt => by
    show Steps p.tables e below (s₁.setTop (mkF m 0 #[.val (.ref a1)] [])) _
    refine XS.aloadN X0.here hx rfl (hb hby d2_0) rfl rfl ?_
    show Steps p.tables e below (s₁.setTop (mkF m 1 #[.val (.ref a1)] [(.ref a1)])) _
    refine st1 _ ?_
    exact kt
  obtain ⟨fs, hr, hrun, hended, hW, hsame⟩ := X1.leave (v := none) (fun _ => rfl)
  refine ⟨_, _, pre0 _ (fl2 _ ?_), hrun, hended, _, _, rfl, ?_, ⟨_, rfl⟩, hW, hsame.mono (by decide) (by decide)⟩
  · exact X1.returnOut hx Bd.returns (hb hby d2_4) hr
  · show Q2 _ _ _ _ _ T1.heap _
    rw [e1]
    exact ⟨rfl, N0, rfl⟩
theorem ef_1 (m : MethodId) (x0 : Addr) (x1 : Int64) (x2 : Int64) (x3 : Int64) (x4 : Int64) : entryFrame m #[(.ref x0), (.long x1), (.long x2), (.long x3), (.long x4)] 9 = mkF m 0 #[.val (.ref x0), .val (.long x1), .second, .val (.long x2), .second, .val (.long x3), .second, .val (.long x4), .second] [] := by first | (simp [entryFrame, mkF, argsToLocals, Value.category]; done) | rfl
def Q1 (Z : State) (a1 : Addr) (p2 : Int64) (p3 : Int64) (p4 : Int64) (p5 : Int64) (u0 : Int64) (u1 : Int64) (u2 : Int64) (u3 : Int64) (h0 : Heap) (n0 : Nat) (v : Option Value) (h : Heap) (L : List Loc) : Prop := v = none ∧ Fr n0 L ∧ Keep h0 h [a1] ∧ own_Obj Z h a1 p2 p3 p4 p5
set_option maxRecDepth 65536 in
set_option maxHeartbeats 40000000 in
theorem rm1 (l : Launch) (Z : State) (a0 : Array Value) (hw : ∀ d ∈ tables_1, d.before a0 Z = true) (ws : List Jvm.Cond) (a1 : Addr) (p2 : Int64) (p3 : Int64) (p4 : Int64) (p5 : Int64) (u0 : Int64) (u1 : Int64) (u2 : Int64) (u3 : Int64) (h0 : Heap) (n0 : Nat) (Z0 : n0 ≤ h0.size) (E_a1 : Exa Z h0 a1 "com/example/recoup/recoup/Comparison$Counts") (F_compared : Fld Z h0 a1 "com/example/recoup/recoup/Comparison$Counts" "compared" "J" (.long u0)) (F_differ : Fld Z h0 a1 "com/example/recoup/recoup/Comparison$Counts" "differ" "J" (.long u1)) (F_missing : Fld Z h0 a1 "com/example/recoup/recoup/Comparison$Counts" "missing" "J" (.long u2)) (F_extra : Fld Z h0 a1 "com/example/recoup/recoup/Comparison$Counts" "extra" "J" (.long u3)) (g_a1 : n0 ≤ a1) :
    MetFree l (⟨"com/example/recoup/recoup/Comparison$Counts", "<init>", "(JJJJ)V"⟩ : MethodName) (head1 (Jvm.Cond.code (⟨"com/example/recoup/recoup/Comparison$Counts", "<init>", "(JJJJ)V"⟩ : MethodName) prog_5_method_1_code 9 none :: ws) ({ frames := 2, cells := 0, slots := 0, locals := 24 } : Room)) (fun a U => a = #[(.ref a1), (.long p2), (.long p3), (.long p4), (.long p5)] ∧ Z.Warmed39 U.vm ∧ U.heap = h0) (fun _ _ _ _ _ => True) (fun _ U o U' => ∃ v L, o = .returned v ∧ Q1 Z a1 p2 p3 p4 p5 u0 u1 u2 u3 h0 n0 v U'.heap L ∧ FrameEnd U o U' L ({ frames := 2, cells := 0, slots := 0, locals := 24 } : Room).cells ({ frames := 2, cells := 0, slots := 0, locals := 24 } : Room).slots) := by
  refine MetFree.of_bodySF (plainFor_of_name pn_1) hisR ?_
  intro p e s m args below meth c s₁ Bd hml0 hP hK
  obtain ⟨rfl, hZ, hh⟩ := hP
  have hx := Bd.exec
  have hby := Bd.bytes
  have hml : c.maxLocals = 9 := hml0
  have hown : s.vm.findClass "com/example/recoup/recoup/Comparison$Counts" = some m.cls := findClass_of_methodNamed Bd.named
  have hnm := (name_of_methodNamed Bd.named Bd.method).1
  have X0 : Stand p l e ({ frames := 2, cells := 0, slots := 0, locals := 24 } : Room) s m #[(.ref a1), (.long p2), (.long p3), (.long p4), (.long p5)] below meth c s₁ [] 0 0 := Stand.of_body Bd
  have e0 : s₁.heap = h0 := by rw [← hh, Bd.state]; rfl
  have N0 := Fr.nil n0
  have pre0 : ∀ t, Steps p.tables e below (s₁.setTop (mkF m 0 #[.val (.ref a1), .val (.long p2), .second, .val (.long p3), .second, .val (.long p4), .second, .val (.long p5), .second] [])) t → Steps p.tables e below (s₁.setTop (entryFrame m #[(.ref a1), (.long p2), (.long p3), (.long p4), (.long p5)] 9)) t := fun t k => castTop (ef_1 m a1 p2 p3 p4 p5) k
  obtain ⟨_, _, ⟨T3, L3, k3, n3⟩, -, X3, ⟨Lc3, hQ3, l3, y3, z3⟩, st3⟩ := X0.specialBack hx (y := (⟨"java/lang/Record", "<init>", "()V"⟩ : MethodName)) rfl hown (mvT hZ (hw _ (List.mem_of_getElem? (i := 7) rfl))) (mvT hZ (hw _ (List.mem_of_getElem? (i := 8) rfl))) (mvT hZ (hw _ (List.mem_of_getElem? (i := 11) rfl))) (by decide) (backOf (W := 0) (rm2 l Z a0 hw [] a1  h0 n0 Z0 ) hZ (hw _ (List.mem_of_getElem? (i := 11) rfl)) (hw _ (List.mem_of_getElem? (i := 10) rfl)) (by decide) (by decide)) (g := (mkF m 1 #[.val (.ref a1), .val (.long p2), .second, .val (.long p3), .second, .val (.long p4), .second, .val (.long p5), .second] [(.ref a1)])) rfl (by rw [hml]; rfl) (Steps.refl _) (a := a1) (argsL := []) (rest := []) (lenOf pd_0 rfl) rfl (by show 2 * 0 + _ ≤ _; exact Nat.le_of_eq rfl) (hb hby d1_1) (fun _ _ => ⟨rfl, e0, (by decide : 0 + 0 ≤ _), (by decide : 0 + 0 ≤ _)⟩)
  dsimp only [Pt.U, Pt.locs, Pt.cells, Pt.slots] at X3 l3 y3 z3 st3 hQ3
  subst l3 y3 z3
  obtain ⟨rfl, N3q, he3⟩ := hQ3
  have N3 := Fr.app N0 N3q
  have Kc3 : Keep h0 T3.heap [] := by rw [he3]; exact Keep.refl _ _
  have E_a1_3 := E_a1.keep Kc3
  have F_compared_3 := F_compared.keep Kc3 nin0
  have F_differ_3 := F_differ.keep Kc3 nin0
  have F_missing_3 := F_missing.keep Kc3 nin0
  have F_extra_3 := F_extra.keep Kc3 nin0
  have K3 : Keep h0 T3.heap [a1] := (Keep.refl h0 [a1]).trans Kc3 all0
  have z3z : n0 ≤ T3.heap.size := Nat.le_trans Z0 Kc3.1
  obtain ⟨T4, h4, X4, e4, W4, st4⟩ := putF X3 hx hZ hown (host := "") (Or.inl (hw _ (List.mem_of_getElem? (i := 15) rfl))) Via.refl rfl F_compared_3 E_a1_3 (Or.inr ⟨(hw _ (List.mem_of_getElem? (i := 16) rfl)), rfl, hnm⟩) (hw _ (List.mem_of_getElem? (i := 2) rfl)) (ty := .long) (by decide) rfl rfl (g := (mkF m 6 #[.val (.ref a1), .val (.long p2), .second, .val (.long p3), .second, .val (.long p4), .second, .val (.long p5), .second] [(.long p2), (.ref a1)])) rfl rfl (hb hby d1_6)
  have Fw4 := F_compared_3.same W4
  have E_a1_4 := E_a1_3.wr W4
  have F_differ_4 := F_differ_3.other W4 (Or.inr (slot_ne (Or.inr (hw _ (List.mem_of_getElem? (i := 18) rfl))) (Or.inr (hw _ (List.mem_of_getElem? (i := 16) rfl))) (by decide) (t := .long) (t' := .long) (by decide) (by decide)))
  have F_missing_4 := F_missing_3.other W4 (Or.inr (slot_ne (Or.inr (hw _ (List.mem_of_getElem? (i := 20) rfl))) (Or.inr (hw _ (List.mem_of_getElem? (i := 16) rfl))) (by decide) (t := .long) (t' := .long) (by decide) (by decide)))
  have F_extra_4 := F_extra_3.other W4 (Or.inr (slot_ne (Or.inr (hw _ (List.mem_of_getElem? (i := 22) rfl))) (Or.inr (hw _ (List.mem_of_getElem? (i := 16) rfl))) (by decide) (t := .long) (t' := .long) (by decide) (by decide)))
  have N4 := Fr.snoc X4 N3 g_a1
  have K4 : Keep h0 h4 [a1] := K3.wr W4 (Or.inl (List.mem_of_getElem? (i := 0) rfl))
  have z4 : n0 ≤ h4.size := Nat.le_trans z3z (Keep.of_wr W4).1
  obtain ⟨T5, h5, X5, e5, W5, st5⟩ := putF X4 hx hZ hown (host := "") (Or.inl (hw _ (List.mem_of_getElem? (i := 17) rfl))) Via.refl e4 F_differ_4 E_a1_4 (Or.inr ⟨(hw _ (List.mem_of_getElem? (i := 18) rfl)), rfl, hnm⟩) (hw _ (List.mem_of_getElem? (i := 2) rfl)) (ty := .long) (by decide) rfl rfl (g := (mkF m 11 #[.val (.ref a1), .val (.long p2), .second, .val (.long p3), .second, .val (.long p4), .second, .val (.long p5), .second] [(.long p3), (.ref a1)])) rfl rfl (hb hby d1_11)
  have Fw5 := F_differ_4.same W5
  have E_a1_5 := E_a1_4.wr W5
  have F_missing_5 := F_missing_4.other W5 (Or.inr (slot_ne (Or.inr (hw _ (List.mem_of_getElem? (i := 20) rfl))) (Or.inr (hw _ (List.mem_of_getElem? (i := 18) rfl))) (by decide) (t := .long) (t' := .long) (by decide) (by decide)))
  have F_extra_5 := F_extra_4.other W5 (Or.inr (slot_ne (Or.inr (hw _ (List.mem_of_getElem? (i := 22) rfl))) (Or.inr (hw _ (List.mem_of_getElem? (i := 18) rfl))) (by decide) (t := .long) (t' := .long) (by decide) (by decide)))
  have Fw4_5 := Fw4.other W5 (Or.inr (slot_ne (Or.inr (hw _ (List.mem_of_getElem? (i := 16) rfl))) (Or.inr (hw _ (List.mem_of_getElem? (i := 18) rfl))) (by decide) (t := .long) (t' := .long) (by decide) (by decide)))
  have N5 := Fr.snoc X5 N4 g_a1
  have K5 : Keep h0 h5 [a1] := K4.wr W5 (Or.inl (List.mem_of_getElem? (i := 0) rfl))
  have z5 : n0 ≤ h5.size := Nat.le_trans z4 (Keep.of_wr W5).1
  obtain ⟨T6, h6, X6, e6, W6, st6⟩ := putF X5 hx hZ hown (host := "") (Or.inl (hw _ (List.mem_of_getElem? (i := 19) rfl))) Via.refl e5 F_missing_5 E_a1_5 (Or.inr ⟨(hw _ (List.mem_of_getElem? (i := 20) rfl)), rfl, hnm⟩) (hw _ (List.mem_of_getElem? (i := 2) rfl)) (ty := .long) (by decide) rfl rfl (g := (mkF m 17 #[.val (.ref a1), .val (.long p2), .second, .val (.long p3), .second, .val (.long p4), .second, .val (.long p5), .second] [(.long p4), (.ref a1)])) rfl rfl (hb hby d1_17)
  have Fw6 := F_missing_5.same W6
  have E_a1_6 := E_a1_5.wr W6
  have F_extra_6 := F_extra_5.other W6 (Or.inr (slot_ne (Or.inr (hw _ (List.mem_of_getElem? (i := 22) rfl))) (Or.inr (hw _ (List.mem_of_getElem? (i := 20) rfl))) (by decide) (t := .long) (t' := .long) (by decide) (by decide)))
  have Fw4_6 := Fw4_5.other W6 (Or.inr (slot_ne (Or.inr (hw _ (List.mem_of_getElem? (i := 16) rfl))) (Or.inr (hw _ (List.mem_of_getElem? (i := 20) rfl))) (by decide) (t := .long) (t' := .long) (by decide) (by decide)))
  have Fw5_6 := Fw5.other W6 (Or.inr (slot_ne (Or.inr (hw _ (List.mem_of_getElem? (i := 18) rfl))) (Or.inr (hw _ (List.mem_of_getElem? (i := 20) rfl))) (by decide) (t := .long) (t' := .long) (by decide) (by decide)))
  have N6 := Fr.snoc X6 N5 g_a1
  have K6 : Keep h0 h6 [a1] := K5.wr W6 (Or.inl (List.mem_of_getElem? (i := 0) rfl))
  have z6 : n0 ≤ h6.size := Nat.le_trans z5 (Keep.of_wr W6).1
  obtain ⟨T7, h7, X7, e7, W7, st7⟩ := putF X6 hx hZ hown (host := "") (Or.inl (hw _ (List.mem_of_getElem? (i := 21) rfl))) Via.refl e6 F_extra_6 E_a1_6 (Or.inr ⟨(hw _ (List.mem_of_getElem? (i := 22) rfl)), rfl, hnm⟩) (hw _ (List.mem_of_getElem? (i := 2) rfl)) (ty := .long) (by decide) rfl rfl (g := (mkF m 23 #[.val (.ref a1), .val (.long p2), .second, .val (.long p3), .second, .val (.long p4), .second, .val (.long p5), .second] [(.long p5), (.ref a1)])) rfl rfl (hb hby d1_23)
  have Fw7 := F_extra_6.same W7
  have E_a1_7 := E_a1_6.wr W7
  have Fw4_7 := Fw4_6.other W7 (Or.inr (slot_ne (Or.inr (hw _ (List.mem_of_getElem? (i := 16) rfl))) (Or.inr (hw _ (List.mem_of_getElem? (i := 22) rfl))) (by decide) (t := .long) (t' := .long) (by decide) (by decide)))
  have Fw5_7 := Fw5_6.other W7 (Or.inr (slot_ne (Or.inr (hw _ (List.mem_of_getElem? (i := 18) rfl))) (Or.inr (hw _ (List.mem_of_getElem? (i := 22) rfl))) (by decide) (t := .long) (t' := .long) (by decide) (by decide)))
  have Fw6_7 := Fw6.other W7 (Or.inr (slot_ne (Or.inr (hw _ (List.mem_of_getElem? (i := 20) rfl))) (Or.inr (hw _ (List.mem_of_getElem? (i := 22) rfl))) (by decide) (t := .long) (t' := .long) (by decide) (by decide)))
  have N7 := Fr.snoc X7 N6 g_a1
  have K7 : Keep h0 h7 [a1] := K6.wr W7 (Or.inl (List.mem_of_getElem? (i := 0) rfl))
  have z7 : n0 ≤ h7.size := Nat.le_trans z6 (Keep.of_wr W7).1
  have fl8 : ∀ target, Steps p.tables e below (T7.setTop (mkF m 26 #[.val (.ref a1), .val (.long p2), .second, .val (.long p3), .second, .val (.long p4), .second, .val (.long p5), .second] [])) target → Steps p.tables e below (s₁.setTop (mkF m 0 #[.val (.ref a1), .val (.long p2), .second, .val (.long p3), .second, .val (.long p4), .second, .val (.long p5), .second] [])) target := fun target kt => by
    show Steps p.tables e below (s₁.setTop (mkF m 0 #[.val (.ref a1), .val (.long p2), .second, .val (.long p3), .second, .val (.long p4), .second, .val (.long p5), .second] [])) _
    refine XS.aloadN X0.here hx rfl (hb hby d1_0) rfl rfl ?_
    show Steps p.tables e below (s₁.setTop (mkF m 1 #[.val (.ref a1), .val (.long p2), .second, .val (.long p3), .second, .val (.long p4), .second, .val (.long p5), .second] [(.ref a1)])) _
    refine st3.trans ?_
    show Steps p.tables e below (T3.setTop (mkF m 4 #[.val (.ref a1), .val (.long p2), .second, .val (.long p3), .second, .val (.long p4), .second, .val (.long p5), .second] [])) _
    refine XS.aloadN X3.here hx rfl (hb hby d1_4) rfl rfl ?_
    show Steps p.tables e below (T3.setTop (mkF m 5 #[.val (.ref a1), .val (.long p2), .second, .val (.long p3), .second, .val (.long p4), .second, .val (.long p5), .second] [(.ref a1)])) _
    refine XS.lloadN X3.here hx rfl (hb hby d1_5) rfl ?_
    show Steps p.tables e below (T3.setTop (mkF m 6 #[.val (.ref a1), .val (.long p2), .second, .val (.long p3), .second, .val (.long p4), .second, .val (.long p5), .second] [(.long p2), (.ref a1)])) _
    refine st4 _ ?_
    show Steps p.tables e below (T4.setTop (mkF m 9 #[.val (.ref a1), .val (.long p2), .second, .val (.long p3), .second, .val (.long p4), .second, .val (.long p5), .second] [])) _
    refine XS.aloadN X4.here hx rfl (hb hby d1_9) rfl rfl ?_
    show Steps p.tables e below (T4.setTop (mkF m 10 #[.val (.ref a1), .val (.long p2), .second, .val (.long p3), .second, .val (.long p4), .second, .val (.long p5), .second] [(.ref a1)])) _
    refine XS.lloadN X4.here hx rfl (hb hby d1_10) rfl ?_
    show Steps p.tables e below (T4.setTop (mkF m 11 #[.val (.ref a1), .val (.long p2), .second, .val (.long p3), .second, .val (.long p4), .second, .val (.long p5), .second] [(.long p3), (.ref a1)])) _
    refine st5 _ ?_
    show Steps p.tables e below (T5.setTop (mkF m 14 #[.val (.ref a1), .val (.long p2), .second, .val (.long p3), .second, .val (.long p4), .second, .val (.long p5), .second] [])) _
    refine XS.aloadN X5.here hx rfl (hb hby d1_14) rfl rfl ?_
    show Steps p.tables e below (T5.setTop (mkF m 15 #[.val (.ref a1), .val (.long p2), .second, .val (.long p3), .second, .val (.long p4), .second, .val (.long p5), .second] [(.ref a1)])) _
    refine XS.lload X5.here hx rfl (hb hby d1_15) rfl ?_
    show Steps p.tables e below (T5.setTop (mkF m 17 #[.val (.ref a1), .val (.long p2), .second, .val (.long p3), .second, .val (.long p4), .second, .val (.long p5), .second] [(.long p4), (.ref a1)])) _
    refine st6 _ ?_
    show Steps p.tables e below (T6.setTop (mkF m 20 #[.val (.ref a1), .val (.long p2), .second, .val (.long p3), .second, .val (.long p4), .second, .val (.long p5), .second] [])) _
    refine XS.aloadN X6.here hx rfl (hb hby d1_20) rfl rfl ?_
    show Steps p.tables e below (T6.setTop (mkF m 21 #[.val (.ref a1), .val (.long p2), .second, .val (.long p3), .second, .val (.long p4), .second, .val (.long p5), .second] [(.ref a1)])) _
    refine XS.lload X6.here hx rfl (hb hby d1_21) rfl ?_
    show Steps p.tables e below (T6.setTop (mkF m 23 #[.val (.ref a1), .val (.long p2), .second, .val (.long p3), .second, .val (.long p4), .second, .val (.long p5), .second] [(.long p5), (.ref a1)])) _
    refine st7 _ ?_
    exact kt
  obtain ⟨fs, hr, hrun, hended, hW, hsame⟩ := X7.leave (v := none) (fun _ => rfl)
  refine ⟨_, _, pre0 _ (fl8 _ ?_), hrun, hended, _, _, rfl, ?_, ⟨_, rfl⟩, hW, hsame.mono (by decide) (by decide)⟩
  · exact X7.returnOut hx Bd.returns (hb hby d1_26) hr
  · show Q1 _ _ _ _ _ _ _ _ _ _ _ _ _ T7.heap _
    rw [e7]
    exact ⟨rfl, N7, K7, E_a1_7, Fw4_7, Fw5_7, Fw6_7, Fw7⟩
theorem ef_4 (m : MethodId) (x0 : Addr) : entryFrame m #[(.ref x0)] 1 = mkF m 0 #[.val (.ref x0)] [] := by first | (simp [entryFrame, mkF, argsToLocals, Value.category]; done) | rfl
def Q4 (Z : State) (a1 : Addr) (w1 : Int64) (w2 : Int64) (w3 : Int64) (r : Int32) (h0 : Heap) (n0 : Nat) (v : Option Value) (h : Heap) (L : List Loc) : Prop := v = some (.int r) ∧ Fr n0 L ∧ h = h0
set_option maxRecDepth 65536 in
set_option maxHeartbeats 40000000 in
theorem rm4 (l : Launch) (Z : State) (a0 : Array Value) (hw : ∀ d ∈ tables_1, d.before a0 Z = true) (ws : List Jvm.Cond) (a1 : Addr) (w1 : Int64) (w2 : Int64) (w3 : Int64) (r : Int32) (h0 : Heap) (n0 : Nat) (Z0 : n0 ≤ h0.size) (F_differ : Fld Z h0 a1 "com/example/recoup/recoup/Comparison$Counts" "differ" "J" (.long w1)) (F_missing : Fld Z h0 a1 "com/example/recoup/recoup/Comparison$Counts" "missing" "J" (.long w2)) (F_extra : Fld Z h0 a1 "com/example/recoup/recoup/Comparison$Counts" "extra" "J" (.long w3)) (hr : r = if (0 : Int64) < (w1 + w2) + w3 then 1 else 0) :
    MetFree l (⟨"com/example/recoup/recoup/Comparison$Counts", "anyFinding", "()Z"⟩ : MethodName) (head1 (Jvm.Cond.code (⟨"com/example/recoup/recoup/Comparison$Counts", "anyFinding", "()Z"⟩ : MethodName) prog_5_method_2_code 1 (some .boolean) :: ws) ({ frames := 0, cells := 0, slots := 0, locals := 0 } : Room)) (fun a U => a = #[(.ref a1)] ∧ Z.Warmed39 U.vm ∧ U.heap = h0) (fun _ _ _ _ _ => True) (fun _ U o U' => ∃ v L, o = .returned v ∧ Q4 Z a1 w1 w2 w3 r h0 n0 v U'.heap L ∧ FrameEnd U o U' L ({ frames := 0, cells := 0, slots := 0, locals := 0 } : Room).cells ({ frames := 0, cells := 0, slots := 0, locals := 0 } : Room).slots) := by
  refine MetFree.of_bodySF (plainFor_of_name pn_1) hisR ?_
  intro p e s m args below meth c s₁ Bd hml0 hP hK
  obtain ⟨rfl, hZ, hh⟩ := hP
  have hx := Bd.exec
  have hby := Bd.bytes
  have hml : c.maxLocals = 1 := hml0
  have hown : s.vm.findClass "com/example/recoup/recoup/Comparison$Counts" = some m.cls := findClass_of_methodNamed Bd.named
  have hnm := (name_of_methodNamed Bd.named Bd.method).1
  have X0 : Stand p l e ({ frames := 0, cells := 0, slots := 0, locals := 0 } : Room) s m #[(.ref a1)] below meth c s₁ [] 0 0 := Stand.of_body Bd
  have e0 : s₁.heap = h0 := by rw [← hh, Bd.state]; rfl
  have N0 := Fr.nil n0
  have pre0 : ∀ t, Steps p.tables e below (s₁.setTop (mkF m 0 #[.val (.ref a1)] [])) t → Steps p.tables e below (s₁.setTop (entryFrame m #[(.ref a1)] 1)) t := fun t k => castTop (ef_4 m a1) k
  obtain ⟨T9, X9, e9, st9⟩ := getF X0 hx hZ hown (host := "") (Or.inl (hw _ (List.mem_of_getElem? (i := 17) rfl))) Via.refl e0 F_differ (g := (mkF m 1 #[.val (.ref a1)] [(.ref a1)])) rfl rfl (hb hby d4_1)
  obtain ⟨T10, X10, e10, st10⟩ := getF X9 hx hZ hown (host := "") (Or.inl (hw _ (List.mem_of_getElem? (i := 19) rfl))) Via.refl e9 F_missing (g := (mkF m 5 #[.val (.ref a1)] [(.ref a1), (.long w1)])) rfl rfl (hb hby d4_5)
  obtain ⟨T11, X11, e11, st11⟩ := getF X10 hx hZ hown (host := "") (Or.inl (hw _ (List.mem_of_getElem? (i := 21) rfl))) Via.refl e10 F_extra (g := (mkF m 10 #[.val (.ref a1)] [(.ref a1), (.long (w1 + w2))])) rfl rfl (hb hby d4_10)
  by_cases hc : (0 : Int64) < (w1 + w2) + w3
  · obtain rfl : r = 1 := by rw [hr]; exact if_pos hc
    have fl12 : ∀ target, Steps p.tables e below (T11.setTop (mkF m 24 #[.val (.ref a1)] [(.int (1 : Int32))])) target → Steps p.tables e below (s₁.setTop (mkF m 0 #[.val (.ref a1)] [])) target := fun target kt => by
      show Steps p.tables e below (s₁.setTop (mkF m 0 #[.val (.ref a1)] [])) _
      refine XS.aloadN X0.here hx rfl (hb hby d4_0) rfl rfl ?_
      show Steps p.tables e below (s₁.setTop (mkF m 1 #[.val (.ref a1)] [(.ref a1)])) _
      refine st9 _ ?_
      show Steps p.tables e below (T9.setTop (mkF m 4 #[.val (.ref a1)] [(.long w1)])) _
      refine XS.aloadN X9.here hx rfl (hb hby d4_4) rfl rfl ?_
      show Steps p.tables e below (T9.setTop (mkF m 5 #[.val (.ref a1)] [(.ref a1), (.long w1)])) _
      refine st10 _ ?_
      show Steps p.tables e below (T10.setTop (mkF m 8 #[.val (.ref a1)] [(.long w2), (.long w1)])) _
      refine XS.ladd X10.here hx rfl (hb hby d4_8) rfl ?_
      show Steps p.tables e below (T10.setTop (mkF m 9 #[.val (.ref a1)] [(.long (w1 + w2))])) _
      refine XS.aloadN X10.here hx rfl (hb hby d4_9) rfl rfl ?_
      show Steps p.tables e below (T10.setTop (mkF m 10 #[.val (.ref a1)] [(.ref a1), (.long (w1 + w2))])) _
      refine st11 _ ?_
      show Steps p.tables e below (T11.setTop (mkF m 13 #[.val (.ref a1)] [(.long w3), (.long (w1 + w2))])) _
      refine XS.ladd X11.here hx rfl (hb hby d4_13) rfl ?_
      show Steps p.tables e below (T11.setTop (mkF m 14 #[.val (.ref a1)] [(.long ((w1 + w2) + w3))])) _
      refine XS.lconst X11.here hx rfl (hb hby d4_14) ?_
      show Steps p.tables e below (T11.setTop (mkF m 15 #[.val (.ref a1)] [(.long (0 : Int64)), (.long ((w1 + w2) + w3))])) _
      refine XS.lcmp X11.here hx rfl (hb hby d4_15) rfl ?_
      show Steps p.tables e below (T11.setTop (mkF m 16 #[.val (.ref a1)] [(.int (lcmpW ((w1 + w2) + w3) (0 : Int64)))])) _
      refine XS.ifNo X11.here hx rfl (hb hby d4_16) rfl ((if0 _ _).trans (tlt ((lw_gt _ _).mpr hc : (0 : Int32) < (lcmpW ((w1 + w2) + w3) (0 : Int64)))).2.2.2) ?_
      show Steps p.tables e below (T11.setTop (mkF m 19 #[.val (.ref a1)] [])) _
      refine XS.iconst X11.here hx rfl (hb hby d4_19) ?_
      show Steps p.tables e below (T11.setTop (mkF m 20 #[.val (.ref a1)] [(.int (1 : Int32))])) _
      refine XS.goto X11.here hx rfl (pc0 := 20) (pc' := 24) rfl (hb hby d4_20) (by decide) (by decide) ?_
      exact kt
    obtain ⟨fs, hr, hrun, hended, hW, hsame⟩ := X11.leave (v := some (.int (1 : Int32))) (fun h => by rw [Bd.returns] at h; cases h)
    refine ⟨_, _, pre0 _ (fl12 _ ?_), hrun, hended, _, _, rfl, ?_, ⟨_, rfl⟩, hW, hsame.mono (by decide) (by decide)⟩
    · exact retN X11 hx (t := .boolean) Bd.returns (by simp) (hb hby d4_24) hr
    · show Q4 _ _ _ _ _ _ _ _ _ T11.heap _
      rw [e11]
      exact ⟨rfl, N0, rfl⟩
  · obtain rfl : r = 0 := by rw [hr]; exact if_neg hc
    have fl13 : ∀ target, Steps p.tables e below (T11.setTop (mkF m 24 #[.val (.ref a1)] [(.int (0 : Int32))])) target → Steps p.tables e below (s₁.setTop (mkF m 0 #[.val (.ref a1)] [])) target := fun target kt => by
      show Steps p.tables e below (s₁.setTop (mkF m 0 #[.val (.ref a1)] [])) _
      refine XS.aloadN X0.here hx rfl (hb hby d4_0) rfl rfl ?_
      show Steps p.tables e below (s₁.setTop (mkF m 1 #[.val (.ref a1)] [(.ref a1)])) _
      refine st9 _ ?_
      show Steps p.tables e below (T9.setTop (mkF m 4 #[.val (.ref a1)] [(.long w1)])) _
      refine XS.aloadN X9.here hx rfl (hb hby d4_4) rfl rfl ?_
      show Steps p.tables e below (T9.setTop (mkF m 5 #[.val (.ref a1)] [(.ref a1), (.long w1)])) _
      refine st10 _ ?_
      show Steps p.tables e below (T10.setTop (mkF m 8 #[.val (.ref a1)] [(.long w2), (.long w1)])) _
      refine XS.ladd X10.here hx rfl (hb hby d4_8) rfl ?_
      show Steps p.tables e below (T10.setTop (mkF m 9 #[.val (.ref a1)] [(.long (w1 + w2))])) _
      refine XS.aloadN X10.here hx rfl (hb hby d4_9) rfl rfl ?_
      show Steps p.tables e below (T10.setTop (mkF m 10 #[.val (.ref a1)] [(.ref a1), (.long (w1 + w2))])) _
      refine st11 _ ?_
      show Steps p.tables e below (T11.setTop (mkF m 13 #[.val (.ref a1)] [(.long w3), (.long (w1 + w2))])) _
      refine XS.ladd X11.here hx rfl (hb hby d4_13) rfl ?_
      show Steps p.tables e below (T11.setTop (mkF m 14 #[.val (.ref a1)] [(.long ((w1 + w2) + w3))])) _
      refine XS.lconst X11.here hx rfl (hb hby d4_14) ?_
      show Steps p.tables e below (T11.setTop (mkF m 15 #[.val (.ref a1)] [(.long (0 : Int64)), (.long ((w1 + w2) + w3))])) _
      refine XS.lcmp X11.here hx rfl (hb hby d4_15) rfl ?_
      show Steps p.tables e below (T11.setTop (mkF m 16 #[.val (.ref a1)] [(.int (lcmpW ((w1 + w2) + w3) (0 : Int64)))])) _
      refine XS.ifYes X11.here hx rfl (pc0 := 16) (pc' := 23) rfl (hb hby d4_16) rfl ((if0 _ _).trans (flt (fun q => hc ((lw_gt _ _).mp q) : ¬ ((0 : Int32) < (lcmpW ((w1 + w2) + w3) (0 : Int64))))).2.2.2) (by decide) (by decide) ?_
      show Steps p.tables e below (T11.setTop (mkF m 23 #[.val (.ref a1)] [])) _
      refine XS.iconst X11.here hx rfl (hb hby d4_23) ?_
      exact kt
    obtain ⟨fs, hr, hrun, hended, hW, hsame⟩ := X11.leave (v := some (.int (0 : Int32))) (fun h => by rw [Bd.returns] at h; cases h)
    refine ⟨_, _, pre0 _ (fl13 _ ?_), hrun, hended, _, _, rfl, ?_, ⟨_, rfl⟩, hW, hsame.mono (by decide) (by decide)⟩
    · exact retN X11 hx (t := .boolean) Bd.returns (by simp) (hb hby d4_24) hr
    · show Q4 _ _ _ _ _ _ _ _ _ T11.heap _
      rw [e11]
      exact ⟨rfl, N0, rfl⟩
theorem ef_0 (m : MethodId) (x0 : Int64) (x1 : Int64) (x2 : Int64) (x3 : Int64) (x4 : Int32) : entryFrame m #[(.long x0), (.long x1), (.long x2), (.long x3), (.int x4)] maxLocals = mkF m 0 #[.val (.long x0), .second, .val (.long x1), .second, .val (.long x2), .second, .val (.long x3), .second, .val (.int x4), .unset, .unset, .unset, .unset, .unset, .unset, .unset, .unset, .unset, .unset, .unset, .unset] [] := by first | (simp [entryFrame, mkF, argsToLocals, Value.category, maxLocals]; done) | rfl
def Q0 (Z : State) (p1 : Int64) (p2 : Int64) (p3 : Int64) (p4 : Int64) (p5 : Int32) (h0 : Heap) (n0 : Nat) (v : Option Value) (h : Heap) (L : List Loc) : Prop := v = some (.int (1 : Int32)) ∧ Fr n0 L
set_option maxRecDepth 65536 in
set_option maxHeartbeats 40000000 in
theorem rm0 (l : Launch) (Z : State) (a0 : Array Value) (hw : ∀ d ∈ tables_1, d.before a0 Z = true) (ws : List Jvm.Cond) (p1 : Int64) (p2 : Int64) (p3 : Int64) (p4 : Int64) (p5 : Int32) (h0 : Heap) (n0 : Nat) (Z0 : n0 ≤ h0.size) :
    MetFree l x (head1 (Jvm.Cond.code x code maxLocals ret :: ws) room_1) (fun a U => a = #[(.long p1), (.long p2), (.long p3), (.long p4), (.int p5)] ∧ Z.Warmed39 U.vm ∧ U.heap = h0) (fun _ _ _ _ _ => True) (fun _ U o U' => ∃ v L, o = .returned v ∧ Q0 Z p1 p2 p3 p4 p5 h0 n0 v U'.heap L ∧ FrameEnd U o U' L room_1.cells room_1.slots) := by
  refine MetFree.of_bodySF (plainFor_of_name pn_2) hisR ?_
  intro p e s m args below meth c s₁ Bd hml0 hP hK
  obtain ⟨rfl, hZ, hh⟩ := hP
  have hx := Bd.exec
  have hby := Bd.bytes
  have hml : c.maxLocals = 21 := hml0
  have hown : s.vm.findClass "com/example/recoup/recoup/CountsAnyFindingPinLaw" = some m.cls := findClass_of_methodNamed Bd.named
  have hnm := (name_of_methodNamed Bd.named Bd.method).1
  have X0 : Stand p l e room_1 s m #[(.long p1), (.long p2), (.long p3), (.long p4), (.int p5)] below meth c s₁ [] 0 0 := Stand.of_body Bd
  have e0 : s₁.heap = h0 := by rw [← hh, Bd.state]; rfl
  have N0 := Fr.nil n0
  have pre0 : ∀ t, Steps p.tables e below (s₁.setTop (mkF m 0 #[.val (.long p1), .second, .val (.long p2), .second, .val (.long p3), .second, .val (.long p4), .second, .val (.int p5), .unset, .unset, .unset, .unset, .unset, .unset, .unset, .unset, .unset, .unset, .unset, .unset] [])) t → Steps p.tables e below (s₁.setTop (entryFrame m #[(.long p1), (.long p2), (.long p3), (.long p4), (.int p5)] maxLocals)) t := fun t k => castTop (ef_0 m p1 p2 p3 p4 p5) k
  have fl14 : ∀ target, Steps p.tables e below (s₁.setTop (mkF m 5 #[.val (.long p1), .second, .val (.long p2), .second, .val (.long p3), .second, .val (.long p4), .second, .val (.int p5), .val (.long (2305843009213693951 : Int64)), .second, .unset, .unset, .unset, .unset, .unset, .unset, .unset, .unset, .unset, .unset] [])) target → Steps p.tables e below (s₁.setTop (mkF m 0 #[.val (.long p1), .second, .val (.long p2), .second, .val (.long p3), .second, .val (.long p4), .second, .val (.int p5), .unset, .unset, .unset, .unset, .unset, .unset, .unset, .unset, .unset, .unset, .unset, .unset] [])) target := fun target kt => by
    show Steps p.tables e below (s₁.setTop (mkF m 0 #[.val (.long p1), .second, .val (.long p2), .second, .val (.long p3), .second, .val (.long p4), .second, .val (.int p5), .unset, .unset, .unset, .unset, .unset, .unset, .unset, .unset, .unset, .unset, .unset, .unset] [])) _
    refine X0.ldc2Long hx hown (mvT hZ (hw _ (List.mem_of_getElem? (i := 0) rfl))) (g := (mkF m 0 #[.val (.long p1), .second, .val (.long p2), .second, .val (.long p3), .second, .val (.long p4), .second, .val (.int p5), .unset, .unset, .unset, .unset, .unset, .unset, .unset, .unset, .unset, .unset, .unset, .unset] [])) rfl (hb hby at_0) _ ?_
    show Steps p.tables e below (s₁.setTop (mkF m 3 #[.val (.long p1), .second, .val (.long p2), .second, .val (.long p3), .second, .val (.long p4), .second, .val (.int p5), .unset, .unset, .unset, .unset, .unset, .unset, .unset, .unset, .unset, .unset, .unset, .unset] [(.long (2305843009213693951 : Int64))])) _
    refine XS.lstore X0.here hx rfl (hb hby at_3) rfl (l' := #[.val (.long p1), .second, .val (.long p2), .second, .val (.long p3), .second, .val (.long p4), .second, .val (.int p5), .val (.long (2305843009213693951 : Int64)), .second, .unset, .unset, .unset, .unset, .unset, .unset, .unset, .unset, .unset, .unset]) rfl ?_
    exact kt
  obtain ⟨d, hd⟩ : ∃ z : Int64, z = if (p5 &&& (1 : Int32)) = (0 : Int32) then (p2 &&& (2305843009213693951 : Int64)) else 0 := ⟨_, rfl⟩
  have fl15 : ∀ target, Steps p.tables e below (s₁.setTop (mkF m 22 #[.val (.long p1), .second, .val (.long p2), .second, .val (.long p3), .second, .val (.long p4), .second, .val (.int p5), .val (.long (2305843009213693951 : Int64)), .second, .val (.long d), .second, .unset, .unset, .unset, .unset, .unset, .unset, .unset, .unset] [])) target → Steps p.tables e below (s₁.setTop (mkF m 5 #[.val (.long p1), .second, .val (.long p2), .second, .val (.long p3), .second, .val (.long p4), .second, .val (.int p5), .val (.long (2305843009213693951 : Int64)), .second, .unset, .unset, .unset, .unset, .unset, .unset, .unset, .unset, .unset, .unset] [])) target := by
    intro target kt
    by_cases hc : (p5 &&& (1 : Int32)) = (0 : Int32)
    · have q : d = (p2 &&& (2305843009213693951 : Int64)) := by rw [hd]; exact if_pos hc
      show Steps p.tables e below (s₁.setTop (mkF m 5 #[.val (.long p1), .second, .val (.long p2), .second, .val (.long p3), .second, .val (.long p4), .second, .val (.int p5), .val (.long (2305843009213693951 : Int64)), .second, .unset, .unset, .unset, .unset, .unset, .unset, .unset, .unset, .unset, .unset] [])) _
      refine XS.iload X0.here hx rfl (hb hby at_5) rfl ?_
      show Steps p.tables e below (s₁.setTop (mkF m 7 #[.val (.long p1), .second, .val (.long p2), .second, .val (.long p3), .second, .val (.long p4), .second, .val (.int p5), .val (.long (2305843009213693951 : Int64)), .second, .unset, .unset, .unset, .unset, .unset, .unset, .unset, .unset, .unset, .unset] [(.int p5)])) _
      refine XS.iconst X0.here hx rfl (hb hby at_7) ?_
      show Steps p.tables e below (s₁.setTop (mkF m 8 #[.val (.long p1), .second, .val (.long p2), .second, .val (.long p3), .second, .val (.long p4), .second, .val (.int p5), .val (.long (2305843009213693951 : Int64)), .second, .unset, .unset, .unset, .unset, .unset, .unset, .unset, .unset, .unset, .unset] [(.int (1 : Int32)), (.int p5)])) _
      refine XS.iand X0.here hx rfl (hb hby at_8) rfl ?_
      show Steps p.tables e below (s₁.setTop (mkF m 9 #[.val (.long p1), .second, .val (.long p2), .second, .val (.long p3), .second, .val (.long p4), .second, .val (.int p5), .val (.long (2305843009213693951 : Int64)), .second, .unset, .unset, .unset, .unset, .unset, .unset, .unset, .unset, .unset, .unset] [(.int (p5 &&& (1 : Int32)))])) _
      refine XS.ifYes X0.here hx rfl (pc0 := 9) (pc' := 16) rfl (hb hby at_9) rfl ((if0 _ _).trans (teq (hc : (p5 &&& (1 : Int32)) = (0 : Int32))).1) (by decide) (by decide) ?_
      show Steps p.tables e below (s₁.setTop (mkF m 16 #[.val (.long p1), .second, .val (.long p2), .second, .val (.long p3), .second, .val (.long p4), .second, .val (.int p5), .val (.long (2305843009213693951 : Int64)), .second, .unset, .unset, .unset, .unset, .unset, .unset, .unset, .unset, .unset, .unset] [])) _
      refine XS.lloadN X0.here hx rfl (hb hby at_16) rfl ?_
      show Steps p.tables e below (s₁.setTop (mkF m 17 #[.val (.long p1), .second, .val (.long p2), .second, .val (.long p3), .second, .val (.long p4), .second, .val (.int p5), .val (.long (2305843009213693951 : Int64)), .second, .unset, .unset, .unset, .unset, .unset, .unset, .unset, .unset, .unset, .unset] [(.long p2)])) _
      refine XS.lload X0.here hx rfl (hb hby at_17) rfl ?_
      show Steps p.tables e below (s₁.setTop (mkF m 19 #[.val (.long p1), .second, .val (.long p2), .second, .val (.long p3), .second, .val (.long p4), .second, .val (.int p5), .val (.long (2305843009213693951 : Int64)), .second, .unset, .unset, .unset, .unset, .unset, .unset, .unset, .unset, .unset, .unset] [(.long (2305843009213693951 : Int64)), (.long p2)])) _
      refine XS.land X0.here hx rfl (hb hby at_19) rfl ?_
      show Steps p.tables e below (s₁.setTop (mkF m 20 #[.val (.long p1), .second, .val (.long p2), .second, .val (.long p3), .second, .val (.long p4), .second, .val (.int p5), .val (.long (2305843009213693951 : Int64)), .second, .unset, .unset, .unset, .unset, .unset, .unset, .unset, .unset, .unset, .unset] [(.long (p2 &&& (2305843009213693951 : Int64)))])) _
      refine XS.lstore X0.here hx rfl (hb hby at_20) rfl (l' := #[.val (.long p1), .second, .val (.long p2), .second, .val (.long p3), .second, .val (.long p4), .second, .val (.int p5), .val (.long (2305843009213693951 : Int64)), .second, .val (.long (p2 &&& (2305843009213693951 : Int64))), .second, .unset, .unset, .unset, .unset, .unset, .unset, .unset, .unset]) rfl ?_
      rw [q] at kt
      exact kt
    · have q : d = 0 := by rw [hd]; exact if_neg hc
      show Steps p.tables e below (s₁.setTop (mkF m 5 #[.val (.long p1), .second, .val (.long p2), .second, .val (.long p3), .second, .val (.long p4), .second, .val (.int p5), .val (.long (2305843009213693951 : Int64)), .second, .unset, .unset, .unset, .unset, .unset, .unset, .unset, .unset, .unset, .unset] [])) _
      refine XS.iload X0.here hx rfl (hb hby at_5) rfl ?_
      show Steps p.tables e below (s₁.setTop (mkF m 7 #[.val (.long p1), .second, .val (.long p2), .second, .val (.long p3), .second, .val (.long p4), .second, .val (.int p5), .val (.long (2305843009213693951 : Int64)), .second, .unset, .unset, .unset, .unset, .unset, .unset, .unset, .unset, .unset, .unset] [(.int p5)])) _
      refine XS.iconst X0.here hx rfl (hb hby at_7) ?_
      show Steps p.tables e below (s₁.setTop (mkF m 8 #[.val (.long p1), .second, .val (.long p2), .second, .val (.long p3), .second, .val (.long p4), .second, .val (.int p5), .val (.long (2305843009213693951 : Int64)), .second, .unset, .unset, .unset, .unset, .unset, .unset, .unset, .unset, .unset, .unset] [(.int (1 : Int32)), (.int p5)])) _
      refine XS.iand X0.here hx rfl (hb hby at_8) rfl ?_
      show Steps p.tables e below (s₁.setTop (mkF m 9 #[.val (.long p1), .second, .val (.long p2), .second, .val (.long p3), .second, .val (.long p4), .second, .val (.int p5), .val (.long (2305843009213693951 : Int64)), .second, .unset, .unset, .unset, .unset, .unset, .unset, .unset, .unset, .unset, .unset] [(.int (p5 &&& (1 : Int32)))])) _
      refine XS.ifNo X0.here hx rfl (hb hby at_9) rfl ((if0 _ _).trans (feq (hc : ¬ ((p5 &&& (1 : Int32)) = (0 : Int32)))).1) ?_
      show Steps p.tables e below (s₁.setTop (mkF m 12 #[.val (.long p1), .second, .val (.long p2), .second, .val (.long p3), .second, .val (.long p4), .second, .val (.int p5), .val (.long (2305843009213693951 : Int64)), .second, .unset, .unset, .unset, .unset, .unset, .unset, .unset, .unset, .unset, .unset] [])) _
      refine XS.lconst X0.here hx rfl (hb hby at_12) ?_
      show Steps p.tables e below (s₁.setTop (mkF m 13 #[.val (.long p1), .second, .val (.long p2), .second, .val (.long p3), .second, .val (.long p4), .second, .val (.int p5), .val (.long (2305843009213693951 : Int64)), .second, .unset, .unset, .unset, .unset, .unset, .unset, .unset, .unset, .unset, .unset] [(.long (0 : Int64))])) _
      refine XS.goto X0.here hx rfl (pc0 := 13) (pc' := 20) rfl (hb hby at_13) (by decide) (by decide) ?_
      show Steps p.tables e below (s₁.setTop (mkF m 20 #[.val (.long p1), .second, .val (.long p2), .second, .val (.long p3), .second, .val (.long p4), .second, .val (.int p5), .val (.long (2305843009213693951 : Int64)), .second, .unset, .unset, .unset, .unset, .unset, .unset, .unset, .unset, .unset, .unset] [(.long (0 : Int64))])) _
      refine XS.lstore X0.here hx rfl (hb hby at_20) rfl (l' := #[.val (.long p1), .second, .val (.long p2), .second, .val (.long p3), .second, .val (.long p4), .second, .val (.int p5), .val (.long (2305843009213693951 : Int64)), .second, .val (.long (0 : Int64)), .second, .unset, .unset, .unset, .unset, .unset, .unset, .unset, .unset]) rfl ?_
      rw [q] at kt
      exact kt
  obtain ⟨mi, hmi⟩ : ∃ z : Int64, z = if (p5 &&& (2 : Int32)) = (0 : Int32) then (p3 &&& (2305843009213693951 : Int64)) else 0 := ⟨_, rfl⟩
  have fl16 : ∀ target, Steps p.tables e below (s₁.setTop (mkF m 40 #[.val (.long p1), .second, .val (.long p2), .second, .val (.long p3), .second, .val (.long p4), .second, .val (.int p5), .val (.long (2305843009213693951 : Int64)), .second, .val (.long d), .second, .val (.long mi), .second, .unset, .unset, .unset, .unset, .unset, .unset] [])) target → Steps p.tables e below (s₁.setTop (mkF m 22 #[.val (.long p1), .second, .val (.long p2), .second, .val (.long p3), .second, .val (.long p4), .second, .val (.int p5), .val (.long (2305843009213693951 : Int64)), .second, .val (.long d), .second, .unset, .unset, .unset, .unset, .unset, .unset, .unset, .unset] [])) target := by
    intro target kt
    by_cases hc : (p5 &&& (2 : Int32)) = (0 : Int32)
    · have q : mi = (p3 &&& (2305843009213693951 : Int64)) := by rw [hmi]; exact if_pos hc
      show Steps p.tables e below (s₁.setTop (mkF m 22 #[.val (.long p1), .second, .val (.long p2), .second, .val (.long p3), .second, .val (.long p4), .second, .val (.int p5), .val (.long (2305843009213693951 : Int64)), .second, .val (.long d), .second, .unset, .unset, .unset, .unset, .unset, .unset, .unset, .unset] [])) _
      refine XS.iload X0.here hx rfl (hb hby at_22) rfl ?_
      show Steps p.tables e below (s₁.setTop (mkF m 24 #[.val (.long p1), .second, .val (.long p2), .second, .val (.long p3), .second, .val (.long p4), .second, .val (.int p5), .val (.long (2305843009213693951 : Int64)), .second, .val (.long d), .second, .unset, .unset, .unset, .unset, .unset, .unset, .unset, .unset] [(.int p5)])) _
      refine XS.iconst X0.here hx rfl (hb hby at_24) ?_
      show Steps p.tables e below (s₁.setTop (mkF m 25 #[.val (.long p1), .second, .val (.long p2), .second, .val (.long p3), .second, .val (.long p4), .second, .val (.int p5), .val (.long (2305843009213693951 : Int64)), .second, .val (.long d), .second, .unset, .unset, .unset, .unset, .unset, .unset, .unset, .unset] [(.int (2 : Int32)), (.int p5)])) _
      refine XS.iand X0.here hx rfl (hb hby at_25) rfl ?_
      show Steps p.tables e below (s₁.setTop (mkF m 26 #[.val (.long p1), .second, .val (.long p2), .second, .val (.long p3), .second, .val (.long p4), .second, .val (.int p5), .val (.long (2305843009213693951 : Int64)), .second, .val (.long d), .second, .unset, .unset, .unset, .unset, .unset, .unset, .unset, .unset] [(.int (p5 &&& (2 : Int32)))])) _
      refine XS.ifYes X0.here hx rfl (pc0 := 26) (pc' := 33) rfl (hb hby at_26) rfl ((if0 _ _).trans (teq (hc : (p5 &&& (2 : Int32)) = (0 : Int32))).1) (by decide) (by decide) ?_
      show Steps p.tables e below (s₁.setTop (mkF m 33 #[.val (.long p1), .second, .val (.long p2), .second, .val (.long p3), .second, .val (.long p4), .second, .val (.int p5), .val (.long (2305843009213693951 : Int64)), .second, .val (.long d), .second, .unset, .unset, .unset, .unset, .unset, .unset, .unset, .unset] [])) _
      refine XS.lload X0.here hx rfl (hb hby at_33) rfl ?_
      show Steps p.tables e below (s₁.setTop (mkF m 35 #[.val (.long p1), .second, .val (.long p2), .second, .val (.long p3), .second, .val (.long p4), .second, .val (.int p5), .val (.long (2305843009213693951 : Int64)), .second, .val (.long d), .second, .unset, .unset, .unset, .unset, .unset, .unset, .unset, .unset] [(.long p3)])) _
      refine XS.lload X0.here hx rfl (hb hby at_35) rfl ?_
      show Steps p.tables e below (s₁.setTop (mkF m 37 #[.val (.long p1), .second, .val (.long p2), .second, .val (.long p3), .second, .val (.long p4), .second, .val (.int p5), .val (.long (2305843009213693951 : Int64)), .second, .val (.long d), .second, .unset, .unset, .unset, .unset, .unset, .unset, .unset, .unset] [(.long (2305843009213693951 : Int64)), (.long p3)])) _
      refine XS.land X0.here hx rfl (hb hby at_37) rfl ?_
      show Steps p.tables e below (s₁.setTop (mkF m 38 #[.val (.long p1), .second, .val (.long p2), .second, .val (.long p3), .second, .val (.long p4), .second, .val (.int p5), .val (.long (2305843009213693951 : Int64)), .second, .val (.long d), .second, .unset, .unset, .unset, .unset, .unset, .unset, .unset, .unset] [(.long (p3 &&& (2305843009213693951 : Int64)))])) _
      refine XS.lstore X0.here hx rfl (hb hby at_38) rfl (l' := #[.val (.long p1), .second, .val (.long p2), .second, .val (.long p3), .second, .val (.long p4), .second, .val (.int p5), .val (.long (2305843009213693951 : Int64)), .second, .val (.long d), .second, .val (.long (p3 &&& (2305843009213693951 : Int64))), .second, .unset, .unset, .unset, .unset, .unset, .unset]) rfl ?_
      rw [q] at kt
      exact kt
    · have q : mi = 0 := by rw [hmi]; exact if_neg hc
      show Steps p.tables e below (s₁.setTop (mkF m 22 #[.val (.long p1), .second, .val (.long p2), .second, .val (.long p3), .second, .val (.long p4), .second, .val (.int p5), .val (.long (2305843009213693951 : Int64)), .second, .val (.long d), .second, .unset, .unset, .unset, .unset, .unset, .unset, .unset, .unset] [])) _
      refine XS.iload X0.here hx rfl (hb hby at_22) rfl ?_
      show Steps p.tables e below (s₁.setTop (mkF m 24 #[.val (.long p1), .second, .val (.long p2), .second, .val (.long p3), .second, .val (.long p4), .second, .val (.int p5), .val (.long (2305843009213693951 : Int64)), .second, .val (.long d), .second, .unset, .unset, .unset, .unset, .unset, .unset, .unset, .unset] [(.int p5)])) _
      refine XS.iconst X0.here hx rfl (hb hby at_24) ?_
      show Steps p.tables e below (s₁.setTop (mkF m 25 #[.val (.long p1), .second, .val (.long p2), .second, .val (.long p3), .second, .val (.long p4), .second, .val (.int p5), .val (.long (2305843009213693951 : Int64)), .second, .val (.long d), .second, .unset, .unset, .unset, .unset, .unset, .unset, .unset, .unset] [(.int (2 : Int32)), (.int p5)])) _
      refine XS.iand X0.here hx rfl (hb hby at_25) rfl ?_
      show Steps p.tables e below (s₁.setTop (mkF m 26 #[.val (.long p1), .second, .val (.long p2), .second, .val (.long p3), .second, .val (.long p4), .second, .val (.int p5), .val (.long (2305843009213693951 : Int64)), .second, .val (.long d), .second, .unset, .unset, .unset, .unset, .unset, .unset, .unset, .unset] [(.int (p5 &&& (2 : Int32)))])) _
      refine XS.ifNo X0.here hx rfl (hb hby at_26) rfl ((if0 _ _).trans (feq (hc : ¬ ((p5 &&& (2 : Int32)) = (0 : Int32)))).1) ?_
      show Steps p.tables e below (s₁.setTop (mkF m 29 #[.val (.long p1), .second, .val (.long p2), .second, .val (.long p3), .second, .val (.long p4), .second, .val (.int p5), .val (.long (2305843009213693951 : Int64)), .second, .val (.long d), .second, .unset, .unset, .unset, .unset, .unset, .unset, .unset, .unset] [])) _
      refine XS.lconst X0.here hx rfl (hb hby at_29) ?_
      show Steps p.tables e below (s₁.setTop (mkF m 30 #[.val (.long p1), .second, .val (.long p2), .second, .val (.long p3), .second, .val (.long p4), .second, .val (.int p5), .val (.long (2305843009213693951 : Int64)), .second, .val (.long d), .second, .unset, .unset, .unset, .unset, .unset, .unset, .unset, .unset] [(.long (0 : Int64))])) _
      refine XS.goto X0.here hx rfl (pc0 := 30) (pc' := 38) rfl (hb hby at_30) (by decide) (by decide) ?_
      show Steps p.tables e below (s₁.setTop (mkF m 38 #[.val (.long p1), .second, .val (.long p2), .second, .val (.long p3), .second, .val (.long p4), .second, .val (.int p5), .val (.long (2305843009213693951 : Int64)), .second, .val (.long d), .second, .unset, .unset, .unset, .unset, .unset, .unset, .unset, .unset] [(.long (0 : Int64))])) _
      refine XS.lstore X0.here hx rfl (hb hby at_38) rfl (l' := #[.val (.long p1), .second, .val (.long p2), .second, .val (.long p3), .second, .val (.long p4), .second, .val (.int p5), .val (.long (2305843009213693951 : Int64)), .second, .val (.long d), .second, .val (.long (0 : Int64)), .second, .unset, .unset, .unset, .unset, .unset, .unset]) rfl ?_
      rw [q] at kt
      exact kt
  obtain ⟨ee, hee⟩ : ∃ z : Int64, z = if (p5 &&& (4 : Int32)) = (0 : Int32) then (p4 &&& (2305843009213693951 : Int64)) else 0 := ⟨_, rfl⟩
  have fl17 : ∀ target, Steps p.tables e below (s₁.setTop (mkF m 58 #[.val (.long p1), .second, .val (.long p2), .second, .val (.long p3), .second, .val (.long p4), .second, .val (.int p5), .val (.long (2305843009213693951 : Int64)), .second, .val (.long d), .second, .val (.long mi), .second, .val (.long ee), .second, .unset, .unset, .unset, .unset] [])) target → Steps p.tables e below (s₁.setTop (mkF m 40 #[.val (.long p1), .second, .val (.long p2), .second, .val (.long p3), .second, .val (.long p4), .second, .val (.int p5), .val (.long (2305843009213693951 : Int64)), .second, .val (.long d), .second, .val (.long mi), .second, .unset, .unset, .unset, .unset, .unset, .unset] [])) target := by
    intro target kt
    by_cases hc : (p5 &&& (4 : Int32)) = (0 : Int32)
    · have q : ee = (p4 &&& (2305843009213693951 : Int64)) := by rw [hee]; exact if_pos hc
      show Steps p.tables e below (s₁.setTop (mkF m 40 #[.val (.long p1), .second, .val (.long p2), .second, .val (.long p3), .second, .val (.long p4), .second, .val (.int p5), .val (.long (2305843009213693951 : Int64)), .second, .val (.long d), .second, .val (.long mi), .second, .unset, .unset, .unset, .unset, .unset, .unset] [])) _
      refine XS.iload X0.here hx rfl (hb hby at_40) rfl ?_
      show Steps p.tables e below (s₁.setTop (mkF m 42 #[.val (.long p1), .second, .val (.long p2), .second, .val (.long p3), .second, .val (.long p4), .second, .val (.int p5), .val (.long (2305843009213693951 : Int64)), .second, .val (.long d), .second, .val (.long mi), .second, .unset, .unset, .unset, .unset, .unset, .unset] [(.int p5)])) _
      refine XS.iconst X0.here hx rfl (hb hby at_42) ?_
      show Steps p.tables e below (s₁.setTop (mkF m 43 #[.val (.long p1), .second, .val (.long p2), .second, .val (.long p3), .second, .val (.long p4), .second, .val (.int p5), .val (.long (2305843009213693951 : Int64)), .second, .val (.long d), .second, .val (.long mi), .second, .unset, .unset, .unset, .unset, .unset, .unset] [(.int (4 : Int32)), (.int p5)])) _
      refine XS.iand X0.here hx rfl (hb hby at_43) rfl ?_
      show Steps p.tables e below (s₁.setTop (mkF m 44 #[.val (.long p1), .second, .val (.long p2), .second, .val (.long p3), .second, .val (.long p4), .second, .val (.int p5), .val (.long (2305843009213693951 : Int64)), .second, .val (.long d), .second, .val (.long mi), .second, .unset, .unset, .unset, .unset, .unset, .unset] [(.int (p5 &&& (4 : Int32)))])) _
      refine XS.ifYes X0.here hx rfl (pc0 := 44) (pc' := 51) rfl (hb hby at_44) rfl ((if0 _ _).trans (teq (hc : (p5 &&& (4 : Int32)) = (0 : Int32))).1) (by decide) (by decide) ?_
      show Steps p.tables e below (s₁.setTop (mkF m 51 #[.val (.long p1), .second, .val (.long p2), .second, .val (.long p3), .second, .val (.long p4), .second, .val (.int p5), .val (.long (2305843009213693951 : Int64)), .second, .val (.long d), .second, .val (.long mi), .second, .unset, .unset, .unset, .unset, .unset, .unset] [])) _
      refine XS.lload X0.here hx rfl (hb hby at_51) rfl ?_
      show Steps p.tables e below (s₁.setTop (mkF m 53 #[.val (.long p1), .second, .val (.long p2), .second, .val (.long p3), .second, .val (.long p4), .second, .val (.int p5), .val (.long (2305843009213693951 : Int64)), .second, .val (.long d), .second, .val (.long mi), .second, .unset, .unset, .unset, .unset, .unset, .unset] [(.long p4)])) _
      refine XS.lload X0.here hx rfl (hb hby at_53) rfl ?_
      show Steps p.tables e below (s₁.setTop (mkF m 55 #[.val (.long p1), .second, .val (.long p2), .second, .val (.long p3), .second, .val (.long p4), .second, .val (.int p5), .val (.long (2305843009213693951 : Int64)), .second, .val (.long d), .second, .val (.long mi), .second, .unset, .unset, .unset, .unset, .unset, .unset] [(.long (2305843009213693951 : Int64)), (.long p4)])) _
      refine XS.land X0.here hx rfl (hb hby at_55) rfl ?_
      show Steps p.tables e below (s₁.setTop (mkF m 56 #[.val (.long p1), .second, .val (.long p2), .second, .val (.long p3), .second, .val (.long p4), .second, .val (.int p5), .val (.long (2305843009213693951 : Int64)), .second, .val (.long d), .second, .val (.long mi), .second, .unset, .unset, .unset, .unset, .unset, .unset] [(.long (p4 &&& (2305843009213693951 : Int64)))])) _
      refine XS.lstore X0.here hx rfl (hb hby at_56) rfl (l' := #[.val (.long p1), .second, .val (.long p2), .second, .val (.long p3), .second, .val (.long p4), .second, .val (.int p5), .val (.long (2305843009213693951 : Int64)), .second, .val (.long d), .second, .val (.long mi), .second, .val (.long (p4 &&& (2305843009213693951 : Int64))), .second, .unset, .unset, .unset, .unset]) rfl ?_
      rw [q] at kt
      exact kt
    · have q : ee = 0 := by rw [hee]; exact if_neg hc
      show Steps p.tables e below (s₁.setTop (mkF m 40 #[.val (.long p1), .second, .val (.long p2), .second, .val (.long p3), .second, .val (.long p4), .second, .val (.int p5), .val (.long (2305843009213693951 : Int64)), .second, .val (.long d), .second, .val (.long mi), .second, .unset, .unset, .unset, .unset, .unset, .unset] [])) _
      refine XS.iload X0.here hx rfl (hb hby at_40) rfl ?_
      show Steps p.tables e below (s₁.setTop (mkF m 42 #[.val (.long p1), .second, .val (.long p2), .second, .val (.long p3), .second, .val (.long p4), .second, .val (.int p5), .val (.long (2305843009213693951 : Int64)), .second, .val (.long d), .second, .val (.long mi), .second, .unset, .unset, .unset, .unset, .unset, .unset] [(.int p5)])) _
      refine XS.iconst X0.here hx rfl (hb hby at_42) ?_
      show Steps p.tables e below (s₁.setTop (mkF m 43 #[.val (.long p1), .second, .val (.long p2), .second, .val (.long p3), .second, .val (.long p4), .second, .val (.int p5), .val (.long (2305843009213693951 : Int64)), .second, .val (.long d), .second, .val (.long mi), .second, .unset, .unset, .unset, .unset, .unset, .unset] [(.int (4 : Int32)), (.int p5)])) _
      refine XS.iand X0.here hx rfl (hb hby at_43) rfl ?_
      show Steps p.tables e below (s₁.setTop (mkF m 44 #[.val (.long p1), .second, .val (.long p2), .second, .val (.long p3), .second, .val (.long p4), .second, .val (.int p5), .val (.long (2305843009213693951 : Int64)), .second, .val (.long d), .second, .val (.long mi), .second, .unset, .unset, .unset, .unset, .unset, .unset] [(.int (p5 &&& (4 : Int32)))])) _
      refine XS.ifNo X0.here hx rfl (hb hby at_44) rfl ((if0 _ _).trans (feq (hc : ¬ ((p5 &&& (4 : Int32)) = (0 : Int32)))).1) ?_
      show Steps p.tables e below (s₁.setTop (mkF m 47 #[.val (.long p1), .second, .val (.long p2), .second, .val (.long p3), .second, .val (.long p4), .second, .val (.int p5), .val (.long (2305843009213693951 : Int64)), .second, .val (.long d), .second, .val (.long mi), .second, .unset, .unset, .unset, .unset, .unset, .unset] [])) _
      refine XS.lconst X0.here hx rfl (hb hby at_47) ?_
      show Steps p.tables e below (s₁.setTop (mkF m 48 #[.val (.long p1), .second, .val (.long p2), .second, .val (.long p3), .second, .val (.long p4), .second, .val (.int p5), .val (.long (2305843009213693951 : Int64)), .second, .val (.long d), .second, .val (.long mi), .second, .unset, .unset, .unset, .unset, .unset, .unset] [(.long (0 : Int64))])) _
      refine XS.goto X0.here hx rfl (pc0 := 48) (pc' := 56) rfl (hb hby at_48) (by decide) (by decide) ?_
      show Steps p.tables e below (s₁.setTop (mkF m 56 #[.val (.long p1), .second, .val (.long p2), .second, .val (.long p3), .second, .val (.long p4), .second, .val (.int p5), .val (.long (2305843009213693951 : Int64)), .second, .val (.long d), .second, .val (.long mi), .second, .unset, .unset, .unset, .unset, .unset, .unset] [(.long (0 : Int64))])) _
      refine XS.lstore X0.here hx rfl (hb hby at_56) rfl (l' := #[.val (.long p1), .second, .val (.long p2), .second, .val (.long p3), .second, .val (.long p4), .second, .val (.int p5), .val (.long (2305843009213693951 : Int64)), .second, .val (.long d), .second, .val (.long mi), .second, .val (.long (0 : Int64)), .second, .unset, .unset, .unset, .unset]) rfl ?_
      rw [q] at kt
      exact kt
  obtain ⟨cc, hcc⟩ : ∃ z : Int64, z = if (p5 &&& (8 : Int32)) = (0 : Int32) then p1 else 0 := ⟨_, rfl⟩
  have fl18 : ∀ target, Steps p.tables e below (s₁.setTop (mkF m 73 #[.val (.long p1), .second, .val (.long p2), .second, .val (.long p3), .second, .val (.long p4), .second, .val (.int p5), .val (.long (2305843009213693951 : Int64)), .second, .val (.long d), .second, .val (.long mi), .second, .val (.long ee), .second, .val (.long cc), .second, .unset, .unset] [])) target → Steps p.tables e below (s₁.setTop (mkF m 58 #[.val (.long p1), .second, .val (.long p2), .second, .val (.long p3), .second, .val (.long p4), .second, .val (.int p5), .val (.long (2305843009213693951 : Int64)), .second, .val (.long d), .second, .val (.long mi), .second, .val (.long ee), .second, .unset, .unset, .unset, .unset] [])) target := by
    intro target kt
    by_cases hc : (p5 &&& (8 : Int32)) = (0 : Int32)
    · have q : cc = p1 := by rw [hcc]; exact if_pos hc
      show Steps p.tables e below (s₁.setTop (mkF m 58 #[.val (.long p1), .second, .val (.long p2), .second, .val (.long p3), .second, .val (.long p4), .second, .val (.int p5), .val (.long (2305843009213693951 : Int64)), .second, .val (.long d), .second, .val (.long mi), .second, .val (.long ee), .second, .unset, .unset, .unset, .unset] [])) _
      refine XS.iload X0.here hx rfl (hb hby at_58) rfl ?_
      show Steps p.tables e below (s₁.setTop (mkF m 60 #[.val (.long p1), .second, .val (.long p2), .second, .val (.long p3), .second, .val (.long p4), .second, .val (.int p5), .val (.long (2305843009213693951 : Int64)), .second, .val (.long d), .second, .val (.long mi), .second, .val (.long ee), .second, .unset, .unset, .unset, .unset] [(.int p5)])) _
      refine XS.bipush X0.here hx rfl (hb hby at_60) ?_
      show Steps p.tables e below (s₁.setTop (mkF m 62 #[.val (.long p1), .second, .val (.long p2), .second, .val (.long p3), .second, .val (.long p4), .second, .val (.int p5), .val (.long (2305843009213693951 : Int64)), .second, .val (.long d), .second, .val (.long mi), .second, .val (.long ee), .second, .unset, .unset, .unset, .unset] [(.int (8 : Int32)), (.int p5)])) _
      refine XS.iand X0.here hx rfl (hb hby at_62) rfl ?_
      show Steps p.tables e below (s₁.setTop (mkF m 63 #[.val (.long p1), .second, .val (.long p2), .second, .val (.long p3), .second, .val (.long p4), .second, .val (.int p5), .val (.long (2305843009213693951 : Int64)), .second, .val (.long d), .second, .val (.long mi), .second, .val (.long ee), .second, .unset, .unset, .unset, .unset] [(.int (p5 &&& (8 : Int32)))])) _
      refine XS.ifYes X0.here hx rfl (pc0 := 63) (pc' := 70) rfl (hb hby at_63) rfl ((if0 _ _).trans (teq (hc : (p5 &&& (8 : Int32)) = (0 : Int32))).1) (by decide) (by decide) ?_
      show Steps p.tables e below (s₁.setTop (mkF m 70 #[.val (.long p1), .second, .val (.long p2), .second, .val (.long p3), .second, .val (.long p4), .second, .val (.int p5), .val (.long (2305843009213693951 : Int64)), .second, .val (.long d), .second, .val (.long mi), .second, .val (.long ee), .second, .unset, .unset, .unset, .unset] [])) _
      refine XS.lloadN X0.here hx rfl (hb hby at_70) rfl ?_
      show Steps p.tables e below (s₁.setTop (mkF m 71 #[.val (.long p1), .second, .val (.long p2), .second, .val (.long p3), .second, .val (.long p4), .second, .val (.int p5), .val (.long (2305843009213693951 : Int64)), .second, .val (.long d), .second, .val (.long mi), .second, .val (.long ee), .second, .unset, .unset, .unset, .unset] [(.long p1)])) _
      refine XS.lstore X0.here hx rfl (hb hby at_71) rfl (l' := #[.val (.long p1), .second, .val (.long p2), .second, .val (.long p3), .second, .val (.long p4), .second, .val (.int p5), .val (.long (2305843009213693951 : Int64)), .second, .val (.long d), .second, .val (.long mi), .second, .val (.long ee), .second, .val (.long p1), .second, .unset, .unset]) rfl ?_
      rw [q] at kt
      exact kt
    · have q : cc = 0 := by rw [hcc]; exact if_neg hc
      show Steps p.tables e below (s₁.setTop (mkF m 58 #[.val (.long p1), .second, .val (.long p2), .second, .val (.long p3), .second, .val (.long p4), .second, .val (.int p5), .val (.long (2305843009213693951 : Int64)), .second, .val (.long d), .second, .val (.long mi), .second, .val (.long ee), .second, .unset, .unset, .unset, .unset] [])) _
      refine XS.iload X0.here hx rfl (hb hby at_58) rfl ?_
      show Steps p.tables e below (s₁.setTop (mkF m 60 #[.val (.long p1), .second, .val (.long p2), .second, .val (.long p3), .second, .val (.long p4), .second, .val (.int p5), .val (.long (2305843009213693951 : Int64)), .second, .val (.long d), .second, .val (.long mi), .second, .val (.long ee), .second, .unset, .unset, .unset, .unset] [(.int p5)])) _
      refine XS.bipush X0.here hx rfl (hb hby at_60) ?_
      show Steps p.tables e below (s₁.setTop (mkF m 62 #[.val (.long p1), .second, .val (.long p2), .second, .val (.long p3), .second, .val (.long p4), .second, .val (.int p5), .val (.long (2305843009213693951 : Int64)), .second, .val (.long d), .second, .val (.long mi), .second, .val (.long ee), .second, .unset, .unset, .unset, .unset] [(.int (8 : Int32)), (.int p5)])) _
      refine XS.iand X0.here hx rfl (hb hby at_62) rfl ?_
      show Steps p.tables e below (s₁.setTop (mkF m 63 #[.val (.long p1), .second, .val (.long p2), .second, .val (.long p3), .second, .val (.long p4), .second, .val (.int p5), .val (.long (2305843009213693951 : Int64)), .second, .val (.long d), .second, .val (.long mi), .second, .val (.long ee), .second, .unset, .unset, .unset, .unset] [(.int (p5 &&& (8 : Int32)))])) _
      refine XS.ifNo X0.here hx rfl (hb hby at_63) rfl ((if0 _ _).trans (feq (hc : ¬ ((p5 &&& (8 : Int32)) = (0 : Int32)))).1) ?_
      show Steps p.tables e below (s₁.setTop (mkF m 66 #[.val (.long p1), .second, .val (.long p2), .second, .val (.long p3), .second, .val (.long p4), .second, .val (.int p5), .val (.long (2305843009213693951 : Int64)), .second, .val (.long d), .second, .val (.long mi), .second, .val (.long ee), .second, .unset, .unset, .unset, .unset] [])) _
      refine XS.lconst X0.here hx rfl (hb hby at_66) ?_
      show Steps p.tables e below (s₁.setTop (mkF m 67 #[.val (.long p1), .second, .val (.long p2), .second, .val (.long p3), .second, .val (.long p4), .second, .val (.int p5), .val (.long (2305843009213693951 : Int64)), .second, .val (.long d), .second, .val (.long mi), .second, .val (.long ee), .second, .unset, .unset, .unset, .unset] [(.long (0 : Int64))])) _
      refine XS.goto X0.here hx rfl (pc0 := 67) (pc' := 71) rfl (hb hby at_67) (by decide) (by decide) ?_
      show Steps p.tables e below (s₁.setTop (mkF m 71 #[.val (.long p1), .second, .val (.long p2), .second, .val (.long p3), .second, .val (.long p4), .second, .val (.int p5), .val (.long (2305843009213693951 : Int64)), .second, .val (.long d), .second, .val (.long mi), .second, .val (.long ee), .second, .unset, .unset, .unset, .unset] [(.long (0 : Int64))])) _
      refine XS.lstore X0.here hx rfl (hb hby at_71) rfl (l' := #[.val (.long p1), .second, .val (.long p2), .second, .val (.long p3), .second, .val (.long p4), .second, .val (.int p5), .val (.long (2305843009213693951 : Int64)), .second, .val (.long d), .second, .val (.long mi), .second, .val (.long ee), .second, .val (.long (0 : Int64)), .second, .unset, .unset]) rfl ?_
      rw [q] at kt
      exact kt
  have bd := own_if _ _ _ _ hd
  have bm := own_if _ _ _ _ hmi
  have be := own_if _ _ _ _ hee
  obtain ⟨T19, h19, X19, e19, E19, A19, D19, -, st19⟩ := newO X0 hx hZ hown (hw _ (List.mem_of_getElem? (i := 1) rfl)) (hw _ (List.mem_of_getElem? (i := 2) rfl)) (hw _ (List.mem_of_getElem? (i := 3) rfl)) e0 (g := (mkF m 73 #[.val (.long p1), .second, .val (.long p2), .second, .val (.long p3), .second, .val (.long p4), .second, .val (.int p5), .val (.long (2305843009213693951 : Int64)), .second, .val (.long d), .second, .val (.long mi), .second, .val (.long ee), .second, .val (.long cc), .second, .unset, .unset] [])) rfl (hb hby at_73) (by decide) (by decide)
  obtain ⟨b19, g19⟩ : ∃ z, z = h0.size := ⟨_, rfl⟩
  rw [← g19] at A19 D19 st19
  have g_b19 : n0 ≤ b19 := Nat.le_trans Z0 (Nat.le_of_eq g19.symm)
  have sz_b19 : h0.size ≤ b19 := Nat.le_trans (Keep.refl h0 []).1 (Nat.le_of_eq g19.symm)
  have F19_compared : Fld Z h19 b19 "com/example/recoup/recoup/Comparison$Counts" "compared" "J" (.long (0 : Int64)) := D19 (Or.inr (hw _ (List.mem_of_getElem? (i := 16) rfl))) (ty := .long) (by decide)
  have F19_differ : Fld Z h19 b19 "com/example/recoup/recoup/Comparison$Counts" "differ" "J" (.long (0 : Int64)) := D19 (Or.inr (hw _ (List.mem_of_getElem? (i := 18) rfl))) (ty := .long) (by decide)
  have F19_missing : Fld Z h19 b19 "com/example/recoup/recoup/Comparison$Counts" "missing" "J" (.long (0 : Int64)) := D19 (Or.inr (hw _ (List.mem_of_getElem? (i := 20) rfl))) (ty := .long) (by decide)
  have F19_extra : Fld Z h19 b19 "com/example/recoup/recoup/Comparison$Counts" "extra" "J" (.long (0 : Int64)) := D19 (Or.inr (hw _ (List.mem_of_getElem? (i := 22) rfl))) (ty := .long) (by decide)
  have K19 : Keep h0 h19 [] := (Keep.refl h0 []).ext E19
  have z19 : n0 ≤ h19.size := Nat.le_trans Z0 E19.1
  obtain ⟨_, _, ⟨T20, L20, k20, n20⟩, -, X20, ⟨Lc20, hQ20, l20, y20, z20⟩, st20⟩ := X19.specialBack hx (y := (⟨"com/example/recoup/recoup/Comparison$Counts", "<init>", "(JJJJ)V"⟩ : MethodName)) rfl hown (mvT hZ (hw _ (List.mem_of_getElem? (i := 4) rfl))) (mvT hZ (hw _ (List.mem_of_getElem? (i := 5) rfl))) (mvT hZ (hw _ (List.mem_of_getElem? (i := 6) rfl))) (by decide) (backOf (W := 1) (rm1 l Z a0 hw [] b19 cc d mi ee 0 0 0 0 h19 n0 z19 A19 F19_compared F19_differ F19_missing F19_extra g_b19) hZ (hw _ (List.mem_of_getElem? (i := 6) rfl)) (hw _ (List.mem_of_getElem? (i := 3) rfl)) (by decide) (by decide)) (g := (mkF m 85 #[.val (.long p1), .second, .val (.long p2), .second, .val (.long p3), .second, .val (.long p4), .second, .val (.int p5), .val (.long (2305843009213693951 : Int64)), .second, .val (.long d), .second, .val (.long mi), .second, .val (.long ee), .second, .val (.long cc), .second, .unset, .unset] [(.long ee), (.long mi), (.long d), (.long cc), (.ref b19), (.ref b19)])) rfl (by rw [hml]; rfl) (Steps.refl _) (a := b19) (argsL := [(.long cc), (.long d), (.long mi), (.long ee)]) (rest := [(.ref b19)]) (lenOf pd_1 rfl) rfl (by show 2 * 0 + _ ≤ _; exact Nat.le_of_eq rfl) (hb hby at_85) (fun _ _ => ⟨rfl, e19, (by decide : 1 + 0 ≤ _), (by decide : 4 + 0 ≤ _)⟩)
  dsimp only [Pt.U, Pt.locs, Pt.cells, Pt.slots] at X20 l20 y20 z20 st20 hQ20
  subst l20 y20 z20
  obtain ⟨rfl, N20q, Kc20, O20⟩ := hQ20
  have N20 := Fr.app N0 N20q
  have A19_20 := A19.keep Kc20
  have K20 : Keep h0 T20.heap [] := K19.trans Kc20 (allS (Or.inr sz_b19) (all0))
  have z20z : n0 ≤ T20.heap.size := Nat.le_trans z19 Kc20.1
  have fl21 : ∀ target, Steps p.tables e below (T20.setTop (mkF m 90 #[.val (.long p1), .second, .val (.long p2), .second, .val (.long p3), .second, .val (.long p4), .second, .val (.int p5), .val (.long (2305843009213693951 : Int64)), .second, .val (.long d), .second, .val (.long mi), .second, .val (.long ee), .second, .val (.long cc), .second, .val (.ref b19), .unset] [])) target → Steps p.tables e below (s₁.setTop (mkF m 73 #[.val (.long p1), .second, .val (.long p2), .second, .val (.long p3), .second, .val (.long p4), .second, .val (.int p5), .val (.long (2305843009213693951 : Int64)), .second, .val (.long d), .second, .val (.long mi), .second, .val (.long ee), .second, .val (.long cc), .second, .unset, .unset] [])) target := fun target kt => by
    show Steps p.tables e below (s₁.setTop (mkF m 73 #[.val (.long p1), .second, .val (.long p2), .second, .val (.long p3), .second, .val (.long p4), .second, .val (.int p5), .val (.long (2305843009213693951 : Int64)), .second, .val (.long d), .second, .val (.long mi), .second, .val (.long ee), .second, .val (.long cc), .second, .unset, .unset] [])) _
    refine st19 _ ?_
    show Steps p.tables e below (T19.setTop (mkF m 76 #[.val (.long p1), .second, .val (.long p2), .second, .val (.long p3), .second, .val (.long p4), .second, .val (.int p5), .val (.long (2305843009213693951 : Int64)), .second, .val (.long d), .second, .val (.long mi), .second, .val (.long ee), .second, .val (.long cc), .second, .unset, .unset] [(.ref b19)])) _
    refine XS.dup X19.here hx rfl (hb hby at_76) rfl rfl ?_
    show Steps p.tables e below (T19.setTop (mkF m 77 #[.val (.long p1), .second, .val (.long p2), .second, .val (.long p3), .second, .val (.long p4), .second, .val (.int p5), .val (.long (2305843009213693951 : Int64)), .second, .val (.long d), .second, .val (.long mi), .second, .val (.long ee), .second, .val (.long cc), .second, .unset, .unset] [(.ref b19), (.ref b19)])) _
    refine XS.lload X19.here hx rfl (hb hby at_77) rfl ?_
    show Steps p.tables e below (T19.setTop (mkF m 79 #[.val (.long p1), .second, .val (.long p2), .second, .val (.long p3), .second, .val (.long p4), .second, .val (.int p5), .val (.long (2305843009213693951 : Int64)), .second, .val (.long d), .second, .val (.long mi), .second, .val (.long ee), .second, .val (.long cc), .second, .unset, .unset] [(.long cc), (.ref b19), (.ref b19)])) _
    refine XS.lload X19.here hx rfl (hb hby at_79) rfl ?_
    show Steps p.tables e below (T19.setTop (mkF m 81 #[.val (.long p1), .second, .val (.long p2), .second, .val (.long p3), .second, .val (.long p4), .second, .val (.int p5), .val (.long (2305843009213693951 : Int64)), .second, .val (.long d), .second, .val (.long mi), .second, .val (.long ee), .second, .val (.long cc), .second, .unset, .unset] [(.long d), (.long cc), (.ref b19), (.ref b19)])) _
    refine XS.lload X19.here hx rfl (hb hby at_81) rfl ?_
    show Steps p.tables e below (T19.setTop (mkF m 83 #[.val (.long p1), .second, .val (.long p2), .second, .val (.long p3), .second, .val (.long p4), .second, .val (.int p5), .val (.long (2305843009213693951 : Int64)), .second, .val (.long d), .second, .val (.long mi), .second, .val (.long ee), .second, .val (.long cc), .second, .unset, .unset] [(.long mi), (.long d), (.long cc), (.ref b19), (.ref b19)])) _
    refine XS.lload X19.here hx rfl (hb hby at_83) rfl ?_
    show Steps p.tables e below (T19.setTop (mkF m 85 #[.val (.long p1), .second, .val (.long p2), .second, .val (.long p3), .second, .val (.long p4), .second, .val (.int p5), .val (.long (2305843009213693951 : Int64)), .second, .val (.long d), .second, .val (.long mi), .second, .val (.long ee), .second, .val (.long cc), .second, .unset, .unset] [(.long ee), (.long mi), (.long d), (.long cc), (.ref b19), (.ref b19)])) _
    refine st20.trans ?_
    show Steps p.tables e below (T20.setTop (mkF m 88 #[.val (.long p1), .second, .val (.long p2), .second, .val (.long p3), .second, .val (.long p4), .second, .val (.int p5), .val (.long (2305843009213693951 : Int64)), .second, .val (.long d), .second, .val (.long mi), .second, .val (.long ee), .second, .val (.long cc), .second, .unset, .unset] [(.ref b19)])) _
    refine XS.astore X20.here hx rfl (hb hby at_88) rfl rfl (l' := #[.val (.long p1), .second, .val (.long p2), .second, .val (.long p3), .second, .val (.long p4), .second, .val (.int p5), .val (.long (2305843009213693951 : Int64)), .second, .val (.long d), .second, .val (.long mi), .second, .val (.long ee), .second, .val (.long cc), .second, .val (.ref b19), .unset]) rfl ?_
    exact kt
  obtain ⟨ex, hex⟩ : ∃ z : Int32, z = if (0 : Int64) < (d + mi) + ee then 1 else 0 := ⟨_, rfl⟩
  have fl22 : ∀ target, Steps p.tables e below (T20.setTop (mkF m 118 #[.val (.long p1), .second, .val (.long p2), .second, .val (.long p3), .second, .val (.long p4), .second, .val (.int p5), .val (.long (2305843009213693951 : Int64)), .second, .val (.long d), .second, .val (.long mi), .second, .val (.long ee), .second, .val (.long cc), .second, .val (.ref b19), .val (.int ex)] [])) target → Steps p.tables e below (T20.setTop (mkF m 90 #[.val (.long p1), .second, .val (.long p2), .second, .val (.long p3), .second, .val (.long p4), .second, .val (.int p5), .val (.long (2305843009213693951 : Int64)), .second, .val (.long d), .second, .val (.long mi), .second, .val (.long ee), .second, .val (.long cc), .second, .val (.ref b19), .unset] [])) target := by
    intro target kt
    rcases own_four d mi ee with h1 | ⟨h1, h2⟩ | ⟨h1, h2, h3⟩ | ⟨h1, h2, h3⟩
    · have q : ex = 1 := by rw [hex]; exact if_pos ((own_pos d mi ee bd bm be).mpr (Or.inl h1))
      show Steps p.tables e below (T20.setTop (mkF m 90 #[.val (.long p1), .second, .val (.long p2), .second, .val (.long p3), .second, .val (.long p4), .second, .val (.int p5), .val (.long (2305843009213693951 : Int64)), .second, .val (.long d), .second, .val (.long mi), .second, .val (.long ee), .second, .val (.long cc), .second, .val (.ref b19), .unset] [])) _
      refine XS.lload X20.here hx rfl (hb hby at_90) rfl ?_
      show Steps p.tables e below (T20.setTop (mkF m 92 #[.val (.long p1), .second, .val (.long p2), .second, .val (.long p3), .second, .val (.long p4), .second, .val (.int p5), .val (.long (2305843009213693951 : Int64)), .second, .val (.long d), .second, .val (.long mi), .second, .val (.long ee), .second, .val (.long cc), .second, .val (.ref b19), .unset] [(.long d)])) _
      refine XS.lconst X20.here hx rfl (hb hby at_92) ?_
      show Steps p.tables e below (T20.setTop (mkF m 93 #[.val (.long p1), .second, .val (.long p2), .second, .val (.long p3), .second, .val (.long p4), .second, .val (.int p5), .val (.long (2305843009213693951 : Int64)), .second, .val (.long d), .second, .val (.long mi), .second, .val (.long ee), .second, .val (.long cc), .second, .val (.ref b19), .unset] [(.long (0 : Int64)), (.long d)])) _
      refine XS.lcmp X20.here hx rfl (hb hby at_93) rfl ?_
      show Steps p.tables e below (T20.setTop (mkF m 94 #[.val (.long p1), .second, .val (.long p2), .second, .val (.long p3), .second, .val (.long p4), .second, .val (.int p5), .val (.long (2305843009213693951 : Int64)), .second, .val (.long d), .second, .val (.long mi), .second, .val (.long ee), .second, .val (.long cc), .second, .val (.ref b19), .unset] [(.int (lcmpW d (0 : Int64)))])) _
      refine XS.ifYes X20.here hx rfl (pc0 := 94) (pc' := 111) rfl (hb hby at_94) rfl ((if0 _ _).trans (feq (fun u => h1 ((lw_eq _ _).mp u) : ¬ ((lcmpW d (0 : Int64)) = (0 : Int32)))).2) (by decide) (by decide) ?_
      show Steps p.tables e below (T20.setTop (mkF m 111 #[.val (.long p1), .second, .val (.long p2), .second, .val (.long p3), .second, .val (.long p4), .second, .val (.int p5), .val (.long (2305843009213693951 : Int64)), .second, .val (.long d), .second, .val (.long mi), .second, .val (.long ee), .second, .val (.long cc), .second, .val (.ref b19), .unset] [])) _
      refine XS.iconst X20.here hx rfl (hb hby at_111) ?_
      show Steps p.tables e below (T20.setTop (mkF m 112 #[.val (.long p1), .second, .val (.long p2), .second, .val (.long p3), .second, .val (.long p4), .second, .val (.int p5), .val (.long (2305843009213693951 : Int64)), .second, .val (.long d), .second, .val (.long mi), .second, .val (.long ee), .second, .val (.long cc), .second, .val (.ref b19), .unset] [(.int (1 : Int32))])) _
      refine XS.goto X20.here hx rfl (pc0 := 112) (pc' := 116) rfl (hb hby at_112) (by decide) (by decide) ?_
      show Steps p.tables e below (T20.setTop (mkF m 116 #[.val (.long p1), .second, .val (.long p2), .second, .val (.long p3), .second, .val (.long p4), .second, .val (.int p5), .val (.long (2305843009213693951 : Int64)), .second, .val (.long d), .second, .val (.long mi), .second, .val (.long ee), .second, .val (.long cc), .second, .val (.ref b19), .unset] [(.int (1 : Int32))])) _
      refine XS.istore X20.here hx rfl (hb hby at_116) rfl (l' := #[.val (.long p1), .second, .val (.long p2), .second, .val (.long p3), .second, .val (.long p4), .second, .val (.int p5), .val (.long (2305843009213693951 : Int64)), .second, .val (.long d), .second, .val (.long mi), .second, .val (.long ee), .second, .val (.long cc), .second, .val (.ref b19), .val (.int (1 : Int32))]) rfl ?_
      rw [q] at kt
      exact kt
    · have q : ex = 1 := by rw [hex]; exact if_pos ((own_pos d mi ee bd bm be).mpr (Or.inr (Or.inl h2)))
      show Steps p.tables e below (T20.setTop (mkF m 90 #[.val (.long p1), .second, .val (.long p2), .second, .val (.long p3), .second, .val (.long p4), .second, .val (.int p5), .val (.long (2305843009213693951 : Int64)), .second, .val (.long d), .second, .val (.long mi), .second, .val (.long ee), .second, .val (.long cc), .second, .val (.ref b19), .unset] [])) _
      refine XS.lload X20.here hx rfl (hb hby at_90) rfl ?_
      show Steps p.tables e below (T20.setTop (mkF m 92 #[.val (.long p1), .second, .val (.long p2), .second, .val (.long p3), .second, .val (.long p4), .second, .val (.int p5), .val (.long (2305843009213693951 : Int64)), .second, .val (.long d), .second, .val (.long mi), .second, .val (.long ee), .second, .val (.long cc), .second, .val (.ref b19), .unset] [(.long d)])) _
      refine XS.lconst X20.here hx rfl (hb hby at_92) ?_
      show Steps p.tables e below (T20.setTop (mkF m 93 #[.val (.long p1), .second, .val (.long p2), .second, .val (.long p3), .second, .val (.long p4), .second, .val (.int p5), .val (.long (2305843009213693951 : Int64)), .second, .val (.long d), .second, .val (.long mi), .second, .val (.long ee), .second, .val (.long cc), .second, .val (.ref b19), .unset] [(.long (0 : Int64)), (.long d)])) _
      refine XS.lcmp X20.here hx rfl (hb hby at_93) rfl ?_
      show Steps p.tables e below (T20.setTop (mkF m 94 #[.val (.long p1), .second, .val (.long p2), .second, .val (.long p3), .second, .val (.long p4), .second, .val (.int p5), .val (.long (2305843009213693951 : Int64)), .second, .val (.long d), .second, .val (.long mi), .second, .val (.long ee), .second, .val (.long cc), .second, .val (.ref b19), .unset] [(.int (lcmpW d (0 : Int64)))])) _
      refine XS.ifNo X20.here hx rfl (hb hby at_94) rfl ((if0 _ _).trans (teq ((lw_eq _ _).mpr h1 : (lcmpW d (0 : Int64)) = (0 : Int32))).2) ?_
      show Steps p.tables e below (T20.setTop (mkF m 97 #[.val (.long p1), .second, .val (.long p2), .second, .val (.long p3), .second, .val (.long p4), .second, .val (.int p5), .val (.long (2305843009213693951 : Int64)), .second, .val (.long d), .second, .val (.long mi), .second, .val (.long ee), .second, .val (.long cc), .second, .val (.ref b19), .unset] [])) _
      refine XS.lload X20.here hx rfl (hb hby at_97) rfl ?_
      show Steps p.tables e below (T20.setTop (mkF m 99 #[.val (.long p1), .second, .val (.long p2), .second, .val (.long p3), .second, .val (.long p4), .second, .val (.int p5), .val (.long (2305843009213693951 : Int64)), .second, .val (.long d), .second, .val (.long mi), .second, .val (.long ee), .second, .val (.long cc), .second, .val (.ref b19), .unset] [(.long mi)])) _
      refine XS.lconst X20.here hx rfl (hb hby at_99) ?_
      show Steps p.tables e below (T20.setTop (mkF m 100 #[.val (.long p1), .second, .val (.long p2), .second, .val (.long p3), .second, .val (.long p4), .second, .val (.int p5), .val (.long (2305843009213693951 : Int64)), .second, .val (.long d), .second, .val (.long mi), .second, .val (.long ee), .second, .val (.long cc), .second, .val (.ref b19), .unset] [(.long (0 : Int64)), (.long mi)])) _
      refine XS.lcmp X20.here hx rfl (hb hby at_100) rfl ?_
      show Steps p.tables e below (T20.setTop (mkF m 101 #[.val (.long p1), .second, .val (.long p2), .second, .val (.long p3), .second, .val (.long p4), .second, .val (.int p5), .val (.long (2305843009213693951 : Int64)), .second, .val (.long d), .second, .val (.long mi), .second, .val (.long ee), .second, .val (.long cc), .second, .val (.ref b19), .unset] [(.int (lcmpW mi (0 : Int64)))])) _
      refine XS.ifYes X20.here hx rfl (pc0 := 101) (pc' := 111) rfl (hb hby at_101) rfl ((if0 _ _).trans (feq (fun u => h2 ((lw_eq _ _).mp u) : ¬ ((lcmpW mi (0 : Int64)) = (0 : Int32)))).2) (by decide) (by decide) ?_
      show Steps p.tables e below (T20.setTop (mkF m 111 #[.val (.long p1), .second, .val (.long p2), .second, .val (.long p3), .second, .val (.long p4), .second, .val (.int p5), .val (.long (2305843009213693951 : Int64)), .second, .val (.long d), .second, .val (.long mi), .second, .val (.long ee), .second, .val (.long cc), .second, .val (.ref b19), .unset] [])) _
      refine XS.iconst X20.here hx rfl (hb hby at_111) ?_
      show Steps p.tables e below (T20.setTop (mkF m 112 #[.val (.long p1), .second, .val (.long p2), .second, .val (.long p3), .second, .val (.long p4), .second, .val (.int p5), .val (.long (2305843009213693951 : Int64)), .second, .val (.long d), .second, .val (.long mi), .second, .val (.long ee), .second, .val (.long cc), .second, .val (.ref b19), .unset] [(.int (1 : Int32))])) _
      refine XS.goto X20.here hx rfl (pc0 := 112) (pc' := 116) rfl (hb hby at_112) (by decide) (by decide) ?_
      show Steps p.tables e below (T20.setTop (mkF m 116 #[.val (.long p1), .second, .val (.long p2), .second, .val (.long p3), .second, .val (.long p4), .second, .val (.int p5), .val (.long (2305843009213693951 : Int64)), .second, .val (.long d), .second, .val (.long mi), .second, .val (.long ee), .second, .val (.long cc), .second, .val (.ref b19), .unset] [(.int (1 : Int32))])) _
      refine XS.istore X20.here hx rfl (hb hby at_116) rfl (l' := #[.val (.long p1), .second, .val (.long p2), .second, .val (.long p3), .second, .val (.long p4), .second, .val (.int p5), .val (.long (2305843009213693951 : Int64)), .second, .val (.long d), .second, .val (.long mi), .second, .val (.long ee), .second, .val (.long cc), .second, .val (.ref b19), .val (.int (1 : Int32))]) rfl ?_
      rw [q] at kt
      exact kt
    · have q : ex = 1 := by rw [hex]; exact if_pos ((own_pos d mi ee bd bm be).mpr (Or.inr (Or.inr h3)))
      show Steps p.tables e below (T20.setTop (mkF m 90 #[.val (.long p1), .second, .val (.long p2), .second, .val (.long p3), .second, .val (.long p4), .second, .val (.int p5), .val (.long (2305843009213693951 : Int64)), .second, .val (.long d), .second, .val (.long mi), .second, .val (.long ee), .second, .val (.long cc), .second, .val (.ref b19), .unset] [])) _
      refine XS.lload X20.here hx rfl (hb hby at_90) rfl ?_
      show Steps p.tables e below (T20.setTop (mkF m 92 #[.val (.long p1), .second, .val (.long p2), .second, .val (.long p3), .second, .val (.long p4), .second, .val (.int p5), .val (.long (2305843009213693951 : Int64)), .second, .val (.long d), .second, .val (.long mi), .second, .val (.long ee), .second, .val (.long cc), .second, .val (.ref b19), .unset] [(.long d)])) _
      refine XS.lconst X20.here hx rfl (hb hby at_92) ?_
      show Steps p.tables e below (T20.setTop (mkF m 93 #[.val (.long p1), .second, .val (.long p2), .second, .val (.long p3), .second, .val (.long p4), .second, .val (.int p5), .val (.long (2305843009213693951 : Int64)), .second, .val (.long d), .second, .val (.long mi), .second, .val (.long ee), .second, .val (.long cc), .second, .val (.ref b19), .unset] [(.long (0 : Int64)), (.long d)])) _
      refine XS.lcmp X20.here hx rfl (hb hby at_93) rfl ?_
      show Steps p.tables e below (T20.setTop (mkF m 94 #[.val (.long p1), .second, .val (.long p2), .second, .val (.long p3), .second, .val (.long p4), .second, .val (.int p5), .val (.long (2305843009213693951 : Int64)), .second, .val (.long d), .second, .val (.long mi), .second, .val (.long ee), .second, .val (.long cc), .second, .val (.ref b19), .unset] [(.int (lcmpW d (0 : Int64)))])) _
      refine XS.ifNo X20.here hx rfl (hb hby at_94) rfl ((if0 _ _).trans (teq ((lw_eq _ _).mpr h1 : (lcmpW d (0 : Int64)) = (0 : Int32))).2) ?_
      show Steps p.tables e below (T20.setTop (mkF m 97 #[.val (.long p1), .second, .val (.long p2), .second, .val (.long p3), .second, .val (.long p4), .second, .val (.int p5), .val (.long (2305843009213693951 : Int64)), .second, .val (.long d), .second, .val (.long mi), .second, .val (.long ee), .second, .val (.long cc), .second, .val (.ref b19), .unset] [])) _
      refine XS.lload X20.here hx rfl (hb hby at_97) rfl ?_
      show Steps p.tables e below (T20.setTop (mkF m 99 #[.val (.long p1), .second, .val (.long p2), .second, .val (.long p3), .second, .val (.long p4), .second, .val (.int p5), .val (.long (2305843009213693951 : Int64)), .second, .val (.long d), .second, .val (.long mi), .second, .val (.long ee), .second, .val (.long cc), .second, .val (.ref b19), .unset] [(.long mi)])) _
      refine XS.lconst X20.here hx rfl (hb hby at_99) ?_
      show Steps p.tables e below (T20.setTop (mkF m 100 #[.val (.long p1), .second, .val (.long p2), .second, .val (.long p3), .second, .val (.long p4), .second, .val (.int p5), .val (.long (2305843009213693951 : Int64)), .second, .val (.long d), .second, .val (.long mi), .second, .val (.long ee), .second, .val (.long cc), .second, .val (.ref b19), .unset] [(.long (0 : Int64)), (.long mi)])) _
      refine XS.lcmp X20.here hx rfl (hb hby at_100) rfl ?_
      show Steps p.tables e below (T20.setTop (mkF m 101 #[.val (.long p1), .second, .val (.long p2), .second, .val (.long p3), .second, .val (.long p4), .second, .val (.int p5), .val (.long (2305843009213693951 : Int64)), .second, .val (.long d), .second, .val (.long mi), .second, .val (.long ee), .second, .val (.long cc), .second, .val (.ref b19), .unset] [(.int (lcmpW mi (0 : Int64)))])) _
      refine XS.ifNo X20.here hx rfl (hb hby at_101) rfl ((if0 _ _).trans (teq ((lw_eq _ _).mpr h2 : (lcmpW mi (0 : Int64)) = (0 : Int32))).2) ?_
      show Steps p.tables e below (T20.setTop (mkF m 104 #[.val (.long p1), .second, .val (.long p2), .second, .val (.long p3), .second, .val (.long p4), .second, .val (.int p5), .val (.long (2305843009213693951 : Int64)), .second, .val (.long d), .second, .val (.long mi), .second, .val (.long ee), .second, .val (.long cc), .second, .val (.ref b19), .unset] [])) _
      refine XS.lload X20.here hx rfl (hb hby at_104) rfl ?_
      show Steps p.tables e below (T20.setTop (mkF m 106 #[.val (.long p1), .second, .val (.long p2), .second, .val (.long p3), .second, .val (.long p4), .second, .val (.int p5), .val (.long (2305843009213693951 : Int64)), .second, .val (.long d), .second, .val (.long mi), .second, .val (.long ee), .second, .val (.long cc), .second, .val (.ref b19), .unset] [(.long ee)])) _
      refine XS.lconst X20.here hx rfl (hb hby at_106) ?_
      show Steps p.tables e below (T20.setTop (mkF m 107 #[.val (.long p1), .second, .val (.long p2), .second, .val (.long p3), .second, .val (.long p4), .second, .val (.int p5), .val (.long (2305843009213693951 : Int64)), .second, .val (.long d), .second, .val (.long mi), .second, .val (.long ee), .second, .val (.long cc), .second, .val (.ref b19), .unset] [(.long (0 : Int64)), (.long ee)])) _
      refine XS.lcmp X20.here hx rfl (hb hby at_107) rfl ?_
      show Steps p.tables e below (T20.setTop (mkF m 108 #[.val (.long p1), .second, .val (.long p2), .second, .val (.long p3), .second, .val (.long p4), .second, .val (.int p5), .val (.long (2305843009213693951 : Int64)), .second, .val (.long d), .second, .val (.long mi), .second, .val (.long ee), .second, .val (.long cc), .second, .val (.ref b19), .unset] [(.int (lcmpW ee (0 : Int64)))])) _
      refine XS.ifNo X20.here hx rfl (hb hby at_108) rfl ((if0 _ _).trans (feq (fun u => h3 ((lw_eq _ _).mp u) : ¬ ((lcmpW ee (0 : Int64)) = (0 : Int32)))).1) ?_
      show Steps p.tables e below (T20.setTop (mkF m 111 #[.val (.long p1), .second, .val (.long p2), .second, .val (.long p3), .second, .val (.long p4), .second, .val (.int p5), .val (.long (2305843009213693951 : Int64)), .second, .val (.long d), .second, .val (.long mi), .second, .val (.long ee), .second, .val (.long cc), .second, .val (.ref b19), .unset] [])) _
      refine XS.iconst X20.here hx rfl (hb hby at_111) ?_
      show Steps p.tables e below (T20.setTop (mkF m 112 #[.val (.long p1), .second, .val (.long p2), .second, .val (.long p3), .second, .val (.long p4), .second, .val (.int p5), .val (.long (2305843009213693951 : Int64)), .second, .val (.long d), .second, .val (.long mi), .second, .val (.long ee), .second, .val (.long cc), .second, .val (.ref b19), .unset] [(.int (1 : Int32))])) _
      refine XS.goto X20.here hx rfl (pc0 := 112) (pc' := 116) rfl (hb hby at_112) (by decide) (by decide) ?_
      show Steps p.tables e below (T20.setTop (mkF m 116 #[.val (.long p1), .second, .val (.long p2), .second, .val (.long p3), .second, .val (.long p4), .second, .val (.int p5), .val (.long (2305843009213693951 : Int64)), .second, .val (.long d), .second, .val (.long mi), .second, .val (.long ee), .second, .val (.long cc), .second, .val (.ref b19), .unset] [(.int (1 : Int32))])) _
      refine XS.istore X20.here hx rfl (hb hby at_116) rfl (l' := #[.val (.long p1), .second, .val (.long p2), .second, .val (.long p3), .second, .val (.long p4), .second, .val (.int p5), .val (.long (2305843009213693951 : Int64)), .second, .val (.long d), .second, .val (.long mi), .second, .val (.long ee), .second, .val (.long cc), .second, .val (.ref b19), .val (.int (1 : Int32))]) rfl ?_
      rw [q] at kt
      exact kt
    · have q : ex = 0 := by rw [hex]; exact if_neg (fun u => absurd ((own_pos d mi ee bd bm be).mp u) (by simp [h1, h2, h3]))
      show Steps p.tables e below (T20.setTop (mkF m 90 #[.val (.long p1), .second, .val (.long p2), .second, .val (.long p3), .second, .val (.long p4), .second, .val (.int p5), .val (.long (2305843009213693951 : Int64)), .second, .val (.long d), .second, .val (.long mi), .second, .val (.long ee), .second, .val (.long cc), .second, .val (.ref b19), .unset] [])) _
      refine XS.lload X20.here hx rfl (hb hby at_90) rfl ?_
      show Steps p.tables e below (T20.setTop (mkF m 92 #[.val (.long p1), .second, .val (.long p2), .second, .val (.long p3), .second, .val (.long p4), .second, .val (.int p5), .val (.long (2305843009213693951 : Int64)), .second, .val (.long d), .second, .val (.long mi), .second, .val (.long ee), .second, .val (.long cc), .second, .val (.ref b19), .unset] [(.long d)])) _
      refine XS.lconst X20.here hx rfl (hb hby at_92) ?_
      show Steps p.tables e below (T20.setTop (mkF m 93 #[.val (.long p1), .second, .val (.long p2), .second, .val (.long p3), .second, .val (.long p4), .second, .val (.int p5), .val (.long (2305843009213693951 : Int64)), .second, .val (.long d), .second, .val (.long mi), .second, .val (.long ee), .second, .val (.long cc), .second, .val (.ref b19), .unset] [(.long (0 : Int64)), (.long d)])) _
      refine XS.lcmp X20.here hx rfl (hb hby at_93) rfl ?_
      show Steps p.tables e below (T20.setTop (mkF m 94 #[.val (.long p1), .second, .val (.long p2), .second, .val (.long p3), .second, .val (.long p4), .second, .val (.int p5), .val (.long (2305843009213693951 : Int64)), .second, .val (.long d), .second, .val (.long mi), .second, .val (.long ee), .second, .val (.long cc), .second, .val (.ref b19), .unset] [(.int (lcmpW d (0 : Int64)))])) _
      refine XS.ifNo X20.here hx rfl (hb hby at_94) rfl ((if0 _ _).trans (teq ((lw_eq _ _).mpr h1 : (lcmpW d (0 : Int64)) = (0 : Int32))).2) ?_
      show Steps p.tables e below (T20.setTop (mkF m 97 #[.val (.long p1), .second, .val (.long p2), .second, .val (.long p3), .second, .val (.long p4), .second, .val (.int p5), .val (.long (2305843009213693951 : Int64)), .second, .val (.long d), .second, .val (.long mi), .second, .val (.long ee), .second, .val (.long cc), .second, .val (.ref b19), .unset] [])) _
      refine XS.lload X20.here hx rfl (hb hby at_97) rfl ?_
      show Steps p.tables e below (T20.setTop (mkF m 99 #[.val (.long p1), .second, .val (.long p2), .second, .val (.long p3), .second, .val (.long p4), .second, .val (.int p5), .val (.long (2305843009213693951 : Int64)), .second, .val (.long d), .second, .val (.long mi), .second, .val (.long ee), .second, .val (.long cc), .second, .val (.ref b19), .unset] [(.long mi)])) _
      refine XS.lconst X20.here hx rfl (hb hby at_99) ?_
      show Steps p.tables e below (T20.setTop (mkF m 100 #[.val (.long p1), .second, .val (.long p2), .second, .val (.long p3), .second, .val (.long p4), .second, .val (.int p5), .val (.long (2305843009213693951 : Int64)), .second, .val (.long d), .second, .val (.long mi), .second, .val (.long ee), .second, .val (.long cc), .second, .val (.ref b19), .unset] [(.long (0 : Int64)), (.long mi)])) _
      refine XS.lcmp X20.here hx rfl (hb hby at_100) rfl ?_
      show Steps p.tables e below (T20.setTop (mkF m 101 #[.val (.long p1), .second, .val (.long p2), .second, .val (.long p3), .second, .val (.long p4), .second, .val (.int p5), .val (.long (2305843009213693951 : Int64)), .second, .val (.long d), .second, .val (.long mi), .second, .val (.long ee), .second, .val (.long cc), .second, .val (.ref b19), .unset] [(.int (lcmpW mi (0 : Int64)))])) _
      refine XS.ifNo X20.here hx rfl (hb hby at_101) rfl ((if0 _ _).trans (teq ((lw_eq _ _).mpr h2 : (lcmpW mi (0 : Int64)) = (0 : Int32))).2) ?_
      show Steps p.tables e below (T20.setTop (mkF m 104 #[.val (.long p1), .second, .val (.long p2), .second, .val (.long p3), .second, .val (.long p4), .second, .val (.int p5), .val (.long (2305843009213693951 : Int64)), .second, .val (.long d), .second, .val (.long mi), .second, .val (.long ee), .second, .val (.long cc), .second, .val (.ref b19), .unset] [])) _
      refine XS.lload X20.here hx rfl (hb hby at_104) rfl ?_
      show Steps p.tables e below (T20.setTop (mkF m 106 #[.val (.long p1), .second, .val (.long p2), .second, .val (.long p3), .second, .val (.long p4), .second, .val (.int p5), .val (.long (2305843009213693951 : Int64)), .second, .val (.long d), .second, .val (.long mi), .second, .val (.long ee), .second, .val (.long cc), .second, .val (.ref b19), .unset] [(.long ee)])) _
      refine XS.lconst X20.here hx rfl (hb hby at_106) ?_
      show Steps p.tables e below (T20.setTop (mkF m 107 #[.val (.long p1), .second, .val (.long p2), .second, .val (.long p3), .second, .val (.long p4), .second, .val (.int p5), .val (.long (2305843009213693951 : Int64)), .second, .val (.long d), .second, .val (.long mi), .second, .val (.long ee), .second, .val (.long cc), .second, .val (.ref b19), .unset] [(.long (0 : Int64)), (.long ee)])) _
      refine XS.lcmp X20.here hx rfl (hb hby at_107) rfl ?_
      show Steps p.tables e below (T20.setTop (mkF m 108 #[.val (.long p1), .second, .val (.long p2), .second, .val (.long p3), .second, .val (.long p4), .second, .val (.int p5), .val (.long (2305843009213693951 : Int64)), .second, .val (.long d), .second, .val (.long mi), .second, .val (.long ee), .second, .val (.long cc), .second, .val (.ref b19), .unset] [(.int (lcmpW ee (0 : Int64)))])) _
      refine XS.ifYes X20.here hx rfl (pc0 := 108) (pc' := 115) rfl (hb hby at_108) rfl ((if0 _ _).trans (teq ((lw_eq _ _).mpr h3 : (lcmpW ee (0 : Int64)) = (0 : Int32))).1) (by decide) (by decide) ?_
      show Steps p.tables e below (T20.setTop (mkF m 115 #[.val (.long p1), .second, .val (.long p2), .second, .val (.long p3), .second, .val (.long p4), .second, .val (.int p5), .val (.long (2305843009213693951 : Int64)), .second, .val (.long d), .second, .val (.long mi), .second, .val (.long ee), .second, .val (.long cc), .second, .val (.ref b19), .unset] [])) _
      refine XS.iconst X20.here hx rfl (hb hby at_115) ?_
      show Steps p.tables e below (T20.setTop (mkF m 116 #[.val (.long p1), .second, .val (.long p2), .second, .val (.long p3), .second, .val (.long p4), .second, .val (.int p5), .val (.long (2305843009213693951 : Int64)), .second, .val (.long d), .second, .val (.long mi), .second, .val (.long ee), .second, .val (.long cc), .second, .val (.ref b19), .unset] [(.int (0 : Int32))])) _
      refine XS.istore X20.here hx rfl (hb hby at_116) rfl (l' := #[.val (.long p1), .second, .val (.long p2), .second, .val (.long p3), .second, .val (.long p4), .second, .val (.int p5), .val (.long (2305843009213693951 : Int64)), .second, .val (.long d), .second, .val (.long mi), .second, .val (.long ee), .second, .val (.long cc), .second, .val (.ref b19), .val (.int (0 : Int32))]) rfl ?_
      rw [q] at kt
      exact kt
  obtain ⟨cq23, kq23, q23a, q23b, q23c⟩ := isOf hZ rfl O20.1
  obtain ⟨_, _, ⟨T23, L23, k23, n23⟩, -, X23, ⟨Lc23, hQ23, l23, y23, z23⟩, st23⟩ := X20.virtualBack hx (y := (⟨"com/example/recoup/recoup/Comparison$Counts", "anyFinding", "()Z"⟩ : MethodName)) (z := (⟨"com/example/recoup/recoup/Comparison$Counts", "anyFinding", "()Z"⟩ : MethodName)) hown (mvT hZ (hw _ (List.mem_of_getElem? (i := 23) rfl))) (mvT hZ (hw _ (List.mem_of_getElem? (i := 24) rfl))) (notFace_of_selects (args := #[]) (mvT hZ (hw _ (List.mem_of_getElem? (i := 26) rfl)))) (mvT hZ (hw _ (List.mem_of_getElem? (i := 26) rfl))) (mvT hZ (hw _ (List.mem_of_getElem? (i := 25) rfl))) (by decide) (backOf (W := 0) (rm4 l Z a0 hw [] b19 d mi ee ex T20.heap n0 z20z O20.2.2.1 O20.2.2.2.1 O20.2.2.2.2 hex) hZ (hw _ (List.mem_of_getElem? (i := 27) rfl)) (hw _ (List.mem_of_getElem? (i := 3) rfl)) (by decide) (by decide)) q23a q23c (g := (mkF m 120 #[.val (.long p1), .second, .val (.long p2), .second, .val (.long p3), .second, .val (.long p4), .second, .val (.int p5), .val (.long (2305843009213693951 : Int64)), .second, .val (.long d), .second, .val (.long mi), .second, .val (.long ee), .second, .val (.long cc), .second, .val (.ref b19), .val (.int ex)] [(.ref b19)])) rfl (by rw [hml]; rfl) (Steps.refl _) (argsL := []) (rest := []) (lenOf pd_2 rfl) rfl (by show 2 * 0 + _ ≤ _; exact Nat.le_of_eq rfl) (hb hby at_120) (fun _ _ => ⟨rfl, rfl, (by decide : 1 + 0 ≤ _), (by decide : 4 + 0 ≤ _)⟩)
  dsimp only [Pt.U, Pt.locs, Pt.cells, Pt.slots] at X23 l23 y23 z23 st23 hQ23
  subst l23 y23 z23
  obtain ⟨rfl, N23q, he23⟩ := hQ23
  have N23 := Fr.app N20 N23q
  have fl24 : ∀ target, Steps p.tables e below (T23.setTop (mkF m 133 #[.val (.long p1), .second, .val (.long p2), .second, .val (.long p3), .second, .val (.long p4), .second, .val (.int p5), .val (.long (2305843009213693951 : Int64)), .second, .val (.long d), .second, .val (.long mi), .second, .val (.long ee), .second, .val (.long cc), .second, .val (.ref b19), .val (.int ex)] [(.int (1 : Int32))])) target → Steps p.tables e below (T20.setTop (mkF m 118 #[.val (.long p1), .second, .val (.long p2), .second, .val (.long p3), .second, .val (.long p4), .second, .val (.int p5), .val (.long (2305843009213693951 : Int64)), .second, .val (.long d), .second, .val (.long mi), .second, .val (.long ee), .second, .val (.long cc), .second, .val (.ref b19), .val (.int ex)] [])) target := fun target kt => by
    show Steps p.tables e below (T20.setTop (mkF m 118 #[.val (.long p1), .second, .val (.long p2), .second, .val (.long p3), .second, .val (.long p4), .second, .val (.int p5), .val (.long (2305843009213693951 : Int64)), .second, .val (.long d), .second, .val (.long mi), .second, .val (.long ee), .second, .val (.long cc), .second, .val (.ref b19), .val (.int ex)] [])) _
    refine XS.aload X20.here hx rfl (hb hby at_118) rfl rfl ?_
    show Steps p.tables e below (T20.setTop (mkF m 120 #[.val (.long p1), .second, .val (.long p2), .second, .val (.long p3), .second, .val (.long p4), .second, .val (.int p5), .val (.long (2305843009213693951 : Int64)), .second, .val (.long d), .second, .val (.long mi), .second, .val (.long ee), .second, .val (.long cc), .second, .val (.ref b19), .val (.int ex)] [(.ref b19)])) _
    refine st23.trans ?_
    show Steps p.tables e below (T23.setTop (mkF m 123 #[.val (.long p1), .second, .val (.long p2), .second, .val (.long p3), .second, .val (.long p4), .second, .val (.int p5), .val (.long (2305843009213693951 : Int64)), .second, .val (.long d), .second, .val (.long mi), .second, .val (.long ee), .second, .val (.long cc), .second, .val (.ref b19), .val (.int ex)] [(.int ex)])) _
    refine XS.iload X23.here hx rfl (hb hby at_123) rfl ?_
    show Steps p.tables e below (T23.setTop (mkF m 125 #[.val (.long p1), .second, .val (.long p2), .second, .val (.long p3), .second, .val (.long p4), .second, .val (.int p5), .val (.long (2305843009213693951 : Int64)), .second, .val (.long d), .second, .val (.long mi), .second, .val (.long ee), .second, .val (.long cc), .second, .val (.ref b19), .val (.int ex)] [(.int ex), (.int ex)])) _
    refine XS.icmpNo X23.here hx rfl (hb hby at_125) rfl (teq (rfl : ex = ex)).2 ?_
    show Steps p.tables e below (T23.setTop (mkF m 128 #[.val (.long p1), .second, .val (.long p2), .second, .val (.long p3), .second, .val (.long p4), .second, .val (.int p5), .val (.long (2305843009213693951 : Int64)), .second, .val (.long d), .second, .val (.long mi), .second, .val (.long ee), .second, .val (.long cc), .second, .val (.ref b19), .val (.int ex)] [])) _
    refine XS.iconst X23.here hx rfl (hb hby at_128) ?_
    show Steps p.tables e below (T23.setTop (mkF m 129 #[.val (.long p1), .second, .val (.long p2), .second, .val (.long p3), .second, .val (.long p4), .second, .val (.int p5), .val (.long (2305843009213693951 : Int64)), .second, .val (.long d), .second, .val (.long mi), .second, .val (.long ee), .second, .val (.long cc), .second, .val (.ref b19), .val (.int ex)] [(.int (1 : Int32))])) _
    refine XS.goto X23.here hx rfl (pc0 := 129) (pc' := 133) rfl (hb hby at_129) (by decide) (by decide) ?_
    exact kt
  obtain ⟨fs, hr, hrun, hended, hW, hsame⟩ := X23.leave (v := some (.int (1 : Int32))) (fun h => by rw [Bd.returns] at h; cases h)
  refine ⟨_, _, pre0 _ (fl14 _ (fl15 _ (fl16 _ (fl17 _ (fl18 _ (fl21 _ (fl22 _ (fl24 _ ?_)))))))), hrun, hended, _, _, rfl, ?_, ⟨_, rfl⟩, hW, hsame.mono (by decide) (by decide)⟩
  · exact retN X23 hx (t := .boolean) Bd.returns (by simp) (hb hby at_133) hr
  · show Q0 _ _ _ _ _ _ _ _ _ T23.heap _
    exact ⟨rfl, N23⟩
set_option maxRecDepth 65536 in
set_option maxHeartbeats 40000000 in
theorem comes_1 {Post : Tables → Env → Array Value → State → Outcome → State → Prop} (hpost : ∀ tb e args s v u, (limb_1_1.after args s (.returned v) u = true ∧ limb_1_2.after args s (.returned v) u = true ∧ True) → FrameEnd s (.returned v) u (Jvm.fieldLocs frame_1_writes args s ++ Jvm.arrayLocs frame_1_arrays args s ++ Jvm.staticLocs frame_1_statics s) 16 128 → Post tb e args s (.returned v) u) :
    ArmFor flags0 classFile x code maxLocals ret World_1 tables_1 room_1 Calls_1 rest_1 Pre_1 Post := by
  intro l hfl _ _ p e ha hc hk s m args below hf hA hF happ hP
  obtain ⟨hcalls, hrest, hpre⟩ := hP
  obtain ⟨-, -, -, hnamed, -, -, -, hat⟩ := (Spec.applies_iff hf).mp happ
  obtain ⟨hg, hn⟩ := and_e (Cond.before_iff.mp (show (Jvm.Cond.and given_1 narrow_1).before args s = true from hpre))
  obtain ⟨ga0, gb0⟩ := and_e hg
  obtain ⟨ga1, gb1⟩ := and_e gb0
  obtain ⟨ga2, gb2⟩ := and_e gb1
  obtain ⟨ga3, gb3⟩ := and_e gb2
  obtain ⟨ga4, gb4⟩ := and_e gb3
  obtain ⟨w0, w1, w2, w3, w4, rfl⟩ : ∃ w0 w1 w2 w3 w4 : Value, args = #[w0, w1, w2, w3, w4] := by
    have hs : args.size = 5 := by simpa [Cond.value, given_1] using ga0
    obtain ⟨L⟩ := args
    match L, hs with
    | [w0, w1, w2, w3, w4], _ => exact ⟨w0, w1, w2, w3, w4, rfl⟩
  have hw := fun d (hd : d ∈ tables_1) => atoms_spec (ws := Jvm.Cond.code x code maxLocals ret :: tables_1) hat d (List.mem_cons_of_mem _ hd)
  obtain ⟨i0, ei0⟩ := isL_v ga1
  obtain rfl : w0 = (.long i0) := Option.some.inj ei0
  obtain ⟨i1, ei1⟩ := isL_v ga2
  obtain rfl : w1 = (.long i1) := Option.some.inj ei1
  obtain ⟨i2, ei2⟩ := isL_v ga3
  obtain rfl : w2 = (.long i2) := Option.some.inj ei2
  obtain ⟨i3, ei3⟩ := isL_v ga4
  obtain rfl : w3 = (.long i3) := Option.some.inj ei3
  obtain ⟨i4, ei4⟩ := is_v gb4
  obtain rfl : w4 = (.int i4) := Option.some.inj ei4
  obtain ⟨n, o, h1, h2, h3, _, L, rfl, ⟨rfl, N⟩, hq⟩ := rm0 l s _ hw tables_1 i0 i1 i2 i3 i4 s.heap s.heap.size (Nat.le_refl _)  p e ha hc hk s m _ below hf ((Spec.applies_iff_loose hf).mp happ).1 ⟨rfl, State.Warmed39.refl s, rfl⟩ trivial
  refine ⟨n, _, h1, h2, h3, hpost _ _ _ _ _ _ ⟨Cond.after_iff.mpr rfl, Cond.after_iff.mpr (eq_i res_at (Term.int_eval (1)) rfl), trivial⟩ ⟨hq.1, hq.2.1, (hq.2.2.sift fun y hy => Or.inr (N y hy)).mono (by decide) (by decide)⟩⟩
theorem main_1_1 : Claimed_1_1 := comes_1 fun _ _ _ _ _ _ h hF => ⟨h.1, hF⟩
theorem main_1_2 : Claimed_1_2 := comes_1 fun _ _ _ _ _ _ h hF => ⟨h.2.1, hF⟩
end Jvm.Pilot.@@N@@
namespace Jvm.Pilot.@@N@@
open Jvm Jvm.ClassFile Sem Op Lib Jvm.Free Jvm.Stand Jvm.Pilot.@@N@@.Jvm.D
/-! MADE BY PROGRAM (witnessworld.py) out of the Statement's table words and the real class files: 8 classes; the members and pool entries that the words name. The judged class is class 1, her method 1. -/
namespace start1
open Jvm.ClassFile
def u (s : String) : CpInfo := .utf8 (stringToUtf16 s)
/-- a pool by its gaps: so many unusable entries, then the entry; so many at the end -/
def gap : Nat → List CpInfo → List CpInfo
  | 0, r => r
  | n + 1, r => .unusable :: gap n r
def poolList (es : List (Nat × CpInfo)) (last : Nat) : List CpInfo := es.foldr (fun e r => gap e.1 (e.2 :: r)) (gap last [])
def pool (es : List (Nat × CpInfo)) (last : Nat) : Array CpInfo := ⟨poolList es last⟩
def fileOf (pool : Array CpInfo) (this : Nat) (attrs : Array Attribute := #[]) (ms : Array MethodInfo := #[]) (fl : Nat := 33) (sup : Nat := 0) (ifs : Array Nat := #[]) (fds : Array FieldInfo := #[]) : ClassFile where
  minorVersion := 0
  majorVersion := 65
  constantPool := pool
  accessFlags := fl
  thisClass := this
  superClass := sup
  interfaces := ifs
  fields := fds
  methods := ms
  attributes := attrs
def plain (name : String) (sup : Option ClassId) : Class where
  name := name
  kind := .ordinary
  loader := none
  accessFlags := 33
  super := sup
  interfaces := #[]
  cf := none
  fields := #[]
  methods := #[]
  instanceTypes := #[]
  staticTypes := #[]
  resolved := #[]
  callSites := []
  init := .initialized
  statics := none
  mirror := none

def pool0 : Array CpInfo := pool [(5, u "<init>"), (0, u "()V"), (1, .class_ 10), (1, u "java/lang/Object")] 113

def k0c0 : Code := { maxStack := 0, maxLocals := 1, code := object_method_1_code, exceptionTable := #[], attributes := #[] }
def k0m0 : Method := { name := "<init>", desc := "()V", sig := { parameters := [], returnType := none }, accessFlags := 1, code := some k0c0 }
/-- java/lang/Object -/
def k0 : Class := { plain "java/lang/Object" none with
  accessFlags := 33
  interfaces := #[]
  cf := some (fileOf pool0 8 #[] #[{ accessFlags := 1, nameIndex := 5, descriptorIndex := 6, attributes := #[] }] 33 0 #[] #[])
  fields := #[]
  methods := #[k0m0]
  instanceTypes := #[]
  staticTypes := #[]
  resolved := Array.replicate 124 none
  statics := none }

def pool1 : Array CpInfo := pool [(2, .class_ 4), (1, u "java/lang/Object"), (0, u "<init>"), (0, u "()V"), (0, .long 2305843009213693951), (1, .class_ 10), (0, u "com/example/recoup/recoup/Comparison$Counts"), (0, .methodref 9 12), (0, .nameAndType 5 13), (0, u "(JJJJ)V"), (0, .methodref 9 15), (0, .nameAndType 16 17), (0, u "anyFinding"), (0, u "()Z"), (0, .class_ 19), (0, u "com/example/recoup/recoup/CountsAnyFindingPinLaw"), (2, u "law"), (0, u "(JJJJI)Z")] 7

def k1m0 : Method := { name := "<init>", desc := "()V", sig := { parameters := [], returnType := none }, accessFlags := 1, code := none }
def k1c1 : Code := { maxStack := 10, maxLocals := 21, code := code, exceptionTable := #[], attributes := #[] }
def k1m1 : Method := { name := "law", desc := "(JJJJI)Z", sig := { parameters := [.long, .long, .long, .long, .int], returnType := some .boolean }, accessFlags := 9, code := some k1c1 }
/-- com/example/recoup/recoup/CountsAnyFindingPinLaw -/
def k1 : Class := { plain "com/example/recoup/recoup/CountsAnyFindingPinLaw" (some 0) with
  accessFlags := 49
  interfaces := #[]
  cf := some (fileOf pool1 18 #[] #[{ accessFlags := 1, nameIndex := 5, descriptorIndex := 6, attributes := #[] }, { accessFlags := 9, nameIndex := 22, descriptorIndex := 23, attributes := #[] }] 49 2 #[] #[])
  fields := #[]
  methods := #[k1m0, k1m1]
  instanceTypes := #[]
  staticTypes := #[]
  resolved := Array.replicate 31 none
  statics := none }

def pool2 : Array CpInfo := pool [(1, .methodref 2 3), (0, .class_ 4), (0, .nameAndType 5 6), (0, u "java/lang/Object"), (0, u "<init>"), (0, u "()V"), (0, .class_ 8), (0, u "java/lang/Record")] 13

def k2c0 : Code := { maxStack := 1, maxLocals := 1, code := jdk_30_method_1_code, exceptionTable := #[], attributes := #[] }
def k2m0 : Method := { name := "<init>", desc := "()V", sig := { parameters := [], returnType := none }, accessFlags := 4, code := some k2c0 }
/-- java/lang/Record -/
def k2 : Class := { plain "java/lang/Record" (some 0) with
  accessFlags := 1057
  interfaces := #[]
  cf := some (fileOf pool2 7 #[] #[{ accessFlags := 4, nameIndex := 5, descriptorIndex := 6, attributes := #[] }] 1057 2 #[] #[])
  fields := #[]
  methods := #[k2m0]
  instanceTypes := #[]
  staticTypes := #[]
  resolved := Array.replicate 22 none
  statics := none }

def pool3 : Array CpInfo := pool [(1, .methodref 2 3), (0, .class_ 4), (0, .nameAndType 5 6), (0, u "java/lang/Record"), (0, u "<init>"), (0, u "()V"), (0, .fieldref 8 9), (0, .class_ 10), (0, .nameAndType 11 12), (0, u "com/example/recoup/recoup/Comparison$Counts"), (0, u "compared"), (0, u "J"), (0, .fieldref 8 14), (0, .nameAndType 15 12), (0, u "differ"), (0, .fieldref 8 17), (0, .nameAndType 18 12), (0, u "missing"), (0, .fieldref 8 20), (0, .nameAndType 21 12), (0, u "extra"), (12, u "(JJJJ)V"), (3, u "anyFinding"), (0, u "()Z"), (8, .class_ 49), (0, u "com/example/recoup/recoup/Comparison")] 22

def k3c0 : Code := { maxStack := 3, maxLocals := 9, code := prog_5_method_1_code, exceptionTable := #[], attributes := #[] }
def k3m0 : Method := { name := "<init>", desc := "(JJJJ)V", sig := { parameters := [.long, .long, .long, .long], returnType := none }, accessFlags := 1, code := some k3c0 }
def k3c1 : Code := { maxStack := 4, maxLocals := 1, code := prog_5_method_2_code, exceptionTable := #[], attributes := #[] }
def k3m1 : Method := { name := "anyFinding", desc := "()Z", sig := { parameters := [], returnType := some .boolean }, accessFlags := 1, code := some k3c1 }
/-- com/example/recoup/recoup/Comparison$Counts -/
def k3 : Class := { plain "com/example/recoup/recoup/Comparison$Counts" (some 2) with
  accessFlags := 49
  interfaces := #[]
  cf := some (fileOf pool3 8 #[.nestHost 48] #[{ accessFlags := 1, nameIndex := 5, descriptorIndex := 34, attributes := #[] }, { accessFlags := 1, nameIndex := 38, descriptorIndex := 39, attributes := #[] }] 49 2 #[] #[{ accessFlags := 18, nameIndex := 11, descriptorIndex := 12, attributes := #[] }, { accessFlags := 18, nameIndex := 15, descriptorIndex := 12, attributes := #[] }, { accessFlags := 18, nameIndex := 18, descriptorIndex := 12, attributes := #[] }, { accessFlags := 18, nameIndex := 21, descriptorIndex := 12, attributes := #[] }])
  fields := #[{ name := "compared", type := .long, accessFlags := 18, slot := 0, constantValue := 0 }, { name := "differ", type := .long, accessFlags := 18, slot := 1, constantValue := 0 }, { name := "missing", type := .long, accessFlags := 18, slot := 2, constantValue := 0 }, { name := "extra", type := .long, accessFlags := 18, slot := 3, constantValue := 0 }]
  methods := #[k3m0, k3m1]
  instanceTypes := #[.long, .long, .long, .long]
  staticTypes := #[]
  resolved := Array.replicate 72 none
  statics := none }

def pool4 : Array CpInfo := pool [(1, u "java/lang/Cloneable"), (0, .class_ 1), (0, u "java/lang/Object"), (0, .class_ 3)] 3

/-- java/lang/Cloneable -/
def k4 : Class := { plain "java/lang/Cloneable" (some 0) with
  accessFlags := 1537
  interfaces := #[]
  cf := some (fileOf pool4 2 #[] #[] 1537 4 #[] #[])
  fields := #[]
  methods := #[]
  instanceTypes := #[]
  staticTypes := #[]
  resolved := Array.replicate 8 none
  statics := none }

def pool5 : Array CpInfo := pool [(1, u "java/io/Serializable"), (0, .class_ 1), (0, u "java/lang/Object"), (0, .class_ 3)] 3

/-- java/io/Serializable -/
def k5 : Class := { plain "java/io/Serializable" (some 0) with
  accessFlags := 1537
  interfaces := #[]
  cf := some (fileOf pool5 2 #[] #[] 1537 4 #[] #[])
  fields := #[]
  methods := #[]
  instanceTypes := #[]
  staticTypes := #[]
  resolved := Array.replicate 8 none
  statics := none }

/-- the primitive byte -/
def k6 : Class := { plain "byte" none with kind := .primitive 'B', accessFlags := 0x411 }
/-- [B -/
def k7 : Class := { plain "[B" (some 0) with kind := .array 6 .byte, interfaces := #[4, 5], accessFlags := 1041 }

def heap : Heap := #[]
def classes : Array Class := #[k0, k1, k2, k3, k4, k5, k6, k7]
def interned : List (Array UInt16 × Addr) := []
def slotsUsed : Nat := 0
def theMethod : MethodId := ⟨1, 1⟩
def args0 : Array Value := #[.long 5, .long 6, .long 7, .long 8, .int 1]
def aboutOver (below : List Frame) : State where
  vm := { classes := classes, interned := interned.toArray }
  heap := heap
  slotsUsed := slotsUsed
  threads := #[{ frames := .invoking theMethod args0 :: below }]
def below0 : List Frame := [.native { method := ⟨0, 0⟩, args := #[] }]
def about1 : State := aboutOver below0
def p0 : Program := .bare "" "" ""
def e0 : Env := launch0.env 0 0 0
theorem w_frames : about1.frames = Frame.invoking theMethod args0 :: below0 := rfl
set_option maxRecDepth 65536 in
theorem w_args : argsFit about1.vm theMethod args0 = true := by decide +kernel
set_option maxRecDepth 65536 in
theorem w_heap : heapFits about1 = true := by decide +kernel
set_option maxRecDepth 65536 in
theorem w_runnable : about1.curStatus? = some .runnable := by decide +kernel
set_option maxRecDepth 65536 in
theorem w_alone : about1.alone = true := by decide +kernel
set_option maxRecDepth 65536 in
theorem w_named : about1.methodNamed? x = some theMethod := by decide +kernel
set_option maxRecDepth 65536 in
theorem w_hears : about1.hears theMethod below0 = true := by decide +kernel
set_option maxRecDepth 65536 in
theorem w_ripe : about1.ripe theMethod args0 below0 = true := by decide +kernel
theorem w_running : about1.status = .running := rfl
set_option maxRecDepth 65536 in
theorem w_room : about1.hasRoom e0.platform room_1 = true :=
  launch0.hasRoom_least _ room_1 (by decide +kernel) (by decide +kernel) (by decide +kernel) (by decide +kernel) (by decide +kernel) (by decide +kernel)
theorem allAtoms_all (ts : List Jvm.Cond) (a : Array Jvm.Value) (st : Jvm.State) : (allAtoms ts).before a st = ts.all (fun c => c.before a st) := by
  induction ts with
  | nil => rfl
  | cons c t ih =>
    show (Jvm.Cond.and c (allAtoms t)).before a st = _
    rw [Jvm.Cond.before_and, ih, List.all_cons]
def words1 : List Jvm.Cond := Jvm.Cond.code x code maxLocals ret :: tables_1
/-- a 'code' word, met by the world's own term for the bytes: nothing is compared byte by byte -/
theorem code_word {y : MethodName} {bytes : ByteArray} {mx : Nat} {rt : Option FieldType} {a : Array Value} {s : State} {m : MethodId} {meth : Method} {c : Code} (h1 : s.methodNamed? y = some m) (h2 : s.vm.method? m = some meth) (h3 : meth.code = some c) (h4 : c.code = bytes)
    (h5 : (c.maxLocals == mx && c.exceptionTable.isEmpty && decide (c.maxStack ≤ mostOperands) && decide (meth.sig.returnType = rt) && !meth.locks && decide (parseMethodDescriptor y.desc = some meth.sig)) = true) : (Jvm.Cond.code y bytes mx rt).before a s = true := by
  simp only [Bool.and_eq_true, beq_iff_eq, Bool.not_eq_true', decide_eq_true_eq] at h5
  obtain ⟨⟨⟨⟨⟨g1, g2⟩, g3⟩, g4⟩, g5⟩, g6⟩ := h5
  simp [Cond.before, Cond.holds, Cond.value, h1, h2, h3, h4, g1, g2, g3, g4, g5, g6]
def isCode : Jvm.Cond → Bool
  | .code _ _ _ _ => true
  | _ => false
theorem all_split {L : List Jvm.Cond} {P : Jvm.Cond → Bool} (h1 : L.all (fun c => isCode c || P c) = true) (h2 : ∀ c ∈ L.filter isCode, P c = true) : L.all P = true := by
  refine List.all_eq_true.mpr fun c hc => ?_
  have h := List.all_eq_true.mp h1 c hc
  rcases Bool.eq_false_or_eq_true (isCode c) with hi | hi
  · exact h2 c (List.mem_filter.mpr ⟨hc, hi⟩)
  · simpa [hi] using h
set_option maxRecDepth 65536 in
theorem w_c0 : (Jvm.Cond.code x code maxLocals ret).before args0 about1 = true := code_word (m := ⟨1, 1⟩) (meth := k1m1) (c := k1c1) (by decide +kernel) rfl rfl rfl (by decide +kernel)
set_option maxRecDepth 65536 in
theorem w_c1 : (Jvm.Cond.code ({ cls := "com/example/recoup/recoup/Comparison$Counts", name := "<init>", desc := "(JJJJ)V" } : Jvm.MethodName) prog_5_method_1_code (9 : Nat) (Option.none : Option Jvm.ClassFile.FieldType)).before args0 about1 = true := code_word (m := ⟨3, 0⟩) (meth := k3m0) (c := k3c0) (by decide +kernel) rfl rfl rfl (by decide +kernel)
set_option maxRecDepth 65536 in
theorem w_c2 : (Jvm.Cond.code ({ cls := "java/lang/Record", name := "<init>", desc := "()V" } : Jvm.MethodName) jdk_30_method_1_code (1 : Nat) (Option.none : Option Jvm.ClassFile.FieldType)).before args0 about1 = true := code_word (m := ⟨2, 0⟩) (meth := k2m0) (c := k2c0) (by decide +kernel) rfl rfl rfl (by decide +kernel)
set_option maxRecDepth 65536 in
theorem w_c3 : (Jvm.Cond.code ({ cls := "java/lang/Object", name := "<init>", desc := "()V" } : Jvm.MethodName) object_method_1_code (1 : Nat) (Option.none : Option Jvm.ClassFile.FieldType)).before args0 about1 = true := code_word (m := ⟨0, 0⟩) (meth := k0m0) (c := k0c0) (by decide +kernel) rfl rfl rfl (by decide +kernel)
set_option maxRecDepth 65536 in
theorem w_c4 : (Jvm.Cond.code ({ cls := "com/example/recoup/recoup/Comparison$Counts", name := "anyFinding", desc := "()Z" } : Jvm.MethodName) prog_5_method_2_code (1 : Nat) (Option.some Jvm.ClassFile.FieldType.boolean)).before args0 about1 = true := code_word (m := ⟨3, 1⟩) (meth := k3m1) (c := k3c1) (by decide +kernel) rfl rfl rfl (by decide +kernel)
def codes1 : List Jvm.Cond := [Jvm.Cond.code x code maxLocals ret, Jvm.Cond.code ({ cls := "com/example/recoup/recoup/Comparison$Counts", name := "<init>", desc := "(JJJJ)V" } : Jvm.MethodName) prog_5_method_1_code (9 : Nat) (Option.none : Option Jvm.ClassFile.FieldType), Jvm.Cond.code ({ cls := "java/lang/Record", name := "<init>", desc := "()V" } : Jvm.MethodName) jdk_30_method_1_code (1 : Nat) (Option.none : Option Jvm.ClassFile.FieldType), Jvm.Cond.code ({ cls := "java/lang/Object", name := "<init>", desc := "()V" } : Jvm.MethodName) object_method_1_code (1 : Nat) (Option.none : Option Jvm.ClassFile.FieldType), Jvm.Cond.code ({ cls := "com/example/recoup/recoup/Comparison$Counts", name := "anyFinding", desc := "()Z" } : Jvm.MethodName) prog_5_method_2_code (1 : Nat) (Option.some Jvm.ClassFile.FieldType.boolean)]
set_option maxRecDepth 65536 in
theorem codes_eq : words1.filter isCode = codes1 := rfl
theorem w_codes : ∀ c ∈ words1.filter isCode, c.before args0 about1 = true := by
  rw [codes_eq]
  intro c hc
  simp only [codes1, List.mem_cons, List.not_mem_nil, or_false] at hc
  rcases hc with rfl | rfl | rfl | rfl | rfl
  · exact w_c0
  · exact w_c1
  · exact w_c2
  · exact w_c3
  · exact w_c4
set_option maxRecDepth 65536 in
theorem w_t1 : (words1.take 24).all (fun c => isCode c || c.before args0 about1) = true := by decide +kernel
set_option maxRecDepth 65536 in
theorem w_t2 : (words1.drop 24).all (fun c => isCode c || c.before args0 about1) = true := by decide +kernel
theorem w_tables : (allAtoms (Jvm.Cond.code x code maxLocals ret :: tables_1)).before args0 about1 = true := by
  rw [allAtoms_all]
  show words1.all (fun c => c.before args0 about1) = true
  refine all_split ?_ w_codes
  rw [← List.take_append_drop 24 words1, List.all_append, w_t1, w_t2]
  rfl
set_option maxRecDepth 65536 in
theorem w_case : (Jvm.Cond.and given_1 narrow_1).before args0 about1 = true := by decide +kernel
theorem w_applies : (headSpec (Jvm.Cond.code x code maxLocals ret :: tables_1) room_1).applies x e0.platform about1 = true :=
  (Spec.applies_iff w_frames).mpr ⟨w_running, w_runnable, w_alone, w_named, w_hears, w_ripe, w_room, w_tables⟩
theorem atStart : AtStart classFile x code maxLocals ret World_1 tables_1 room_1 Calls_1 rest_1 Pre_1 launch0 p0 e0 about1 theMethod args0 below0 :=
  ⟨lists_1, trivial, launch0.admits_env _ _ _, launch0.least_env, fairChoices_fair.cas, fairChoices_fair.clock, w_frames, w_args, w_heap, w_applies, trivial, trivial, w_case⟩
end start1
theorem witness_1 : WitnessClaimed_1 := ⟨start1.p0, start1.e0, start1.about1, start1.theMethod, start1.args0, start1.below0, start1.atStart⟩
end Jvm.Pilot.@@N@@
