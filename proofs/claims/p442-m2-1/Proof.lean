import JvmDerived
import JvmDerived.Pilot.@@N@@Statement
import JvmDerived.Pilot.@@N@@Code
set_option linter.unusedVariables false
set_option linter.unusedSimpArgs false
namespace Jvm.RoadKit
open Sem ClassFile Op Lib Jvm.Stand Jvm.Free Jvm.LawKit
section New
variable {p : Program} {l : Launch} {e : Env} {R : Room} {s : State} {m : MethodId} {args : Array Value} {below : List Frame} {meth : Method} {c : Code} {T : State} {locs : List Loc} {cells slots : Nat}
theorem retI (X : Stand p l e R s m args below meth c T locs cells slots) (hx : p.tables.exec = Jvm.exec) {pc : Nat} {Ls : Array Slot} {z : Int32} {rest : List Value} (hret : meth.sig.returnType = some .int) (hd : decode c.code pc = .ok (.ireturn, 1)) {fs : List Frame}
    (hl : ∀ (f : JFrame) (acts : List Action), f.method = m → f.locked = none → f.entered = [] → (doReturn e (T.setTop f) acts (some (.int z))).1 = T.setFrames fs) : Steps p.tables e below (T.setTop (mkF m pc Ls (.int z :: rest))) (T.setFrames fs) := by
  have hm' : T.vm.method? m = some meth := X.method'
  have hn : narrow .int (.int z) = .int z := rfl
  show Steps p.tables e below (T.setTop { method := m, pc := pc, locals := Ls, stack := _ :: rest, locked := none }) _
  jvm_step X.here [X.here.top, hx, hd, hm', hret, hn]
  first | (intro acts; rw [hl _ acts rfl rfl rfl]) | rw [hl _ _ rfl rfl rfl]
  exact Steps.refl _
end New
end Jvm.RoadKit
namespace Jvm.Pilot.@@N@@
open Jvm Jvm.ClassFile Sem Op Lib Jvm.Free Jvm.Stand Jvm.LawKit Jvm.RoadKit Bundle Jvm.Pilot.@@N@@.Jvm.D
abbrev own_hex (x : Int32) : Int32 := if ¬ x < 48 ∧ ¬ 57 < x then x - 48 else if ¬ x < 97 ∧ ¬ 102 < x then x - 97 + 10 else if ¬ x < 65 ∧ ¬ 70 < x then x - 65 + 10 else -1
abbrev own_lo (k : Int32) : Int32 := if k < 10 then k + 48 else k + 87
abbrev own_up (k : Int32) : Int32 := if k < 10 then k + 48 else k + 55
def own_vlo : List Value := [.int 48, .int 49, .int 50, .int 51, .int 52, .int 53, .int 54, .int 55, .int 56, .int 57, .int 97, .int 98, .int 99, .int 100, .int 101, .int 102]
def own_vup : List Value := [.int 48, .int 49, .int 50, .int 51, .int 52, .int 53, .int 54, .int 55, .int 56, .int 57, .int 65, .int 66, .int 67, .int 68, .int 69, .int 70]
abbrev own_c (y : Int32) : Int32 := (y &&& (255 : Int32)).toUInt32.toUInt16.toUInt32.toInt32
theorem own_nat (k : Int32) (n : Nat) (hn : n < 2147483648) (h0 : ¬ k < 0) (h1 : k.toInt < n) : ∃ i : Fin n, k = Int32.ofNat i.val := by
  have z : (0 : Int32).toInt = 0 := rfl
  rw [Int32.lt_iff_toInt_lt, z] at h0
  refine ⟨⟨k.toInt.toNat, by omega⟩, ?_⟩
  apply Int32.toInt_inj.mp
  rw [Int32.toInt_ofNat_of_lt (by show k.toInt.toNat < 2 ^ 31; omega)]
  show k.toInt = (k.toInt.toNat : Int)
  omega
theorem own_tab : ∀ i : Fin 16, own_vlo.getD (Int32.ofNat i.val).toNatClampNeg (.int 0) = .int (own_lo (Int32.ofNat i.val)) ∧ own_vup.getD (Int32.ofNat i.val).toNatClampNeg (.int 0) = .int (own_up (Int32.ofNat i.val)) ∧
    nar .char (own_c (own_lo (Int32.ofNat i.val))) = own_lo (Int32.ofNat i.val) ∧ nar .char (own_c (own_up (Int32.ofNat i.val))) = own_up (Int32.ofNat i.val) ∧
    nar .char (own_lo (Int32.ofNat i.val)) = own_lo (Int32.ofNat i.val) ∧ nar .char (own_up (Int32.ofNat i.val)) = own_up (Int32.ofNat i.val) ∧
    Int32.ofNat i.val = own_hex (own_lo (Int32.ofNat i.val)) ∧ Int32.ofNat i.val = own_hex (own_up (Int32.ofNat i.val)) := by decide +kernel
theorem own_at (k : Int32) (h : ¬ k < 0 ∧ k < 16) : own_vlo.getD k.toNatClampNeg (.int 0) = .int (own_lo k) ∧ own_vup.getD k.toNatClampNeg (.int 0) = .int (own_up k) ∧ nar .char (own_c (own_lo k)) = own_lo k ∧ nar .char (own_c (own_up k)) = own_up k ∧
    nar .char (own_lo k) = own_lo k ∧ nar .char (own_up k) = own_up k ∧ k = own_hex (own_lo k) ∧ k = own_hex (own_up k) := by
  obtain ⟨i, rfl⟩ := own_nat k 16 (by decide) h.1 (by have q := h.2; rw [Int32.lt_iff_toInt_lt] at q; exact q)
  exact own_tab i
theorem own_k (d : Int32) : ¬ (d &&& (15 : Int32)) < 0 ∧ (d &&& (15 : Int32)) < 16 := by
  have m := c_mask d 15 4 (by decide) (by decide)
  have z : (0 : Int32).toInt = 0 := rfl
  have z2 : (16 : Int32).toInt = 16 := rfl
  rw [Int32.lt_iff_toInt_lt, Int32.lt_iff_toInt_lt, m, z, z2]
  omega
theorem own_fin : ∀ i : Fin 103, own_hex (Int32.ofNat i.val) = -1 ∨ (¬ own_hex (Int32.ofNat i.val) = -1 ∧ ¬ own_hex (Int32.ofNat i.val) < 0 ∧ ¬ 15 < own_hex (Int32.ofNat i.val) ∧ Int32.ofNat i.val = own_lo (own_hex (Int32.ofNat i.val))) ∨
    (¬ own_hex (Int32.ofNat i.val) = -1 ∧ ¬ own_hex (Int32.ofNat i.val) < 0 ∧ ¬ 15 < own_hex (Int32.ofNat i.val) ∧ ¬ Int32.ofNat i.val = own_lo (own_hex (Int32.ofNat i.val)) ∧ Int32.ofNat i.val = own_up (own_hex (Int32.ofNat i.val))) := by decide +kernel
theorem own_sound (c : Int32) : own_hex c = -1 ∨ (¬ own_hex c = -1 ∧ ¬ own_hex c < 0 ∧ ¬ 15 < own_hex c ∧ c = own_lo (own_hex c)) ∨ (¬ own_hex c = -1 ∧ ¬ own_hex c < 0 ∧ ¬ 15 < own_hex c ∧ ¬ c = own_lo (own_hex c) ∧ c = own_up (own_hex c)) := by
  by_cases h : ¬ c < 0 ∧ c.toInt < 103
  · obtain ⟨i, rfl⟩ := own_nat c 103 (by decide) h.1 h.2
    exact own_fin i
  · left
    have z : (0 : Int32).toInt = 0 := rfl
    have z1 : (48 : Int32).toInt = 48 := rfl
    have z2 : (57 : Int32).toInt = 57 := rfl
    have z3 : (97 : Int32).toInt = 97 := rfl
    have z4 : (102 : Int32).toInt = 102 := rfl
    have z5 : (65 : Int32).toInt = 65 := rfl
    have z6 : (70 : Int32).toInt = 70 := rfl
    rw [Int32.lt_iff_toInt_lt, z] at h
    unfold own_hex
    rw [if_neg, if_neg, if_neg]
    all_goals (simp only [Int32.lt_iff_toInt_lt]; omega)
theorem own_lt16 {r : Int32} (h : ¬ 15 < r) : r < 16 := by
  have z : (15 : Int32).toInt = 15 := rfl
  have z2 : (16 : Int32).toInt = 16 := rfl
  rw [Int32.lt_iff_toInt_lt] at h ⊢; omega
theorem d1_0 : decode jdk_42_method_56_code 0 = .ok (.aload_n 0, 1) := by decide +kernel
theorem d1_1 : decode jdk_42_method_56_code 1 = .ok (.invokevirtual 492, 3) := by decide +kernel
theorem d1_4 : decode jdk_42_method_56_code 4 = .ok (.ifCond .eq 12, 3) := by decide +kernel
theorem d1_7 : decode jdk_42_method_56_code 7 = .ok (.aload_n 0, 1) := by decide +kernel
theorem d1_8 : decode jdk_42_method_56_code 8 = .ok (.getfield 9, 3) := by decide +kernel
theorem d1_11 : decode jdk_42_method_56_code 11 = .ok (.iload_n 1, 1) := by decide +kernel
theorem d1_12 : decode jdk_42_method_56_code 12 = .ok (.invokestatic 495, 3) := by decide +kernel
theorem d1_15 : decode jdk_42_method_56_code 15 = .ok (.ireturn, 1) := by decide +kernel
theorem d2_0 : decode jdk_42_method_154_code 0 = .ok (.getstatic 38, 3) := by decide +kernel
theorem d2_3 : decode jdk_42_method_154_code 3 = .ok (.ifCond .eq 14, 3) := by decide +kernel
theorem d2_6 : decode jdk_42_method_154_code 6 = .ok (.aload_n 0, 1) := by decide +kernel
theorem d2_7 : decode jdk_42_method_154_code 7 = .ok (.getfield 15, 3) := by decide +kernel
theorem d2_10 : decode jdk_42_method_154_code 10 = .ok (.ifCond .ne 7, 3) := by decide +kernel
theorem d2_13 : decode jdk_42_method_154_code 13 = .ok (.iconst 1, 1) := by decide +kernel
theorem d2_14 : decode jdk_42_method_154_code 14 = .ok (.goto 4, 3) := by decide +kernel
theorem d2_18 : decode jdk_42_method_154_code 18 = .ok (.ireturn, 1) := by decide +kernel
theorem d3_0 : decode jdk_43_method_2_code 0 = .ok (.iload_n 1, 1) := by decide +kernel
theorem d3_1 : decode jdk_43_method_2_code 1 = .ok (.aload_n 0, 1) := by decide +kernel
theorem d3_2 : decode jdk_43_method_2_code 2 = .ok (.arraylength, 1) := by decide +kernel
theorem d3_3 : decode jdk_43_method_2_code 3 = .ok (.invokestatic 9, 3) := by decide +kernel
theorem d3_6 : decode jdk_43_method_2_code 6 = .ok (.aload_n 0, 1) := by decide +kernel
theorem d3_7 : decode jdk_43_method_2_code 7 = .ok (.iload_n 1, 1) := by decide +kernel
theorem d3_8 : decode jdk_43_method_2_code 8 = .ok (.baload, 1) := by decide +kernel
theorem d3_9 : decode jdk_43_method_2_code 9 = .ok (.sipush 255, 3) := by decide +kernel
theorem d3_12 : decode jdk_43_method_2_code 12 = .ok (.iand, 1) := by decide +kernel
theorem d3_13 : decode jdk_43_method_2_code 13 = .ok (.i2c, 1) := by decide +kernel
theorem d3_14 : decode jdk_43_method_2_code 14 = .ok (.ireturn, 1) := by decide +kernel
theorem d4_0 : decode jdk_42_method_155_code 0 = .ok (.iload_n 0, 1) := by decide +kernel
theorem d4_1 : decode jdk_42_method_155_code 1 = .ok (.iload_n 1, 1) := by decide +kernel
theorem d4_2 : decode jdk_42_method_155_code 2 = .ok (.getstatic 1053, 3) := by decide +kernel
theorem d4_5 : decode jdk_42_method_155_code 5 = .ok (.invokestatic 1059, 3) := by decide +kernel
theorem d4_8 : decode jdk_42_method_155_code 8 = .ok (.pop, 1) := by decide +kernel
theorem d4_9 : decode jdk_42_method_155_code 9 = .ok (.return_, 1) := by decide +kernel
theorem d5_0 : decode jdk_41_method_11_code 0 = .ok (.iload_n 0, 1) := by decide +kernel
theorem d5_1 : decode jdk_41_method_11_code 1 = .ok (.ifCond .lt 8, 3) := by decide +kernel
theorem d5_4 : decode jdk_41_method_11_code 4 = .ok (.iload_n 0, 1) := by decide +kernel
theorem d5_5 : decode jdk_41_method_11_code 5 = .ok (.iload_n 1, 1) := by decide +kernel
theorem d5_6 : decode jdk_41_method_11_code 6 = .ok (.if_icmp .lt 10, 3) := by decide +kernel
theorem d5_16 : decode jdk_41_method_11_code 16 = .ok (.iload_n 0, 1) := by decide +kernel
theorem d5_17 : decode jdk_41_method_11_code 17 = .ok (.ireturn, 1) := by decide +kernel
theorem d6_0 : decode prog_9_method_2_code 0 = .ok (.iload_n 0, 1) := by decide +kernel
theorem d6_1 : decode prog_9_method_2_code 1 = .ok (.bipush 48, 2) := by decide +kernel
theorem d6_3 : decode prog_9_method_2_code 3 = .ok (.if_icmp .lt 17, 3) := by decide +kernel
theorem d6_6 : decode prog_9_method_2_code 6 = .ok (.iload_n 0, 1) := by decide +kernel
theorem d6_7 : decode prog_9_method_2_code 7 = .ok (.bipush 57, 2) := by decide +kernel
theorem d6_9 : decode prog_9_method_2_code 9 = .ok (.if_icmp .gt 11, 3) := by decide +kernel
theorem d6_12 : decode prog_9_method_2_code 12 = .ok (.iload_n 0, 1) := by decide +kernel
theorem d6_13 : decode prog_9_method_2_code 13 = .ok (.bipush 48, 2) := by decide +kernel
theorem d6_15 : decode prog_9_method_2_code 15 = .ok (.isub, 1) := by decide +kernel
theorem d6_16 : decode prog_9_method_2_code 16 = .ok (.istore_n 1, 1) := by decide +kernel
theorem d6_17 : decode prog_9_method_2_code 17 = .ok (.goto 51, 3) := by decide +kernel
theorem d6_20 : decode prog_9_method_2_code 20 = .ok (.iload_n 0, 1) := by decide +kernel
theorem d6_21 : decode prog_9_method_2_code 21 = .ok (.bipush 97, 2) := by decide +kernel
theorem d6_23 : decode prog_9_method_2_code 23 = .ok (.if_icmp .lt 20, 3) := by decide +kernel
theorem d6_26 : decode prog_9_method_2_code 26 = .ok (.iload_n 0, 1) := by decide +kernel
theorem d6_27 : decode prog_9_method_2_code 27 = .ok (.bipush 102, 2) := by decide +kernel
theorem d6_29 : decode prog_9_method_2_code 29 = .ok (.if_icmp .gt 14, 3) := by decide +kernel
theorem d6_32 : decode prog_9_method_2_code 32 = .ok (.iload_n 0, 1) := by decide +kernel
theorem d6_33 : decode prog_9_method_2_code 33 = .ok (.bipush 97, 2) := by decide +kernel
theorem d6_35 : decode prog_9_method_2_code 35 = .ok (.isub, 1) := by decide +kernel
theorem d6_36 : decode prog_9_method_2_code 36 = .ok (.bipush 10, 2) := by decide +kernel
theorem d6_38 : decode prog_9_method_2_code 38 = .ok (.iadd, 1) := by decide +kernel
theorem d6_39 : decode prog_9_method_2_code 39 = .ok (.istore_n 1, 1) := by decide +kernel
theorem d6_40 : decode prog_9_method_2_code 40 = .ok (.goto 28, 3) := by decide +kernel
theorem d6_43 : decode prog_9_method_2_code 43 = .ok (.iload_n 0, 1) := by decide +kernel
theorem d6_44 : decode prog_9_method_2_code 44 = .ok (.bipush 65, 2) := by decide +kernel
theorem d6_46 : decode prog_9_method_2_code 46 = .ok (.if_icmp .lt 20, 3) := by decide +kernel
theorem d6_49 : decode prog_9_method_2_code 49 = .ok (.iload_n 0, 1) := by decide +kernel
theorem d6_50 : decode prog_9_method_2_code 50 = .ok (.bipush 70, 2) := by decide +kernel
theorem d6_52 : decode prog_9_method_2_code 52 = .ok (.if_icmp .gt 14, 3) := by decide +kernel
theorem d6_55 : decode prog_9_method_2_code 55 = .ok (.iload_n 0, 1) := by decide +kernel
theorem d6_56 : decode prog_9_method_2_code 56 = .ok (.bipush 65, 2) := by decide +kernel
theorem d6_58 : decode prog_9_method_2_code 58 = .ok (.isub, 1) := by decide +kernel
theorem d6_59 : decode prog_9_method_2_code 59 = .ok (.bipush 10, 2) := by decide +kernel
theorem d6_61 : decode prog_9_method_2_code 61 = .ok (.iadd, 1) := by decide +kernel
theorem d6_62 : decode prog_9_method_2_code 62 = .ok (.istore_n 1, 1) := by decide +kernel
theorem d6_63 : decode prog_9_method_2_code 63 = .ok (.goto 5, 3) := by decide +kernel
theorem d6_66 : decode prog_9_method_2_code 66 = .ok (.iconst (-1), 1) := by decide +kernel
theorem d6_67 : decode prog_9_method_2_code 67 = .ok (.istore_n 1, 1) := by decide +kernel
theorem d6_68 : decode prog_9_method_2_code 68 = .ok (.iload_n 1, 1) := by decide +kernel
theorem d6_69 : decode prog_9_method_2_code 69 = .ok (.ireturn, 1) := by decide +kernel
theorem pd_0 : parseMethodDescriptor "(IILjava/util/function/BiFunction;)I" = some ⟨[.int, .int, (.object "java/util/function/BiFunction")], some .int⟩ := by decide +kernel
theorem pd_1 : parseMethodDescriptor "(II)V" = some ⟨[.int, .int], none⟩ := by decide +kernel
theorem pd_2 : parseMethodDescriptor "()Z" = some ⟨[], some .boolean⟩ := by decide +kernel
theorem pd_3 : parseMethodDescriptor "([BI)C" = some ⟨[(.array .byte), .int], some .char⟩ := by decide +kernel
theorem pd_4 : parseMethodDescriptor "(I)C" = some ⟨[.int], some .char⟩ := by decide +kernel
theorem pd_5 : parseMethodDescriptor "(I)I" = some ⟨[.int], some .int⟩ := by decide +kernel
theorem pn_0 : plainName "com/example/hermod/hermod/HexDigit" = true := by first | (simp [plainName, overriddenIn]; done) | decide +kernel
theorem pn_1 : plainName "jdk/internal/util/Preconditions" = true := by first | (simp [plainName, overriddenIn]; done) | decide +kernel
theorem pn_2 : plainName "java/lang/String" = true := by first | (simp [plainName, overriddenIn]; done) | decide +kernel
theorem pn_3 : plainName "java/lang/StringLatin1" = true := by first | (simp [plainName, overriddenIn]; done) | decide +kernel
theorem pn_4 : plainName "com/example/hermod/hermod/HexDigitValuePinLaw" = true := by first | (simp [plainName, overriddenIn]; done) | decide +kernel
theorem ef_6 (m : MethodId) (x0 : Int32) : entryFrame m #[(.int x0)] 2 = mkF m 0 #[.val (.int x0), .unset] [] := by first | (simp [entryFrame, mkF, argsToLocals, Value.category]; done) | rfl
def Q6 (Z : State) (p1 : Int32) (r : Int32) (h0 : Heap) (n0 : Nat) (v : Option Value) (h : Heap) (L : List Loc) : Prop := v = some (.int r) ∧ Fr n0 L ∧ h = h0
set_option maxRecDepth 65536 in
set_option maxHeartbeats 40000000 in
theorem rm6 (l : Launch) (Z : State) (a0 : Array Value) (hw : ∀ d ∈ tables_1, d.before a0 Z = true) (ws : List Jvm.Cond) (p1 : Int32) (r : Int32) (h0 : Heap) (n0 : Nat) (Z0 : n0 ≤ h0.size) (hr : r = own_hex p1) :
    MetFree l (⟨"com/example/hermod/hermod/HexDigit", "value", "(I)I"⟩ : MethodName) (head1 (Jvm.Cond.code (⟨"com/example/hermod/hermod/HexDigit", "value", "(I)I"⟩ : MethodName) prog_9_method_2_code 2 (some .int) :: ws) ({ frames := 0, cells := 0, slots := 0, locals := 0 } : Room)) (fun a U => a = #[(.int p1)] ∧ Z.Warmed39 U.vm ∧ U.heap = h0) (fun _ _ _ _ _ => True) (fun _ U o U' => ∃ v L, o = .returned v ∧ Q6 Z p1 r h0 n0 v U'.heap L ∧ FrameEnd U o U' L ({ frames := 0, cells := 0, slots := 0, locals := 0 } : Room).cells ({ frames := 0, cells := 0, slots := 0, locals := 0 } : Room).slots) := by
  refine MetFree.of_bodySF (plainFor_of_name pn_0) hisR ?_
  intro p e s m args below meth c s₁ Bd hml0 hP hK
  obtain ⟨rfl, hZ, hh⟩ := hP
  have hx := Bd.exec
  have hby := Bd.bytes
  have hml : c.maxLocals = 2 := hml0
  have hown : s.vm.findClass "com/example/hermod/hermod/HexDigit" = some m.cls := findClass_of_methodNamed Bd.named
  have hnm := (name_of_methodNamed Bd.named Bd.method).1
  have X0 : Stand p l e ({ frames := 0, cells := 0, slots := 0, locals := 0 } : Room) s m #[(.int p1)] below meth c s₁ [] 0 0 := Stand.of_body Bd
  have e0 : s₁.heap = h0 := by rw [← hh, Bd.state]; rfl
  have N0 := Fr.nil n0
  have pre0 : ∀ t, Steps p.tables e below (s₁.setTop (mkF m 0 #[.val (.int p1), .unset] [])) t → Steps p.tables e below (s₁.setTop (entryFrame m #[(.int p1)] 2)) t := fun t k => castTop (ef_6 m p1) k
  by_cases l0 : p1 < (48 : Int32)
  · by_cases l1 : p1 < (97 : Int32)
    · by_cases l2 : p1 < (65 : Int32)
      · have q : own_hex p1 = -1 := by unfold own_hex; rw [if_neg (fun u => ?_), if_neg (fun u => ?_), if_neg (fun u => ?_)] <;> simp_all
        rw [q] at hr
        subst hr
        have fl1 : ∀ target, Steps p.tables e below (s₁.setTop (mkF m 69 #[.val (.int p1), .val (.int (-1 : Int32))] [(.int (-1 : Int32))])) target → Steps p.tables e below (s₁.setTop (mkF m 0 #[.val (.int p1), .unset] [])) target := fun target kt => by
          show Steps p.tables e below (s₁.setTop (mkF m 0 #[.val (.int p1), .unset] [])) _
          refine XS.iloadN X0.here hx rfl (hb hby d6_0) rfl ?_
          show Steps p.tables e below (s₁.setTop (mkF m 1 #[.val (.int p1), .unset] [(.int p1)])) _
          refine XS.bipush X0.here hx rfl (hb hby d6_1) ?_
          show Steps p.tables e below (s₁.setTop (mkF m 3 #[.val (.int p1), .unset] [(.int (48 : Int32)), (.int p1)])) _
          refine XS.icmpYes X0.here hx rfl (pc0 := 3) (pc' := 20) rfl (hb hby d6_3) rfl (tlt (l0 : p1 < (48 : Int32))).1 (by decide) (by decide) ?_
          show Steps p.tables e below (s₁.setTop (mkF m 20 #[.val (.int p1), .unset] [])) _
          refine XS.iloadN X0.here hx rfl (hb hby d6_20) rfl ?_
          show Steps p.tables e below (s₁.setTop (mkF m 21 #[.val (.int p1), .unset] [(.int p1)])) _
          refine XS.bipush X0.here hx rfl (hb hby d6_21) ?_
          show Steps p.tables e below (s₁.setTop (mkF m 23 #[.val (.int p1), .unset] [(.int (97 : Int32)), (.int p1)])) _
          refine XS.icmpYes X0.here hx rfl (pc0 := 23) (pc' := 43) rfl (hb hby d6_23) rfl (tlt (l1 : p1 < (97 : Int32))).1 (by decide) (by decide) ?_
          show Steps p.tables e below (s₁.setTop (mkF m 43 #[.val (.int p1), .unset] [])) _
          refine XS.iloadN X0.here hx rfl (hb hby d6_43) rfl ?_
          show Steps p.tables e below (s₁.setTop (mkF m 44 #[.val (.int p1), .unset] [(.int p1)])) _
          refine XS.bipush X0.here hx rfl (hb hby d6_44) ?_
          show Steps p.tables e below (s₁.setTop (mkF m 46 #[.val (.int p1), .unset] [(.int (65 : Int32)), (.int p1)])) _
          refine XS.icmpYes X0.here hx rfl (pc0 := 46) (pc' := 66) rfl (hb hby d6_46) rfl (tlt (l2 : p1 < (65 : Int32))).1 (by decide) (by decide) ?_
          show Steps p.tables e below (s₁.setTop (mkF m 66 #[.val (.int p1), .unset] [])) _
          refine XS.iconst X0.here hx rfl (hb hby d6_66) ?_
          show Steps p.tables e below (s₁.setTop (mkF m 67 #[.val (.int p1), .unset] [(.int (-1 : Int32))])) _
          refine XS.istoreN X0.here hx rfl (hb hby d6_67) rfl (l' := #[.val (.int p1), .val (.int (-1 : Int32))]) rfl ?_
          show Steps p.tables e below (s₁.setTop (mkF m 68 #[.val (.int p1), .val (.int (-1 : Int32))] [])) _
          refine XS.iloadN X0.here hx rfl (hb hby d6_68) rfl ?_
          exact kt
        obtain ⟨fs, hr, hrun, hended, hW, hsame⟩ := X0.leave (v := some (.int (-1 : Int32))) (fun h => by rw [Bd.returns] at h; cases h)
        refine ⟨_, _, pre0 _ (fl1 _ ?_), hrun, hended, _, _, rfl, ?_, ⟨_, rfl⟩, hW, hsame.mono (by decide) (by decide)⟩
        · exact retI X0 hx Bd.returns (hb hby d6_69) hr
        · show Q6 _ _ _ _ _ _ s₁.heap _
          rw [e0]
          exact ⟨rfl, N0, rfl⟩
      · by_cases g2 : (70 : Int32) < p1
        · have q : own_hex p1 = -1 := by unfold own_hex; rw [if_neg (fun u => ?_), if_neg (fun u => ?_), if_neg (fun u => ?_)] <;> simp_all
          rw [q] at hr
          subst hr
          have fl2 : ∀ target, Steps p.tables e below (s₁.setTop (mkF m 69 #[.val (.int p1), .val (.int (-1 : Int32))] [(.int (-1 : Int32))])) target → Steps p.tables e below (s₁.setTop (mkF m 0 #[.val (.int p1), .unset] [])) target := fun target kt => by
            show Steps p.tables e below (s₁.setTop (mkF m 0 #[.val (.int p1), .unset] [])) _
            refine XS.iloadN X0.here hx rfl (hb hby d6_0) rfl ?_
            show Steps p.tables e below (s₁.setTop (mkF m 1 #[.val (.int p1), .unset] [(.int p1)])) _
            refine XS.bipush X0.here hx rfl (hb hby d6_1) ?_
            show Steps p.tables e below (s₁.setTop (mkF m 3 #[.val (.int p1), .unset] [(.int (48 : Int32)), (.int p1)])) _
            refine XS.icmpYes X0.here hx rfl (pc0 := 3) (pc' := 20) rfl (hb hby d6_3) rfl (tlt (l0 : p1 < (48 : Int32))).1 (by decide) (by decide) ?_
            show Steps p.tables e below (s₁.setTop (mkF m 20 #[.val (.int p1), .unset] [])) _
            refine XS.iloadN X0.here hx rfl (hb hby d6_20) rfl ?_
            show Steps p.tables e below (s₁.setTop (mkF m 21 #[.val (.int p1), .unset] [(.int p1)])) _
            refine XS.bipush X0.here hx rfl (hb hby d6_21) ?_
            show Steps p.tables e below (s₁.setTop (mkF m 23 #[.val (.int p1), .unset] [(.int (97 : Int32)), (.int p1)])) _
            refine XS.icmpYes X0.here hx rfl (pc0 := 23) (pc' := 43) rfl (hb hby d6_23) rfl (tlt (l1 : p1 < (97 : Int32))).1 (by decide) (by decide) ?_
            show Steps p.tables e below (s₁.setTop (mkF m 43 #[.val (.int p1), .unset] [])) _
            refine XS.iloadN X0.here hx rfl (hb hby d6_43) rfl ?_
            show Steps p.tables e below (s₁.setTop (mkF m 44 #[.val (.int p1), .unset] [(.int p1)])) _
            refine XS.bipush X0.here hx rfl (hb hby d6_44) ?_
            show Steps p.tables e below (s₁.setTop (mkF m 46 #[.val (.int p1), .unset] [(.int (65 : Int32)), (.int p1)])) _
            refine XS.icmpNo X0.here hx rfl (hb hby d6_46) rfl (flt (l2 : ¬ (p1 < (65 : Int32)))).1 ?_
            show Steps p.tables e below (s₁.setTop (mkF m 49 #[.val (.int p1), .unset] [])) _
            refine XS.iloadN X0.here hx rfl (hb hby d6_49) rfl ?_
            show Steps p.tables e below (s₁.setTop (mkF m 50 #[.val (.int p1), .unset] [(.int p1)])) _
            refine XS.bipush X0.here hx rfl (hb hby d6_50) ?_
            show Steps p.tables e below (s₁.setTop (mkF m 52 #[.val (.int p1), .unset] [(.int (70 : Int32)), (.int p1)])) _
            refine XS.icmpYes X0.here hx rfl (pc0 := 52) (pc' := 66) rfl (hb hby d6_52) rfl (tlt (g2 : (70 : Int32) < p1)).2.2.1 (by decide) (by decide) ?_
            show Steps p.tables e below (s₁.setTop (mkF m 66 #[.val (.int p1), .unset] [])) _
            refine XS.iconst X0.here hx rfl (hb hby d6_66) ?_
            show Steps p.tables e below (s₁.setTop (mkF m 67 #[.val (.int p1), .unset] [(.int (-1 : Int32))])) _
            refine XS.istoreN X0.here hx rfl (hb hby d6_67) rfl (l' := #[.val (.int p1), .val (.int (-1 : Int32))]) rfl ?_
            show Steps p.tables e below (s₁.setTop (mkF m 68 #[.val (.int p1), .val (.int (-1 : Int32))] [])) _
            refine XS.iloadN X0.here hx rfl (hb hby d6_68) rfl ?_
            exact kt
          obtain ⟨fs, hr, hrun, hended, hW, hsame⟩ := X0.leave (v := some (.int (-1 : Int32))) (fun h => by rw [Bd.returns] at h; cases h)
          refine ⟨_, _, pre0 _ (fl2 _ ?_), hrun, hended, _, _, rfl, ?_, ⟨_, rfl⟩, hW, hsame.mono (by decide) (by decide)⟩
          · exact retI X0 hx Bd.returns (hb hby d6_69) hr
          · show Q6 _ _ _ _ _ _ s₁.heap _
            rw [e0]
            exact ⟨rfl, N0, rfl⟩
        · have q : own_hex p1 = p1 - 65 + 10 := by unfold own_hex; rw [if_neg (fun u => ?_), if_neg (fun u => ?_), if_pos ⟨l2, g2⟩] <;> simp_all
          rw [q] at hr
          subst hr
          have fl3 : ∀ target, Steps p.tables e below (s₁.setTop (mkF m 69 #[.val (.int p1), .val (.int ((p1 - (65 : Int32)) + (10 : Int32)))] [(.int ((p1 - (65 : Int32)) + (10 : Int32)))])) target → Steps p.tables e below (s₁.setTop (mkF m 0 #[.val (.int p1), .unset] [])) target := fun target kt => by
            show Steps p.tables e below (s₁.setTop (mkF m 0 #[.val (.int p1), .unset] [])) _
            refine XS.iloadN X0.here hx rfl (hb hby d6_0) rfl ?_
            show Steps p.tables e below (s₁.setTop (mkF m 1 #[.val (.int p1), .unset] [(.int p1)])) _
            refine XS.bipush X0.here hx rfl (hb hby d6_1) ?_
            show Steps p.tables e below (s₁.setTop (mkF m 3 #[.val (.int p1), .unset] [(.int (48 : Int32)), (.int p1)])) _
            refine XS.icmpYes X0.here hx rfl (pc0 := 3) (pc' := 20) rfl (hb hby d6_3) rfl (tlt (l0 : p1 < (48 : Int32))).1 (by decide) (by decide) ?_
            show Steps p.tables e below (s₁.setTop (mkF m 20 #[.val (.int p1), .unset] [])) _
            refine XS.iloadN X0.here hx rfl (hb hby d6_20) rfl ?_
            show Steps p.tables e below (s₁.setTop (mkF m 21 #[.val (.int p1), .unset] [(.int p1)])) _
            refine XS.bipush X0.here hx rfl (hb hby d6_21) ?_
            show Steps p.tables e below (s₁.setTop (mkF m 23 #[.val (.int p1), .unset] [(.int (97 : Int32)), (.int p1)])) _
            refine XS.icmpYes X0.here hx rfl (pc0 := 23) (pc' := 43) rfl (hb hby d6_23) rfl (tlt (l1 : p1 < (97 : Int32))).1 (by decide) (by decide) ?_
            show Steps p.tables e below (s₁.setTop (mkF m 43 #[.val (.int p1), .unset] [])) _
            refine XS.iloadN X0.here hx rfl (hb hby d6_43) rfl ?_
            show Steps p.tables e below (s₁.setTop (mkF m 44 #[.val (.int p1), .unset] [(.int p1)])) _
            refine XS.bipush X0.here hx rfl (hb hby d6_44) ?_
            show Steps p.tables e below (s₁.setTop (mkF m 46 #[.val (.int p1), .unset] [(.int (65 : Int32)), (.int p1)])) _
            refine XS.icmpNo X0.here hx rfl (hb hby d6_46) rfl (flt (l2 : ¬ (p1 < (65 : Int32)))).1 ?_
            show Steps p.tables e below (s₁.setTop (mkF m 49 #[.val (.int p1), .unset] [])) _
            refine XS.iloadN X0.here hx rfl (hb hby d6_49) rfl ?_
            show Steps p.tables e below (s₁.setTop (mkF m 50 #[.val (.int p1), .unset] [(.int p1)])) _
            refine XS.bipush X0.here hx rfl (hb hby d6_50) ?_
            show Steps p.tables e below (s₁.setTop (mkF m 52 #[.val (.int p1), .unset] [(.int (70 : Int32)), (.int p1)])) _
            refine XS.icmpNo X0.here hx rfl (hb hby d6_52) rfl (flt (g2 : ¬ ((70 : Int32) < p1))).2.2.1 ?_
            show Steps p.tables e below (s₁.setTop (mkF m 55 #[.val (.int p1), .unset] [])) _
            refine XS.iloadN X0.here hx rfl (hb hby d6_55) rfl ?_
            show Steps p.tables e below (s₁.setTop (mkF m 56 #[.val (.int p1), .unset] [(.int p1)])) _
            refine XS.bipush X0.here hx rfl (hb hby d6_56) ?_
            show Steps p.tables e below (s₁.setTop (mkF m 58 #[.val (.int p1), .unset] [(.int (65 : Int32)), (.int p1)])) _
            refine XS.isub X0.here hx rfl (hb hby d6_58) rfl ?_
            show Steps p.tables e below (s₁.setTop (mkF m 59 #[.val (.int p1), .unset] [(.int (p1 - (65 : Int32)))])) _
            refine XS.bipush X0.here hx rfl (hb hby d6_59) ?_
            show Steps p.tables e below (s₁.setTop (mkF m 61 #[.val (.int p1), .unset] [(.int (10 : Int32)), (.int (p1 - (65 : Int32)))])) _
            refine XS.iadd X0.here hx rfl (hb hby d6_61) rfl ?_
            show Steps p.tables e below (s₁.setTop (mkF m 62 #[.val (.int p1), .unset] [(.int ((p1 - (65 : Int32)) + (10 : Int32)))])) _
            refine XS.istoreN X0.here hx rfl (hb hby d6_62) rfl (l' := #[.val (.int p1), .val (.int ((p1 - (65 : Int32)) + (10 : Int32)))]) rfl ?_
            show Steps p.tables e below (s₁.setTop (mkF m 63 #[.val (.int p1), .val (.int ((p1 - (65 : Int32)) + (10 : Int32)))] [])) _
            refine XS.goto X0.here hx rfl (pc0 := 63) (pc' := 68) rfl (hb hby d6_63) (by decide) (by decide) ?_
            show Steps p.tables e below (s₁.setTop (mkF m 68 #[.val (.int p1), .val (.int ((p1 - (65 : Int32)) + (10 : Int32)))] [])) _
            refine XS.iloadN X0.here hx rfl (hb hby d6_68) rfl ?_
            exact kt
          obtain ⟨fs, hr, hrun, hended, hW, hsame⟩ := X0.leave (v := some (.int ((p1 - (65 : Int32)) + (10 : Int32)))) (fun h => by rw [Bd.returns] at h; cases h)
          refine ⟨_, _, pre0 _ (fl3 _ ?_), hrun, hended, _, _, rfl, ?_, ⟨_, rfl⟩, hW, hsame.mono (by decide) (by decide)⟩
          · exact retI X0 hx Bd.returns (hb hby d6_69) hr
          · show Q6 _ _ _ _ _ _ s₁.heap _
            rw [e0]
            exact ⟨rfl, N0, rfl⟩
    · by_cases g1 : (102 : Int32) < p1
      · by_cases l2 : p1 < (65 : Int32)
        · have q : own_hex p1 = -1 := by unfold own_hex; rw [if_neg (fun u => ?_), if_neg (fun u => ?_), if_neg (fun u => ?_)] <;> simp_all
          rw [q] at hr
          subst hr
          have fl4 : ∀ target, Steps p.tables e below (s₁.setTop (mkF m 69 #[.val (.int p1), .val (.int (-1 : Int32))] [(.int (-1 : Int32))])) target → Steps p.tables e below (s₁.setTop (mkF m 0 #[.val (.int p1), .unset] [])) target := fun target kt => by
            show Steps p.tables e below (s₁.setTop (mkF m 0 #[.val (.int p1), .unset] [])) _
            refine XS.iloadN X0.here hx rfl (hb hby d6_0) rfl ?_
            show Steps p.tables e below (s₁.setTop (mkF m 1 #[.val (.int p1), .unset] [(.int p1)])) _
            refine XS.bipush X0.here hx rfl (hb hby d6_1) ?_
            show Steps p.tables e below (s₁.setTop (mkF m 3 #[.val (.int p1), .unset] [(.int (48 : Int32)), (.int p1)])) _
            refine XS.icmpYes X0.here hx rfl (pc0 := 3) (pc' := 20) rfl (hb hby d6_3) rfl (tlt (l0 : p1 < (48 : Int32))).1 (by decide) (by decide) ?_
            show Steps p.tables e below (s₁.setTop (mkF m 20 #[.val (.int p1), .unset] [])) _
            refine XS.iloadN X0.here hx rfl (hb hby d6_20) rfl ?_
            show Steps p.tables e below (s₁.setTop (mkF m 21 #[.val (.int p1), .unset] [(.int p1)])) _
            refine XS.bipush X0.here hx rfl (hb hby d6_21) ?_
            show Steps p.tables e below (s₁.setTop (mkF m 23 #[.val (.int p1), .unset] [(.int (97 : Int32)), (.int p1)])) _
            refine XS.icmpNo X0.here hx rfl (hb hby d6_23) rfl (flt (l1 : ¬ (p1 < (97 : Int32)))).1 ?_
            show Steps p.tables e below (s₁.setTop (mkF m 26 #[.val (.int p1), .unset] [])) _
            refine XS.iloadN X0.here hx rfl (hb hby d6_26) rfl ?_
            show Steps p.tables e below (s₁.setTop (mkF m 27 #[.val (.int p1), .unset] [(.int p1)])) _
            refine XS.bipush X0.here hx rfl (hb hby d6_27) ?_
            show Steps p.tables e below (s₁.setTop (mkF m 29 #[.val (.int p1), .unset] [(.int (102 : Int32)), (.int p1)])) _
            refine XS.icmpYes X0.here hx rfl (pc0 := 29) (pc' := 43) rfl (hb hby d6_29) rfl (tlt (g1 : (102 : Int32) < p1)).2.2.1 (by decide) (by decide) ?_
            show Steps p.tables e below (s₁.setTop (mkF m 43 #[.val (.int p1), .unset] [])) _
            refine XS.iloadN X0.here hx rfl (hb hby d6_43) rfl ?_
            show Steps p.tables e below (s₁.setTop (mkF m 44 #[.val (.int p1), .unset] [(.int p1)])) _
            refine XS.bipush X0.here hx rfl (hb hby d6_44) ?_
            show Steps p.tables e below (s₁.setTop (mkF m 46 #[.val (.int p1), .unset] [(.int (65 : Int32)), (.int p1)])) _
            refine XS.icmpYes X0.here hx rfl (pc0 := 46) (pc' := 66) rfl (hb hby d6_46) rfl (tlt (l2 : p1 < (65 : Int32))).1 (by decide) (by decide) ?_
            show Steps p.tables e below (s₁.setTop (mkF m 66 #[.val (.int p1), .unset] [])) _
            refine XS.iconst X0.here hx rfl (hb hby d6_66) ?_
            show Steps p.tables e below (s₁.setTop (mkF m 67 #[.val (.int p1), .unset] [(.int (-1 : Int32))])) _
            refine XS.istoreN X0.here hx rfl (hb hby d6_67) rfl (l' := #[.val (.int p1), .val (.int (-1 : Int32))]) rfl ?_
            show Steps p.tables e below (s₁.setTop (mkF m 68 #[.val (.int p1), .val (.int (-1 : Int32))] [])) _
            refine XS.iloadN X0.here hx rfl (hb hby d6_68) rfl ?_
            exact kt
          obtain ⟨fs, hr, hrun, hended, hW, hsame⟩ := X0.leave (v := some (.int (-1 : Int32))) (fun h => by rw [Bd.returns] at h; cases h)
          refine ⟨_, _, pre0 _ (fl4 _ ?_), hrun, hended, _, _, rfl, ?_, ⟨_, rfl⟩, hW, hsame.mono (by decide) (by decide)⟩
          · exact retI X0 hx Bd.returns (hb hby d6_69) hr
          · show Q6 _ _ _ _ _ _ s₁.heap _
            rw [e0]
            exact ⟨rfl, N0, rfl⟩
        · by_cases g2 : (70 : Int32) < p1
          · have q : own_hex p1 = -1 := by unfold own_hex; rw [if_neg (fun u => ?_), if_neg (fun u => ?_), if_neg (fun u => ?_)] <;> simp_all
            rw [q] at hr
            subst hr
            have fl5 : ∀ target, Steps p.tables e below (s₁.setTop (mkF m 69 #[.val (.int p1), .val (.int (-1 : Int32))] [(.int (-1 : Int32))])) target → Steps p.tables e below (s₁.setTop (mkF m 0 #[.val (.int p1), .unset] [])) target := fun target kt => by
              show Steps p.tables e below (s₁.setTop (mkF m 0 #[.val (.int p1), .unset] [])) _
              refine XS.iloadN X0.here hx rfl (hb hby d6_0) rfl ?_
              show Steps p.tables e below (s₁.setTop (mkF m 1 #[.val (.int p1), .unset] [(.int p1)])) _
              refine XS.bipush X0.here hx rfl (hb hby d6_1) ?_
              show Steps p.tables e below (s₁.setTop (mkF m 3 #[.val (.int p1), .unset] [(.int (48 : Int32)), (.int p1)])) _
              refine XS.icmpYes X0.here hx rfl (pc0 := 3) (pc' := 20) rfl (hb hby d6_3) rfl (tlt (l0 : p1 < (48 : Int32))).1 (by decide) (by decide) ?_
              show Steps p.tables e below (s₁.setTop (mkF m 20 #[.val (.int p1), .unset] [])) _
              refine XS.iloadN X0.here hx rfl (hb hby d6_20) rfl ?_
              show Steps p.tables e below (s₁.setTop (mkF m 21 #[.val (.int p1), .unset] [(.int p1)])) _
              refine XS.bipush X0.here hx rfl (hb hby d6_21) ?_
              show Steps p.tables e below (s₁.setTop (mkF m 23 #[.val (.int p1), .unset] [(.int (97 : Int32)), (.int p1)])) _
              refine XS.icmpNo X0.here hx rfl (hb hby d6_23) rfl (flt (l1 : ¬ (p1 < (97 : Int32)))).1 ?_
              show Steps p.tables e below (s₁.setTop (mkF m 26 #[.val (.int p1), .unset] [])) _
              refine XS.iloadN X0.here hx rfl (hb hby d6_26) rfl ?_
              show Steps p.tables e below (s₁.setTop (mkF m 27 #[.val (.int p1), .unset] [(.int p1)])) _
              refine XS.bipush X0.here hx rfl (hb hby d6_27) ?_
              show Steps p.tables e below (s₁.setTop (mkF m 29 #[.val (.int p1), .unset] [(.int (102 : Int32)), (.int p1)])) _
              refine XS.icmpYes X0.here hx rfl (pc0 := 29) (pc' := 43) rfl (hb hby d6_29) rfl (tlt (g1 : (102 : Int32) < p1)).2.2.1 (by decide) (by decide) ?_
              show Steps p.tables e below (s₁.setTop (mkF m 43 #[.val (.int p1), .unset] [])) _
              refine XS.iloadN X0.here hx rfl (hb hby d6_43) rfl ?_
              show Steps p.tables e below (s₁.setTop (mkF m 44 #[.val (.int p1), .unset] [(.int p1)])) _
              refine XS.bipush X0.here hx rfl (hb hby d6_44) ?_
              show Steps p.tables e below (s₁.setTop (mkF m 46 #[.val (.int p1), .unset] [(.int (65 : Int32)), (.int p1)])) _
              refine XS.icmpNo X0.here hx rfl (hb hby d6_46) rfl (flt (l2 : ¬ (p1 < (65 : Int32)))).1 ?_
              show Steps p.tables e below (s₁.setTop (mkF m 49 #[.val (.int p1), .unset] [])) _
              refine XS.iloadN X0.here hx rfl (hb hby d6_49) rfl ?_
              show Steps p.tables e below (s₁.setTop (mkF m 50 #[.val (.int p1), .unset] [(.int p1)])) _
              refine XS.bipush X0.here hx rfl (hb hby d6_50) ?_
              show Steps p.tables e below (s₁.setTop (mkF m 52 #[.val (.int p1), .unset] [(.int (70 : Int32)), (.int p1)])) _
              refine XS.icmpYes X0.here hx rfl (pc0 := 52) (pc' := 66) rfl (hb hby d6_52) rfl (tlt (g2 : (70 : Int32) < p1)).2.2.1 (by decide) (by decide) ?_
              show Steps p.tables e below (s₁.setTop (mkF m 66 #[.val (.int p1), .unset] [])) _
              refine XS.iconst X0.here hx rfl (hb hby d6_66) ?_
              show Steps p.tables e below (s₁.setTop (mkF m 67 #[.val (.int p1), .unset] [(.int (-1 : Int32))])) _
              refine XS.istoreN X0.here hx rfl (hb hby d6_67) rfl (l' := #[.val (.int p1), .val (.int (-1 : Int32))]) rfl ?_
              show Steps p.tables e below (s₁.setTop (mkF m 68 #[.val (.int p1), .val (.int (-1 : Int32))] [])) _
              refine XS.iloadN X0.here hx rfl (hb hby d6_68) rfl ?_
              exact kt
            obtain ⟨fs, hr, hrun, hended, hW, hsame⟩ := X0.leave (v := some (.int (-1 : Int32))) (fun h => by rw [Bd.returns] at h; cases h)
            refine ⟨_, _, pre0 _ (fl5 _ ?_), hrun, hended, _, _, rfl, ?_, ⟨_, rfl⟩, hW, hsame.mono (by decide) (by decide)⟩
            · exact retI X0 hx Bd.returns (hb hby d6_69) hr
            · show Q6 _ _ _ _ _ _ s₁.heap _
              rw [e0]
              exact ⟨rfl, N0, rfl⟩
          · have q : own_hex p1 = p1 - 65 + 10 := by unfold own_hex; rw [if_neg (fun u => ?_), if_neg (fun u => ?_), if_pos ⟨l2, g2⟩] <;> simp_all
            rw [q] at hr
            subst hr
            have fl6 : ∀ target, Steps p.tables e below (s₁.setTop (mkF m 69 #[.val (.int p1), .val (.int ((p1 - (65 : Int32)) + (10 : Int32)))] [(.int ((p1 - (65 : Int32)) + (10 : Int32)))])) target → Steps p.tables e below (s₁.setTop (mkF m 0 #[.val (.int p1), .unset] [])) target := fun target kt => by
              show Steps p.tables e below (s₁.setTop (mkF m 0 #[.val (.int p1), .unset] [])) _
              refine XS.iloadN X0.here hx rfl (hb hby d6_0) rfl ?_
              show Steps p.tables e below (s₁.setTop (mkF m 1 #[.val (.int p1), .unset] [(.int p1)])) _
              refine XS.bipush X0.here hx rfl (hb hby d6_1) ?_
              show Steps p.tables e below (s₁.setTop (mkF m 3 #[.val (.int p1), .unset] [(.int (48 : Int32)), (.int p1)])) _
              refine XS.icmpYes X0.here hx rfl (pc0 := 3) (pc' := 20) rfl (hb hby d6_3) rfl (tlt (l0 : p1 < (48 : Int32))).1 (by decide) (by decide) ?_
              show Steps p.tables e below (s₁.setTop (mkF m 20 #[.val (.int p1), .unset] [])) _
              refine XS.iloadN X0.here hx rfl (hb hby d6_20) rfl ?_
              show Steps p.tables e below (s₁.setTop (mkF m 21 #[.val (.int p1), .unset] [(.int p1)])) _
              refine XS.bipush X0.here hx rfl (hb hby d6_21) ?_
              show Steps p.tables e below (s₁.setTop (mkF m 23 #[.val (.int p1), .unset] [(.int (97 : Int32)), (.int p1)])) _
              refine XS.icmpNo X0.here hx rfl (hb hby d6_23) rfl (flt (l1 : ¬ (p1 < (97 : Int32)))).1 ?_
              show Steps p.tables e below (s₁.setTop (mkF m 26 #[.val (.int p1), .unset] [])) _
              refine XS.iloadN X0.here hx rfl (hb hby d6_26) rfl ?_
              show Steps p.tables e below (s₁.setTop (mkF m 27 #[.val (.int p1), .unset] [(.int p1)])) _
              refine XS.bipush X0.here hx rfl (hb hby d6_27) ?_
              show Steps p.tables e below (s₁.setTop (mkF m 29 #[.val (.int p1), .unset] [(.int (102 : Int32)), (.int p1)])) _
              refine XS.icmpYes X0.here hx rfl (pc0 := 29) (pc' := 43) rfl (hb hby d6_29) rfl (tlt (g1 : (102 : Int32) < p1)).2.2.1 (by decide) (by decide) ?_
              show Steps p.tables e below (s₁.setTop (mkF m 43 #[.val (.int p1), .unset] [])) _
              refine XS.iloadN X0.here hx rfl (hb hby d6_43) rfl ?_
              show Steps p.tables e below (s₁.setTop (mkF m 44 #[.val (.int p1), .unset] [(.int p1)])) _
              refine XS.bipush X0.here hx rfl (hb hby d6_44) ?_
              show Steps p.tables e below (s₁.setTop (mkF m 46 #[.val (.int p1), .unset] [(.int (65 : Int32)), (.int p1)])) _
              refine XS.icmpNo X0.here hx rfl (hb hby d6_46) rfl (flt (l2 : ¬ (p1 < (65 : Int32)))).1 ?_
              show Steps p.tables e below (s₁.setTop (mkF m 49 #[.val (.int p1), .unset] [])) _
              refine XS.iloadN X0.here hx rfl (hb hby d6_49) rfl ?_
              show Steps p.tables e below (s₁.setTop (mkF m 50 #[.val (.int p1), .unset] [(.int p1)])) _
              refine XS.bipush X0.here hx rfl (hb hby d6_50) ?_
              show Steps p.tables e below (s₁.setTop (mkF m 52 #[.val (.int p1), .unset] [(.int (70 : Int32)), (.int p1)])) _
              refine XS.icmpNo X0.here hx rfl (hb hby d6_52) rfl (flt (g2 : ¬ ((70 : Int32) < p1))).2.2.1 ?_
              show Steps p.tables e below (s₁.setTop (mkF m 55 #[.val (.int p1), .unset] [])) _
              refine XS.iloadN X0.here hx rfl (hb hby d6_55) rfl ?_
              show Steps p.tables e below (s₁.setTop (mkF m 56 #[.val (.int p1), .unset] [(.int p1)])) _
              refine XS.bipush X0.here hx rfl (hb hby d6_56) ?_
              show Steps p.tables e below (s₁.setTop (mkF m 58 #[.val (.int p1), .unset] [(.int (65 : Int32)), (.int p1)])) _
              refine XS.isub X0.here hx rfl (hb hby d6_58) rfl ?_
              show Steps p.tables e below (s₁.setTop (mkF m 59 #[.val (.int p1), .unset] [(.int (p1 - (65 : Int32)))])) _
              refine XS.bipush X0.here hx rfl (hb hby d6_59) ?_
              show Steps p.tables e below (s₁.setTop (mkF m 61 #[.val (.int p1), .unset] [(.int (10 : Int32)), (.int (p1 - (65 : Int32)))])) _
              refine XS.iadd X0.here hx rfl (hb hby d6_61) rfl ?_
              show Steps p.tables e below (s₁.setTop (mkF m 62 #[.val (.int p1), .unset] [(.int ((p1 - (65 : Int32)) + (10 : Int32)))])) _
              refine XS.istoreN X0.here hx rfl (hb hby d6_62) rfl (l' := #[.val (.int p1), .val (.int ((p1 - (65 : Int32)) + (10 : Int32)))]) rfl ?_
              show Steps p.tables e below (s₁.setTop (mkF m 63 #[.val (.int p1), .val (.int ((p1 - (65 : Int32)) + (10 : Int32)))] [])) _
              refine XS.goto X0.here hx rfl (pc0 := 63) (pc' := 68) rfl (hb hby d6_63) (by decide) (by decide) ?_
              show Steps p.tables e below (s₁.setTop (mkF m 68 #[.val (.int p1), .val (.int ((p1 - (65 : Int32)) + (10 : Int32)))] [])) _
              refine XS.iloadN X0.here hx rfl (hb hby d6_68) rfl ?_
              exact kt
            obtain ⟨fs, hr, hrun, hended, hW, hsame⟩ := X0.leave (v := some (.int ((p1 - (65 : Int32)) + (10 : Int32)))) (fun h => by rw [Bd.returns] at h; cases h)
            refine ⟨_, _, pre0 _ (fl6 _ ?_), hrun, hended, _, _, rfl, ?_, ⟨_, rfl⟩, hW, hsame.mono (by decide) (by decide)⟩
            · exact retI X0 hx Bd.returns (hb hby d6_69) hr
            · show Q6 _ _ _ _ _ _ s₁.heap _
              rw [e0]
              exact ⟨rfl, N0, rfl⟩
      · have q : own_hex p1 = p1 - 97 + 10 := by unfold own_hex; rw [if_neg (fun u => ?_), if_pos ⟨l1, g1⟩] <;> simp_all
        rw [q] at hr
        subst hr
        have fl7 : ∀ target, Steps p.tables e below (s₁.setTop (mkF m 69 #[.val (.int p1), .val (.int ((p1 - (97 : Int32)) + (10 : Int32)))] [(.int ((p1 - (97 : Int32)) + (10 : Int32)))])) target → Steps p.tables e below (s₁.setTop (mkF m 0 #[.val (.int p1), .unset] [])) target := fun target kt => by
          show Steps p.tables e below (s₁.setTop (mkF m 0 #[.val (.int p1), .unset] [])) _
          refine XS.iloadN X0.here hx rfl (hb hby d6_0) rfl ?_
          show Steps p.tables e below (s₁.setTop (mkF m 1 #[.val (.int p1), .unset] [(.int p1)])) _
          refine XS.bipush X0.here hx rfl (hb hby d6_1) ?_
          show Steps p.tables e below (s₁.setTop (mkF m 3 #[.val (.int p1), .unset] [(.int (48 : Int32)), (.int p1)])) _
          refine XS.icmpYes X0.here hx rfl (pc0 := 3) (pc' := 20) rfl (hb hby d6_3) rfl (tlt (l0 : p1 < (48 : Int32))).1 (by decide) (by decide) ?_
          show Steps p.tables e below (s₁.setTop (mkF m 20 #[.val (.int p1), .unset] [])) _
          refine XS.iloadN X0.here hx rfl (hb hby d6_20) rfl ?_
          show Steps p.tables e below (s₁.setTop (mkF m 21 #[.val (.int p1), .unset] [(.int p1)])) _
          refine XS.bipush X0.here hx rfl (hb hby d6_21) ?_
          show Steps p.tables e below (s₁.setTop (mkF m 23 #[.val (.int p1), .unset] [(.int (97 : Int32)), (.int p1)])) _
          refine XS.icmpNo X0.here hx rfl (hb hby d6_23) rfl (flt (l1 : ¬ (p1 < (97 : Int32)))).1 ?_
          show Steps p.tables e below (s₁.setTop (mkF m 26 #[.val (.int p1), .unset] [])) _
          refine XS.iloadN X0.here hx rfl (hb hby d6_26) rfl ?_
          show Steps p.tables e below (s₁.setTop (mkF m 27 #[.val (.int p1), .unset] [(.int p1)])) _
          refine XS.bipush X0.here hx rfl (hb hby d6_27) ?_
          show Steps p.tables e below (s₁.setTop (mkF m 29 #[.val (.int p1), .unset] [(.int (102 : Int32)), (.int p1)])) _
          refine XS.icmpNo X0.here hx rfl (hb hby d6_29) rfl (flt (g1 : ¬ ((102 : Int32) < p1))).2.2.1 ?_
          show Steps p.tables e below (s₁.setTop (mkF m 32 #[.val (.int p1), .unset] [])) _
          refine XS.iloadN X0.here hx rfl (hb hby d6_32) rfl ?_
          show Steps p.tables e below (s₁.setTop (mkF m 33 #[.val (.int p1), .unset] [(.int p1)])) _
          refine XS.bipush X0.here hx rfl (hb hby d6_33) ?_
          show Steps p.tables e below (s₁.setTop (mkF m 35 #[.val (.int p1), .unset] [(.int (97 : Int32)), (.int p1)])) _
          refine XS.isub X0.here hx rfl (hb hby d6_35) rfl ?_
          show Steps p.tables e below (s₁.setTop (mkF m 36 #[.val (.int p1), .unset] [(.int (p1 - (97 : Int32)))])) _
          refine XS.bipush X0.here hx rfl (hb hby d6_36) ?_
          show Steps p.tables e below (s₁.setTop (mkF m 38 #[.val (.int p1), .unset] [(.int (10 : Int32)), (.int (p1 - (97 : Int32)))])) _
          refine XS.iadd X0.here hx rfl (hb hby d6_38) rfl ?_
          show Steps p.tables e below (s₁.setTop (mkF m 39 #[.val (.int p1), .unset] [(.int ((p1 - (97 : Int32)) + (10 : Int32)))])) _
          refine XS.istoreN X0.here hx rfl (hb hby d6_39) rfl (l' := #[.val (.int p1), .val (.int ((p1 - (97 : Int32)) + (10 : Int32)))]) rfl ?_
          show Steps p.tables e below (s₁.setTop (mkF m 40 #[.val (.int p1), .val (.int ((p1 - (97 : Int32)) + (10 : Int32)))] [])) _
          refine XS.goto X0.here hx rfl (pc0 := 40) (pc' := 68) rfl (hb hby d6_40) (by decide) (by decide) ?_
          show Steps p.tables e below (s₁.setTop (mkF m 68 #[.val (.int p1), .val (.int ((p1 - (97 : Int32)) + (10 : Int32)))] [])) _
          refine XS.iloadN X0.here hx rfl (hb hby d6_68) rfl ?_
          exact kt
        obtain ⟨fs, hr, hrun, hended, hW, hsame⟩ := X0.leave (v := some (.int ((p1 - (97 : Int32)) + (10 : Int32)))) (fun h => by rw [Bd.returns] at h; cases h)
        refine ⟨_, _, pre0 _ (fl7 _ ?_), hrun, hended, _, _, rfl, ?_, ⟨_, rfl⟩, hW, hsame.mono (by decide) (by decide)⟩
        · exact retI X0 hx Bd.returns (hb hby d6_69) hr
        · show Q6 _ _ _ _ _ _ s₁.heap _
          rw [e0]
          exact ⟨rfl, N0, rfl⟩
  · by_cases g0 : (57 : Int32) < p1
    · by_cases l1 : p1 < (97 : Int32)
      · by_cases l2 : p1 < (65 : Int32)
        · have q : own_hex p1 = -1 := by unfold own_hex; rw [if_neg (fun u => ?_), if_neg (fun u => ?_), if_neg (fun u => ?_)] <;> simp_all
          rw [q] at hr
          subst hr
          have fl8 : ∀ target, Steps p.tables e below (s₁.setTop (mkF m 69 #[.val (.int p1), .val (.int (-1 : Int32))] [(.int (-1 : Int32))])) target → Steps p.tables e below (s₁.setTop (mkF m 0 #[.val (.int p1), .unset] [])) target := fun target kt => by
            show Steps p.tables e below (s₁.setTop (mkF m 0 #[.val (.int p1), .unset] [])) _
            refine XS.iloadN X0.here hx rfl (hb hby d6_0) rfl ?_
            show Steps p.tables e below (s₁.setTop (mkF m 1 #[.val (.int p1), .unset] [(.int p1)])) _
            refine XS.bipush X0.here hx rfl (hb hby d6_1) ?_
            show Steps p.tables e below (s₁.setTop (mkF m 3 #[.val (.int p1), .unset] [(.int (48 : Int32)), (.int p1)])) _
            refine XS.icmpNo X0.here hx rfl (hb hby d6_3) rfl (flt (l0 : ¬ (p1 < (48 : Int32)))).1 ?_
            show Steps p.tables e below (s₁.setTop (mkF m 6 #[.val (.int p1), .unset] [])) _
            refine XS.iloadN X0.here hx rfl (hb hby d6_6) rfl ?_
            show Steps p.tables e below (s₁.setTop (mkF m 7 #[.val (.int p1), .unset] [(.int p1)])) _
            refine XS.bipush X0.here hx rfl (hb hby d6_7) ?_
            show Steps p.tables e below (s₁.setTop (mkF m 9 #[.val (.int p1), .unset] [(.int (57 : Int32)), (.int p1)])) _
            refine XS.icmpYes X0.here hx rfl (pc0 := 9) (pc' := 20) rfl (hb hby d6_9) rfl (tlt (g0 : (57 : Int32) < p1)).2.2.1 (by decide) (by decide) ?_
            show Steps p.tables e below (s₁.setTop (mkF m 20 #[.val (.int p1), .unset] [])) _
            refine XS.iloadN X0.here hx rfl (hb hby d6_20) rfl ?_
            show Steps p.tables e below (s₁.setTop (mkF m 21 #[.val (.int p1), .unset] [(.int p1)])) _
            refine XS.bipush X0.here hx rfl (hb hby d6_21) ?_
            show Steps p.tables e below (s₁.setTop (mkF m 23 #[.val (.int p1), .unset] [(.int (97 : Int32)), (.int p1)])) _
            refine XS.icmpYes X0.here hx rfl (pc0 := 23) (pc' := 43) rfl (hb hby d6_23) rfl (tlt (l1 : p1 < (97 : Int32))).1 (by decide) (by decide) ?_
            show Steps p.tables e below (s₁.setTop (mkF m 43 #[.val (.int p1), .unset] [])) _
            refine XS.iloadN X0.here hx rfl (hb hby d6_43) rfl ?_
            show Steps p.tables e below (s₁.setTop (mkF m 44 #[.val (.int p1), .unset] [(.int p1)])) _
            refine XS.bipush X0.here hx rfl (hb hby d6_44) ?_
            show Steps p.tables e below (s₁.setTop (mkF m 46 #[.val (.int p1), .unset] [(.int (65 : Int32)), (.int p1)])) _
            refine XS.icmpYes X0.here hx rfl (pc0 := 46) (pc' := 66) rfl (hb hby d6_46) rfl (tlt (l2 : p1 < (65 : Int32))).1 (by decide) (by decide) ?_
            show Steps p.tables e below (s₁.setTop (mkF m 66 #[.val (.int p1), .unset] [])) _
            refine XS.iconst X0.here hx rfl (hb hby d6_66) ?_
            show Steps p.tables e below (s₁.setTop (mkF m 67 #[.val (.int p1), .unset] [(.int (-1 : Int32))])) _
            refine XS.istoreN X0.here hx rfl (hb hby d6_67) rfl (l' := #[.val (.int p1), .val (.int (-1 : Int32))]) rfl ?_
            show Steps p.tables e below (s₁.setTop (mkF m 68 #[.val (.int p1), .val (.int (-1 : Int32))] [])) _
            refine XS.iloadN X0.here hx rfl (hb hby d6_68) rfl ?_
            exact kt
          obtain ⟨fs, hr, hrun, hended, hW, hsame⟩ := X0.leave (v := some (.int (-1 : Int32))) (fun h => by rw [Bd.returns] at h; cases h)
          refine ⟨_, _, pre0 _ (fl8 _ ?_), hrun, hended, _, _, rfl, ?_, ⟨_, rfl⟩, hW, hsame.mono (by decide) (by decide)⟩
          · exact retI X0 hx Bd.returns (hb hby d6_69) hr
          · show Q6 _ _ _ _ _ _ s₁.heap _
            rw [e0]
            exact ⟨rfl, N0, rfl⟩
        · by_cases g2 : (70 : Int32) < p1
          · have q : own_hex p1 = -1 := by unfold own_hex; rw [if_neg (fun u => ?_), if_neg (fun u => ?_), if_neg (fun u => ?_)] <;> simp_all
            rw [q] at hr
            subst hr
            have fl9 : ∀ target, Steps p.tables e below (s₁.setTop (mkF m 69 #[.val (.int p1), .val (.int (-1 : Int32))] [(.int (-1 : Int32))])) target → Steps p.tables e below (s₁.setTop (mkF m 0 #[.val (.int p1), .unset] [])) target := fun target kt => by
              show Steps p.tables e below (s₁.setTop (mkF m 0 #[.val (.int p1), .unset] [])) _
              refine XS.iloadN X0.here hx rfl (hb hby d6_0) rfl ?_
              show Steps p.tables e below (s₁.setTop (mkF m 1 #[.val (.int p1), .unset] [(.int p1)])) _
              refine XS.bipush X0.here hx rfl (hb hby d6_1) ?_
              show Steps p.tables e below (s₁.setTop (mkF m 3 #[.val (.int p1), .unset] [(.int (48 : Int32)), (.int p1)])) _
              refine XS.icmpNo X0.here hx rfl (hb hby d6_3) rfl (flt (l0 : ¬ (p1 < (48 : Int32)))).1 ?_
              show Steps p.tables e below (s₁.setTop (mkF m 6 #[.val (.int p1), .unset] [])) _
              refine XS.iloadN X0.here hx rfl (hb hby d6_6) rfl ?_
              show Steps p.tables e below (s₁.setTop (mkF m 7 #[.val (.int p1), .unset] [(.int p1)])) _
              refine XS.bipush X0.here hx rfl (hb hby d6_7) ?_
              show Steps p.tables e below (s₁.setTop (mkF m 9 #[.val (.int p1), .unset] [(.int (57 : Int32)), (.int p1)])) _
              refine XS.icmpYes X0.here hx rfl (pc0 := 9) (pc' := 20) rfl (hb hby d6_9) rfl (tlt (g0 : (57 : Int32) < p1)).2.2.1 (by decide) (by decide) ?_
              show Steps p.tables e below (s₁.setTop (mkF m 20 #[.val (.int p1), .unset] [])) _
              refine XS.iloadN X0.here hx rfl (hb hby d6_20) rfl ?_
              show Steps p.tables e below (s₁.setTop (mkF m 21 #[.val (.int p1), .unset] [(.int p1)])) _
              refine XS.bipush X0.here hx rfl (hb hby d6_21) ?_
              show Steps p.tables e below (s₁.setTop (mkF m 23 #[.val (.int p1), .unset] [(.int (97 : Int32)), (.int p1)])) _
              refine XS.icmpYes X0.here hx rfl (pc0 := 23) (pc' := 43) rfl (hb hby d6_23) rfl (tlt (l1 : p1 < (97 : Int32))).1 (by decide) (by decide) ?_
              show Steps p.tables e below (s₁.setTop (mkF m 43 #[.val (.int p1), .unset] [])) _
              refine XS.iloadN X0.here hx rfl (hb hby d6_43) rfl ?_
              show Steps p.tables e below (s₁.setTop (mkF m 44 #[.val (.int p1), .unset] [(.int p1)])) _
              refine XS.bipush X0.here hx rfl (hb hby d6_44) ?_
              show Steps p.tables e below (s₁.setTop (mkF m 46 #[.val (.int p1), .unset] [(.int (65 : Int32)), (.int p1)])) _
              refine XS.icmpNo X0.here hx rfl (hb hby d6_46) rfl (flt (l2 : ¬ (p1 < (65 : Int32)))).1 ?_
              show Steps p.tables e below (s₁.setTop (mkF m 49 #[.val (.int p1), .unset] [])) _
              refine XS.iloadN X0.here hx rfl (hb hby d6_49) rfl ?_
              show Steps p.tables e below (s₁.setTop (mkF m 50 #[.val (.int p1), .unset] [(.int p1)])) _
              refine XS.bipush X0.here hx rfl (hb hby d6_50) ?_
              show Steps p.tables e below (s₁.setTop (mkF m 52 #[.val (.int p1), .unset] [(.int (70 : Int32)), (.int p1)])) _
              refine XS.icmpYes X0.here hx rfl (pc0 := 52) (pc' := 66) rfl (hb hby d6_52) rfl (tlt (g2 : (70 : Int32) < p1)).2.2.1 (by decide) (by decide) ?_
              show Steps p.tables e below (s₁.setTop (mkF m 66 #[.val (.int p1), .unset] [])) _
              refine XS.iconst X0.here hx rfl (hb hby d6_66) ?_
              show Steps p.tables e below (s₁.setTop (mkF m 67 #[.val (.int p1), .unset] [(.int (-1 : Int32))])) _
              refine XS.istoreN X0.here hx rfl (hb hby d6_67) rfl (l' := #[.val (.int p1), .val (.int (-1 : Int32))]) rfl ?_
              show Steps p.tables e below (s₁.setTop (mkF m 68 #[.val (.int p1), .val (.int (-1 : Int32))] [])) _
              refine XS.iloadN X0.here hx rfl (hb hby d6_68) rfl ?_
              exact kt
            obtain ⟨fs, hr, hrun, hended, hW, hsame⟩ := X0.leave (v := some (.int (-1 : Int32))) (fun h => by rw [Bd.returns] at h; cases h)
            refine ⟨_, _, pre0 _ (fl9 _ ?_), hrun, hended, _, _, rfl, ?_, ⟨_, rfl⟩, hW, hsame.mono (by decide) (by decide)⟩
            · exact retI X0 hx Bd.returns (hb hby d6_69) hr
            · show Q6 _ _ _ _ _ _ s₁.heap _
              rw [e0]
              exact ⟨rfl, N0, rfl⟩
          · have q : own_hex p1 = p1 - 65 + 10 := by unfold own_hex; rw [if_neg (fun u => ?_), if_neg (fun u => ?_), if_pos ⟨l2, g2⟩] <;> simp_all
            rw [q] at hr
            subst hr
            have fl10 : ∀ target, Steps p.tables e below (s₁.setTop (mkF m 69 #[.val (.int p1), .val (.int ((p1 - (65 : Int32)) + (10 : Int32)))] [(.int ((p1 - (65 : Int32)) + (10 : Int32)))])) target → Steps p.tables e below (s₁.setTop (mkF m 0 #[.val (.int p1), .unset] [])) target := fun target kt => by
              show Steps p.tables e below (s₁.setTop (mkF m 0 #[.val (.int p1), .unset] [])) _
              refine XS.iloadN X0.here hx rfl (hb hby d6_0) rfl ?_
              show Steps p.tables e below (s₁.setTop (mkF m 1 #[.val (.int p1), .unset] [(.int p1)])) _
              refine XS.bipush X0.here hx rfl (hb hby d6_1) ?_
              show Steps p.tables e below (s₁.setTop (mkF m 3 #[.val (.int p1), .unset] [(.int (48 : Int32)), (.int p1)])) _
              refine XS.icmpNo X0.here hx rfl (hb hby d6_3) rfl (flt (l0 : ¬ (p1 < (48 : Int32)))).1 ?_
              show Steps p.tables e below (s₁.setTop (mkF m 6 #[.val (.int p1), .unset] [])) _
              refine XS.iloadN X0.here hx rfl (hb hby d6_6) rfl ?_
              show Steps p.tables e below (s₁.setTop (mkF m 7 #[.val (.int p1), .unset] [(.int p1)])) _
              refine XS.bipush X0.here hx rfl (hb hby d6_7) ?_
              show Steps p.tables e below (s₁.setTop (mkF m 9 #[.val (.int p1), .unset] [(.int (57 : Int32)), (.int p1)])) _
              refine XS.icmpYes X0.here hx rfl (pc0 := 9) (pc' := 20) rfl (hb hby d6_9) rfl (tlt (g0 : (57 : Int32) < p1)).2.2.1 (by decide) (by decide) ?_
              show Steps p.tables e below (s₁.setTop (mkF m 20 #[.val (.int p1), .unset] [])) _
              refine XS.iloadN X0.here hx rfl (hb hby d6_20) rfl ?_
              show Steps p.tables e below (s₁.setTop (mkF m 21 #[.val (.int p1), .unset] [(.int p1)])) _
              refine XS.bipush X0.here hx rfl (hb hby d6_21) ?_
              show Steps p.tables e below (s₁.setTop (mkF m 23 #[.val (.int p1), .unset] [(.int (97 : Int32)), (.int p1)])) _
              refine XS.icmpYes X0.here hx rfl (pc0 := 23) (pc' := 43) rfl (hb hby d6_23) rfl (tlt (l1 : p1 < (97 : Int32))).1 (by decide) (by decide) ?_
              show Steps p.tables e below (s₁.setTop (mkF m 43 #[.val (.int p1), .unset] [])) _
              refine XS.iloadN X0.here hx rfl (hb hby d6_43) rfl ?_
              show Steps p.tables e below (s₁.setTop (mkF m 44 #[.val (.int p1), .unset] [(.int p1)])) _
              refine XS.bipush X0.here hx rfl (hb hby d6_44) ?_
              show Steps p.tables e below (s₁.setTop (mkF m 46 #[.val (.int p1), .unset] [(.int (65 : Int32)), (.int p1)])) _
              refine XS.icmpNo X0.here hx rfl (hb hby d6_46) rfl (flt (l2 : ¬ (p1 < (65 : Int32)))).1 ?_
              show Steps p.tables e below (s₁.setTop (mkF m 49 #[.val (.int p1), .unset] [])) _
              refine XS.iloadN X0.here hx rfl (hb hby d6_49) rfl ?_
              show Steps p.tables e below (s₁.setTop (mkF m 50 #[.val (.int p1), .unset] [(.int p1)])) _
              refine XS.bipush X0.here hx rfl (hb hby d6_50) ?_
              show Steps p.tables e below (s₁.setTop (mkF m 52 #[.val (.int p1), .unset] [(.int (70 : Int32)), (.int p1)])) _
              refine XS.icmpNo X0.here hx rfl (hb hby d6_52) rfl (flt (g2 : ¬ ((70 : Int32) < p1))).2.2.1 ?_
              show Steps p.tables e below (s₁.setTop (mkF m 55 #[.val (.int p1), .unset] [])) _
              refine XS.iloadN X0.here hx rfl (hb hby d6_55) rfl ?_
              show Steps p.tables e below (s₁.setTop (mkF m 56 #[.val (.int p1), .unset] [(.int p1)])) _
              refine XS.bipush X0.here hx rfl (hb hby d6_56) ?_
              show Steps p.tables e below (s₁.setTop (mkF m 58 #[.val (.int p1), .unset] [(.int (65 : Int32)), (.int p1)])) _
              refine XS.isub X0.here hx rfl (hb hby d6_58) rfl ?_
              show Steps p.tables e below (s₁.setTop (mkF m 59 #[.val (.int p1), .unset] [(.int (p1 - (65 : Int32)))])) _
              refine XS.bipush X0.here hx rfl (hb hby d6_59) ?_
              show Steps p.tables e below (s₁.setTop (mkF m 61 #[.val (.int p1), .unset] [(.int (10 : Int32)), (.int (p1 - (65 : Int32)))])) _
              refine XS.iadd X0.here hx rfl (hb hby d6_61) rfl ?_
              show Steps p.tables e below (s₁.setTop (mkF m 62 #[.val (.int p1), .unset] [(.int ((p1 - (65 : Int32)) + (10 : Int32)))])) _
              refine XS.istoreN X0.here hx rfl (hb hby d6_62) rfl (l' := #[.val (.int p1), .val (.int ((p1 - (65 : Int32)) + (10 : Int32)))]) rfl ?_
              show Steps p.tables e below (s₁.setTop (mkF m 63 #[.val (.int p1), .val (.int ((p1 - (65 : Int32)) + (10 : Int32)))] [])) _
              refine XS.goto X0.here hx rfl (pc0 := 63) (pc' := 68) rfl (hb hby d6_63) (by decide) (by decide) ?_
              show Steps p.tables e below (s₁.setTop (mkF m 68 #[.val (.int p1), .val (.int ((p1 - (65 : Int32)) + (10 : Int32)))] [])) _
              refine XS.iloadN X0.here hx rfl (hb hby d6_68) rfl ?_
              exact kt
            obtain ⟨fs, hr, hrun, hended, hW, hsame⟩ := X0.leave (v := some (.int ((p1 - (65 : Int32)) + (10 : Int32)))) (fun h => by rw [Bd.returns] at h; cases h)
            refine ⟨_, _, pre0 _ (fl10 _ ?_), hrun, hended, _, _, rfl, ?_, ⟨_, rfl⟩, hW, hsame.mono (by decide) (by decide)⟩
            · exact retI X0 hx Bd.returns (hb hby d6_69) hr
            · show Q6 _ _ _ _ _ _ s₁.heap _
              rw [e0]
              exact ⟨rfl, N0, rfl⟩
      · by_cases g1 : (102 : Int32) < p1
        · by_cases l2 : p1 < (65 : Int32)
          · have q : own_hex p1 = -1 := by unfold own_hex; rw [if_neg (fun u => ?_), if_neg (fun u => ?_), if_neg (fun u => ?_)] <;> simp_all
            rw [q] at hr
            subst hr
            have fl11 : ∀ target, Steps p.tables e below (s₁.setTop (mkF m 69 #[.val (.int p1), .val (.int (-1 : Int32))] [(.int (-1 : Int32))])) target → Steps p.tables e below (s₁.setTop (mkF m 0 #[.val (.int p1), .unset] [])) target := fun target kt => by
              show Steps p.tables e below (s₁.setTop (mkF m 0 #[.val (.int p1), .unset] [])) _
              refine XS.iloadN X0.here hx rfl (hb hby d6_0) rfl ?_
              show Steps p.tables e below (s₁.setTop (mkF m 1 #[.val (.int p1), .unset] [(.int p1)])) _
              refine XS.bipush X0.here hx rfl (hb hby d6_1) ?_
              show Steps p.tables e below (s₁.setTop (mkF m 3 #[.val (.int p1), .unset] [(.int (48 : Int32)), (.int p1)])) _
              refine XS.icmpNo X0.here hx rfl (hb hby d6_3) rfl (flt (l0 : ¬ (p1 < (48 : Int32)))).1 ?_
              show Steps p.tables e below (s₁.setTop (mkF m 6 #[.val (.int p1), .unset] [])) _
              refine XS.iloadN X0.here hx rfl (hb hby d6_6) rfl ?_
              show Steps p.tables e below (s₁.setTop (mkF m 7 #[.val (.int p1), .unset] [(.int p1)])) _
              refine XS.bipush X0.here hx rfl (hb hby d6_7) ?_
              show Steps p.tables e below (s₁.setTop (mkF m 9 #[.val (.int p1), .unset] [(.int (57 : Int32)), (.int p1)])) _
              refine XS.icmpYes X0.here hx rfl (pc0 := 9) (pc' := 20) rfl (hb hby d6_9) rfl (tlt (g0 : (57 : Int32) < p1)).2.2.1 (by decide) (by decide) ?_
              show Steps p.tables e below (s₁.setTop (mkF m 20 #[.val (.int p1), .unset] [])) _
              refine XS.iloadN X0.here hx rfl (hb hby d6_20) rfl ?_
              show Steps p.tables e below (s₁.setTop (mkF m 21 #[.val (.int p1), .unset] [(.int p1)])) _
              refine XS.bipush X0.here hx rfl (hb hby d6_21) ?_
              show Steps p.tables e below (s₁.setTop (mkF m 23 #[.val (.int p1), .unset] [(.int (97 : Int32)), (.int p1)])) _
              refine XS.icmpNo X0.here hx rfl (hb hby d6_23) rfl (flt (l1 : ¬ (p1 < (97 : Int32)))).1 ?_
              show Steps p.tables e below (s₁.setTop (mkF m 26 #[.val (.int p1), .unset] [])) _
              refine XS.iloadN X0.here hx rfl (hb hby d6_26) rfl ?_
              show Steps p.tables e below (s₁.setTop (mkF m 27 #[.val (.int p1), .unset] [(.int p1)])) _
              refine XS.bipush X0.here hx rfl (hb hby d6_27) ?_
              show Steps p.tables e below (s₁.setTop (mkF m 29 #[.val (.int p1), .unset] [(.int (102 : Int32)), (.int p1)])) _
              refine XS.icmpYes X0.here hx rfl (pc0 := 29) (pc' := 43) rfl (hb hby d6_29) rfl (tlt (g1 : (102 : Int32) < p1)).2.2.1 (by decide) (by decide) ?_
              show Steps p.tables e below (s₁.setTop (mkF m 43 #[.val (.int p1), .unset] [])) _
              refine XS.iloadN X0.here hx rfl (hb hby d6_43) rfl ?_
              show Steps p.tables e below (s₁.setTop (mkF m 44 #[.val (.int p1), .unset] [(.int p1)])) _
              refine XS.bipush X0.here hx rfl (hb hby d6_44) ?_
              show Steps p.tables e below (s₁.setTop (mkF m 46 #[.val (.int p1), .unset] [(.int (65 : Int32)), (.int p1)])) _
              refine XS.icmpYes X0.here hx rfl (pc0 := 46) (pc' := 66) rfl (hb hby d6_46) rfl (tlt (l2 : p1 < (65 : Int32))).1 (by decide) (by decide) ?_
              show Steps p.tables e below (s₁.setTop (mkF m 66 #[.val (.int p1), .unset] [])) _
              refine XS.iconst X0.here hx rfl (hb hby d6_66) ?_
              show Steps p.tables e below (s₁.setTop (mkF m 67 #[.val (.int p1), .unset] [(.int (-1 : Int32))])) _
              refine XS.istoreN X0.here hx rfl (hb hby d6_67) rfl (l' := #[.val (.int p1), .val (.int (-1 : Int32))]) rfl ?_
              show Steps p.tables e below (s₁.setTop (mkF m 68 #[.val (.int p1), .val (.int (-1 : Int32))] [])) _
              refine XS.iloadN X0.here hx rfl (hb hby d6_68) rfl ?_
              exact kt
            obtain ⟨fs, hr, hrun, hended, hW, hsame⟩ := X0.leave (v := some (.int (-1 : Int32))) (fun h => by rw [Bd.returns] at h; cases h)
            refine ⟨_, _, pre0 _ (fl11 _ ?_), hrun, hended, _, _, rfl, ?_, ⟨_, rfl⟩, hW, hsame.mono (by decide) (by decide)⟩
            · exact retI X0 hx Bd.returns (hb hby d6_69) hr
            · show Q6 _ _ _ _ _ _ s₁.heap _
              rw [e0]
              exact ⟨rfl, N0, rfl⟩
          · by_cases g2 : (70 : Int32) < p1
            · have q : own_hex p1 = -1 := by unfold own_hex; rw [if_neg (fun u => ?_), if_neg (fun u => ?_), if_neg (fun u => ?_)] <;> simp_all
              rw [q] at hr
              subst hr
              have fl12 : ∀ target, Steps p.tables e below (s₁.setTop (mkF m 69 #[.val (.int p1), .val (.int (-1 : Int32))] [(.int (-1 : Int32))])) target → Steps p.tables e below (s₁.setTop (mkF m 0 #[.val (.int p1), .unset] [])) target := fun target kt => by
                show Steps p.tables e below (s₁.setTop (mkF m 0 #[.val (.int p1), .unset] [])) _
                refine XS.iloadN X0.here hx rfl (hb hby d6_0) rfl ?_
                show Steps p.tables e below (s₁.setTop (mkF m 1 #[.val (.int p1), .unset] [(.int p1)])) _
                refine XS.bipush X0.here hx rfl (hb hby d6_1) ?_
                show Steps p.tables e below (s₁.setTop (mkF m 3 #[.val (.int p1), .unset] [(.int (48 : Int32)), (.int p1)])) _
                refine XS.icmpNo X0.here hx rfl (hb hby d6_3) rfl (flt (l0 : ¬ (p1 < (48 : Int32)))).1 ?_
                show Steps p.tables e below (s₁.setTop (mkF m 6 #[.val (.int p1), .unset] [])) _
                refine XS.iloadN X0.here hx rfl (hb hby d6_6) rfl ?_
                show Steps p.tables e below (s₁.setTop (mkF m 7 #[.val (.int p1), .unset] [(.int p1)])) _
                refine XS.bipush X0.here hx rfl (hb hby d6_7) ?_
                show Steps p.tables e below (s₁.setTop (mkF m 9 #[.val (.int p1), .unset] [(.int (57 : Int32)), (.int p1)])) _
                refine XS.icmpYes X0.here hx rfl (pc0 := 9) (pc' := 20) rfl (hb hby d6_9) rfl (tlt (g0 : (57 : Int32) < p1)).2.2.1 (by decide) (by decide) ?_
                show Steps p.tables e below (s₁.setTop (mkF m 20 #[.val (.int p1), .unset] [])) _
                refine XS.iloadN X0.here hx rfl (hb hby d6_20) rfl ?_
                show Steps p.tables e below (s₁.setTop (mkF m 21 #[.val (.int p1), .unset] [(.int p1)])) _
                refine XS.bipush X0.here hx rfl (hb hby d6_21) ?_
                show Steps p.tables e below (s₁.setTop (mkF m 23 #[.val (.int p1), .unset] [(.int (97 : Int32)), (.int p1)])) _
                refine XS.icmpNo X0.here hx rfl (hb hby d6_23) rfl (flt (l1 : ¬ (p1 < (97 : Int32)))).1 ?_
                show Steps p.tables e below (s₁.setTop (mkF m 26 #[.val (.int p1), .unset] [])) _
                refine XS.iloadN X0.here hx rfl (hb hby d6_26) rfl ?_
                show Steps p.tables e below (s₁.setTop (mkF m 27 #[.val (.int p1), .unset] [(.int p1)])) _
                refine XS.bipush X0.here hx rfl (hb hby d6_27) ?_
                show Steps p.tables e below (s₁.setTop (mkF m 29 #[.val (.int p1), .unset] [(.int (102 : Int32)), (.int p1)])) _
                refine XS.icmpYes X0.here hx rfl (pc0 := 29) (pc' := 43) rfl (hb hby d6_29) rfl (tlt (g1 : (102 : Int32) < p1)).2.2.1 (by decide) (by decide) ?_
                show Steps p.tables e below (s₁.setTop (mkF m 43 #[.val (.int p1), .unset] [])) _
                refine XS.iloadN X0.here hx rfl (hb hby d6_43) rfl ?_
                show Steps p.tables e below (s₁.setTop (mkF m 44 #[.val (.int p1), .unset] [(.int p1)])) _
                refine XS.bipush X0.here hx rfl (hb hby d6_44) ?_
                show Steps p.tables e below (s₁.setTop (mkF m 46 #[.val (.int p1), .unset] [(.int (65 : Int32)), (.int p1)])) _
                refine XS.icmpNo X0.here hx rfl (hb hby d6_46) rfl (flt (l2 : ¬ (p1 < (65 : Int32)))).1 ?_
                show Steps p.tables e below (s₁.setTop (mkF m 49 #[.val (.int p1), .unset] [])) _
                refine XS.iloadN X0.here hx rfl (hb hby d6_49) rfl ?_
                show Steps p.tables e below (s₁.setTop (mkF m 50 #[.val (.int p1), .unset] [(.int p1)])) _
                refine XS.bipush X0.here hx rfl (hb hby d6_50) ?_
                show Steps p.tables e below (s₁.setTop (mkF m 52 #[.val (.int p1), .unset] [(.int (70 : Int32)), (.int p1)])) _
                refine XS.icmpYes X0.here hx rfl (pc0 := 52) (pc' := 66) rfl (hb hby d6_52) rfl (tlt (g2 : (70 : Int32) < p1)).2.2.1 (by decide) (by decide) ?_
                show Steps p.tables e below (s₁.setTop (mkF m 66 #[.val (.int p1), .unset] [])) _
                refine XS.iconst X0.here hx rfl (hb hby d6_66) ?_
                show Steps p.tables e below (s₁.setTop (mkF m 67 #[.val (.int p1), .unset] [(.int (-1 : Int32))])) _
                refine XS.istoreN X0.here hx rfl (hb hby d6_67) rfl (l' := #[.val (.int p1), .val (.int (-1 : Int32))]) rfl ?_
                show Steps p.tables e below (s₁.setTop (mkF m 68 #[.val (.int p1), .val (.int (-1 : Int32))] [])) _
                refine XS.iloadN X0.here hx rfl (hb hby d6_68) rfl ?_
                exact kt
              obtain ⟨fs, hr, hrun, hended, hW, hsame⟩ := X0.leave (v := some (.int (-1 : Int32))) (fun h => by rw [Bd.returns] at h; cases h)
              refine ⟨_, _, pre0 _ (fl12 _ ?_), hrun, hended, _, _, rfl, ?_, ⟨_, rfl⟩, hW, hsame.mono (by decide) (by decide)⟩
              · exact retI X0 hx Bd.returns (hb hby d6_69) hr
              · show Q6 _ _ _ _ _ _ s₁.heap _
                rw [e0]
                exact ⟨rfl, N0, rfl⟩
            · have q : own_hex p1 = p1 - 65 + 10 := by unfold own_hex; rw [if_neg (fun u => ?_), if_neg (fun u => ?_), if_pos ⟨l2, g2⟩] <;> simp_all
              rw [q] at hr
              subst hr
              have fl13 : ∀ target, Steps p.tables e below (s₁.setTop (mkF m 69 #[.val (.int p1), .val (.int ((p1 - (65 : Int32)) + (10 : Int32)))] [(.int ((p1 - (65 : Int32)) + (10 : Int32)))])) target → Steps p.tables e below (s₁.setTop (mkF m 0 #[.val (.int p1), .unset] [])) target := fun target kt => by
                show Steps p.tables e below (s₁.setTop (mkF m 0 #[.val (.int p1), .unset] [])) _
                refine XS.iloadN X0.here hx rfl (hb hby d6_0) rfl ?_
                show Steps p.tables e below (s₁.setTop (mkF m 1 #[.val (.int p1), .unset] [(.int p1)])) _
                refine XS.bipush X0.here hx rfl (hb hby d6_1) ?_
                show Steps p.tables e below (s₁.setTop (mkF m 3 #[.val (.int p1), .unset] [(.int (48 : Int32)), (.int p1)])) _
                refine XS.icmpNo X0.here hx rfl (hb hby d6_3) rfl (flt (l0 : ¬ (p1 < (48 : Int32)))).1 ?_
                show Steps p.tables e below (s₁.setTop (mkF m 6 #[.val (.int p1), .unset] [])) _
                refine XS.iloadN X0.here hx rfl (hb hby d6_6) rfl ?_
                show Steps p.tables e below (s₁.setTop (mkF m 7 #[.val (.int p1), .unset] [(.int p1)])) _
                refine XS.bipush X0.here hx rfl (hb hby d6_7) ?_
                show Steps p.tables e below (s₁.setTop (mkF m 9 #[.val (.int p1), .unset] [(.int (57 : Int32)), (.int p1)])) _
                refine XS.icmpYes X0.here hx rfl (pc0 := 9) (pc' := 20) rfl (hb hby d6_9) rfl (tlt (g0 : (57 : Int32) < p1)).2.2.1 (by decide) (by decide) ?_
                show Steps p.tables e below (s₁.setTop (mkF m 20 #[.val (.int p1), .unset] [])) _
                refine XS.iloadN X0.here hx rfl (hb hby d6_20) rfl ?_
                show Steps p.tables e below (s₁.setTop (mkF m 21 #[.val (.int p1), .unset] [(.int p1)])) _
                refine XS.bipush X0.here hx rfl (hb hby d6_21) ?_
                show Steps p.tables e below (s₁.setTop (mkF m 23 #[.val (.int p1), .unset] [(.int (97 : Int32)), (.int p1)])) _
                refine XS.icmpNo X0.here hx rfl (hb hby d6_23) rfl (flt (l1 : ¬ (p1 < (97 : Int32)))).1 ?_
                show Steps p.tables e below (s₁.setTop (mkF m 26 #[.val (.int p1), .unset] [])) _
                refine XS.iloadN X0.here hx rfl (hb hby d6_26) rfl ?_
                show Steps p.tables e below (s₁.setTop (mkF m 27 #[.val (.int p1), .unset] [(.int p1)])) _
                refine XS.bipush X0.here hx rfl (hb hby d6_27) ?_
                show Steps p.tables e below (s₁.setTop (mkF m 29 #[.val (.int p1), .unset] [(.int (102 : Int32)), (.int p1)])) _
                refine XS.icmpYes X0.here hx rfl (pc0 := 29) (pc' := 43) rfl (hb hby d6_29) rfl (tlt (g1 : (102 : Int32) < p1)).2.2.1 (by decide) (by decide) ?_
                show Steps p.tables e below (s₁.setTop (mkF m 43 #[.val (.int p1), .unset] [])) _
                refine XS.iloadN X0.here hx rfl (hb hby d6_43) rfl ?_
                show Steps p.tables e below (s₁.setTop (mkF m 44 #[.val (.int p1), .unset] [(.int p1)])) _
                refine XS.bipush X0.here hx rfl (hb hby d6_44) ?_
                show Steps p.tables e below (s₁.setTop (mkF m 46 #[.val (.int p1), .unset] [(.int (65 : Int32)), (.int p1)])) _
                refine XS.icmpNo X0.here hx rfl (hb hby d6_46) rfl (flt (l2 : ¬ (p1 < (65 : Int32)))).1 ?_
                show Steps p.tables e below (s₁.setTop (mkF m 49 #[.val (.int p1), .unset] [])) _
                refine XS.iloadN X0.here hx rfl (hb hby d6_49) rfl ?_
                show Steps p.tables e below (s₁.setTop (mkF m 50 #[.val (.int p1), .unset] [(.int p1)])) _
                refine XS.bipush X0.here hx rfl (hb hby d6_50) ?_
                show Steps p.tables e below (s₁.setTop (mkF m 52 #[.val (.int p1), .unset] [(.int (70 : Int32)), (.int p1)])) _
                refine XS.icmpNo X0.here hx rfl (hb hby d6_52) rfl (flt (g2 : ¬ ((70 : Int32) < p1))).2.2.1 ?_
                show Steps p.tables e below (s₁.setTop (mkF m 55 #[.val (.int p1), .unset] [])) _
                refine XS.iloadN X0.here hx rfl (hb hby d6_55) rfl ?_
                show Steps p.tables e below (s₁.setTop (mkF m 56 #[.val (.int p1), .unset] [(.int p1)])) _
                refine XS.bipush X0.here hx rfl (hb hby d6_56) ?_
                show Steps p.tables e below (s₁.setTop (mkF m 58 #[.val (.int p1), .unset] [(.int (65 : Int32)), (.int p1)])) _
                refine XS.isub X0.here hx rfl (hb hby d6_58) rfl ?_
                show Steps p.tables e below (s₁.setTop (mkF m 59 #[.val (.int p1), .unset] [(.int (p1 - (65 : Int32)))])) _
                refine XS.bipush X0.here hx rfl (hb hby d6_59) ?_
                show Steps p.tables e below (s₁.setTop (mkF m 61 #[.val (.int p1), .unset] [(.int (10 : Int32)), (.int (p1 - (65 : Int32)))])) _
                refine XS.iadd X0.here hx rfl (hb hby d6_61) rfl ?_
                show Steps p.tables e below (s₁.setTop (mkF m 62 #[.val (.int p1), .unset] [(.int ((p1 - (65 : Int32)) + (10 : Int32)))])) _
                refine XS.istoreN X0.here hx rfl (hb hby d6_62) rfl (l' := #[.val (.int p1), .val (.int ((p1 - (65 : Int32)) + (10 : Int32)))]) rfl ?_
                show Steps p.tables e below (s₁.setTop (mkF m 63 #[.val (.int p1), .val (.int ((p1 - (65 : Int32)) + (10 : Int32)))] [])) _
                refine XS.goto X0.here hx rfl (pc0 := 63) (pc' := 68) rfl (hb hby d6_63) (by decide) (by decide) ?_
                show Steps p.tables e below (s₁.setTop (mkF m 68 #[.val (.int p1), .val (.int ((p1 - (65 : Int32)) + (10 : Int32)))] [])) _
                refine XS.iloadN X0.here hx rfl (hb hby d6_68) rfl ?_
                exact kt
              obtain ⟨fs, hr, hrun, hended, hW, hsame⟩ := X0.leave (v := some (.int ((p1 - (65 : Int32)) + (10 : Int32)))) (fun h => by rw [Bd.returns] at h; cases h)
              refine ⟨_, _, pre0 _ (fl13 _ ?_), hrun, hended, _, _, rfl, ?_, ⟨_, rfl⟩, hW, hsame.mono (by decide) (by decide)⟩
              · exact retI X0 hx Bd.returns (hb hby d6_69) hr
              · show Q6 _ _ _ _ _ _ s₁.heap _
                rw [e0]
                exact ⟨rfl, N0, rfl⟩
        · have q : own_hex p1 = p1 - 97 + 10 := by unfold own_hex; rw [if_neg (fun u => ?_), if_pos ⟨l1, g1⟩] <;> simp_all
          rw [q] at hr
          subst hr
          have fl14 : ∀ target, Steps p.tables e below (s₁.setTop (mkF m 69 #[.val (.int p1), .val (.int ((p1 - (97 : Int32)) + (10 : Int32)))] [(.int ((p1 - (97 : Int32)) + (10 : Int32)))])) target → Steps p.tables e below (s₁.setTop (mkF m 0 #[.val (.int p1), .unset] [])) target := fun target kt => by
            show Steps p.tables e below (s₁.setTop (mkF m 0 #[.val (.int p1), .unset] [])) _
            refine XS.iloadN X0.here hx rfl (hb hby d6_0) rfl ?_
            show Steps p.tables e below (s₁.setTop (mkF m 1 #[.val (.int p1), .unset] [(.int p1)])) _
            refine XS.bipush X0.here hx rfl (hb hby d6_1) ?_
            show Steps p.tables e below (s₁.setTop (mkF m 3 #[.val (.int p1), .unset] [(.int (48 : Int32)), (.int p1)])) _
            refine XS.icmpNo X0.here hx rfl (hb hby d6_3) rfl (flt (l0 : ¬ (p1 < (48 : Int32)))).1 ?_
            show Steps p.tables e below (s₁.setTop (mkF m 6 #[.val (.int p1), .unset] [])) _
            refine XS.iloadN X0.here hx rfl (hb hby d6_6) rfl ?_
            show Steps p.tables e below (s₁.setTop (mkF m 7 #[.val (.int p1), .unset] [(.int p1)])) _
            refine XS.bipush X0.here hx rfl (hb hby d6_7) ?_
            show Steps p.tables e below (s₁.setTop (mkF m 9 #[.val (.int p1), .unset] [(.int (57 : Int32)), (.int p1)])) _
            refine XS.icmpYes X0.here hx rfl (pc0 := 9) (pc' := 20) rfl (hb hby d6_9) rfl (tlt (g0 : (57 : Int32) < p1)).2.2.1 (by decide) (by decide) ?_
            show Steps p.tables e below (s₁.setTop (mkF m 20 #[.val (.int p1), .unset] [])) _
            refine XS.iloadN X0.here hx rfl (hb hby d6_20) rfl ?_
            show Steps p.tables e below (s₁.setTop (mkF m 21 #[.val (.int p1), .unset] [(.int p1)])) _
            refine XS.bipush X0.here hx rfl (hb hby d6_21) ?_
            show Steps p.tables e below (s₁.setTop (mkF m 23 #[.val (.int p1), .unset] [(.int (97 : Int32)), (.int p1)])) _
            refine XS.icmpNo X0.here hx rfl (hb hby d6_23) rfl (flt (l1 : ¬ (p1 < (97 : Int32)))).1 ?_
            show Steps p.tables e below (s₁.setTop (mkF m 26 #[.val (.int p1), .unset] [])) _
            refine XS.iloadN X0.here hx rfl (hb hby d6_26) rfl ?_
            show Steps p.tables e below (s₁.setTop (mkF m 27 #[.val (.int p1), .unset] [(.int p1)])) _
            refine XS.bipush X0.here hx rfl (hb hby d6_27) ?_
            show Steps p.tables e below (s₁.setTop (mkF m 29 #[.val (.int p1), .unset] [(.int (102 : Int32)), (.int p1)])) _
            refine XS.icmpNo X0.here hx rfl (hb hby d6_29) rfl (flt (g1 : ¬ ((102 : Int32) < p1))).2.2.1 ?_
            show Steps p.tables e below (s₁.setTop (mkF m 32 #[.val (.int p1), .unset] [])) _
            refine XS.iloadN X0.here hx rfl (hb hby d6_32) rfl ?_
            show Steps p.tables e below (s₁.setTop (mkF m 33 #[.val (.int p1), .unset] [(.int p1)])) _
            refine XS.bipush X0.here hx rfl (hb hby d6_33) ?_
            show Steps p.tables e below (s₁.setTop (mkF m 35 #[.val (.int p1), .unset] [(.int (97 : Int32)), (.int p1)])) _
            refine XS.isub X0.here hx rfl (hb hby d6_35) rfl ?_
            show Steps p.tables e below (s₁.setTop (mkF m 36 #[.val (.int p1), .unset] [(.int (p1 - (97 : Int32)))])) _
            refine XS.bipush X0.here hx rfl (hb hby d6_36) ?_
            show Steps p.tables e below (s₁.setTop (mkF m 38 #[.val (.int p1), .unset] [(.int (10 : Int32)), (.int (p1 - (97 : Int32)))])) _
            refine XS.iadd X0.here hx rfl (hb hby d6_38) rfl ?_
            show Steps p.tables e below (s₁.setTop (mkF m 39 #[.val (.int p1), .unset] [(.int ((p1 - (97 : Int32)) + (10 : Int32)))])) _
            refine XS.istoreN X0.here hx rfl (hb hby d6_39) rfl (l' := #[.val (.int p1), .val (.int ((p1 - (97 : Int32)) + (10 : Int32)))]) rfl ?_
            show Steps p.tables e below (s₁.setTop (mkF m 40 #[.val (.int p1), .val (.int ((p1 - (97 : Int32)) + (10 : Int32)))] [])) _
            refine XS.goto X0.here hx rfl (pc0 := 40) (pc' := 68) rfl (hb hby d6_40) (by decide) (by decide) ?_
            show Steps p.tables e below (s₁.setTop (mkF m 68 #[.val (.int p1), .val (.int ((p1 - (97 : Int32)) + (10 : Int32)))] [])) _
            refine XS.iloadN X0.here hx rfl (hb hby d6_68) rfl ?_
            exact kt
          obtain ⟨fs, hr, hrun, hended, hW, hsame⟩ := X0.leave (v := some (.int ((p1 - (97 : Int32)) + (10 : Int32)))) (fun h => by rw [Bd.returns] at h; cases h)
          refine ⟨_, _, pre0 _ (fl14 _ ?_), hrun, hended, _, _, rfl, ?_, ⟨_, rfl⟩, hW, hsame.mono (by decide) (by decide)⟩
          · exact retI X0 hx Bd.returns (hb hby d6_69) hr
          · show Q6 _ _ _ _ _ _ s₁.heap _
            rw [e0]
            exact ⟨rfl, N0, rfl⟩
    · have q : own_hex p1 = p1 - 48 := by unfold own_hex; rw [if_pos ⟨l0, g0⟩]
      rw [q] at hr
      subst hr
      have fl15 : ∀ target, Steps p.tables e below (s₁.setTop (mkF m 69 #[.val (.int p1), .val (.int (p1 - (48 : Int32)))] [(.int (p1 - (48 : Int32)))])) target → Steps p.tables e below (s₁.setTop (mkF m 0 #[.val (.int p1), .unset] [])) target := fun target kt => by
        show Steps p.tables e below (s₁.setTop (mkF m 0 #[.val (.int p1), .unset] [])) _
        refine XS.iloadN X0.here hx rfl (hb hby d6_0) rfl ?_
        show Steps p.tables e below (s₁.setTop (mkF m 1 #[.val (.int p1), .unset] [(.int p1)])) _
        refine XS.bipush X0.here hx rfl (hb hby d6_1) ?_
        show Steps p.tables e below (s₁.setTop (mkF m 3 #[.val (.int p1), .unset] [(.int (48 : Int32)), (.int p1)])) _
        refine XS.icmpNo X0.here hx rfl (hb hby d6_3) rfl (flt (l0 : ¬ (p1 < (48 : Int32)))).1 ?_
        show Steps p.tables e below (s₁.setTop (mkF m 6 #[.val (.int p1), .unset] [])) _
        refine XS.iloadN X0.here hx rfl (hb hby d6_6) rfl ?_
        show Steps p.tables e below (s₁.setTop (mkF m 7 #[.val (.int p1), .unset] [(.int p1)])) _
        refine XS.bipush X0.here hx rfl (hb hby d6_7) ?_
        show Steps p.tables e below (s₁.setTop (mkF m 9 #[.val (.int p1), .unset] [(.int (57 : Int32)), (.int p1)])) _
        refine XS.icmpNo X0.here hx rfl (hb hby d6_9) rfl (flt (g0 : ¬ ((57 : Int32) < p1))).2.2.1 ?_
        show Steps p.tables e below (s₁.setTop (mkF m 12 #[.val (.int p1), .unset] [])) _
        refine XS.iloadN X0.here hx rfl (hb hby d6_12) rfl ?_
        show Steps p.tables e below (s₁.setTop (mkF m 13 #[.val (.int p1), .unset] [(.int p1)])) _
        refine XS.bipush X0.here hx rfl (hb hby d6_13) ?_
        show Steps p.tables e below (s₁.setTop (mkF m 15 #[.val (.int p1), .unset] [(.int (48 : Int32)), (.int p1)])) _
        refine XS.isub X0.here hx rfl (hb hby d6_15) rfl ?_
        show Steps p.tables e below (s₁.setTop (mkF m 16 #[.val (.int p1), .unset] [(.int (p1 - (48 : Int32)))])) _
        refine XS.istoreN X0.here hx rfl (hb hby d6_16) rfl (l' := #[.val (.int p1), .val (.int (p1 - (48 : Int32)))]) rfl ?_
        show Steps p.tables e below (s₁.setTop (mkF m 17 #[.val (.int p1), .val (.int (p1 - (48 : Int32)))] [])) _
        refine XS.goto X0.here hx rfl (pc0 := 17) (pc' := 68) rfl (hb hby d6_17) (by decide) (by decide) ?_
        show Steps p.tables e below (s₁.setTop (mkF m 68 #[.val (.int p1), .val (.int (p1 - (48 : Int32)))] [])) _
        refine XS.iloadN X0.here hx rfl (hb hby d6_68) rfl ?_
        exact kt
      obtain ⟨fs, hr, hrun, hended, hW, hsame⟩ := X0.leave (v := some (.int (p1 - (48 : Int32)))) (fun h => by rw [Bd.returns] at h; cases h)
      refine ⟨_, _, pre0 _ (fl15 _ ?_), hrun, hended, _, _, rfl, ?_, ⟨_, rfl⟩, hW, hsame.mono (by decide) (by decide)⟩
      · exact retI X0 hx Bd.returns (hb hby d6_69) hr
      · show Q6 _ _ _ _ _ _ s₁.heap _
        rw [e0]
        exact ⟨rfl, N0, rfl⟩
theorem ef_5 (m : MethodId) (x0 : Int32) (x1 : Int32) (x2 : Value) (hx2 : x2.isRef = true) : entryFrame m #[(.int x0), (.int x1), x2] 3 = mkF m 0 #[.val (.int x0), .val (.int x1), .val x2] [] := by rcases ref_cases hx2 with rfl | ⟨_, rfl⟩ <;> first | (simp [entryFrame, mkF, argsToLocals, Value.category]; done) | rfl
def Q5 (Z : State) (p1 : Int32) (p2 : Int32) (r3 : Value) (h0 : Heap) (n0 : Nat) (v : Option Value) (h : Heap) (L : List Loc) : Prop := v = some (.int p1) ∧ Fr n0 L ∧ h = h0
set_option maxRecDepth 65536 in
set_option maxHeartbeats 40000000 in
theorem rm5 (l : Launch) (Z : State) (a0 : Array Value) (hw : ∀ d ∈ tables_1, d.before a0 Z = true) (ws : List Jvm.Cond) (p1 : Int32) (p2 : Int32) (r3 : Value) (h0 : Heap) (n0 : Nat) (Z0 : n0 ≤ h0.size) (hrf_r3 : r3.isRef = true) (hj : ¬ p1 < 0 ∧ p1 < p2) :
    MetFree l (⟨"jdk/internal/util/Preconditions", "checkIndex", "(IILjava/util/function/BiFunction;)I"⟩ : MethodName) (head1 (Jvm.Cond.code (⟨"jdk/internal/util/Preconditions", "checkIndex", "(IILjava/util/function/BiFunction;)I"⟩ : MethodName) jdk_41_method_11_code 3 (some .int) :: ws) ({ frames := 0, cells := 0, slots := 0, locals := 0 } : Room)) (fun a U => a = #[(.int p1), (.int p2), r3] ∧ Z.Warmed39 U.vm ∧ U.heap = h0) (fun _ _ _ _ _ => True) (fun _ U o U' => ∃ v L, o = .returned v ∧ Q5 Z p1 p2 r3 h0 n0 v U'.heap L ∧ FrameEnd U o U' L ({ frames := 0, cells := 0, slots := 0, locals := 0 } : Room).cells ({ frames := 0, cells := 0, slots := 0, locals := 0 } : Room).slots) := by
  refine MetFree.of_bodySF (plainFor_of_name pn_1) hisR ?_
  intro p e s m args below meth c s₁ Bd hml0 hP hK
  obtain ⟨rfl, hZ, hh⟩ := hP
  have hx := Bd.exec
  have hby := Bd.bytes
  have hml : c.maxLocals = 3 := hml0
  have hown : s.vm.findClass "jdk/internal/util/Preconditions" = some m.cls := findClass_of_methodNamed Bd.named
  have hnm := (name_of_methodNamed Bd.named Bd.method).1
  have X0 : Stand p l e ({ frames := 0, cells := 0, slots := 0, locals := 0 } : Room) s m #[(.int p1), (.int p2), r3] below meth c s₁ [] 0 0 := Stand.of_body Bd
  have e0 : s₁.heap = h0 := by rw [← hh, Bd.state]; rfl
  have N0 := Fr.nil n0
  have pre0 : ∀ t, Steps p.tables e below (s₁.setTop (mkF m 0 #[.val (.int p1), .val (.int p2), .val r3] [])) t → Steps p.tables e below (s₁.setTop (entryFrame m #[(.int p1), (.int p2), r3] 3)) t := fun t k => castTop (ef_5 m p1 p2 r3 hrf_r3) k
  have fl16 : ∀ target, Steps p.tables e below (s₁.setTop (mkF m 17 #[.val (.int p1), .val (.int p2), .val r3] [(.int p1)])) target → Steps p.tables e below (s₁.setTop (mkF m 0 #[.val (.int p1), .val (.int p2), .val r3] [])) target := fun target kt => by
    show Steps p.tables e below (s₁.setTop (mkF m 0 #[.val (.int p1), .val (.int p2), .val r3] [])) _
    refine XS.iloadN X0.here hx rfl (hb hby d5_0) rfl ?_
    show Steps p.tables e below (s₁.setTop (mkF m 1 #[.val (.int p1), .val (.int p2), .val r3] [(.int p1)])) _
    refine XS.ifNo X0.here hx rfl (hb hby d5_1) rfl ((if0 _ _).trans (flt (hj.1 : ¬ (p1 < (0 : Int32)))).1) ?_
    show Steps p.tables e below (s₁.setTop (mkF m 4 #[.val (.int p1), .val (.int p2), .val r3] [])) _
    refine XS.iloadN X0.here hx rfl (hb hby d5_4) rfl ?_
    show Steps p.tables e below (s₁.setTop (mkF m 5 #[.val (.int p1), .val (.int p2), .val r3] [(.int p1)])) _
    refine XS.iloadN X0.here hx rfl (hb hby d5_5) rfl ?_
    show Steps p.tables e below (s₁.setTop (mkF m 6 #[.val (.int p1), .val (.int p2), .val r3] [(.int p2), (.int p1)])) _
    refine XS.icmpYes X0.here hx rfl (pc0 := 6) (pc' := 16) rfl (hb hby d5_6) rfl (tlt (hj.2 : p1 < p2)).1 (by decide) (by decide) ?_
    show Steps p.tables e below (s₁.setTop (mkF m 16 #[.val (.int p1), .val (.int p2), .val r3] [])) _
    refine XS.iloadN X0.here hx rfl (hb hby d5_16) rfl ?_
    exact kt
  obtain ⟨fs, hr, hrun, hended, hW, hsame⟩ := X0.leave (v := some (.int p1)) (fun h => by rw [Bd.returns] at h; cases h)
  refine ⟨_, _, pre0 _ (fl16 _ ?_), hrun, hended, _, _, rfl, ?_, ⟨_, rfl⟩, hW, hsame.mono (by decide) (by decide)⟩
  · exact retI X0 hx Bd.returns (hb hby d5_17) hr
  · show Q5 _ _ _ _ _ _ _ s₁.heap _
    rw [e0]
    exact ⟨rfl, N0, rfl⟩
theorem ef_4 (m : MethodId) (x0 : Int32) (x1 : Int32) : entryFrame m #[(.int x0), (.int x1)] 2 = mkF m 0 #[.val (.int x0), .val (.int x1)] [] := by first | (simp [entryFrame, mkF, argsToLocals, Value.category]; done) | rfl
def Q4 (Z : State) (p1 : Int32) (p2 : Int32) (G3 : Value) (h0 : Heap) (n0 : Nat) (v : Option Value) (h : Heap) (L : List Loc) : Prop := v = none ∧ Fr n0 L ∧ h = h0
set_option maxRecDepth 65536 in
set_option maxHeartbeats 40000000 in
theorem rm4 (l : Launch) (Z : State) (a0 : Array Value) (hw : ∀ d ∈ tables_1, d.before a0 Z = true) (ws : List Jvm.Cond) (p1 : Int32) (p2 : Int32) (G3 : Value) (h0 : Heap) (n0 : Nat) (Z0 : n0 ≤ h0.size) (hrf_G3 : G3.isRef = true) (S2 : Sta Z h0 "jdk/internal/util/Preconditions" "SIOOBE_FORMATTER" "Ljava/util/function/BiFunction;" G3) (hj : ¬ p1 < 0 ∧ p1 < p2) :
    MetFree l (⟨"java/lang/String", "checkIndex", "(II)V"⟩ : MethodName) (head1 (Jvm.Cond.code (⟨"java/lang/String", "checkIndex", "(II)V"⟩ : MethodName) jdk_42_method_155_code 2 none :: ws) ({ frames := 1, cells := 0, slots := 0, locals := 14 } : Room)) (fun a U => a = #[(.int p1), (.int p2)] ∧ Z.Warmed39 U.vm ∧ U.heap = h0) (fun _ _ _ _ _ => True) (fun _ U o U' => ∃ v L, o = .returned v ∧ Q4 Z p1 p2 G3 h0 n0 v U'.heap L ∧ FrameEnd U o U' L ({ frames := 1, cells := 0, slots := 0, locals := 14 } : Room).cells ({ frames := 1, cells := 0, slots := 0, locals := 14 } : Room).slots) := by
  refine MetFree.of_bodySF (plainFor_of_name pn_2) hisR ?_
  intro p e s m args below meth c s₁ Bd hml0 hP hK
  obtain ⟨rfl, hZ, hh⟩ := hP
  have hx := Bd.exec
  have hby := Bd.bytes
  have hml : c.maxLocals = 2 := hml0
  have hown : s.vm.findClass "java/lang/String" = some m.cls := findClass_of_methodNamed Bd.named
  have hnm := (name_of_methodNamed Bd.named Bd.method).1
  have X0 : Stand p l e ({ frames := 1, cells := 0, slots := 0, locals := 14 } : Room) s m #[(.int p1), (.int p2)] below meth c s₁ [] 0 0 := Stand.of_body Bd
  have e0 : s₁.heap = h0 := by rw [← hh, Bd.state]; rfl
  have N0 := Fr.nil n0
  have pre0 : ∀ t, Steps p.tables e below (s₁.setTop (mkF m 0 #[.val (.int p1), .val (.int p2)] [])) t → Steps p.tables e below (s₁.setTop (entryFrame m #[(.int p1), (.int p2)] 2)) t := fun t k => castTop (ef_4 m p1 p2) k
  obtain ⟨T17, X17, e17, st17⟩ := getS2 X0 hx hZ hown (host := "") (Or.inl (hw _ (List.mem_of_getElem? (i := 29) rfl))) Via.refl e0 S2 (g := (mkF m 2 #[.val (.int p1), .val (.int p2)] [(.int p2), (.int p1)])) rfl (hb hby d4_2)
  obtain ⟨_, _, ⟨T18, L18, k18, n18⟩, -, X18, ⟨Lc18, hQ18, l18, y18, z18⟩, st18⟩ := Jvm.LawKit.callS X17 hx (y := (⟨"jdk/internal/util/Preconditions", "checkIndex", "(IILjava/util/function/BiFunction;)I"⟩ : MethodName)) hown (mvT hZ (hw _ (List.mem_of_getElem? (i := 31) rfl))) (mvT hZ (hw _ (List.mem_of_getElem? (i := 32) rfl))) (mvT hZ (hw _ (List.mem_of_getElem? (i := 30) rfl))) (mvT hZ (hw _ (List.mem_of_getElem? (i := 33) rfl))) (by decide) (backOf (W := 0) (rm5 l Z a0 hw [] p1 p2 G3  h0 n0 Z0 hrf_G3 hj) hZ (hw _ (List.mem_of_getElem? (i := 33) rfl)) (hw _ (List.mem_of_getElem? (i := 30) rfl)) (by decide) (by decide)) (g := (mkF m 5 #[.val (.int p1), .val (.int p2)] [G3, (.int p2), (.int p1)])) rfl (by rw [hml]; rfl) (argsL := [(.int p1), (.int p2), G3]) (rest := []) (lenOf pd_0 rfl) rfl (by show 2 * 0 + _ ≤ _; exact Nat.le_of_eq rfl) (hb hby d4_5) (fun _ _ => ⟨rfl, e17, (by decide : 0 + 0 ≤ _), (by decide : 0 + 0 ≤ _)⟩)
  dsimp only [Pt.U, Pt.locs, Pt.cells, Pt.slots] at X18 l18 y18 z18 st18 hQ18
  subst l18 y18 z18
  obtain ⟨rfl, N18q, he18⟩ := hQ18
  have N18 := Fr.app N0 N18q
  have fl19 : ∀ target, Steps p.tables e below (T18.setTop (mkF m 9 #[.val (.int p1), .val (.int p2)] [])) target → Steps p.tables e below (s₁.setTop (mkF m 0 #[.val (.int p1), .val (.int p2)] [])) target := fun target kt => by
    show Steps p.tables e below (s₁.setTop (mkF m 0 #[.val (.int p1), .val (.int p2)] [])) _
    refine XS.iloadN X0.here hx rfl (hb hby d4_0) rfl ?_
    show Steps p.tables e below (s₁.setTop (mkF m 1 #[.val (.int p1), .val (.int p2)] [(.int p1)])) _
    refine XS.iloadN X0.here hx rfl (hb hby d4_1) rfl ?_
    show Steps p.tables e below (s₁.setTop (mkF m 2 #[.val (.int p1), .val (.int p2)] [(.int p2), (.int p1)])) _
    refine st17 _ ?_
    show Steps p.tables e below (T17.setTop (mkF m 5 #[.val (.int p1), .val (.int p2)] [G3, (.int p2), (.int p1)])) _
    refine st18 _ ?_
    show Steps p.tables e below (T18.setTop (mkF m 8 #[.val (.int p1), .val (.int p2)] [(.int p1)])) _
    refine XS.pop X18.here hx rfl (hb hby d4_8) rfl rfl ?_
    exact kt
  obtain ⟨fs, hr, hrun, hended, hW, hsame⟩ := X18.leave (v := none) (fun _ => rfl)
  refine ⟨_, _, pre0 _ (fl19 _ ?_), hrun, hended, _, _, rfl, ?_, ⟨_, rfl⟩, hW, hsame.mono (by decide) (by decide)⟩
  · exact X18.returnOut hx Bd.returns (hb hby d4_9) hr
  · show Q4 _ _ _ _ _ _ _ T18.heap _
    exact ⟨rfl, N18, he18⟩
theorem ef_3 (m : MethodId) (x0 : Addr) (x1 : Int32) : entryFrame m #[(.ref x0), (.int x1)] 2 = mkF m 0 #[.val (.ref x0), .val (.int x1)] [] := by first | (simp [entryFrame, mkF, argsToLocals, Value.category]; done) | rfl
def Q3 (Z : State) (a1 : Addr) (p2 : Int32) (kB : ClassId) (vs : List Value) (y : Int32) (G3 : Value) (h0 : Heap) (n0 : Nat) (v : Option Value) (h : Heap) (L : List Loc) : Prop := v = some (.int y) ∧ Fr n0 L ∧ h = h0
set_option maxRecDepth 65536 in
set_option maxHeartbeats 40000000 in
theorem rm3 (l : Launch) (Z : State) (a0 : Array Value) (hw : ∀ d ∈ tables_1, d.before a0 Z = true) (ws : List Jvm.Cond) (a1 : Addr) (p2 : Int32) (kB : ClassId) (vs : List Value) (y : Int32) (G3 : Value) (h0 : Heap) (n0 : Nat) (Z0 : n0 ≤ h0.size) (hrf_G3 : G3.isRef = true) (S2 : Sta Z h0 "jdk/internal/util/Preconditions" "SIOOBE_FORMATTER" "Ljava/util/function/BiFunction;" G3) (V1 : Arv Z h0 a1 kB .byte (16 : Int32) vs (.int (0 : Int32))) (hj : ¬ p2 < 0 ∧ p2 < (16 : Int32)) (hy : vs.getD p2.toNatClampNeg (.int (0 : Int32)) = .int y) (hy1 : nar .char (own_c y) = y) :
    MetFree l (⟨"java/lang/StringLatin1", "charAt", "([BI)C"⟩ : MethodName) (head1 (Jvm.Cond.code (⟨"java/lang/StringLatin1", "charAt", "([BI)C"⟩ : MethodName) jdk_43_method_2_code 2 (some .char) :: ws) ({ frames := 2, cells := 0, slots := 0, locals := 27 } : Room)) (fun a U => a = #[(.ref a1), (.int p2)] ∧ Z.Warmed39 U.vm ∧ U.heap = h0) (fun _ _ _ _ _ => True) (fun _ U o U' => ∃ v L, o = .returned v ∧ Q3 Z a1 p2 kB vs y G3 h0 n0 v U'.heap L ∧ FrameEnd U o U' L ({ frames := 2, cells := 0, slots := 0, locals := 27 } : Room).cells ({ frames := 2, cells := 0, slots := 0, locals := 27 } : Room).slots) := by
  refine MetFree.of_bodySF (plainFor_of_name pn_3) hisR ?_
  intro p e s m args below meth c s₁ Bd hml0 hP hK
  obtain ⟨rfl, hZ, hh⟩ := hP
  have hx := Bd.exec
  have hby := Bd.bytes
  have hml : c.maxLocals = 2 := hml0
  have hown : s.vm.findClass "java/lang/StringLatin1" = some m.cls := findClass_of_methodNamed Bd.named
  have hnm := (name_of_methodNamed Bd.named Bd.method).1
  have X0 : Stand p l e ({ frames := 2, cells := 0, slots := 0, locals := 27 } : Room) s m #[(.ref a1), (.int p2)] below meth c s₁ [] 0 0 := Stand.of_body Bd
  have e0 : s₁.heap = h0 := by rw [← hh, Bd.state]; rfl
  have N0 := Fr.nil n0
  have pre0 : ∀ t, Steps p.tables e below (s₁.setTop (mkF m 0 #[.val (.ref a1), .val (.int p2)] [])) t → Steps p.tables e below (s₁.setTop (entryFrame m #[(.ref a1), (.int p2)] 2)) t := fun t k => castTop (ef_3 m a1 p2) k
  obtain ⟨clx, Ar, -, Sz, Nz, Hv, -⟩ := V1
  have hin := inb_of Sz hj
  have hat := Hv.at hin hy
  obtain ⟨_, _, ⟨T20, L20, k20, n20⟩, -, X20, ⟨Lc20, hQ20, l20, y20, z20⟩, st20⟩ := Jvm.LawKit.callS X0 hx (y := (⟨"java/lang/String", "checkIndex", "(II)V"⟩ : MethodName)) hown (mvT hZ (hw _ (List.mem_of_getElem? (i := 26) rfl))) (mvT hZ (hw _ (List.mem_of_getElem? (i := 27) rfl))) (mvT hZ (hw _ (List.mem_of_getElem? (i := 1) rfl))) (mvT hZ (hw _ (List.mem_of_getElem? (i := 28) rfl))) (by decide) (backOf (W := 0) (rm4 l Z a0 hw [] p2 (16 : Int32) G3 h0 n0 Z0 hrf_G3 S2 hj) hZ (hw _ (List.mem_of_getElem? (i := 28) rfl)) (hw _ (List.mem_of_getElem? (i := 1) rfl)) (by decide) (by decide)) (g := (mkF m 3 #[.val (.ref a1), .val (.int p2)] [(.int (16 : Int32)), (.int p2)])) rfl (by rw [hml]; rfl) (argsL := [(.int p2), (.int (16 : Int32))]) (rest := []) (lenOf pd_1 rfl) rfl (by show 2 * 0 + _ ≤ _; exact Nat.le_of_eq rfl) (hb hby d3_3) (fun _ _ => ⟨rfl, e0, (by decide : 0 + 0 ≤ _), (by decide : 0 + 0 ≤ _)⟩)
  dsimp only [Pt.U, Pt.locs, Pt.cells, Pt.slots] at X20 l20 y20 z20 st20 hQ20
  subst l20 y20 z20
  obtain ⟨rfl, N20q, he20⟩ := hQ20
  have N20 := Fr.app N0 N20q
  have Ar2 : Arr Z T20.heap a1 clx .byte := by rw [he20]; exact Ar
  have fl21 : ∀ target, Steps p.tables e below (T20.setTop (mkF m 14 #[.val (.ref a1), .val (.int p2)] [(.int ((y &&& (255 : Int32)).toUInt32.toUInt16.toUInt32.toInt32))])) target → Steps p.tables e below (s₁.setTop (mkF m 0 #[.val (.ref a1), .val (.int p2)] [])) target := fun target kt => by
    show Steps p.tables e below (s₁.setTop (mkF m 0 #[.val (.ref a1), .val (.int p2)] [])) _
    refine XS.iloadN X0.here hx rfl (hb hby d3_0) rfl ?_
    show Steps p.tables e below (s₁.setTop (mkF m 1 #[.val (.ref a1), .val (.int p2)] [(.int p2)])) _
    refine XS.aloadN X0.here hx rfl (hb hby d3_1) rfl rfl ?_
    show Steps p.tables e below (s₁.setTop (mkF m 2 #[.val (.ref a1), .val (.int p2)] [(.ref a1), (.int p2)])) _
    refine X0.arraylength hx (cell := clx) (by rw [e0]; exact Ar.1) (State.isArrayOf_alike hZ.alike Ar.2.1) (g := (mkF m 2 #[.val (.ref a1), .val (.int p2)] [(.ref a1), (.int p2)])) rfl (rest := [(.int p2)]) rfl (hb hby d3_2) _ ?_
    rw [len_of Sz Nz]
    show Steps p.tables e below (s₁.setTop (mkF m 3 #[.val (.ref a1), .val (.int p2)] [(.int (16 : Int32)), (.int p2)])) _
    refine st20 _ ?_
    show Steps p.tables e below (T20.setTop (mkF m 6 #[.val (.ref a1), .val (.int p2)] [])) _
    refine XS.aloadN X20.here hx rfl (hb hby d3_6) rfl rfl ?_
    show Steps p.tables e below (T20.setTop (mkF m 7 #[.val (.ref a1), .val (.int p2)] [(.ref a1)])) _
    refine XS.iloadN X20.here hx rfl (hb hby d3_7) rfl ?_
    show Steps p.tables e below (T20.setTop (mkF m 8 #[.val (.ref a1), .val (.int p2)] [(.int p2), (.ref a1)])) _
    refine X20.baloadBytes hx (j := p2) (v := (.int y)) Ar2.1 (State.isArrayOf_alike hZ.alike Ar2.2.1) Ar2.2.2 hin hat (g := (mkF m 8 #[.val (.ref a1), .val (.int p2)] [(.int p2), (.ref a1)])) rfl rfl (hb hby d3_8) _ ?_
    show Steps p.tables e below (T20.setTop (mkF m 9 #[.val (.ref a1), .val (.int p2)] [(.int y)])) _
    refine XS.sipush X20.here hx rfl (hb hby d3_9) ?_
    show Steps p.tables e below (T20.setTop (mkF m 12 #[.val (.ref a1), .val (.int p2)] [(.int (255 : Int32)), (.int y)])) _
    refine XS.iand X20.here hx rfl (hb hby d3_12) rfl ?_
    show Steps p.tables e below (T20.setTop (mkF m 13 #[.val (.ref a1), .val (.int p2)] [(.int (y &&& (255 : Int32)))])) _
    refine XS.i2c X20.here hx rfl (hb hby d3_13) rfl ?_
    exact kt
  obtain ⟨fs, hr, hrun, hended, hW, hsame⟩ := X20.leave (v := some (.int (nar .char (own_c y)))) (fun h => by rw [Bd.returns] at h; cases h)
  refine ⟨_, _, pre0 _ (fl21 _ ?_), hrun, hended, _, _, rfl, ?_, ⟨_, rfl⟩, hW, hsame.mono (by decide) (by decide)⟩
  · exact retN X20 hx (t := .char) Bd.returns (by simp) (hb hby d3_14) hr
  · show Q3 _ _ _ _ _ _ _ _ _ _ T20.heap _
    exact ⟨by rw [hy1], N20, he20⟩
theorem ef_2 (m : MethodId) (x0 : Addr) : entryFrame m #[(.ref x0)] 1 = mkF m 0 #[.val (.ref x0)] [] := by first | (simp [entryFrame, mkF, argsToLocals, Value.category]; done) | rfl
def Q2 (Z : State) (a1 : Addr) (G1 : Int32) (h0 : Heap) (n0 : Nat) (v : Option Value) (h : Heap) (L : List Loc) : Prop := v = some (.int (1 : Int32)) ∧ Fr n0 L ∧ h = h0
set_option maxRecDepth 65536 in
set_option maxHeartbeats 40000000 in
theorem rm2 (l : Launch) (Z : State) (a0 : Array Value) (hw : ∀ d ∈ tables_1, d.before a0 Z = true) (ws : List Jvm.Cond) (a1 : Addr) (G1 : Int32) (h0 : Heap) (n0 : Nat) (Z0 : n0 ≤ h0.size) (S1 : Sta Z h0 "java/lang/String" "COMPACT_STRINGS" "Z" (.int G1)) (hG1 : ¬ G1 = 0) (F_coder : Fld Z h0 a1 "java/lang/String" "coder" "B" (.int (0 : Int32))) :
    MetFree l (⟨"java/lang/String", "isLatin1", "()Z"⟩ : MethodName) (head1 (Jvm.Cond.code (⟨"java/lang/String", "isLatin1", "()Z"⟩ : MethodName) jdk_42_method_154_code 1 (some .boolean) :: ws) ({ frames := 0, cells := 0, slots := 0, locals := 0 } : Room)) (fun a U => a = #[(.ref a1)] ∧ Z.Warmed39 U.vm ∧ U.heap = h0) (fun _ _ _ _ _ => True) (fun _ U o U' => ∃ v L, o = .returned v ∧ Q2 Z a1 G1 h0 n0 v U'.heap L ∧ FrameEnd U o U' L ({ frames := 0, cells := 0, slots := 0, locals := 0 } : Room).cells ({ frames := 0, cells := 0, slots := 0, locals := 0 } : Room).slots) := by
  refine MetFree.of_bodySF (plainFor_of_name pn_2) hisR ?_
  intro p e s m args below meth c s₁ Bd hml0 hP hK
  obtain ⟨rfl, hZ, hh⟩ := hP
  have hx := Bd.exec
  have hby := Bd.bytes
  have hml : c.maxLocals = 1 := hml0
  have hown : s.vm.findClass "java/lang/String" = some m.cls := findClass_of_methodNamed Bd.named
  have hnm := (name_of_methodNamed Bd.named Bd.method).1
  have X0 : Stand p l e ({ frames := 0, cells := 0, slots := 0, locals := 0 } : Room) s m #[(.ref a1)] below meth c s₁ [] 0 0 := Stand.of_body Bd
  have e0 : s₁.heap = h0 := by rw [← hh, Bd.state]; rfl
  have N0 := Fr.nil n0
  have pre0 : ∀ t, Steps p.tables e below (s₁.setTop (mkF m 0 #[.val (.ref a1)] [])) t → Steps p.tables e below (s₁.setTop (entryFrame m #[(.ref a1)] 1)) t := fun t k => castTop (ef_2 m a1) k
  obtain ⟨T22, X22, e22, st22⟩ := getS2 X0 hx hZ hown (host := "") (Or.inl (hw _ (List.mem_of_getElem? (i := 19) rfl))) Via.refl e0 S1 (g := (mkF m 0 #[.val (.ref a1)] [])) rfl (hb hby d2_0)
  obtain ⟨T23, X23, e23, st23⟩ := getF X22 hx hZ hown (host := "") (Or.inl (hw _ (List.mem_of_getElem? (i := 20) rfl))) Via.refl e22 F_coder (g := (mkF m 7 #[.val (.ref a1)] [(.ref a1)])) rfl rfl (hb hby d2_7)
  have fl24 : ∀ target, Steps p.tables e below (T23.setTop (mkF m 18 #[.val (.ref a1)] [(.int (1 : Int32))])) target → Steps p.tables e below (s₁.setTop (mkF m 0 #[.val (.ref a1)] [])) target := fun target kt => by
    show Steps p.tables e below (s₁.setTop (mkF m 0 #[.val (.ref a1)] [])) _
    refine st22 _ ?_
    show Steps p.tables e below (T22.setTop (mkF m 3 #[.val (.ref a1)] [(.int G1)])) _
    refine XS.ifNo X22.here hx rfl (hb hby d2_3) rfl ((if0 _ _).trans (feq (hG1 : ¬ (G1 = (0 : Int32)))).1) ?_
    show Steps p.tables e below (T22.setTop (mkF m 6 #[.val (.ref a1)] [])) _
    refine XS.aloadN X22.here hx rfl (hb hby d2_6) rfl rfl ?_
    show Steps p.tables e below (T22.setTop (mkF m 7 #[.val (.ref a1)] [(.ref a1)])) _
    refine st23 _ ?_
    show Steps p.tables e below (T23.setTop (mkF m 10 #[.val (.ref a1)] [(.int (0 : Int32))])) _
    refine XS.ifNo X23.here hx rfl (hb hby d2_10) rfl ((if0 _ _).trans (teq (by decide : (0 : Int32) = (0 : Int32))).2) ?_
    show Steps p.tables e below (T23.setTop (mkF m 13 #[.val (.ref a1)] [])) _
    refine XS.iconst X23.here hx rfl (hb hby d2_13) ?_
    show Steps p.tables e below (T23.setTop (mkF m 14 #[.val (.ref a1)] [(.int (1 : Int32))])) _
    refine XS.goto X23.here hx rfl (pc0 := 14) (pc' := 18) rfl (hb hby d2_14) (by decide) (by decide) ?_
    exact kt
  obtain ⟨fs, hr, hrun, hended, hW, hsame⟩ := X23.leave (v := some (.int (1 : Int32))) (fun h => by rw [Bd.returns] at h; cases h)
  refine ⟨_, _, pre0 _ (fl24 _ ?_), hrun, hended, _, _, rfl, ?_, ⟨_, rfl⟩, hW, hsame.mono (by decide) (by decide)⟩
  · exact retN X23 hx (t := .boolean) Bd.returns (by simp) (hb hby d2_18) hr
  · show Q2 _ _ _ _ _ _ T23.heap _
    rw [e23]
    exact ⟨rfl, N0, rfl⟩
theorem ef_1 (m : MethodId) (x0 : Addr) (x1 : Int32) : entryFrame m #[(.ref x0), (.int x1)] 2 = mkF m 0 #[.val (.ref x0), .val (.int x1)] [] := by first | (simp [entryFrame, mkF, argsToLocals, Value.category]; done) | rfl
def Q1 (Z : State) (a1 : Addr) (p2 : Int32) (b1 : Addr) (kB : ClassId) (vs : List Value) (y : Int32) (G1 : Int32) (G3 : Value) (h0 : Heap) (n0 : Nat) (v : Option Value) (h : Heap) (L : List Loc) : Prop := v = some (.int y) ∧ Fr n0 L ∧ h = h0
set_option maxRecDepth 65536 in
set_option maxHeartbeats 40000000 in
theorem rm1 (l : Launch) (Z : State) (a0 : Array Value) (hw : ∀ d ∈ tables_1, d.before a0 Z = true) (ws : List Jvm.Cond) (a1 : Addr) (p2 : Int32) (b1 : Addr) (kB : ClassId) (vs : List Value) (y : Int32) (G1 : Int32) (G3 : Value) (h0 : Heap) (n0 : Nat) (Z0 : n0 ≤ h0.size) (S1 : Sta Z h0 "java/lang/String" "COMPACT_STRINGS" "Z" (.int G1)) (hG1 : ¬ G1 = 0) (hrf_G3 : G3.isRef = true) (S2 : Sta Z h0 "jdk/internal/util/Preconditions" "SIOOBE_FORMATTER" "Ljava/util/function/BiFunction;" G3) (E_a1 : Exa Z h0 a1 "java/lang/String") (F_coder : Fld Z h0 a1 "java/lang/String" "coder" "B" (.int (0 : Int32))) (F_value : Fld Z h0 a1 "java/lang/String" "value" "[B" (.ref b1)) (V1 : Arv Z h0 b1 kB .byte (16 : Int32) vs (.int (0 : Int32))) (hj : ¬ p2 < 0 ∧ p2 < (16 : Int32)) (hy : vs.getD p2.toNatClampNeg (.int (0 : Int32)) = .int y) (hy1 : nar .char (own_c y) = y) (hy2 : nar .char y = y) :
    MetFree l (⟨"java/lang/String", "charAt", "(I)C"⟩ : MethodName) (head1 (Jvm.Cond.code (⟨"java/lang/String", "charAt", "(I)C"⟩ : MethodName) jdk_42_method_56_code 2 (some .char) :: ws) ({ frames := 3, cells := 0, slots := 0, locals := 40 } : Room)) (fun a U => a = #[(.ref a1), (.int p2)] ∧ Z.Warmed39 U.vm ∧ U.heap = h0) (fun _ _ _ _ _ => True) (fun _ U o U' => ∃ v L, o = .returned v ∧ Q1 Z a1 p2 b1 kB vs y G1 G3 h0 n0 v U'.heap L ∧ FrameEnd U o U' L ({ frames := 3, cells := 0, slots := 0, locals := 40 } : Room).cells ({ frames := 3, cells := 0, slots := 0, locals := 40 } : Room).slots) := by
  refine MetFree.of_bodySF (plainFor_of_name pn_2) hisR ?_
  intro p e s m args below meth c s₁ Bd hml0 hP hK
  obtain ⟨rfl, hZ, hh⟩ := hP
  have hx := Bd.exec
  have hby := Bd.bytes
  have hml : c.maxLocals = 2 := hml0
  have hown : s.vm.findClass "java/lang/String" = some m.cls := findClass_of_methodNamed Bd.named
  have hnm := (name_of_methodNamed Bd.named Bd.method).1
  have X0 : Stand p l e ({ frames := 3, cells := 0, slots := 0, locals := 40 } : Room) s m #[(.ref a1), (.int p2)] below meth c s₁ [] 0 0 := Stand.of_body Bd
  have e0 : s₁.heap = h0 := by rw [← hh, Bd.state]; rfl
  have N0 := Fr.nil n0
  have pre0 : ∀ t, Steps p.tables e below (s₁.setTop (mkF m 0 #[.val (.ref a1), .val (.int p2)] [])) t → Steps p.tables e below (s₁.setTop (entryFrame m #[(.ref a1), (.int p2)] 2)) t := fun t k => castTop (ef_1 m a1 p2) k
  obtain ⟨cq25, kq25, q25a, q25b, q25c⟩ := isOf hZ e0 E_a1
  obtain ⟨_, _, ⟨T25, L25, k25, n25⟩, -, X25, ⟨Lc25, hQ25, l25, y25, z25⟩, st25⟩ := X0.virtualBack hx (y := (⟨"java/lang/String", "isLatin1", "()Z"⟩ : MethodName)) (z := (⟨"java/lang/String", "isLatin1", "()Z"⟩ : MethodName)) hown (mvT hZ (hw _ (List.mem_of_getElem? (i := 14) rfl))) (mvT hZ (hw _ (List.mem_of_getElem? (i := 15) rfl))) (notFace_of_selects (args := #[]) (mvT hZ (hw _ (List.mem_of_getElem? (i := 17) rfl)))) (mvT hZ (hw _ (List.mem_of_getElem? (i := 17) rfl))) (mvT hZ (hw _ (List.mem_of_getElem? (i := 16) rfl))) (by decide) (backOf (W := 0) (rm2 l Z a0 hw [] a1 G1 h0 n0 Z0 S1 hG1 F_coder) hZ (hw _ (List.mem_of_getElem? (i := 18) rfl)) (hw _ (List.mem_of_getElem? (i := 1) rfl)) (by decide) (by decide)) q25a q25c (g := (mkF m 1 #[.val (.ref a1), .val (.int p2)] [(.ref a1)])) rfl (by rw [hml]; rfl) (Steps.refl _) (argsL := []) (rest := []) (lenOf pd_2 rfl) rfl (by show 2 * 0 + _ ≤ _; exact Nat.le_of_eq rfl) (hb hby d1_1) (fun _ _ => ⟨rfl, e0, (by decide : 0 + 0 ≤ _), (by decide : 0 + 0 ≤ _)⟩)
  dsimp only [Pt.U, Pt.locs, Pt.cells, Pt.slots] at X25 l25 y25 z25 st25 hQ25
  subst l25 y25 z25
  obtain ⟨rfl, N25q, he25⟩ := hQ25
  have N25 := Fr.app N0 N25q
  have Kc25 : Keep h0 T25.heap [] := by rw [he25]; exact Keep.refl _ _
  have E_a1_25 := E_a1.keep Kc25
  have F_value_25 := F_value.keep Kc25 nin0
  have V1_25 := V1.keep Kc25 nin0
  have K25 : Keep h0 T25.heap [] := (Keep.refl h0 []).trans Kc25 all0
  have z25z : n0 ≤ T25.heap.size := Nat.le_trans Z0 Kc25.1
  have S2a : Sta Z T25.heap "jdk/internal/util/Preconditions" "SIOOBE_FORMATTER" "Ljava/util/function/BiFunction;" G3 := by rw [he25]; exact S2
  obtain ⟨T26, X26, e26, st26⟩ := getF X25 hx hZ hown (host := "") (Or.inl (hw _ (List.mem_of_getElem? (i := 21) rfl))) Via.refl rfl F_value_25 (g := (mkF m 8 #[.val (.ref a1), .val (.int p2)] [(.ref a1)])) rfl rfl (hb hby d1_8)
  obtain ⟨_, _, ⟨T27, L27, k27, n27⟩, -, X27, ⟨Lc27, hQ27, l27, y27, z27⟩, st27⟩ := Jvm.LawKit.callS X26 hx (y := (⟨"java/lang/StringLatin1", "charAt", "([BI)C"⟩ : MethodName)) hown (mvT hZ (hw _ (List.mem_of_getElem? (i := 22) rfl))) (mvT hZ (hw _ (List.mem_of_getElem? (i := 23) rfl))) (mvT hZ (hw _ (List.mem_of_getElem? (i := 24) rfl))) (mvT hZ (hw _ (List.mem_of_getElem? (i := 25) rfl))) (by decide) (backOf (W := 0) (rm3 l Z a0 hw [] b1 p2 kB vs y G3 T25.heap n0 z25z hrf_G3 S2a V1_25 hj hy hy1) hZ (hw _ (List.mem_of_getElem? (i := 25) rfl)) (hw _ (List.mem_of_getElem? (i := 24) rfl)) (by decide) (by decide)) (g := (mkF m 12 #[.val (.ref a1), .val (.int p2)] [(.int p2), (.ref b1)])) rfl (by rw [hml]; rfl) (argsL := [(.ref b1), (.int p2)]) (rest := []) (lenOf pd_3 rfl) rfl (by show 2 * 0 + _ ≤ _; exact Nat.le_of_eq rfl) (hb hby d1_12) (fun _ _ => ⟨rfl, e26, (by decide : 0 + 0 ≤ _), (by decide : 0 + 0 ≤ _)⟩)
  dsimp only [Pt.U, Pt.locs, Pt.cells, Pt.slots] at X27 l27 y27 z27 st27 hQ27
  subst l27 y27 z27
  obtain ⟨rfl, N27q, he27⟩ := hQ27
  have N27 := Fr.app N25 N27q
  have fl28 : ∀ target, Steps p.tables e below (T27.setTop (mkF m 15 #[.val (.ref a1), .val (.int p2)] [(.int y)])) target → Steps p.tables e below (s₁.setTop (mkF m 0 #[.val (.ref a1), .val (.int p2)] [])) target := fun target kt => by
    show Steps p.tables e below (s₁.setTop (mkF m 0 #[.val (.ref a1), .val (.int p2)] [])) _
    refine XS.aloadN X0.here hx rfl (hb hby d1_0) rfl rfl ?_
    show Steps p.tables e below (s₁.setTop (mkF m 1 #[.val (.ref a1), .val (.int p2)] [(.ref a1)])) _
    refine st25.trans ?_
    show Steps p.tables e below (T25.setTop (mkF m 4 #[.val (.ref a1), .val (.int p2)] [(.int (1 : Int32))])) _
    refine XS.ifNo X25.here hx rfl (hb hby d1_4) rfl ((if0 _ _).trans (feq (by decide : ¬ ((1 : Int32) = (0 : Int32)))).1) ?_
    show Steps p.tables e below (T25.setTop (mkF m 7 #[.val (.ref a1), .val (.int p2)] [])) _
    refine XS.aloadN X25.here hx rfl (hb hby d1_7) rfl rfl ?_
    show Steps p.tables e below (T25.setTop (mkF m 8 #[.val (.ref a1), .val (.int p2)] [(.ref a1)])) _
    refine st26 _ ?_
    show Steps p.tables e below (T26.setTop (mkF m 11 #[.val (.ref a1), .val (.int p2)] [(.ref b1)])) _
    refine XS.iloadN X26.here hx rfl (hb hby d1_11) rfl ?_
    show Steps p.tables e below (T26.setTop (mkF m 12 #[.val (.ref a1), .val (.int p2)] [(.int p2), (.ref b1)])) _
    refine st27 _ ?_
    exact kt
  obtain ⟨fs, hr, hrun, hended, hW, hsame⟩ := X27.leave (v := some (.int (nar .char y))) (fun h => by rw [Bd.returns] at h; cases h)
  refine ⟨_, _, pre0 _ (fl28 _ ?_), hrun, hended, _, _, rfl, ?_, ⟨_, rfl⟩, hW, hsame.mono (by decide) (by decide)⟩
  · exact retN X27 hx (t := .char) Bd.returns (by simp) (hb hby d1_15) hr
  · show Q1 _ _ _ _ _ _ _ _ _ _ _ _ T27.heap _
    exact ⟨by rw [hy2], N27, he27.trans he25⟩
theorem ef_0 (m : MethodId) (x0 : Int32) (x1 : Int32) : entryFrame m #[(.int x0), (.int x1)] maxLocals = mkF m 0 #[.val (.int x0), .val (.int x1), .unset, .unset, .unset, .unset, .unset, .unset] [] := by first | (simp [entryFrame, mkF, argsToLocals, Value.category, maxLocals]; done) | rfl
def Q0 (Z : State) (p1 : Int32) (p2 : Int32) (G1 : Int32) (G3 : Value) (h0 : Heap) (n0 : Nat) (v : Option Value) (h : Heap) (L : List Loc) : Prop := v = some (.int (1 : Int32)) ∧ Fr n0 L
set_option maxRecDepth 65536 in
set_option maxHeartbeats 40000000 in
theorem rm0 (l : Launch) (Z : State) (a0 : Array Value) (hw : ∀ d ∈ tables_1, d.before a0 Z = true) (ws : List Jvm.Cond) (p1 : Int32) (p2 : Int32) (G1 : Int32) (G3 : Value) (h0 : Heap) (n0 : Nat) (Z0 : n0 ≤ h0.size) (S1 : Sta Z h0 "java/lang/String" "COMPACT_STRINGS" "Z" (.int G1)) (hG1 : ¬ G1 = 0) (hrf_G3 : G3.isRef = true) (S2 : Sta Z h0 "jdk/internal/util/Preconditions" "SIOOBE_FORMATTER" "Ljava/util/function/BiFunction;" G3) (held7 : Jvm.Lit.constHeld Z "com/example/hermod/hermod/HexDigitValuePinLaw" 7) (held9 : Jvm.Lit.constHeld Z "com/example/hermod/hermod/HexDigitValuePinLaw" 9) (hcw : Jvm.Lit.compactW.before a0 Z = true) :
    MetFree l x (head1 (Jvm.Cond.code x code maxLocals ret :: ws) room_1) (fun a U => a = #[(.int p1), (.int p2)] ∧ U = Z ∧ U.heap = h0) (fun _ _ _ _ _ => True) (fun _ U o U' => ∃ v L, o = .returned v ∧ Q0 Z p1 p2 G1 G3 h0 n0 v U'.heap L ∧ ReturnedEndW U o U' L room_1.cells room_1.slots) := by
  refine MetFree.of_bodySF (plainFor_of_name pn_4) hisR ?_
  intro p e s m args below meth c s₁ Bd hml0 hP hK
  obtain ⟨rfl, hU, hh⟩ := hP
  have hZ : Z.Warmed39 s.vm := by rw [hU]; exact State.Warmed39.refl Z
  have hx := Bd.exec
  have hby := Bd.bytes
  have hml : c.maxLocals = 8 := hml0
  have hown : s.vm.findClass "com/example/hermod/hermod/HexDigitValuePinLaw" = some m.cls := findClass_of_methodNamed Bd.named
  have hnm := (name_of_methodNamed Bd.named Bd.method).1
  have X0 : Stand p l e room_1 s m #[(.int p1), (.int p2)] below meth c s₁ [] 0 0 := Stand.of_body Bd
  have e0 : s₁.heap = h0 := by rw [← hh, Bd.state]; rfl
  have N0 := Fr.nil n0
  have pre0 : ∀ t, Steps p.tables e below (s₁.setTop (mkF m 0 #[.val (.int p1), .val (.int p2), .unset, .unset, .unset, .unset, .unset, .unset] [])) t → Steps p.tables e below (s₁.setTop (entryFrame m #[(.int p1), (.int p2)] maxLocals)) t := fun t k => castTop (ef_0 m p1 p2) k
  have hh0 : s.heap = h0 := hh
  have hwS : ∀ a ∈ Bundle.stringAtoms, a.before a0 Z = true := fun d hd => hw d ((by decide +kernel : ∀ d ∈ Bundle.stringAtoms, d ∈ tables_1) d hd)
  have hkeep : ∀ (b : Addr) (cl : Cell), Z.heap[b]? = some cl → s.heap[b]? = some cl := by rw [hU]; exact fun _ _ q => q
  have I0 : IB Z s.vm [] := by rw [hU]; exact IB.start
  have Si0 : s.Since s.vm 0 := (State.WarmedH.refl s).since 0
  have Nf : Fr s.heap.size ([] : List Loc) := Fr.nil _
  obtain ⟨a29, T29, h29, kk29, b29, kc29, X29, e29, E29, Si29, hk29, hZ, hown, Ea29, Fc29, Fv29, Va29, la29, lb29, I29, st29⟩ := ldcSV (s := s) (vm0 := s.vm) X0 hx hZ hown (hw _ (List.mem_of_getElem? (i := 0) rfl)) hwS e0 Si0 (Nat.zero_le _) Nf hkeep I0 (by decide) held7 hcw (vs := own_vlo) (z := (16 : Int32)) (by decide +kernel) (by decide) (by decide) (g := (mkF m 0 #[.val (.int p1), .val (.int p2), .unset, .unset, .unset, .unset, .unset, .unset] [])) rfl (hb hby at_0) (n := 64) (by decide +kernel) (by decide) (by decide) (by decide)
  have K29 : Keep h0 h29 [] := (Keep.refl h0 []).ext E29
  have z29 : n0 ≤ h29.size := Nat.le_trans Z0 E29.1
  have S1x := S1.ext E29
  have S2x := S2.ext E29
  obtain ⟨a30, T30, h30, kk30, b30, kc30, X30, e30, E30, Si30, hk30, hZ, hown, Ea30, Fc30, Fv30, Va30, la30, lb30, I30, st30⟩ := ldcSV (s := s) (vm0 := T29.vm) X29 hx hZ hown (hw _ (List.mem_of_getElem? (i := 8) rfl)) hwS e29 Si29 hk29 Nf hkeep I29 (by decide) held9 hcw (vs := own_vup) (z := (16 : Int32)) (by decide +kernel) (by decide) (by decide) (g := (mkF m 3 #[.val (.int p1), .val (.int p2), .val (.ref a29), .unset, .unset, .unset, .unset, .unset] [])) rfl (hb hby at_3) (n := 64) (by decide +kernel) (by decide) (by decide) (by decide)
  have Ea29_30 := Ea29.ext E30
  have Fc29_30 := Fc29.ext E30
  have Fv29_30 := Fv29.ext E30
  have Va29_30 := Va29.ext E30
  have K30 : Keep h0 h30 [] := K29.ext E30
  have z30 : n0 ≤ h30.size := Nat.le_trans z29 E30.1
  have S1y := S1x.ext E30
  have S2y := S2x.ext E30
  have fl31 : ∀ target, Steps p.tables e below (T30.setTop (mkF m 10 #[.val (.int p1), .val (.int p2), .val (.ref a29), .val (.ref a30), .unset, .unset, .unset, .unset] [(.int (p2 &&& (15 : Int32)))])) target → Steps p.tables e below (s₁.setTop (mkF m 0 #[.val (.int p1), .val (.int p2), .unset, .unset, .unset, .unset, .unset, .unset] [])) target := fun target kt => by
    show Steps p.tables e below (s₁.setTop (mkF m 0 #[.val (.int p1), .val (.int p2), .unset, .unset, .unset, .unset, .unset, .unset] [])) _
    refine st29 _ ?_
    show Steps p.tables e below (T29.setTop (mkF m 2 #[.val (.int p1), .val (.int p2), .unset, .unset, .unset, .unset, .unset, .unset] [(.ref a29)])) _
    refine XS.astoreN X29.here hx rfl (hb hby at_2) rfl rfl (l' := #[.val (.int p1), .val (.int p2), .val (.ref a29), .unset, .unset, .unset, .unset, .unset]) rfl ?_
    show Steps p.tables e below (T29.setTop (mkF m 3 #[.val (.int p1), .val (.int p2), .val (.ref a29), .unset, .unset, .unset, .unset, .unset] [])) _
    refine st30 _ ?_
    show Steps p.tables e below (T30.setTop (mkF m 5 #[.val (.int p1), .val (.int p2), .val (.ref a29), .unset, .unset, .unset, .unset, .unset] [(.ref a30)])) _
    refine XS.astoreN X30.here hx rfl (hb hby at_5) rfl rfl (l' := #[.val (.int p1), .val (.int p2), .val (.ref a29), .val (.ref a30), .unset, .unset, .unset, .unset]) rfl ?_
    show Steps p.tables e below (T30.setTop (mkF m 6 #[.val (.int p1), .val (.int p2), .val (.ref a29), .val (.ref a30), .unset, .unset, .unset, .unset] [])) _
    refine XS.iloadN X30.here hx rfl (hb hby at_6) rfl ?_
    show Steps p.tables e below (T30.setTop (mkF m 7 #[.val (.int p1), .val (.int p2), .val (.ref a29), .val (.ref a30), .unset, .unset, .unset, .unset] [(.int p2)])) _
    refine XS.bipush X30.here hx rfl (hb hby at_7) ?_
    show Steps p.tables e below (T30.setTop (mkF m 9 #[.val (.int p1), .val (.int p2), .val (.ref a29), .val (.ref a30), .unset, .unset, .unset, .unset] [(.int (15 : Int32)), (.int p2)])) _
    refine XS.iand X30.here hx rfl (hb hby at_9) rfl ?_
    exact kt
  obtain ⟨k, hk⟩ : ∃ k : Int32, (p2 &&& (15 : Int32)) = k := ⟨_, rfl⟩
  have hkb := own_k p2
  rw [hk] at hkb fl31
  have tk := own_at k hkb
  obtain ⟨cq32, kq32, q32a, q32b, q32c⟩ := isOf hZ e30 Ea29_30
  obtain ⟨_, _, ⟨T32, L32, k32, n32⟩, -, X32, ⟨Lc32, hQ32, l32, y32, z32⟩, st32⟩ := X30.virtualBack hx (y := (⟨"java/lang/String", "charAt", "(I)C"⟩ : MethodName)) (z := (⟨"java/lang/String", "charAt", "(I)C"⟩ : MethodName)) hown (mvT hZ (hw _ (List.mem_of_getElem? (i := 9) rfl))) (mvT hZ (hw _ (List.mem_of_getElem? (i := 10) rfl))) (notFace_of_selects (args := #[]) (mvT hZ (hw _ (List.mem_of_getElem? (i := 12) rfl)))) (mvT hZ (hw _ (List.mem_of_getElem? (i := 12) rfl))) (mvT hZ (hw _ (List.mem_of_getElem? (i := 11) rfl))) (by decide) (backOf (W := 0) (rm1 l Z a0 hw [] a29 k b29 kc29 own_vlo (own_lo k) G1 G3 h30 n0 z30 S1y hG1 hrf_G3 S2y Ea29_30 Fc29_30 Fv29_30 Va29_30 hkb tk.1 tk.2.2.1 tk.2.2.2.2.1) hZ (hw _ (List.mem_of_getElem? (i := 13) rfl)) (hw _ (List.mem_of_getElem? (i := 1) rfl)) (by decide) (by decide)) q32a q32c (g := (mkF m 15 #[.val (.int p1), .val (.int p2), .val (.ref a29), .val (.ref a30), .val (.int k), .unset, .unset, .unset] [(.int k), (.ref a29)])) rfl (by rw [hml]; rfl) (Steps.refl _) (argsL := [(.int k)]) (rest := []) (lenOf pd_4 rfl) rfl (by show 2 * 0 + _ ≤ _; exact Nat.le_of_eq rfl) (hb hby at_15) (fun _ _ => ⟨rfl, e30, (by decide : 4 + 0 ≤ _), (by decide : 136 + 0 ≤ _)⟩)
  dsimp only [Pt.U, Pt.locs, Pt.cells, Pt.slots] at X32 l32 y32 z32 st32 hQ32
  subst l32 y32 z32
  obtain ⟨rfl, N32q, he32⟩ := hQ32
  have N32 := Fr.app N0 N32q
  have Kc32 : Keep h30 T32.heap [] := by rw [he32]; exact Keep.refl _ _
  have Ea29_32 := Ea29_30.keep Kc32
  have Fc29_32 := Fc29_30.keep Kc32 nin0
  have Fv29_32 := Fv29_30.keep Kc32 nin0
  have Va29_32 := Va29_30.keep Kc32 nin0
  have Ea30_32 := Ea30.keep Kc32
  have Fc30_32 := Fc30.keep Kc32 nin0
  have Fv30_32 := Fv30.keep Kc32 nin0
  have Va30_32 := Va30.keep Kc32 nin0
  have K32 : Keep h0 T32.heap [] := K30.trans Kc32 all0
  have z32z : n0 ≤ T32.heap.size := Nat.le_trans z30 Kc32.1
  have zl32 : h30.size ≤ T32.heap.size := Kc32.1
  have S1y_32 : Sta Z T32.heap "java/lang/String" "COMPACT_STRINGS" "Z" (.int G1) := by rw [he32]; exact S1y
  have S2y_32 : Sta Z T32.heap "jdk/internal/util/Preconditions" "SIOOBE_FORMATTER" "Ljava/util/function/BiFunction;" G3 := by rw [he32]; exact S2y
  obtain ⟨_, _, ⟨T33, L33, k33, n33⟩, -, X33, ⟨Lc33, hQ33, l33, y33, z33⟩, st33⟩ := Jvm.LawKit.callS X32 hx (y := (⟨"com/example/hermod/hermod/HexDigit", "value", "(I)I"⟩ : MethodName)) hown (mvT hZ (hw _ (List.mem_of_getElem? (i := 34) rfl))) (mvT hZ (hw _ (List.mem_of_getElem? (i := 35) rfl))) (mvT hZ (hw _ (List.mem_of_getElem? (i := 36) rfl))) (mvT hZ (hw _ (List.mem_of_getElem? (i := 37) rfl))) (by decide) (backOf (W := 0) (rm6 l Z a0 hw [] (own_lo k) k T32.heap n0 z32z tk.2.2.2.2.2.2.1) hZ (hw _ (List.mem_of_getElem? (i := 37) rfl)) (hw _ (List.mem_of_getElem? (i := 36) rfl)) (by decide) (by decide)) (g := (mkF m 18 #[.val (.int p1), .val (.int p2), .val (.ref a29), .val (.ref a30), .val (.int k), .unset, .unset, .unset] [(.int (own_lo k))])) rfl (by rw [hml]; rfl) (argsL := [(.int (own_lo k))]) (rest := []) (lenOf pd_5 rfl) rfl (by show 2 * 0 + _ ≤ _; exact Nat.le_of_eq rfl) (hb hby at_18) (fun _ _ => ⟨rfl, rfl, (by decide : 4 + 0 ≤ _), (by decide : 136 + 0 ≤ _)⟩)
  dsimp only [Pt.U, Pt.locs, Pt.cells, Pt.slots] at X33 l33 y33 z33 st33 hQ33
  subst l33 y33 z33
  obtain ⟨rfl, N33q, he33⟩ := hQ33
  have N33 := Fr.app N32 N33q
  have Kc33 : Keep T32.heap T33.heap [] := by rw [he33]; exact Keep.refl _ _
  have Ea29_33 := Ea29_32.keep Kc33
  have Fc29_33 := Fc29_32.keep Kc33 nin0
  have Fv29_33 := Fv29_32.keep Kc33 nin0
  have Va29_33 := Va29_32.keep Kc33 nin0
  have Ea30_33 := Ea30_32.keep Kc33
  have Fc30_33 := Fc30_32.keep Kc33 nin0
  have Fv30_33 := Fv30_32.keep Kc33 nin0
  have Va30_33 := Va30_32.keep Kc33 nin0
  have K33 : Keep h0 T33.heap [] := K32.trans Kc33 all0
  have z33z : n0 ≤ T33.heap.size := Nat.le_trans z32z Kc33.1
  have zl33 : h30.size ≤ T33.heap.size := Nat.le_trans zl32 Kc33.1
  have S1y_33 : Sta Z T33.heap "java/lang/String" "COMPACT_STRINGS" "Z" (.int G1) := by rw [he33]; exact S1y_32
  have S2y_33 : Sta Z T33.heap "jdk/internal/util/Preconditions" "SIOOBE_FORMATTER" "Ljava/util/function/BiFunction;" G3 := by rw [he33]; exact S2y_32
  obtain ⟨cq34, kq34, q34a, q34b, q34c⟩ := isOf hZ rfl Ea30_33
  obtain ⟨_, _, ⟨T34, L34, k34, n34⟩, -, X34, ⟨Lc34, hQ34, l34, y34, z34⟩, st34⟩ := X33.virtualBack hx (y := (⟨"java/lang/String", "charAt", "(I)C"⟩ : MethodName)) (z := (⟨"java/lang/String", "charAt", "(I)C"⟩ : MethodName)) hown (mvT hZ (hw _ (List.mem_of_getElem? (i := 9) rfl))) (mvT hZ (hw _ (List.mem_of_getElem? (i := 10) rfl))) (notFace_of_selects (args := #[]) (mvT hZ (hw _ (List.mem_of_getElem? (i := 12) rfl)))) (mvT hZ (hw _ (List.mem_of_getElem? (i := 12) rfl))) (mvT hZ (hw _ (List.mem_of_getElem? (i := 11) rfl))) (by decide) (backOf (W := 0) (rm1 l Z a0 hw [] a30 k b30 kc30 own_vup (own_up k) G1 G3 T33.heap n0 z33z S1y_33 hG1 hrf_G3 S2y_33 Ea30_33 Fc30_33 Fv30_33 Va30_33 hkb tk.2.1 tk.2.2.2.1 tk.2.2.2.2.2.1) hZ (hw _ (List.mem_of_getElem? (i := 13) rfl)) (hw _ (List.mem_of_getElem? (i := 1) rfl)) (by decide) (by decide)) q34a q34c (g := (mkF m 29 #[.val (.int p1), .val (.int p2), .val (.ref a29), .val (.ref a30), .val (.int k), .unset, .unset, .unset] [(.int k), (.ref a30)])) rfl (by rw [hml]; rfl) (Steps.refl _) (argsL := [(.int k)]) (rest := []) (lenOf pd_4 rfl) rfl (by show 2 * 0 + _ ≤ _; exact Nat.le_of_eq rfl) (hb hby at_29) (fun _ _ => ⟨rfl, rfl, (by decide : 4 + 0 ≤ _), (by decide : 136 + 0 ≤ _)⟩)
  dsimp only [Pt.U, Pt.locs, Pt.cells, Pt.slots] at X34 l34 y34 z34 st34 hQ34
  subst l34 y34 z34
  obtain ⟨rfl, N34q, he34⟩ := hQ34
  have N34 := Fr.app N33 N34q
  have Kc34 : Keep T33.heap T34.heap [] := by rw [he34]; exact Keep.refl _ _
  have Ea29_34 := Ea29_33.keep Kc34
  have Fc29_34 := Fc29_33.keep Kc34 nin0
  have Fv29_34 := Fv29_33.keep Kc34 nin0
  have Va29_34 := Va29_33.keep Kc34 nin0
  have Ea30_34 := Ea30_33.keep Kc34
  have Fc30_34 := Fc30_33.keep Kc34 nin0
  have Fv30_34 := Fv30_33.keep Kc34 nin0
  have Va30_34 := Va30_33.keep Kc34 nin0
  have K34 : Keep h0 T34.heap [] := K33.trans Kc34 all0
  have z34z : n0 ≤ T34.heap.size := Nat.le_trans z33z Kc34.1
  have zl34 : h30.size ≤ T34.heap.size := Nat.le_trans zl33 Kc34.1
  have S1y_34 : Sta Z T34.heap "java/lang/String" "COMPACT_STRINGS" "Z" (.int G1) := by rw [he34]; exact S1y_33
  have S2y_34 : Sta Z T34.heap "jdk/internal/util/Preconditions" "SIOOBE_FORMATTER" "Ljava/util/function/BiFunction;" G3 := by rw [he34]; exact S2y_33
  obtain ⟨_, _, ⟨T35, L35, k35, n35⟩, -, X35, ⟨Lc35, hQ35, l35, y35, z35⟩, st35⟩ := Jvm.LawKit.callS X34 hx (y := (⟨"com/example/hermod/hermod/HexDigit", "value", "(I)I"⟩ : MethodName)) hown (mvT hZ (hw _ (List.mem_of_getElem? (i := 34) rfl))) (mvT hZ (hw _ (List.mem_of_getElem? (i := 35) rfl))) (mvT hZ (hw _ (List.mem_of_getElem? (i := 36) rfl))) (mvT hZ (hw _ (List.mem_of_getElem? (i := 37) rfl))) (by decide) (backOf (W := 0) (rm6 l Z a0 hw [] (own_up k) k T34.heap n0 z34z tk.2.2.2.2.2.2.2) hZ (hw _ (List.mem_of_getElem? (i := 37) rfl)) (hw _ (List.mem_of_getElem? (i := 36) rfl)) (by decide) (by decide)) (g := (mkF m 32 #[.val (.int p1), .val (.int p2), .val (.ref a29), .val (.ref a30), .val (.int k), .unset, .unset, .unset] [(.int (own_up k))])) rfl (by rw [hml]; rfl) (argsL := [(.int (own_up k))]) (rest := []) (lenOf pd_5 rfl) rfl (by show 2 * 0 + _ ≤ _; exact Nat.le_of_eq rfl) (hb hby at_32) (fun _ _ => ⟨rfl, rfl, (by decide : 4 + 0 ≤ _), (by decide : 136 + 0 ≤ _)⟩)
  dsimp only [Pt.U, Pt.locs, Pt.cells, Pt.slots] at X35 l35 y35 z35 st35 hQ35
  subst l35 y35 z35
  obtain ⟨rfl, N35q, he35⟩ := hQ35
  have N35 := Fr.app N34 N35q
  have Kc35 : Keep T34.heap T35.heap [] := by rw [he35]; exact Keep.refl _ _
  have Ea29_35 := Ea29_34.keep Kc35
  have Fc29_35 := Fc29_34.keep Kc35 nin0
  have Fv29_35 := Fv29_34.keep Kc35 nin0
  have Va29_35 := Va29_34.keep Kc35 nin0
  have Ea30_35 := Ea30_34.keep Kc35
  have Fc30_35 := Fc30_34.keep Kc35 nin0
  have Fv30_35 := Fv30_34.keep Kc35 nin0
  have Va30_35 := Va30_34.keep Kc35 nin0
  have K35 : Keep h0 T35.heap [] := K34.trans Kc35 all0
  have z35z : n0 ≤ T35.heap.size := Nat.le_trans z34z Kc35.1
  have zl35 : h30.size ≤ T35.heap.size := Nat.le_trans zl34 Kc35.1
  have S1y_35 : Sta Z T35.heap "java/lang/String" "COMPACT_STRINGS" "Z" (.int G1) := by rw [he35]; exact S1y_34
  have S2y_35 : Sta Z T35.heap "jdk/internal/util/Preconditions" "SIOOBE_FORMATTER" "Ljava/util/function/BiFunction;" G3 := by rw [he35]; exact S2y_34
  obtain ⟨r, hr⟩ : ∃ r : Int32, r = own_hex p1 := ⟨_, rfl⟩
  obtain ⟨_, _, ⟨T36, L36, k36, n36⟩, -, X36, ⟨Lc36, hQ36, l36, y36, z36⟩, st36⟩ := Jvm.LawKit.callS X35 hx (y := (⟨"com/example/hermod/hermod/HexDigit", "value", "(I)I"⟩ : MethodName)) hown (mvT hZ (hw _ (List.mem_of_getElem? (i := 34) rfl))) (mvT hZ (hw _ (List.mem_of_getElem? (i := 35) rfl))) (mvT hZ (hw _ (List.mem_of_getElem? (i := 36) rfl))) (mvT hZ (hw _ (List.mem_of_getElem? (i := 37) rfl))) (by decide) (backOf (W := 0) (rm6 l Z a0 hw [] p1 r T35.heap n0 z35z hr) hZ (hw _ (List.mem_of_getElem? (i := 37) rfl)) (hw _ (List.mem_of_getElem? (i := 36) rfl)) (by decide) (by decide)) (g := (mkF m 48 #[.val (.int p1), .val (.int p2), .val (.ref a29), .val (.ref a30), .val (.int k), .val (.int (1 : Int32)), .unset, .unset] [(.int p1)])) rfl (by rw [hml]; rfl) (argsL := [(.int p1)]) (rest := []) (lenOf pd_5 rfl) rfl (by show 2 * 0 + _ ≤ _; exact Nat.le_of_eq rfl) (hb hby at_48) (fun _ _ => ⟨rfl, rfl, (by decide : 4 + 0 ≤ _), (by decide : 136 + 0 ≤ _)⟩)
  dsimp only [Pt.U, Pt.locs, Pt.cells, Pt.slots] at X36 l36 y36 z36 st36 hQ36
  subst l36 y36 z36
  obtain ⟨rfl, N36q, he36⟩ := hQ36
  have N36 := Fr.app N35 N36q
  have Kc36 : Keep T35.heap T36.heap [] := by rw [he36]; exact Keep.refl _ _
  have Ea29_36 := Ea29_35.keep Kc36
  have Fc29_36 := Fc29_35.keep Kc36 nin0
  have Fv29_36 := Fv29_35.keep Kc36 nin0
  have Va29_36 := Va29_35.keep Kc36 nin0
  have Ea30_36 := Ea30_35.keep Kc36
  have Fc30_36 := Fc30_35.keep Kc36 nin0
  have Fv30_36 := Fv30_35.keep Kc36 nin0
  have Va30_36 := Va30_35.keep Kc36 nin0
  have K36 : Keep h0 T36.heap [] := K35.trans Kc36 all0
  have z36z : n0 ≤ T36.heap.size := Nat.le_trans z35z Kc36.1
  have zl36 : h30.size ≤ T36.heap.size := Nat.le_trans zl35 Kc36.1
  have S1y_36 : Sta Z T36.heap "java/lang/String" "COMPACT_STRINGS" "Z" (.int G1) := by rw [he36]; exact S1y_35
  have S2y_36 : Sta Z T36.heap "jdk/internal/util/Preconditions" "SIOOBE_FORMATTER" "Ljava/util/function/BiFunction;" G3 := by rw [he36]; exact S2y_35
  have so := own_sound p1
  rw [← hr] at so
  rcases so with h1 | ⟨h1, h2, h3, h4⟩ | ⟨h1, h2, h3, h4, h5⟩
  · have fl37 : ∀ target, Steps p.tables e below (T36.setTop (mkF m 125 #[.val (.int p1), .val (.int p2), .val (.ref a29), .val (.ref a30), .val (.int k), .val (.int (1 : Int32)), .val (.int r), .val (.int (1 : Int32))] [(.int (1 : Int32))])) target → Steps p.tables e below (T30.setTop (mkF m 10 #[.val (.int p1), .val (.int p2), .val (.ref a29), .val (.ref a30), .unset, .unset, .unset, .unset] [(.int k)])) target := fun target kt => by
      show Steps p.tables e below (T30.setTop (mkF m 10 #[.val (.int p1), .val (.int p2), .val (.ref a29), .val (.ref a30), .unset, .unset, .unset, .unset] [(.int k)])) _
      refine XS.istore X30.here hx rfl (hb hby at_10) rfl (l' := #[.val (.int p1), .val (.int p2), .val (.ref a29), .val (.ref a30), .val (.int k), .unset, .unset, .unset]) rfl ?_
      show Steps p.tables e below (T30.setTop (mkF m 12 #[.val (.int p1), .val (.int p2), .val (.ref a29), .val (.ref a30), .val (.int k), .unset, .unset, .unset] [])) _
      refine XS.aloadN X30.here hx rfl (hb hby at_12) rfl rfl ?_
      show Steps p.tables e below (T30.setTop (mkF m 13 #[.val (.int p1), .val (.int p2), .val (.ref a29), .val (.ref a30), .val (.int k), .unset, .unset, .unset] [(.ref a29)])) _
      refine XS.iload X30.here hx rfl (hb hby at_13) rfl ?_
      show Steps p.tables e below (T30.setTop (mkF m 15 #[.val (.int p1), .val (.int p2), .val (.ref a29), .val (.ref a30), .val (.int k), .unset, .unset, .unset] [(.int k), (.ref a29)])) _
      refine st32.trans ?_
      show Steps p.tables e below (T32.setTop (mkF m 18 #[.val (.int p1), .val (.int p2), .val (.ref a29), .val (.ref a30), .val (.int k), .unset, .unset, .unset] [(.int (own_lo k))])) _
      refine st33 _ ?_
      show Steps p.tables e below (T33.setTop (mkF m 21 #[.val (.int p1), .val (.int p2), .val (.ref a29), .val (.ref a30), .val (.int k), .unset, .unset, .unset] [(.int k)])) _
      refine XS.iload X33.here hx rfl (hb hby at_21) rfl ?_
      show Steps p.tables e below (T33.setTop (mkF m 23 #[.val (.int p1), .val (.int p2), .val (.ref a29), .val (.ref a30), .val (.int k), .unset, .unset, .unset] [(.int k), (.int k)])) _
      refine XS.icmpNo X33.here hx rfl (hb hby at_23) rfl (teq (rfl : k = k)).2 ?_
      show Steps p.tables e below (T33.setTop (mkF m 26 #[.val (.int p1), .val (.int p2), .val (.ref a29), .val (.ref a30), .val (.int k), .unset, .unset, .unset] [])) _
      refine XS.aloadN X33.here hx rfl (hb hby at_26) rfl rfl ?_
      show Steps p.tables e below (T33.setTop (mkF m 27 #[.val (.int p1), .val (.int p2), .val (.ref a29), .val (.ref a30), .val (.int k), .unset, .unset, .unset] [(.ref a30)])) _
      refine XS.iload X33.here hx rfl (hb hby at_27) rfl ?_
      show Steps p.tables e below (T33.setTop (mkF m 29 #[.val (.int p1), .val (.int p2), .val (.ref a29), .val (.ref a30), .val (.int k), .unset, .unset, .unset] [(.int k), (.ref a30)])) _
      refine st34.trans ?_
      show Steps p.tables e below (T34.setTop (mkF m 32 #[.val (.int p1), .val (.int p2), .val (.ref a29), .val (.ref a30), .val (.int k), .unset, .unset, .unset] [(.int (own_up k))])) _
      refine st35 _ ?_
      show Steps p.tables e below (T35.setTop (mkF m 35 #[.val (.int p1), .val (.int p2), .val (.ref a29), .val (.ref a30), .val (.int k), .unset, .unset, .unset] [(.int k)])) _
      refine XS.iload X35.here hx rfl (hb hby at_35) rfl ?_
      show Steps p.tables e below (T35.setTop (mkF m 37 #[.val (.int p1), .val (.int p2), .val (.ref a29), .val (.ref a30), .val (.int k), .unset, .unset, .unset] [(.int k), (.int k)])) _
      refine XS.icmpNo X35.here hx rfl (hb hby at_37) rfl (teq (rfl : k = k)).2 ?_
      show Steps p.tables e below (T35.setTop (mkF m 40 #[.val (.int p1), .val (.int p2), .val (.ref a29), .val (.ref a30), .val (.int k), .unset, .unset, .unset] [])) _
      refine XS.iconst X35.here hx rfl (hb hby at_40) ?_
      show Steps p.tables e below (T35.setTop (mkF m 41 #[.val (.int p1), .val (.int p2), .val (.ref a29), .val (.ref a30), .val (.int k), .unset, .unset, .unset] [(.int (1 : Int32))])) _
      refine XS.goto X35.here hx rfl (pc0 := 41) (pc' := 45) rfl (hb hby at_41) (by decide) (by decide) ?_
      show Steps p.tables e below (T35.setTop (mkF m 45 #[.val (.int p1), .val (.int p2), .val (.ref a29), .val (.ref a30), .val (.int k), .unset, .unset, .unset] [(.int (1 : Int32))])) _
      refine XS.istore X35.here hx rfl (hb hby at_45) rfl (l' := #[.val (.int p1), .val (.int p2), .val (.ref a29), .val (.ref a30), .val (.int k), .val (.int (1 : Int32)), .unset, .unset]) rfl ?_
      show Steps p.tables e below (T35.setTop (mkF m 47 #[.val (.int p1), .val (.int p2), .val (.ref a29), .val (.ref a30), .val (.int k), .val (.int (1 : Int32)), .unset, .unset] [])) _
      refine XS.iloadN X35.here hx rfl (hb hby at_47) rfl ?_
      show Steps p.tables e below (T35.setTop (mkF m 48 #[.val (.int p1), .val (.int p2), .val (.ref a29), .val (.ref a30), .val (.int k), .val (.int (1 : Int32)), .unset, .unset] [(.int p1)])) _
      refine st36 _ ?_
      show Steps p.tables e below (T36.setTop (mkF m 51 #[.val (.int p1), .val (.int p2), .val (.ref a29), .val (.ref a30), .val (.int k), .val (.int (1 : Int32)), .unset, .unset] [(.int r)])) _
      refine XS.istore X36.here hx rfl (hb hby at_51) rfl (l' := #[.val (.int p1), .val (.int p2), .val (.ref a29), .val (.ref a30), .val (.int k), .val (.int (1 : Int32)), .val (.int r), .unset]) rfl ?_
      show Steps p.tables e below (T36.setTop (mkF m 53 #[.val (.int p1), .val (.int p2), .val (.ref a29), .val (.ref a30), .val (.int k), .val (.int (1 : Int32)), .val (.int r), .unset] [])) _
      refine XS.iload X36.here hx rfl (hb hby at_53) rfl ?_
      show Steps p.tables e below (T36.setTop (mkF m 55 #[.val (.int p1), .val (.int p2), .val (.ref a29), .val (.ref a30), .val (.int k), .val (.int (1 : Int32)), .val (.int r), .unset] [(.int r)])) _
      refine XS.iconst X36.here hx rfl (hb hby at_55) ?_
      show Steps p.tables e below (T36.setTop (mkF m 56 #[.val (.int p1), .val (.int p2), .val (.ref a29), .val (.ref a30), .val (.int k), .val (.int (1 : Int32)), .val (.int r), .unset] [(.int (-1 : Int32)), (.int r)])) _
      refine XS.icmpNo X36.here hx rfl (hb hby at_56) rfl (teq (h1 : r = (-1 : Int32))).2 ?_
      show Steps p.tables e below (T36.setTop (mkF m 59 #[.val (.int p1), .val (.int p2), .val (.ref a29), .val (.ref a30), .val (.int k), .val (.int (1 : Int32)), .val (.int r), .unset] [])) _
      refine XS.iconst X36.here hx rfl (hb hby at_59) ?_
      show Steps p.tables e below (T36.setTop (mkF m 60 #[.val (.int p1), .val (.int p2), .val (.ref a29), .val (.ref a30), .val (.int k), .val (.int (1 : Int32)), .val (.int r), .unset] [(.int (1 : Int32))])) _
      refine XS.istore X36.here hx rfl (hb hby at_60) rfl (l' := #[.val (.int p1), .val (.int p2), .val (.ref a29), .val (.ref a30), .val (.int k), .val (.int (1 : Int32)), .val (.int r), .val (.int (1 : Int32))]) rfl ?_
      show Steps p.tables e below (T36.setTop (mkF m 62 #[.val (.int p1), .val (.int p2), .val (.ref a29), .val (.ref a30), .val (.int k), .val (.int (1 : Int32)), .val (.int r), .val (.int (1 : Int32))] [])) _
      refine XS.goto X36.here hx rfl (pc0 := 62) (pc' := 110) rfl (hb hby at_62) (by decide) (by decide) ?_
      show Steps p.tables e below (T36.setTop (mkF m 110 #[.val (.int p1), .val (.int p2), .val (.ref a29), .val (.ref a30), .val (.int k), .val (.int (1 : Int32)), .val (.int r), .val (.int (1 : Int32))] [])) _
      refine XS.iload X36.here hx rfl (hb hby at_110) rfl ?_
      show Steps p.tables e below (T36.setTop (mkF m 112 #[.val (.int p1), .val (.int p2), .val (.ref a29), .val (.ref a30), .val (.int k), .val (.int (1 : Int32)), .val (.int r), .val (.int (1 : Int32))] [(.int (1 : Int32))])) _
      refine XS.ifNo X36.here hx rfl (hb hby at_112) rfl ((if0 _ _).trans (feq (by decide : ¬ ((1 : Int32) = (0 : Int32)))).1) ?_
      show Steps p.tables e below (T36.setTop (mkF m 115 #[.val (.int p1), .val (.int p2), .val (.ref a29), .val (.ref a30), .val (.int k), .val (.int (1 : Int32)), .val (.int r), .val (.int (1 : Int32))] [])) _
      refine XS.iload X36.here hx rfl (hb hby at_115) rfl ?_
      show Steps p.tables e below (T36.setTop (mkF m 117 #[.val (.int p1), .val (.int p2), .val (.ref a29), .val (.ref a30), .val (.int k), .val (.int (1 : Int32)), .val (.int r), .val (.int (1 : Int32))] [(.int (1 : Int32))])) _
      refine XS.ifNo X36.here hx rfl (hb hby at_117) rfl ((if0 _ _).trans (feq (by decide : ¬ ((1 : Int32) = (0 : Int32)))).1) ?_
      show Steps p.tables e below (T36.setTop (mkF m 120 #[.val (.int p1), .val (.int p2), .val (.ref a29), .val (.ref a30), .val (.int k), .val (.int (1 : Int32)), .val (.int r), .val (.int (1 : Int32))] [])) _
      refine XS.iconst X36.here hx rfl (hb hby at_120) ?_
      show Steps p.tables e below (T36.setTop (mkF m 121 #[.val (.int p1), .val (.int p2), .val (.ref a29), .val (.ref a30), .val (.int k), .val (.int (1 : Int32)), .val (.int r), .val (.int (1 : Int32))] [(.int (1 : Int32))])) _
      refine XS.goto X36.here hx rfl (pc0 := 121) (pc' := 125) rfl (hb hby at_121) (by decide) (by decide) ?_
      exact kt
    obtain ⟨fs, hr_, hrun, hended, hRW⟩ := X36.leaveW (s := s) (vm₁ := T30.vm) Si30 (Nat.le_trans hk30 zl36) (v := some (.int (1 : Int32))) (fun h => by rw [Bd.returns] at h; cases h)
    refine ⟨_, _, pre0 _ (fl31 _ (fl37 _ ?_)), hrun, hended, _, _, rfl, ?_, ⟨_, rfl⟩, hRW.2.1, hRW.2.2.1, hRW.2.2.2.mono (by decide) (by decide)⟩
    · exact retN X36 hx (t := .boolean) Bd.returns (by simp) (hb hby at_125) hr_
    · exact ⟨rfl, N36⟩
  · have tr := own_at r ⟨h2, own_lt16 h3⟩
    obtain ⟨cq38, kq38, q38a, q38b, q38c⟩ := isOf hZ rfl Ea29_36
    obtain ⟨_, _, ⟨T38, L38, k38, n38⟩, -, X38, ⟨Lc38, hQ38, l38, y38, z38⟩, st38⟩ := X36.virtualBack hx (y := (⟨"java/lang/String", "charAt", "(I)C"⟩ : MethodName)) (z := (⟨"java/lang/String", "charAt", "(I)C"⟩ : MethodName)) hown (mvT hZ (hw _ (List.mem_of_getElem? (i := 9) rfl))) (mvT hZ (hw _ (List.mem_of_getElem? (i := 10) rfl))) (notFace_of_selects (args := #[]) (mvT hZ (hw _ (List.mem_of_getElem? (i := 12) rfl)))) (mvT hZ (hw _ (List.mem_of_getElem? (i := 12) rfl))) (mvT hZ (hw _ (List.mem_of_getElem? (i := 11) rfl))) (by decide) (backOf (W := 1) (rm1 l Z a0 hw [] a29 r b29 kc29 own_vlo (own_lo r) G1 G3 T36.heap n0 z36z S1y_36 hG1 hrf_G3 S2y_36 Ea29_36 Fc29_36 Fv29_36 Va29_36 ⟨h2, own_lt16 h3⟩ tr.1 tr.2.2.1 tr.2.2.2.2.1) hZ (hw _ (List.mem_of_getElem? (i := 13) rfl)) (hw _ (List.mem_of_getElem? (i := 1) rfl)) (by decide) (by decide)) q38a q38c (g := (mkF m 81 #[.val (.int p1), .val (.int p2), .val (.ref a29), .val (.ref a30), .val (.int k), .val (.int (1 : Int32)), .val (.int r), .unset] [(.int r), (.ref a29), (.int p1)])) rfl (by rw [hml]; rfl) (Steps.refl _) (argsL := [(.int r)]) (rest := [(.int p1)]) (lenOf pd_4 rfl) rfl (by show 2 * 0 + _ ≤ _; exact Nat.le_of_eq rfl) (hb hby at_81) (fun _ _ => ⟨rfl, rfl, (by decide : 4 + 0 ≤ _), (by decide : 136 + 0 ≤ _)⟩)
    dsimp only [Pt.U, Pt.locs, Pt.cells, Pt.slots] at X38 l38 y38 z38 st38 hQ38
    subst l38 y38 z38
    obtain ⟨rfl, N38q, he38⟩ := hQ38
    have N38 := Fr.app N36 N38q
    have Kc38 : Keep T36.heap T38.heap [] := by rw [he38]; exact Keep.refl _ _
    have Ea29_38 := Ea29_36.keep Kc38
    have Fc29_38 := Fc29_36.keep Kc38 nin0
    have Fv29_38 := Fv29_36.keep Kc38 nin0
    have Va29_38 := Va29_36.keep Kc38 nin0
    have Ea30_38 := Ea30_36.keep Kc38
    have Fc30_38 := Fc30_36.keep Kc38 nin0
    have Fv30_38 := Fv30_36.keep Kc38 nin0
    have Va30_38 := Va30_36.keep Kc38 nin0
    have K38 : Keep h0 T38.heap [] := K36.trans Kc38 all0
    have z38z : n0 ≤ T38.heap.size := Nat.le_trans z36z Kc38.1
    have zl38 : h30.size ≤ T38.heap.size := Nat.le_trans zl36 Kc38.1
    have S1y_38 : Sta Z T38.heap "java/lang/String" "COMPACT_STRINGS" "Z" (.int G1) := by rw [he38]; exact S1y_36
    have S2y_38 : Sta Z T38.heap "jdk/internal/util/Preconditions" "SIOOBE_FORMATTER" "Ljava/util/function/BiFunction;" G3 := by rw [he38]; exact S2y_36
    have fl39 : ∀ target, Steps p.tables e below (T38.setTop (mkF m 125 #[.val (.int p1), .val (.int p2), .val (.ref a29), .val (.ref a30), .val (.int k), .val (.int (1 : Int32)), .val (.int r), .val (.int (1 : Int32))] [(.int (1 : Int32))])) target → Steps p.tables e below (T30.setTop (mkF m 10 #[.val (.int p1), .val (.int p2), .val (.ref a29), .val (.ref a30), .unset, .unset, .unset, .unset] [(.int k)])) target := fun target kt => by
      show Steps p.tables e below (T30.setTop (mkF m 10 #[.val (.int p1), .val (.int p2), .val (.ref a29), .val (.ref a30), .unset, .unset, .unset, .unset] [(.int k)])) _
      refine XS.istore X30.here hx rfl (hb hby at_10) rfl (l' := #[.val (.int p1), .val (.int p2), .val (.ref a29), .val (.ref a30), .val (.int k), .unset, .unset, .unset]) rfl ?_
      show Steps p.tables e below (T30.setTop (mkF m 12 #[.val (.int p1), .val (.int p2), .val (.ref a29), .val (.ref a30), .val (.int k), .unset, .unset, .unset] [])) _
      refine XS.aloadN X30.here hx rfl (hb hby at_12) rfl rfl ?_
      show Steps p.tables e below (T30.setTop (mkF m 13 #[.val (.int p1), .val (.int p2), .val (.ref a29), .val (.ref a30), .val (.int k), .unset, .unset, .unset] [(.ref a29)])) _
      refine XS.iload X30.here hx rfl (hb hby at_13) rfl ?_
      show Steps p.tables e below (T30.setTop (mkF m 15 #[.val (.int p1), .val (.int p2), .val (.ref a29), .val (.ref a30), .val (.int k), .unset, .unset, .unset] [(.int k), (.ref a29)])) _
      refine st32.trans ?_
      show Steps p.tables e below (T32.setTop (mkF m 18 #[.val (.int p1), .val (.int p2), .val (.ref a29), .val (.ref a30), .val (.int k), .unset, .unset, .unset] [(.int (own_lo k))])) _
      refine st33 _ ?_
      show Steps p.tables e below (T33.setTop (mkF m 21 #[.val (.int p1), .val (.int p2), .val (.ref a29), .val (.ref a30), .val (.int k), .unset, .unset, .unset] [(.int k)])) _
      refine XS.iload X33.here hx rfl (hb hby at_21) rfl ?_
      show Steps p.tables e below (T33.setTop (mkF m 23 #[.val (.int p1), .val (.int p2), .val (.ref a29), .val (.ref a30), .val (.int k), .unset, .unset, .unset] [(.int k), (.int k)])) _
      refine XS.icmpNo X33.here hx rfl (hb hby at_23) rfl (teq (rfl : k = k)).2 ?_
      show Steps p.tables e below (T33.setTop (mkF m 26 #[.val (.int p1), .val (.int p2), .val (.ref a29), .val (.ref a30), .val (.int k), .unset, .unset, .unset] [])) _
      refine XS.aloadN X33.here hx rfl (hb hby at_26) rfl rfl ?_
      show Steps p.tables e below (T33.setTop (mkF m 27 #[.val (.int p1), .val (.int p2), .val (.ref a29), .val (.ref a30), .val (.int k), .unset, .unset, .unset] [(.ref a30)])) _
      refine XS.iload X33.here hx rfl (hb hby at_27) rfl ?_
      show Steps p.tables e below (T33.setTop (mkF m 29 #[.val (.int p1), .val (.int p2), .val (.ref a29), .val (.ref a30), .val (.int k), .unset, .unset, .unset] [(.int k), (.ref a30)])) _
      refine st34.trans ?_
      show Steps p.tables e below (T34.setTop (mkF m 32 #[.val (.int p1), .val (.int p2), .val (.ref a29), .val (.ref a30), .val (.int k), .unset, .unset, .unset] [(.int (own_up k))])) _
      refine st35 _ ?_
      show Steps p.tables e below (T35.setTop (mkF m 35 #[.val (.int p1), .val (.int p2), .val (.ref a29), .val (.ref a30), .val (.int k), .unset, .unset, .unset] [(.int k)])) _
      refine XS.iload X35.here hx rfl (hb hby at_35) rfl ?_
      show Steps p.tables e below (T35.setTop (mkF m 37 #[.val (.int p1), .val (.int p2), .val (.ref a29), .val (.ref a30), .val (.int k), .unset, .unset, .unset] [(.int k), (.int k)])) _
      refine XS.icmpNo X35.here hx rfl (hb hby at_37) rfl (teq (rfl : k = k)).2 ?_
      show Steps p.tables e below (T35.setTop (mkF m 40 #[.val (.int p1), .val (.int p2), .val (.ref a29), .val (.ref a30), .val (.int k), .unset, .unset, .unset] [])) _
      refine XS.iconst X35.here hx rfl (hb hby at_40) ?_
      show Steps p.tables e below (T35.setTop (mkF m 41 #[.val (.int p1), .val (.int p2), .val (.ref a29), .val (.ref a30), .val (.int k), .unset, .unset, .unset] [(.int (1 : Int32))])) _
      refine XS.goto X35.here hx rfl (pc0 := 41) (pc' := 45) rfl (hb hby at_41) (by decide) (by decide) ?_
      show Steps p.tables e below (T35.setTop (mkF m 45 #[.val (.int p1), .val (.int p2), .val (.ref a29), .val (.ref a30), .val (.int k), .unset, .unset, .unset] [(.int (1 : Int32))])) _
      refine XS.istore X35.here hx rfl (hb hby at_45) rfl (l' := #[.val (.int p1), .val (.int p2), .val (.ref a29), .val (.ref a30), .val (.int k), .val (.int (1 : Int32)), .unset, .unset]) rfl ?_
      show Steps p.tables e below (T35.setTop (mkF m 47 #[.val (.int p1), .val (.int p2), .val (.ref a29), .val (.ref a30), .val (.int k), .val (.int (1 : Int32)), .unset, .unset] [])) _
      refine XS.iloadN X35.here hx rfl (hb hby at_47) rfl ?_
      show Steps p.tables e below (T35.setTop (mkF m 48 #[.val (.int p1), .val (.int p2), .val (.ref a29), .val (.ref a30), .val (.int k), .val (.int (1 : Int32)), .unset, .unset] [(.int p1)])) _
      refine st36 _ ?_
      show Steps p.tables e below (T36.setTop (mkF m 51 #[.val (.int p1), .val (.int p2), .val (.ref a29), .val (.ref a30), .val (.int k), .val (.int (1 : Int32)), .unset, .unset] [(.int r)])) _
      refine XS.istore X36.here hx rfl (hb hby at_51) rfl (l' := #[.val (.int p1), .val (.int p2), .val (.ref a29), .val (.ref a30), .val (.int k), .val (.int (1 : Int32)), .val (.int r), .unset]) rfl ?_
      show Steps p.tables e below (T36.setTop (mkF m 53 #[.val (.int p1), .val (.int p2), .val (.ref a29), .val (.ref a30), .val (.int k), .val (.int (1 : Int32)), .val (.int r), .unset] [])) _
      refine XS.iload X36.here hx rfl (hb hby at_53) rfl ?_
      show Steps p.tables e below (T36.setTop (mkF m 55 #[.val (.int p1), .val (.int p2), .val (.ref a29), .val (.ref a30), .val (.int k), .val (.int (1 : Int32)), .val (.int r), .unset] [(.int r)])) _
      refine XS.iconst X36.here hx rfl (hb hby at_55) ?_
      show Steps p.tables e below (T36.setTop (mkF m 56 #[.val (.int p1), .val (.int p2), .val (.ref a29), .val (.ref a30), .val (.int k), .val (.int (1 : Int32)), .val (.int r), .unset] [(.int (-1 : Int32)), (.int r)])) _
      refine XS.icmpYes X36.here hx rfl (pc0 := 56) (pc' := 65) rfl (hb hby at_56) rfl (feq (h1 : ¬ (r = (-1 : Int32)))).2 (by decide) (by decide) ?_
      show Steps p.tables e below (T36.setTop (mkF m 65 #[.val (.int p1), .val (.int p2), .val (.ref a29), .val (.ref a30), .val (.int k), .val (.int (1 : Int32)), .val (.int r), .unset] [])) _
      refine XS.iload X36.here hx rfl (hb hby at_65) rfl ?_
      show Steps p.tables e below (T36.setTop (mkF m 67 #[.val (.int p1), .val (.int p2), .val (.ref a29), .val (.ref a30), .val (.int k), .val (.int (1 : Int32)), .val (.int r), .unset] [(.int r)])) _
      refine XS.ifNo X36.here hx rfl (hb hby at_67) rfl ((if0 _ _).trans (flt (h2 : ¬ (r < (0 : Int32)))).1) ?_
      show Steps p.tables e below (T36.setTop (mkF m 70 #[.val (.int p1), .val (.int p2), .val (.ref a29), .val (.ref a30), .val (.int k), .val (.int (1 : Int32)), .val (.int r), .unset] [])) _
      refine XS.iload X36.here hx rfl (hb hby at_70) rfl ?_
      show Steps p.tables e below (T36.setTop (mkF m 72 #[.val (.int p1), .val (.int p2), .val (.ref a29), .val (.ref a30), .val (.int k), .val (.int (1 : Int32)), .val (.int r), .unset] [(.int r)])) _
      refine XS.bipush X36.here hx rfl (hb hby at_72) ?_
      show Steps p.tables e below (T36.setTop (mkF m 74 #[.val (.int p1), .val (.int p2), .val (.ref a29), .val (.ref a30), .val (.int k), .val (.int (1 : Int32)), .val (.int r), .unset] [(.int (15 : Int32)), (.int r)])) _
      refine XS.icmpNo X36.here hx rfl (hb hby at_74) rfl (flt (h3 : ¬ ((15 : Int32) < r))).2.2.1 ?_
      show Steps p.tables e below (T36.setTop (mkF m 77 #[.val (.int p1), .val (.int p2), .val (.ref a29), .val (.ref a30), .val (.int k), .val (.int (1 : Int32)), .val (.int r), .unset] [])) _
      refine XS.iloadN X36.here hx rfl (hb hby at_77) rfl ?_
      show Steps p.tables e below (T36.setTop (mkF m 78 #[.val (.int p1), .val (.int p2), .val (.ref a29), .val (.ref a30), .val (.int k), .val (.int (1 : Int32)), .val (.int r), .unset] [(.int p1)])) _
      refine XS.aloadN X36.here hx rfl (hb hby at_78) rfl rfl ?_
      show Steps p.tables e below (T36.setTop (mkF m 79 #[.val (.int p1), .val (.int p2), .val (.ref a29), .val (.ref a30), .val (.int k), .val (.int (1 : Int32)), .val (.int r), .unset] [(.ref a29), (.int p1)])) _
      refine XS.iload X36.here hx rfl (hb hby at_79) rfl ?_
      show Steps p.tables e below (T36.setTop (mkF m 81 #[.val (.int p1), .val (.int p2), .val (.ref a29), .val (.ref a30), .val (.int k), .val (.int (1 : Int32)), .val (.int r), .unset] [(.int r), (.ref a29), (.int p1)])) _
      refine st38.trans ?_
      show Steps p.tables e below (T38.setTop (mkF m 84 #[.val (.int p1), .val (.int p2), .val (.ref a29), .val (.ref a30), .val (.int k), .val (.int (1 : Int32)), .val (.int r), .unset] [(.int (own_lo r)), (.int p1)])) _
      refine XS.icmpYes X38.here hx rfl (pc0 := 84) (pc' := 97) rfl (hb hby at_84) rfl (teq (h4 : p1 = (own_lo r))).1 (by decide) (by decide) ?_
      show Steps p.tables e below (T38.setTop (mkF m 97 #[.val (.int p1), .val (.int p2), .val (.ref a29), .val (.ref a30), .val (.int k), .val (.int (1 : Int32)), .val (.int r), .unset] [])) _
      refine XS.iconst X38.here hx rfl (hb hby at_97) ?_
      show Steps p.tables e below (T38.setTop (mkF m 98 #[.val (.int p1), .val (.int p2), .val (.ref a29), .val (.ref a30), .val (.int k), .val (.int (1 : Int32)), .val (.int r), .unset] [(.int (1 : Int32))])) _
      refine XS.goto X38.here hx rfl (pc0 := 98) (pc' := 102) rfl (hb hby at_98) (by decide) (by decide) ?_
      show Steps p.tables e below (T38.setTop (mkF m 102 #[.val (.int p1), .val (.int p2), .val (.ref a29), .val (.ref a30), .val (.int k), .val (.int (1 : Int32)), .val (.int r), .unset] [(.int (1 : Int32))])) _
      refine XS.istore X38.here hx rfl (hb hby at_102) rfl (l' := #[.val (.int p1), .val (.int p2), .val (.ref a29), .val (.ref a30), .val (.int k), .val (.int (1 : Int32)), .val (.int r), .val (.int (1 : Int32))]) rfl ?_
      show Steps p.tables e below (T38.setTop (mkF m 104 #[.val (.int p1), .val (.int p2), .val (.ref a29), .val (.ref a30), .val (.int k), .val (.int (1 : Int32)), .val (.int r), .val (.int (1 : Int32))] [])) _
      refine XS.goto X38.here hx rfl (pc0 := 104) (pc' := 110) rfl (hb hby at_104) (by decide) (by decide) ?_
      show Steps p.tables e below (T38.setTop (mkF m 110 #[.val (.int p1), .val (.int p2), .val (.ref a29), .val (.ref a30), .val (.int k), .val (.int (1 : Int32)), .val (.int r), .val (.int (1 : Int32))] [])) _
      refine XS.iload X38.here hx rfl (hb hby at_110) rfl ?_
      show Steps p.tables e below (T38.setTop (mkF m 112 #[.val (.int p1), .val (.int p2), .val (.ref a29), .val (.ref a30), .val (.int k), .val (.int (1 : Int32)), .val (.int r), .val (.int (1 : Int32))] [(.int (1 : Int32))])) _
      refine XS.ifNo X38.here hx rfl (hb hby at_112) rfl ((if0 _ _).trans (feq (by decide : ¬ ((1 : Int32) = (0 : Int32)))).1) ?_
      show Steps p.tables e below (T38.setTop (mkF m 115 #[.val (.int p1), .val (.int p2), .val (.ref a29), .val (.ref a30), .val (.int k), .val (.int (1 : Int32)), .val (.int r), .val (.int (1 : Int32))] [])) _
      refine XS.iload X38.here hx rfl (hb hby at_115) rfl ?_
      show Steps p.tables e below (T38.setTop (mkF m 117 #[.val (.int p1), .val (.int p2), .val (.ref a29), .val (.ref a30), .val (.int k), .val (.int (1 : Int32)), .val (.int r), .val (.int (1 : Int32))] [(.int (1 : Int32))])) _
      refine XS.ifNo X38.here hx rfl (hb hby at_117) rfl ((if0 _ _).trans (feq (by decide : ¬ ((1 : Int32) = (0 : Int32)))).1) ?_
      show Steps p.tables e below (T38.setTop (mkF m 120 #[.val (.int p1), .val (.int p2), .val (.ref a29), .val (.ref a30), .val (.int k), .val (.int (1 : Int32)), .val (.int r), .val (.int (1 : Int32))] [])) _
      refine XS.iconst X38.here hx rfl (hb hby at_120) ?_
      show Steps p.tables e below (T38.setTop (mkF m 121 #[.val (.int p1), .val (.int p2), .val (.ref a29), .val (.ref a30), .val (.int k), .val (.int (1 : Int32)), .val (.int r), .val (.int (1 : Int32))] [(.int (1 : Int32))])) _
      refine XS.goto X38.here hx rfl (pc0 := 121) (pc' := 125) rfl (hb hby at_121) (by decide) (by decide) ?_
      exact kt
    obtain ⟨fs, hr_, hrun, hended, hRW⟩ := X38.leaveW (s := s) (vm₁ := T30.vm) Si30 (Nat.le_trans hk30 zl38) (v := some (.int (1 : Int32))) (fun h => by rw [Bd.returns] at h; cases h)
    refine ⟨_, _, pre0 _ (fl31 _ (fl39 _ ?_)), hrun, hended, _, _, rfl, ?_, ⟨_, rfl⟩, hRW.2.1, hRW.2.2.1, hRW.2.2.2.mono (by decide) (by decide)⟩
    · exact retN X38 hx (t := .boolean) Bd.returns (by simp) (hb hby at_125) hr_
    · exact ⟨rfl, N38⟩
  · have tr := own_at r ⟨h2, own_lt16 h3⟩
    obtain ⟨cq40, kq40, q40a, q40b, q40c⟩ := isOf hZ rfl Ea29_36
    obtain ⟨_, _, ⟨T40, L40, k40, n40⟩, -, X40, ⟨Lc40, hQ40, l40, y40, z40⟩, st40⟩ := X36.virtualBack hx (y := (⟨"java/lang/String", "charAt", "(I)C"⟩ : MethodName)) (z := (⟨"java/lang/String", "charAt", "(I)C"⟩ : MethodName)) hown (mvT hZ (hw _ (List.mem_of_getElem? (i := 9) rfl))) (mvT hZ (hw _ (List.mem_of_getElem? (i := 10) rfl))) (notFace_of_selects (args := #[]) (mvT hZ (hw _ (List.mem_of_getElem? (i := 12) rfl)))) (mvT hZ (hw _ (List.mem_of_getElem? (i := 12) rfl))) (mvT hZ (hw _ (List.mem_of_getElem? (i := 11) rfl))) (by decide) (backOf (W := 1) (rm1 l Z a0 hw [] a29 r b29 kc29 own_vlo (own_lo r) G1 G3 T36.heap n0 z36z S1y_36 hG1 hrf_G3 S2y_36 Ea29_36 Fc29_36 Fv29_36 Va29_36 ⟨h2, own_lt16 h3⟩ tr.1 tr.2.2.1 tr.2.2.2.2.1) hZ (hw _ (List.mem_of_getElem? (i := 13) rfl)) (hw _ (List.mem_of_getElem? (i := 1) rfl)) (by decide) (by decide)) q40a q40c (g := (mkF m 81 #[.val (.int p1), .val (.int p2), .val (.ref a29), .val (.ref a30), .val (.int k), .val (.int (1 : Int32)), .val (.int r), .unset] [(.int r), (.ref a29), (.int p1)])) rfl (by rw [hml]; rfl) (Steps.refl _) (argsL := [(.int r)]) (rest := [(.int p1)]) (lenOf pd_4 rfl) rfl (by show 2 * 0 + _ ≤ _; exact Nat.le_of_eq rfl) (hb hby at_81) (fun _ _ => ⟨rfl, rfl, (by decide : 4 + 0 ≤ _), (by decide : 136 + 0 ≤ _)⟩)
    dsimp only [Pt.U, Pt.locs, Pt.cells, Pt.slots] at X40 l40 y40 z40 st40 hQ40
    subst l40 y40 z40
    obtain ⟨rfl, N40q, he40⟩ := hQ40
    have N40 := Fr.app N36 N40q
    have Kc40 : Keep T36.heap T40.heap [] := by rw [he40]; exact Keep.refl _ _
    have Ea29_40 := Ea29_36.keep Kc40
    have Fc29_40 := Fc29_36.keep Kc40 nin0
    have Fv29_40 := Fv29_36.keep Kc40 nin0
    have Va29_40 := Va29_36.keep Kc40 nin0
    have Ea30_40 := Ea30_36.keep Kc40
    have Fc30_40 := Fc30_36.keep Kc40 nin0
    have Fv30_40 := Fv30_36.keep Kc40 nin0
    have Va30_40 := Va30_36.keep Kc40 nin0
    have K40 : Keep h0 T40.heap [] := K36.trans Kc40 all0
    have z40z : n0 ≤ T40.heap.size := Nat.le_trans z36z Kc40.1
    have zl40 : h30.size ≤ T40.heap.size := Nat.le_trans zl36 Kc40.1
    have S1y_40 : Sta Z T40.heap "java/lang/String" "COMPACT_STRINGS" "Z" (.int G1) := by rw [he40]; exact S1y_36
    have S2y_40 : Sta Z T40.heap "jdk/internal/util/Preconditions" "SIOOBE_FORMATTER" "Ljava/util/function/BiFunction;" G3 := by rw [he40]; exact S2y_36
    obtain ⟨cq41, kq41, q41a, q41b, q41c⟩ := isOf hZ rfl Ea30_40
    obtain ⟨_, _, ⟨T41, L41, k41, n41⟩, -, X41, ⟨Lc41, hQ41, l41, y41, z41⟩, st41⟩ := X40.virtualBack hx (y := (⟨"java/lang/String", "charAt", "(I)C"⟩ : MethodName)) (z := (⟨"java/lang/String", "charAt", "(I)C"⟩ : MethodName)) hown (mvT hZ (hw _ (List.mem_of_getElem? (i := 9) rfl))) (mvT hZ (hw _ (List.mem_of_getElem? (i := 10) rfl))) (notFace_of_selects (args := #[]) (mvT hZ (hw _ (List.mem_of_getElem? (i := 12) rfl)))) (mvT hZ (hw _ (List.mem_of_getElem? (i := 12) rfl))) (mvT hZ (hw _ (List.mem_of_getElem? (i := 11) rfl))) (by decide) (backOf (W := 1) (rm1 l Z a0 hw [] a30 r b30 kc30 own_vup (own_up r) G1 G3 T40.heap n0 z40z S1y_40 hG1 hrf_G3 S2y_40 Ea30_40 Fc30_40 Fv30_40 Va30_40 ⟨h2, own_lt16 h3⟩ tr.2.1 tr.2.2.2.1 tr.2.2.2.2.2.1) hZ (hw _ (List.mem_of_getElem? (i := 13) rfl)) (hw _ (List.mem_of_getElem? (i := 1) rfl)) (by decide) (by decide)) q41a q41c (g := (mkF m 91 #[.val (.int p1), .val (.int p2), .val (.ref a29), .val (.ref a30), .val (.int k), .val (.int (1 : Int32)), .val (.int r), .unset] [(.int r), (.ref a30), (.int p1)])) rfl (by rw [hml]; rfl) (Steps.refl _) (argsL := [(.int r)]) (rest := [(.int p1)]) (lenOf pd_4 rfl) rfl (by show 2 * 0 + _ ≤ _; exact Nat.le_of_eq rfl) (hb hby at_91) (fun _ _ => ⟨rfl, rfl, (by decide : 4 + 0 ≤ _), (by decide : 136 + 0 ≤ _)⟩)
    dsimp only [Pt.U, Pt.locs, Pt.cells, Pt.slots] at X41 l41 y41 z41 st41 hQ41
    subst l41 y41 z41
    obtain ⟨rfl, N41q, he41⟩ := hQ41
    have N41 := Fr.app N40 N41q
    have Kc41 : Keep T40.heap T41.heap [] := by rw [he41]; exact Keep.refl _ _
    have Ea29_41 := Ea29_40.keep Kc41
    have Fc29_41 := Fc29_40.keep Kc41 nin0
    have Fv29_41 := Fv29_40.keep Kc41 nin0
    have Va29_41 := Va29_40.keep Kc41 nin0
    have Ea30_41 := Ea30_40.keep Kc41
    have Fc30_41 := Fc30_40.keep Kc41 nin0
    have Fv30_41 := Fv30_40.keep Kc41 nin0
    have Va30_41 := Va30_40.keep Kc41 nin0
    have K41 : Keep h0 T41.heap [] := K40.trans Kc41 all0
    have z41z : n0 ≤ T41.heap.size := Nat.le_trans z40z Kc41.1
    have zl41 : h30.size ≤ T41.heap.size := Nat.le_trans zl40 Kc41.1
    have S1y_41 : Sta Z T41.heap "java/lang/String" "COMPACT_STRINGS" "Z" (.int G1) := by rw [he41]; exact S1y_40
    have S2y_41 : Sta Z T41.heap "jdk/internal/util/Preconditions" "SIOOBE_FORMATTER" "Ljava/util/function/BiFunction;" G3 := by rw [he41]; exact S2y_40
    have fl42 : ∀ target, Steps p.tables e below (T41.setTop (mkF m 125 #[.val (.int p1), .val (.int p2), .val (.ref a29), .val (.ref a30), .val (.int k), .val (.int (1 : Int32)), .val (.int r), .val (.int (1 : Int32))] [(.int (1 : Int32))])) target → Steps p.tables e below (T30.setTop (mkF m 10 #[.val (.int p1), .val (.int p2), .val (.ref a29), .val (.ref a30), .unset, .unset, .unset, .unset] [(.int k)])) target := fun target kt => by
      show Steps p.tables e below (T30.setTop (mkF m 10 #[.val (.int p1), .val (.int p2), .val (.ref a29), .val (.ref a30), .unset, .unset, .unset, .unset] [(.int k)])) _
      refine XS.istore X30.here hx rfl (hb hby at_10) rfl (l' := #[.val (.int p1), .val (.int p2), .val (.ref a29), .val (.ref a30), .val (.int k), .unset, .unset, .unset]) rfl ?_
      show Steps p.tables e below (T30.setTop (mkF m 12 #[.val (.int p1), .val (.int p2), .val (.ref a29), .val (.ref a30), .val (.int k), .unset, .unset, .unset] [])) _
      refine XS.aloadN X30.here hx rfl (hb hby at_12) rfl rfl ?_
      show Steps p.tables e below (T30.setTop (mkF m 13 #[.val (.int p1), .val (.int p2), .val (.ref a29), .val (.ref a30), .val (.int k), .unset, .unset, .unset] [(.ref a29)])) _
      refine XS.iload X30.here hx rfl (hb hby at_13) rfl ?_
      show Steps p.tables e below (T30.setTop (mkF m 15 #[.val (.int p1), .val (.int p2), .val (.ref a29), .val (.ref a30), .val (.int k), .unset, .unset, .unset] [(.int k), (.ref a29)])) _
      refine st32.trans ?_
      show Steps p.tables e below (T32.setTop (mkF m 18 #[.val (.int p1), .val (.int p2), .val (.ref a29), .val (.ref a30), .val (.int k), .unset, .unset, .unset] [(.int (own_lo k))])) _
      refine st33 _ ?_
      show Steps p.tables e below (T33.setTop (mkF m 21 #[.val (.int p1), .val (.int p2), .val (.ref a29), .val (.ref a30), .val (.int k), .unset, .unset, .unset] [(.int k)])) _
      refine XS.iload X33.here hx rfl (hb hby at_21) rfl ?_
      show Steps p.tables e below (T33.setTop (mkF m 23 #[.val (.int p1), .val (.int p2), .val (.ref a29), .val (.ref a30), .val (.int k), .unset, .unset, .unset] [(.int k), (.int k)])) _
      refine XS.icmpNo X33.here hx rfl (hb hby at_23) rfl (teq (rfl : k = k)).2 ?_
      show Steps p.tables e below (T33.setTop (mkF m 26 #[.val (.int p1), .val (.int p2), .val (.ref a29), .val (.ref a30), .val (.int k), .unset, .unset, .unset] [])) _
      refine XS.aloadN X33.here hx rfl (hb hby at_26) rfl rfl ?_
      show Steps p.tables e below (T33.setTop (mkF m 27 #[.val (.int p1), .val (.int p2), .val (.ref a29), .val (.ref a30), .val (.int k), .unset, .unset, .unset] [(.ref a30)])) _
      refine XS.iload X33.here hx rfl (hb hby at_27) rfl ?_
      show Steps p.tables e below (T33.setTop (mkF m 29 #[.val (.int p1), .val (.int p2), .val (.ref a29), .val (.ref a30), .val (.int k), .unset, .unset, .unset] [(.int k), (.ref a30)])) _
      refine st34.trans ?_
      show Steps p.tables e below (T34.setTop (mkF m 32 #[.val (.int p1), .val (.int p2), .val (.ref a29), .val (.ref a30), .val (.int k), .unset, .unset, .unset] [(.int (own_up k))])) _
      refine st35 _ ?_
      show Steps p.tables e below (T35.setTop (mkF m 35 #[.val (.int p1), .val (.int p2), .val (.ref a29), .val (.ref a30), .val (.int k), .unset, .unset, .unset] [(.int k)])) _
      refine XS.iload X35.here hx rfl (hb hby at_35) rfl ?_
      show Steps p.tables e below (T35.setTop (mkF m 37 #[.val (.int p1), .val (.int p2), .val (.ref a29), .val (.ref a30), .val (.int k), .unset, .unset, .unset] [(.int k), (.int k)])) _
      refine XS.icmpNo X35.here hx rfl (hb hby at_37) rfl (teq (rfl : k = k)).2 ?_
      show Steps p.tables e below (T35.setTop (mkF m 40 #[.val (.int p1), .val (.int p2), .val (.ref a29), .val (.ref a30), .val (.int k), .unset, .unset, .unset] [])) _
      refine XS.iconst X35.here hx rfl (hb hby at_40) ?_
      show Steps p.tables e below (T35.setTop (mkF m 41 #[.val (.int p1), .val (.int p2), .val (.ref a29), .val (.ref a30), .val (.int k), .unset, .unset, .unset] [(.int (1 : Int32))])) _
      refine XS.goto X35.here hx rfl (pc0 := 41) (pc' := 45) rfl (hb hby at_41) (by decide) (by decide) ?_
      show Steps p.tables e below (T35.setTop (mkF m 45 #[.val (.int p1), .val (.int p2), .val (.ref a29), .val (.ref a30), .val (.int k), .unset, .unset, .unset] [(.int (1 : Int32))])) _
      refine XS.istore X35.here hx rfl (hb hby at_45) rfl (l' := #[.val (.int p1), .val (.int p2), .val (.ref a29), .val (.ref a30), .val (.int k), .val (.int (1 : Int32)), .unset, .unset]) rfl ?_
      show Steps p.tables e below (T35.setTop (mkF m 47 #[.val (.int p1), .val (.int p2), .val (.ref a29), .val (.ref a30), .val (.int k), .val (.int (1 : Int32)), .unset, .unset] [])) _
      refine XS.iloadN X35.here hx rfl (hb hby at_47) rfl ?_
      show Steps p.tables e below (T35.setTop (mkF m 48 #[.val (.int p1), .val (.int p2), .val (.ref a29), .val (.ref a30), .val (.int k), .val (.int (1 : Int32)), .unset, .unset] [(.int p1)])) _
      refine st36 _ ?_
      show Steps p.tables e below (T36.setTop (mkF m 51 #[.val (.int p1), .val (.int p2), .val (.ref a29), .val (.ref a30), .val (.int k), .val (.int (1 : Int32)), .unset, .unset] [(.int r)])) _
      refine XS.istore X36.here hx rfl (hb hby at_51) rfl (l' := #[.val (.int p1), .val (.int p2), .val (.ref a29), .val (.ref a30), .val (.int k), .val (.int (1 : Int32)), .val (.int r), .unset]) rfl ?_
      show Steps p.tables e below (T36.setTop (mkF m 53 #[.val (.int p1), .val (.int p2), .val (.ref a29), .val (.ref a30), .val (.int k), .val (.int (1 : Int32)), .val (.int r), .unset] [])) _
      refine XS.iload X36.here hx rfl (hb hby at_53) rfl ?_
      show Steps p.tables e below (T36.setTop (mkF m 55 #[.val (.int p1), .val (.int p2), .val (.ref a29), .val (.ref a30), .val (.int k), .val (.int (1 : Int32)), .val (.int r), .unset] [(.int r)])) _
      refine XS.iconst X36.here hx rfl (hb hby at_55) ?_
      show Steps p.tables e below (T36.setTop (mkF m 56 #[.val (.int p1), .val (.int p2), .val (.ref a29), .val (.ref a30), .val (.int k), .val (.int (1 : Int32)), .val (.int r), .unset] [(.int (-1 : Int32)), (.int r)])) _
      refine XS.icmpYes X36.here hx rfl (pc0 := 56) (pc' := 65) rfl (hb hby at_56) rfl (feq (h1 : ¬ (r = (-1 : Int32)))).2 (by decide) (by decide) ?_
      show Steps p.tables e below (T36.setTop (mkF m 65 #[.val (.int p1), .val (.int p2), .val (.ref a29), .val (.ref a30), .val (.int k), .val (.int (1 : Int32)), .val (.int r), .unset] [])) _
      refine XS.iload X36.here hx rfl (hb hby at_65) rfl ?_
      show Steps p.tables e below (T36.setTop (mkF m 67 #[.val (.int p1), .val (.int p2), .val (.ref a29), .val (.ref a30), .val (.int k), .val (.int (1 : Int32)), .val (.int r), .unset] [(.int r)])) _
      refine XS.ifNo X36.here hx rfl (hb hby at_67) rfl ((if0 _ _).trans (flt (h2 : ¬ (r < (0 : Int32)))).1) ?_
      show Steps p.tables e below (T36.setTop (mkF m 70 #[.val (.int p1), .val (.int p2), .val (.ref a29), .val (.ref a30), .val (.int k), .val (.int (1 : Int32)), .val (.int r), .unset] [])) _
      refine XS.iload X36.here hx rfl (hb hby at_70) rfl ?_
      show Steps p.tables e below (T36.setTop (mkF m 72 #[.val (.int p1), .val (.int p2), .val (.ref a29), .val (.ref a30), .val (.int k), .val (.int (1 : Int32)), .val (.int r), .unset] [(.int r)])) _
      refine XS.bipush X36.here hx rfl (hb hby at_72) ?_
      show Steps p.tables e below (T36.setTop (mkF m 74 #[.val (.int p1), .val (.int p2), .val (.ref a29), .val (.ref a30), .val (.int k), .val (.int (1 : Int32)), .val (.int r), .unset] [(.int (15 : Int32)), (.int r)])) _
      refine XS.icmpNo X36.here hx rfl (hb hby at_74) rfl (flt (h3 : ¬ ((15 : Int32) < r))).2.2.1 ?_
      show Steps p.tables e below (T36.setTop (mkF m 77 #[.val (.int p1), .val (.int p2), .val (.ref a29), .val (.ref a30), .val (.int k), .val (.int (1 : Int32)), .val (.int r), .unset] [])) _
      refine XS.iloadN X36.here hx rfl (hb hby at_77) rfl ?_
      show Steps p.tables e below (T36.setTop (mkF m 78 #[.val (.int p1), .val (.int p2), .val (.ref a29), .val (.ref a30), .val (.int k), .val (.int (1 : Int32)), .val (.int r), .unset] [(.int p1)])) _
      refine XS.aloadN X36.here hx rfl (hb hby at_78) rfl rfl ?_
      show Steps p.tables e below (T36.setTop (mkF m 79 #[.val (.int p1), .val (.int p2), .val (.ref a29), .val (.ref a30), .val (.int k), .val (.int (1 : Int32)), .val (.int r), .unset] [(.ref a29), (.int p1)])) _
      refine XS.iload X36.here hx rfl (hb hby at_79) rfl ?_
      show Steps p.tables e below (T36.setTop (mkF m 81 #[.val (.int p1), .val (.int p2), .val (.ref a29), .val (.ref a30), .val (.int k), .val (.int (1 : Int32)), .val (.int r), .unset] [(.int r), (.ref a29), (.int p1)])) _
      refine st40.trans ?_
      show Steps p.tables e below (T40.setTop (mkF m 84 #[.val (.int p1), .val (.int p2), .val (.ref a29), .val (.ref a30), .val (.int k), .val (.int (1 : Int32)), .val (.int r), .unset] [(.int (own_lo r)), (.int p1)])) _
      refine XS.icmpNo X40.here hx rfl (hb hby at_84) rfl (feq (h4 : ¬ (p1 = (own_lo r)))).1 ?_
      show Steps p.tables e below (T40.setTop (mkF m 87 #[.val (.int p1), .val (.int p2), .val (.ref a29), .val (.ref a30), .val (.int k), .val (.int (1 : Int32)), .val (.int r), .unset] [])) _
      refine XS.iloadN X40.here hx rfl (hb hby at_87) rfl ?_
      show Steps p.tables e below (T40.setTop (mkF m 88 #[.val (.int p1), .val (.int p2), .val (.ref a29), .val (.ref a30), .val (.int k), .val (.int (1 : Int32)), .val (.int r), .unset] [(.int p1)])) _
      refine XS.aloadN X40.here hx rfl (hb hby at_88) rfl rfl ?_
      show Steps p.tables e below (T40.setTop (mkF m 89 #[.val (.int p1), .val (.int p2), .val (.ref a29), .val (.ref a30), .val (.int k), .val (.int (1 : Int32)), .val (.int r), .unset] [(.ref a30), (.int p1)])) _
      refine XS.iload X40.here hx rfl (hb hby at_89) rfl ?_
      show Steps p.tables e below (T40.setTop (mkF m 91 #[.val (.int p1), .val (.int p2), .val (.ref a29), .val (.ref a30), .val (.int k), .val (.int (1 : Int32)), .val (.int r), .unset] [(.int r), (.ref a30), (.int p1)])) _
      refine st41.trans ?_
      show Steps p.tables e below (T41.setTop (mkF m 94 #[.val (.int p1), .val (.int p2), .val (.ref a29), .val (.ref a30), .val (.int k), .val (.int (1 : Int32)), .val (.int r), .unset] [(.int (own_up r)), (.int p1)])) _
      refine XS.icmpNo X41.here hx rfl (hb hby at_94) rfl (teq (h5 : p1 = (own_up r))).2 ?_
      show Steps p.tables e below (T41.setTop (mkF m 97 #[.val (.int p1), .val (.int p2), .val (.ref a29), .val (.ref a30), .val (.int k), .val (.int (1 : Int32)), .val (.int r), .unset] [])) _
      refine XS.iconst X41.here hx rfl (hb hby at_97) ?_
      show Steps p.tables e below (T41.setTop (mkF m 98 #[.val (.int p1), .val (.int p2), .val (.ref a29), .val (.ref a30), .val (.int k), .val (.int (1 : Int32)), .val (.int r), .unset] [(.int (1 : Int32))])) _
      refine XS.goto X41.here hx rfl (pc0 := 98) (pc' := 102) rfl (hb hby at_98) (by decide) (by decide) ?_
      show Steps p.tables e below (T41.setTop (mkF m 102 #[.val (.int p1), .val (.int p2), .val (.ref a29), .val (.ref a30), .val (.int k), .val (.int (1 : Int32)), .val (.int r), .unset] [(.int (1 : Int32))])) _
      refine XS.istore X41.here hx rfl (hb hby at_102) rfl (l' := #[.val (.int p1), .val (.int p2), .val (.ref a29), .val (.ref a30), .val (.int k), .val (.int (1 : Int32)), .val (.int r), .val (.int (1 : Int32))]) rfl ?_
      show Steps p.tables e below (T41.setTop (mkF m 104 #[.val (.int p1), .val (.int p2), .val (.ref a29), .val (.ref a30), .val (.int k), .val (.int (1 : Int32)), .val (.int r), .val (.int (1 : Int32))] [])) _
      refine XS.goto X41.here hx rfl (pc0 := 104) (pc' := 110) rfl (hb hby at_104) (by decide) (by decide) ?_
      show Steps p.tables e below (T41.setTop (mkF m 110 #[.val (.int p1), .val (.int p2), .val (.ref a29), .val (.ref a30), .val (.int k), .val (.int (1 : Int32)), .val (.int r), .val (.int (1 : Int32))] [])) _
      refine XS.iload X41.here hx rfl (hb hby at_110) rfl ?_
      show Steps p.tables e below (T41.setTop (mkF m 112 #[.val (.int p1), .val (.int p2), .val (.ref a29), .val (.ref a30), .val (.int k), .val (.int (1 : Int32)), .val (.int r), .val (.int (1 : Int32))] [(.int (1 : Int32))])) _
      refine XS.ifNo X41.here hx rfl (hb hby at_112) rfl ((if0 _ _).trans (feq (by decide : ¬ ((1 : Int32) = (0 : Int32)))).1) ?_
      show Steps p.tables e below (T41.setTop (mkF m 115 #[.val (.int p1), .val (.int p2), .val (.ref a29), .val (.ref a30), .val (.int k), .val (.int (1 : Int32)), .val (.int r), .val (.int (1 : Int32))] [])) _
      refine XS.iload X41.here hx rfl (hb hby at_115) rfl ?_
      show Steps p.tables e below (T41.setTop (mkF m 117 #[.val (.int p1), .val (.int p2), .val (.ref a29), .val (.ref a30), .val (.int k), .val (.int (1 : Int32)), .val (.int r), .val (.int (1 : Int32))] [(.int (1 : Int32))])) _
      refine XS.ifNo X41.here hx rfl (hb hby at_117) rfl ((if0 _ _).trans (feq (by decide : ¬ ((1 : Int32) = (0 : Int32)))).1) ?_
      show Steps p.tables e below (T41.setTop (mkF m 120 #[.val (.int p1), .val (.int p2), .val (.ref a29), .val (.ref a30), .val (.int k), .val (.int (1 : Int32)), .val (.int r), .val (.int (1 : Int32))] [])) _
      refine XS.iconst X41.here hx rfl (hb hby at_120) ?_
      show Steps p.tables e below (T41.setTop (mkF m 121 #[.val (.int p1), .val (.int p2), .val (.ref a29), .val (.ref a30), .val (.int k), .val (.int (1 : Int32)), .val (.int r), .val (.int (1 : Int32))] [(.int (1 : Int32))])) _
      refine XS.goto X41.here hx rfl (pc0 := 121) (pc' := 125) rfl (hb hby at_121) (by decide) (by decide) ?_
      exact kt
    obtain ⟨fs, hr_, hrun, hended, hRW⟩ := X41.leaveW (s := s) (vm₁ := T30.vm) Si30 (Nat.le_trans hk30 zl41) (v := some (.int (1 : Int32))) (fun h => by rw [Bd.returns] at h; cases h)
    refine ⟨_, _, pre0 _ (fl31 _ (fl42 _ ?_)), hrun, hended, _, _, rfl, ?_, ⟨_, rfl⟩, hRW.2.1, hRW.2.2.1, hRW.2.2.2.mono (by decide) (by decide)⟩
    · exact retN X41 hx (t := .boolean) Bd.returns (by simp) (hb hby at_125) hr_
    · exact ⟨rfl, N41⟩
set_option maxRecDepth 65536 in
set_option maxHeartbeats 40000000 in
theorem comes_1 {Post : Tables → Env → Array Value → State → Outcome → State → Prop} (hpost : ∀ tb e args s v u, (limb_1_1.after args s (.returned v) u = true ∧ limb_1_2.after args s (.returned v) u = true ∧ True) → ReturnedEndW s (.returned v) u (Jvm.fieldLocs frame_1_writes args s ++ Jvm.arrayLocs frame_1_arrays args s ++ Jvm.staticLocs frame_1_statics s) 8 2112 → Post tb e args s (.returned v) u) :
    ArmFor flags0 classFile x code maxLocals ret World_1 tables_1 room_1 Calls_1 rest_1 Pre_1 Post := by
  intro l hfl _ _ p e ha hc hk s m args below hf hA hF happ hP
  obtain ⟨hcalls, hrest, hpre⟩ := hP
  obtain ⟨-, -, -, hnamed, -, -, -, hat⟩ := (Spec.applies_iff hf).mp happ
  obtain ⟨hg, hn⟩ := and_e (Cond.before_iff.mp (show (Jvm.Cond.and given_1 narrow_1).before args s = true from hpre))
  obtain ⟨ga0, gb0⟩ := and_e hg
  obtain ⟨ga1, gb1⟩ := and_e gb0
  obtain ⟨w0, w1, rfl⟩ : ∃ w0 w1 : Value, args = #[w0, w1] := by
    have hs : args.size = 2 := by simpa [Cond.value, given_1] using ga0
    obtain ⟨L⟩ := args
    match L, hs with
    | [w0, w1], _ => exact ⟨w0, w1, rfl⟩
  have hw := fun d (hd : d ∈ tables_1) => atoms_spec (ws := Jvm.Cond.code x code maxLocals ret :: tables_1) hat d (List.mem_cons_of_mem _ hd)
  obtain ⟨hsets, hown0⟩ := atoms_of _ (rest_1_c_eq ▸ (show rest_1_c.before _ s = true from hrest))
  obtain ⟨i0, ei0⟩ := is_v ga1
  obtain rfl : w0 = (.int i0) := Option.some.inj ei0
  obtain ⟨i1, ei1⟩ := is_v gb1
  obtain rfl : w1 = (.int i1) := Option.some.inj ei1
  obtain ⟨G1, eG1⟩ := is_v (Cond.before_iff.mp (hsets _ (List.mem_of_getElem? (i := 1) rfl)))
  have S1 := Sta.start eG1 (Or.inl (hsets _ (List.mem_of_getElem? (i := 0) rfl)))
  have hcw0 := hsets _ (List.mem_of_getElem? (i := 2) rfl)
  have hG1 : ¬ G1 = 0 := fun q => by
    have u := not_v (Cond.before_iff.mp hcw0)
    rw [Cond.eq_ints eG1 rfl, q] at u
    simp at u
  obtain ⟨G3, eG3, rG3⟩ := isR_v (Cond.before_iff.mp (hsets _ (List.mem_of_getElem? (i := 8) rfl)))
  have S2 := Sta.start eG3 (Or.inl (hsets _ (List.mem_of_getElem? (i := 7) rfl)))
  have held7 : Jvm.Lit.constHeld s "com/example/hermod/hermod/HexDigitValuePinLaw" 7 := hcalls.1 ("com/example/hermod/hermod/HexDigitValuePinLaw", 7) (by simp [consts_1])
  have held9 : Jvm.Lit.constHeld s "com/example/hermod/hermod/HexDigitValuePinLaw" 9 := hcalls.1 ("com/example/hermod/hermod/HexDigitValuePinLaw", 9) (by simp [consts_1])
  obtain ⟨n, o, h1, h2, h3, _, L, rfl, ⟨rfl, N⟩, hq⟩ := rm0 l s _ hw tables_1 i0 i1 G1 G3 s.heap s.heap.size (Nat.le_refl _) S1 hG1 rG3 S2 held7 held9 hcw0 p e ha hc hk s m _ below hf ((Spec.applies_iff_loose hf).mp happ).1 ⟨rfl, rfl, rfl⟩ trivial
  refine ⟨n, _, h1, h2, h3, hpost _ _ _ _ _ _ ⟨Cond.after_iff.mpr rfl, Cond.after_iff.mpr (eq_i res_at (Term.int_eval (1)) rfl), trivial⟩ ⟨hq.1, hq.2.1, hq.2.2.1, (hq.2.2.2.sift fun y hy => Or.inr (N y hy)).mono (by decide) (by decide)⟩⟩
theorem main_1_1 : Claimed_1_1 := comes_1 fun _ _ _ _ _ _ h hF => ⟨h.1, hF⟩
theorem main_1_2 : Claimed_1_2 := comes_1 fun _ _ _ _ _ _ h hF => ⟨h.2.1, hF⟩
end Jvm.Pilot.@@N@@
namespace Jvm.Pilot.@@N@@
open Jvm Jvm.ClassFile Sem Op Lib Jvm.Free Jvm.Stand Jvm.Pilot.@@N@@.Jvm.D
/-! MADE BY PROGRAM (witnessworld.py) out of the Statement's table words and the real class files: 17 classes; the members and pool entries that the words name. The judged class is class 1, her method 1. -/
namespace start1
open Jvm.ClassFile
def u (s : String) : CpInfo := .utf8 (stringToUtf16 s)
/-- a pool by its gaps: so many unusable entries, then the entry; so many at the end -/
def gap : Nat → List CpInfo → List CpInfo
  | 0, r => r
  | n + 1, r => .unusable :: gap n r
def poolList (es : List (Nat × CpInfo)) (last : Nat) : List CpInfo := es.foldr (fun e r => gap e.1 (e.2 :: r)) (gap last [])
def pool (es : List (Nat × CpInfo)) (last : Nat) : Array CpInfo := ⟨poolList es last⟩
def fileOf (pool : Array CpInfo) (this : Nat) (attrs : Array Attribute := #[]) (ms : Array MethodInfo := #[]) (fl : Nat := 33) (sup : Nat := 0) (ifs : Array Nat := #[]) (fds : Array FieldInfo := #[]) : ClassFile where
  minorVersion := 0
  majorVersion := 65
  constantPool := pool
  accessFlags := fl
  thisClass := this
  superClass := sup
  interfaces := ifs
  fields := fds
  methods := ms
  attributes := attrs
def plain (name : String) (sup : Option ClassId) : Class where
  name := name
  kind := .ordinary
  loader := none
  accessFlags := 33
  super := sup
  interfaces := #[]
  cf := none
  fields := #[]
  methods := #[]
  instanceTypes := #[]
  staticTypes := #[]
  resolved := #[]
  callSites := []
  init := .initialized
  statics := none
  mirror := none

def pool0 : Array CpInfo := pool [(5, u "<init>"), (0, u "()V"), (1, .class_ 10), (1, u "java/lang/Object")] 113

def k0m0 : Method := { name := "<init>", desc := "()V", sig := { parameters := [], returnType := none }, accessFlags := 1, code := none }
/-- java/lang/Object -/
def k0 : Class := { plain "java/lang/Object" none with
  accessFlags := 33
  interfaces := #[]
  cf := some (fileOf pool0 8 #[] #[{ accessFlags := 1, nameIndex := 5, descriptorIndex := 6, attributes := #[] }] 33 0 #[] #[])
  fields := #[]
  methods := #[k0m0]
  instanceTypes := #[]
  staticTypes := #[]
  resolved := Array.replicate 124 none
  statics := none }

def pool1 : Array CpInfo := pool [(2, .class_ 4), (1, u "java/lang/Object"), (0, u "<init>"), (0, u "()V"), (0, .string 8), (0, u "0123456789abcdef"), (0, .string 10), (0, u "0123456789ABCDEF"), (0, .methodref 12 13), (0, .class_ 14), (0, .nameAndType 15 16), (0, u "java/lang/String"), (0, u "charAt"), (0, u "(I)C"), (0, .methodref 18 19), (0, .class_ 20), (0, .nameAndType 21 22), (0, u "com/example/hermod/hermod/HexDigit"), (0, u "value"), (0, u "(I)I"), (0, .class_ 24), (0, u "com/example/hermod/hermod/HexDigitValuePinLaw"), (2, u "law"), (0, u "(II)Z")] 3

def k1m0 : Method := { name := "<init>", desc := "()V", sig := { parameters := [], returnType := none }, accessFlags := 2, code := none }
def k1c1 : Code := { maxStack := 3, maxLocals := 8, code := code, exceptionTable := #[], attributes := #[] }
def k1m1 : Method := { name := "law", desc := "(II)Z", sig := { parameters := [.int, .int], returnType := some .boolean }, accessFlags := 9, code := some k1c1 }
/-- com/example/hermod/hermod/HexDigitValuePinLaw -/
def k1 : Class := { plain "com/example/hermod/hermod/HexDigitValuePinLaw" (some 0) with
  accessFlags := 49
  interfaces := #[]
  cf := some (fileOf pool1 23 #[] #[{ accessFlags := 2, nameIndex := 5, descriptorIndex := 6, attributes := #[] }, { accessFlags := 9, nameIndex := 27, descriptorIndex := 28, attributes := #[] }] 49 2 #[] #[])
  fields := #[]
  methods := #[k1m0, k1m1]
  instanceTypes := #[]
  staticTypes := #[]
  resolved := Array.replicate 32 none
  statics := none }

def pool2 : Array CpInfo := pool [(1, .class_ 2), (0, u "java/io/Serializable"), (0, .class_ 4), (0, u "java/lang/Object")] 2

/-- java/io/Serializable -/
def k2 : Class := { plain "java/io/Serializable" (some 0) with
  accessFlags := 1537
  interfaces := #[]
  cf := some (fileOf pool2 1 #[] #[] 1537 3 #[] #[])
  fields := #[]
  methods := #[]
  instanceTypes := #[]
  staticTypes := #[]
  resolved := Array.replicate 7 none
  statics := none }

def pool3 : Array CpInfo := pool [(1, .class_ 2), (0, u "java/lang/Comparable"), (0, .class_ 4), (0, u "java/lang/Object")] 7

/-- java/lang/Comparable -/
def k3 : Class := { plain "java/lang/Comparable" (some 0) with
  accessFlags := 1537
  interfaces := #[]
  cf := some (fileOf pool3 1 #[] #[] 1537 3 #[] #[])
  fields := #[]
  methods := #[]
  instanceTypes := #[]
  staticTypes := #[]
  resolved := Array.replicate 12 none
  statics := none }

def pool4 : Array CpInfo := pool [(2, .class_ 4), (1, u "java/lang/CharSequence"), (42, .class_ 48), (0, u "java/lang/CharSequence$1CodePointIterator"), (10, .class_ 60), (0, u "java/lang/CharSequence$1CharIterator"), (5, .class_ 67), (0, u "java/lang/Object")] 63

/-- java/lang/CharSequence -/
def k4 : Class := { plain "java/lang/CharSequence" (some 0) with
  accessFlags := 1537
  interfaces := #[]
  cf := some (fileOf pool4 2 #[.nestMembers #[47, 59]] #[] 1537 66 #[] #[])
  fields := #[]
  methods := #[]
  instanceTypes := #[]
  staticTypes := #[]
  resolved := Array.replicate 131 none
  statics := none }

def pool5 : Array CpInfo := pool [(1, .class_ 2), (0, u "java/lang/constant/Constable"), (0, .class_ 4), (0, u "java/lang/Object")] 6

/-- java/lang/constant/Constable -/
def k5 : Class := { plain "java/lang/constant/Constable" (some 0) with
  accessFlags := 1537
  interfaces := #[]
  cf := some (fileOf pool5 1 #[] #[] 1537 3 #[] #[])
  fields := #[]
  methods := #[]
  instanceTypes := #[]
  staticTypes := #[]
  resolved := Array.replicate 11 none
  statics := none }

def pool6 : Array CpInfo := pool [(1, .class_ 2), (0, u "java/lang/constant/ConstantDesc"), (0, .class_ 4), (0, u "java/lang/Object")] 32

/-- java/lang/constant/ConstantDesc -/
def k6 : Class := { plain "java/lang/constant/ConstantDesc" (some 0) with
  accessFlags := 1537
  interfaces := #[]
  cf := some (fileOf pool6 1 #[] #[] 1537 3 #[] #[])
  fields := #[]
  methods := #[]
  instanceTypes := #[]
  staticTypes := #[]
  resolved := Array.replicate 37 none
  statics := none }

def pool7 : Array CpInfo := pool [(2, .class_ 4), (1, u "java/lang/Object"), (0, u "<init>"), (0, u "()V"), (2, .fieldref 10 11), (0, .class_ 12), (0, .nameAndType 13 14), (0, u "java/lang/String"), (0, u "value"), (0, u "[B"), (0, .fieldref 10 16), (0, .nameAndType 17 18), (0, u "coder"), (0, u "B"), (2, u "hash"), (0, u "I"), (2, u "hashIsZero"), (0, u "Z"), (11, .fieldref 10 39), (0, .nameAndType 40 26), (0, u "COMPACT_STRINGS"), (66, .class_ 109), (1, u "java/lang/StringLatin1"), (32, u "()Z"), (220, u "([BI)C"), (27, u "(II)V"), (35, u "(I)C"), (64, .methodref 10 493), (0, .nameAndType 494 142), (0, u "isLatin1"), (0, .methodref 107 496), (0, .nameAndType 497 363), (0, u "charAt"), (3, u "checkIndex"), (73, .class_ 576), (0, u "java/lang/CharSequence"), (22, u "CASE_INSENSITIVE_ORDER"), (0, u "Ljava/util/Comparator;"), (452, .fieldref 1054 1055), (0, .class_ 1056), (0, .nameAndType 1057 1058), (0, u "jdk/internal/util/Preconditions"), (0, u "SIOOBE_FORMATTER"), (0, u "Ljava/util/function/BiFunction;"), (0, .methodref 1054 1060), (0, .nameAndType 501 1061), (0, u "(IILjava/util/function/BiFunction;)I"), (39, u "serialPersistentFields"), (0, u "[Ljava/io/ObjectStreamField;"), (0, .class_ 1104), (0, u "java/lang/String$CaseInsensitiveComparator"), (1, .class_ 1107), (0, u "java/io/Serializable"), (0, .class_ 1109), (0, u "java/lang/Comparable"), (0, .class_ 1111), (0, u "java/lang/constant/Constable"), (0, .class_ 1113), (0, u "java/lang/constant/ConstantDesc"), (2, u "serialVersionUID"), (0, u "J"), (3, u "REPL"), (0, u "C"), (2, u "LATIN1"), (1, u "UTF16")] 323

def k7m0 : Method := { name := "<init>", desc := "()V", sig := { parameters := [], returnType := none }, accessFlags := 1, code := none }
def k7c1 : Code := { maxStack := 2, maxLocals := 2, code := jdk_42_method_56_code, exceptionTable := #[], attributes := #[] }
def k7m1 : Method := { name := "charAt", desc := "(I)C", sig := { parameters := [.int], returnType := some .char }, accessFlags := 1, code := some k7c1 }
def k7c2 : Code := { maxStack := 1, maxLocals := 1, code := jdk_42_method_154_code, exceptionTable := #[], attributes := #[] }
def k7m2 : Method := { name := "isLatin1", desc := "()Z", sig := { parameters := [], returnType := some .boolean }, accessFlags := 0, code := some k7c2 }
def k7c3 : Code := { maxStack := 3, maxLocals := 2, code := jdk_42_method_155_code, exceptionTable := #[], attributes := #[] }
def k7m3 : Method := { name := "checkIndex", desc := "(II)V", sig := { parameters := [.int, .int], returnType := none }, accessFlags := 8, code := some k7c3 }
/-- java/lang/String -/
def k7 : Class := { plain "java/lang/String" (some 0) with
  accessFlags := 49
  interfaces := #[2, 3, 4, 5, 6]
  cf := some (fileOf pool7 10 #[.nestMembers #[1103]] #[{ accessFlags := 1, nameIndex := 5, descriptorIndex := 6, attributes := #[] }, { accessFlags := 1, nameIndex := 497, descriptorIndex := 427, attributes := #[] }, { accessFlags := 0, nameIndex := 494, descriptorIndex := 142, attributes := #[] }, { accessFlags := 8, nameIndex := 501, descriptorIndex := 391, attributes := #[] }] 49 2 #[1106, 1108, 575, 1110, 1112] #[{ accessFlags := 18, nameIndex := 13, descriptorIndex := 14, attributes := #[] }, { accessFlags := 18, nameIndex := 17, descriptorIndex := 18, attributes := #[] }, { accessFlags := 2, nameIndex := 21, descriptorIndex := 22, attributes := #[] }, { accessFlags := 2, nameIndex := 25, descriptorIndex := 26, attributes := #[] }, { accessFlags := 26, nameIndex := 1116, descriptorIndex := 1117, attributes := #[] }, { accessFlags := 24, nameIndex := 40, descriptorIndex := 26, attributes := #[] }, { accessFlags := 26, nameIndex := 1101, descriptorIndex := 1102, attributes := #[] }, { accessFlags := 26, nameIndex := 1121, descriptorIndex := 1122, attributes := #[] }, { accessFlags := 25, nameIndex := 599, descriptorIndex := 600, attributes := #[] }, { accessFlags := 24, nameIndex := 1125, descriptorIndex := 18, attributes := #[] }, { accessFlags := 24, nameIndex := 1127, descriptorIndex := 18, attributes := #[] }])
  fields := #[{ name := "value", type := (.array .byte), accessFlags := 18, slot := 0, constantValue := 0 }, { name := "coder", type := .byte, accessFlags := 18, slot := 1, constantValue := 0 }, { name := "hash", type := .int, accessFlags := 2, slot := 2, constantValue := 0 }, { name := "hashIsZero", type := .boolean, accessFlags := 2, slot := 3, constantValue := 0 }, { name := "serialVersionUID", type := .long, accessFlags := 26, slot := 0, constantValue := 0 }, { name := "COMPACT_STRINGS", type := .boolean, accessFlags := 24, slot := 1, constantValue := 0 }, { name := "serialPersistentFields", type := (.array (.object "java/io/ObjectStreamField")), accessFlags := 26, slot := 2, constantValue := 0 }, { name := "REPL", type := .char, accessFlags := 26, slot := 3, constantValue := 0 }, { name := "CASE_INSENSITIVE_ORDER", type := (.object "java/util/Comparator"), accessFlags := 25, slot := 4, constantValue := 0 }, { name := "LATIN1", type := .byte, accessFlags := 24, slot := 5, constantValue := 0 }, { name := "UTF16", type := .byte, accessFlags := 24, slot := 6, constantValue := 0 }]
  methods := #[k7m0, k7m1, k7m2, k7m3]
  instanceTypes := #[(.array .byte), .byte, .int, .boolean]
  staticTypes := #[.long, .boolean, (.array (.object "java/io/ObjectStreamField")), .char, (.object "java/util/Comparator"), .byte, .byte]
  resolved := Array.replicate 1451 none
  statics := some 0 }

def pool8 : Array CpInfo := pool [(1, .class_ 2), (0, u "java/lang/String"), (1, .class_ 6), (1, u "java/lang/Object"), (0, u "<init>"), (0, u "()V"), (0, .methodref 1 10), (0, .nameAndType 11 12), (0, u "checkIndex"), (0, u "(II)V"), (1, .class_ 16), (1, u "java/lang/StringLatin1"), (36, u "([BI)C"), (67, u "$assertionsDisabled"), (0, u "Z"), (98, .class_ 223), (1, u "java/lang/StringLatin1$LinesSpliterator"), (28, u "charAt"), (137, .class_ 391), (0, u "java/lang/StringLatin1$CharsSpliterator")] 3

def k8m0 : Method := { name := "<init>", desc := "()V", sig := { parameters := [], returnType := none }, accessFlags := 0, code := none }
def k8c1 : Code := { maxStack := 2, maxLocals := 2, code := jdk_43_method_2_code, exceptionTable := #[], attributes := #[] }
def k8m1 : Method := { name := "charAt", desc := "([BI)C", sig := { parameters := [(.array .byte), .int], returnType := some .char }, accessFlags := 9, code := some k8c1 }
/-- java/lang/StringLatin1 -/
def k8 : Class := { plain "java/lang/StringLatin1" (some 0) with
  accessFlags := 48
  interfaces := #[]
  cf := some (fileOf pool8 14 #[.nestMembers #[390, 221]] #[{ accessFlags := 0, nameIndex := 7, descriptorIndex := 8, attributes := #[] }, { accessFlags := 9, nameIndex := 252, descriptorIndex := 53, attributes := #[] }] 48 4 #[] #[{ accessFlags := 4120, nameIndex := 121, descriptorIndex := 122, attributes := #[] }])
  fields := #[{ name := "$assertionsDisabled", type := .boolean, accessFlags := 4120, slot := 0, constantValue := 0 }]
  methods := #[k8m0, k8m1]
  instanceTypes := #[]
  staticTypes := #[.boolean]
  resolved := Array.replicate 395 none
  statics := none }

def pool9 : Array CpInfo := pool [(2, .class_ 4), (1, u "java/lang/Object"), (0, u "<init>"), (0, u "()V"), (17, .class_ 26), (1, u "jdk/internal/util/Preconditions"), (6, u "checkIndex"), (21, .class_ 56), (0, u "jdk/internal/util/Preconditions$4"), (57, .class_ 115), (0, u "jdk/internal/util/Preconditions$1"), (7, u "SIOOBE_FORMATTER"), (0, u "Ljava/util/function/BiFunction;"), (0, .class_ 126), (0, u "jdk/internal/util/Preconditions$2"), (3, u "AIOOBE_FORMATTER"), (0, .class_ 132), (0, u "jdk/internal/util/Preconditions$3"), (3, u "IOOBE_FORMATTER"), (41, u "(IILjava/util/function/BiFunction;)I")] 15

def k9m0 : Method := { name := "<init>", desc := "()V", sig := { parameters := [], returnType := none }, accessFlags := 1, code := none }
def k9c1 : Code := { maxStack := 3, maxLocals := 3, code := jdk_41_method_11_code, exceptionTable := #[], attributes := #[] }
def k9m1 : Method := { name := "checkIndex", desc := "(IILjava/util/function/BiFunction;)I", sig := { parameters := [.int, .int, (.object "java/util/function/BiFunction")], returnType := some .int }, accessFlags := 9, code := some k9c1 }
/-- jdk/internal/util/Preconditions -/
def k9 : Class := { plain "jdk/internal/util/Preconditions" (some 0) with
  accessFlags := 33
  interfaces := #[]
  cf := some (fileOf pool9 24 #[.nestMembers #[55, 131, 125, 114]] #[{ accessFlags := 1, nameIndex := 5, descriptorIndex := 6, attributes := #[] }, { accessFlags := 9, nameIndex := 33, descriptorIndex := 178, attributes := #[] }] 33 2 #[] #[{ accessFlags := 25, nameIndex := 123, descriptorIndex := 124, attributes := #[] }, { accessFlags := 25, nameIndex := 130, descriptorIndex := 124, attributes := #[] }, { accessFlags := 25, nameIndex := 136, descriptorIndex := 124, attributes := #[] }])
  fields := #[{ name := "SIOOBE_FORMATTER", type := (.object "java/util/function/BiFunction"), accessFlags := 25, slot := 0, constantValue := 0 }, { name := "AIOOBE_FORMATTER", type := (.object "java/util/function/BiFunction"), accessFlags := 25, slot := 1, constantValue := 0 }, { name := "IOOBE_FORMATTER", type := (.object "java/util/function/BiFunction"), accessFlags := 25, slot := 2, constantValue := 0 }]
  methods := #[k9m0, k9m1]
  instanceTypes := #[]
  staticTypes := #[(.object "java/util/function/BiFunction"), (.object "java/util/function/BiFunction"), (.object "java/util/function/BiFunction")]
  resolved := Array.replicate 194 none
  statics := some 1 }

def pool10 : Array CpInfo := pool [(2, .class_ 4), (1, u "java/lang/Object"), (0, u "<init>"), (0, u "()V"), (0, .class_ 8), (0, u "com/example/hermod/hermod/HexDigit"), (2, u "value"), (0, u "(I)I")] 3

def k10m0 : Method := { name := "<init>", desc := "()V", sig := { parameters := [], returnType := none }, accessFlags := 2, code := none }
def k10c1 : Code := { maxStack := 2, maxLocals := 2, code := prog_9_method_2_code, exceptionTable := #[], attributes := #[] }
def k10m1 : Method := { name := "value", desc := "(I)I", sig := { parameters := [.int], returnType := some .int }, accessFlags := 8, code := some k10c1 }
/-- com/example/hermod/hermod/HexDigit -/
def k10 : Class := { plain "com/example/hermod/hermod/HexDigit" (some 0) with
  accessFlags := 32
  interfaces := #[]
  cf := some (fileOf pool10 7 #[] #[{ accessFlags := 2, nameIndex := 5, descriptorIndex := 6, attributes := #[] }, { accessFlags := 8, nameIndex := 11, descriptorIndex := 12, attributes := #[] }] 32 2 #[] #[])
  fields := #[]
  methods := #[k10m0, k10m1]
  instanceTypes := #[]
  staticTypes := #[]
  resolved := Array.replicate 16 none
  statics := none }

def pool11 : Array CpInfo := pool [(9, u "<init>"), (6, .class_ 18), (1, u "java/lang/Object"), (0, u "()V"), (1, .class_ 23), (1, u "jdk/internal/util/ArraysSupport"), (0, u "LOG2_ARRAY_LONG_INDEX_SCALE"), (0, u "I"), (2, u "U"), (0, u "Ljdk/internal/misc/Unsafe;"), (8, u "BIG_ENDIAN"), (0, u "Z"), (8, u "LOG2_BYTE_BIT_SIZE"), (4, u "LOG2_ARRAY_INT_INDEX_SCALE"), (54, u "JLA"), (0, u "Ljdk/internal/access/JavaLangAccess;"), (11, u "LOG2_ARRAY_BOOLEAN_INDEX_SCALE"), (9, u "LOG2_ARRAY_BYTE_INDEX_SCALE"), (5, u "LOG2_ARRAY_CHAR_INDEX_SCALE"), (5, u "LOG2_ARRAY_SHORT_INDEX_SCALE"), (18, u "LOG2_ARRAY_FLOAT_INDEX_SCALE"), (24, u "LOG2_ARRAY_DOUBLE_INDEX_SCALE"), (89, u "T_BOOLEAN"), (2, u "T_CHAR"), (1, u "T_FLOAT"), (1, u "T_DOUBLE"), (1, u "T_BYTE"), (1, u "T_SHORT"), (1, u "T_INT"), (1, u "T_LONG"), (1, u "SOFT_MAX_ARRAY_LENGTH")] 83

def k11m0 : Method := { name := "<init>", desc := "()V", sig := { parameters := [], returnType := none }, accessFlags := 2, code := none }
/-- jdk/internal/util/ArraysSupport -/
def k11 : Class := { plain "jdk/internal/util/ArraysSupport" (some 0) with
  accessFlags := 33
  interfaces := #[]
  cf := some (fileOf pool11 21 #[] #[{ accessFlags := 2, nameIndex := 9, descriptorIndex := 19, attributes := #[] }] 33 16 #[] #[{ accessFlags := 24, nameIndex := 28, descriptorIndex := 29, attributes := #[] }, { accessFlags := 26, nameIndex := 38, descriptorIndex := 39, attributes := #[] }, { accessFlags := 25, nameIndex := 121, descriptorIndex := 25, attributes := #[] }, { accessFlags := 25, nameIndex := 131, descriptorIndex := 25, attributes := #[] }, { accessFlags := 25, nameIndex := 137, descriptorIndex := 25, attributes := #[] }, { accessFlags := 25, nameIndex := 143, descriptorIndex := 25, attributes := #[] }, { accessFlags := 25, nameIndex := 53, descriptorIndex := 25, attributes := #[] }, { accessFlags := 25, nameIndex := 24, descriptorIndex := 25, attributes := #[] }, { accessFlags := 25, nameIndex := 162, descriptorIndex := 25, attributes := #[] }, { accessFlags := 25, nameIndex := 187, descriptorIndex := 25, attributes := #[] }, { accessFlags := 26, nameIndex := 48, descriptorIndex := 25, attributes := #[] }, { accessFlags := 25, nameIndex := 277, descriptorIndex := 25, attributes := #[] }, { accessFlags := 25, nameIndex := 280, descriptorIndex := 25, attributes := #[] }, { accessFlags := 25, nameIndex := 282, descriptorIndex := 25, attributes := #[] }, { accessFlags := 25, nameIndex := 284, descriptorIndex := 25, attributes := #[] }, { accessFlags := 25, nameIndex := 286, descriptorIndex := 25, attributes := #[] }, { accessFlags := 25, nameIndex := 288, descriptorIndex := 25, attributes := #[] }, { accessFlags := 25, nameIndex := 290, descriptorIndex := 25, attributes := #[] }, { accessFlags := 25, nameIndex := 292, descriptorIndex := 25, attributes := #[] }, { accessFlags := 26, nameIndex := 108, descriptorIndex := 109, attributes := #[] }, { accessFlags := 25, nameIndex := 294, descriptorIndex := 25, attributes := #[] }])
  fields := #[{ name := "U", type := (.object "jdk/internal/misc/Unsafe"), accessFlags := 24, slot := 0, constantValue := 0 }, { name := "BIG_ENDIAN", type := .boolean, accessFlags := 26, slot := 1, constantValue := 0 }, { name := "LOG2_ARRAY_BOOLEAN_INDEX_SCALE", type := .int, accessFlags := 25, slot := 2, constantValue := 0 }, { name := "LOG2_ARRAY_BYTE_INDEX_SCALE", type := .int, accessFlags := 25, slot := 3, constantValue := 0 }, { name := "LOG2_ARRAY_CHAR_INDEX_SCALE", type := .int, accessFlags := 25, slot := 4, constantValue := 0 }, { name := "LOG2_ARRAY_SHORT_INDEX_SCALE", type := .int, accessFlags := 25, slot := 5, constantValue := 0 }, { name := "LOG2_ARRAY_INT_INDEX_SCALE", type := .int, accessFlags := 25, slot := 6, constantValue := 0 }, { name := "LOG2_ARRAY_LONG_INDEX_SCALE", type := .int, accessFlags := 25, slot := 7, constantValue := 0 }, { name := "LOG2_ARRAY_FLOAT_INDEX_SCALE", type := .int, accessFlags := 25, slot := 8, constantValue := 0 }, { name := "LOG2_ARRAY_DOUBLE_INDEX_SCALE", type := .int, accessFlags := 25, slot := 9, constantValue := 0 }, { name := "LOG2_BYTE_BIT_SIZE", type := .int, accessFlags := 26, slot := 10, constantValue := 0 }, { name := "T_BOOLEAN", type := .int, accessFlags := 25, slot := 11, constantValue := 0 }, { name := "T_CHAR", type := .int, accessFlags := 25, slot := 12, constantValue := 0 }, { name := "T_FLOAT", type := .int, accessFlags := 25, slot := 13, constantValue := 0 }, { name := "T_DOUBLE", type := .int, accessFlags := 25, slot := 14, constantValue := 0 }, { name := "T_BYTE", type := .int, accessFlags := 25, slot := 15, constantValue := 0 }, { name := "T_SHORT", type := .int, accessFlags := 25, slot := 16, constantValue := 0 }, { name := "T_INT", type := .int, accessFlags := 25, slot := 17, constantValue := 0 }, { name := "T_LONG", type := .int, accessFlags := 25, slot := 18, constantValue := 0 }, { name := "JLA", type := (.object "jdk/internal/access/JavaLangAccess"), accessFlags := 26, slot := 19, constantValue := 0 }, { name := "SOFT_MAX_ARRAY_LENGTH", type := .int, accessFlags := 25, slot := 20, constantValue := 0 }]
  methods := #[k11m0]
  instanceTypes := #[]
  staticTypes := #[(.object "jdk/internal/misc/Unsafe"), .boolean, .int, .int, .int, .int, .int, .int, .int, .int, .int, .int, .int, .int, .int, .int, .int, .int, .int, (.object "jdk/internal/access/JavaLangAccess"), .int]
  resolved := Array.replicate 378 none
  statics := none }

def pool12 : Array CpInfo := pool [(1, u "java/lang/Cloneable"), (0, .class_ 1), (0, u "java/lang/Object"), (0, .class_ 3)] 3

/-- java/lang/Cloneable -/
def k12 : Class := { plain "java/lang/Cloneable" (some 0) with
  accessFlags := 1537
  interfaces := #[]
  cf := some (fileOf pool12 2 #[] #[] 1537 4 #[] #[])
  fields := #[]
  methods := #[]
  instanceTypes := #[]
  staticTypes := #[]
  resolved := Array.replicate 8 none
  statics := none }

/-- the primitive byte -/
def k13 : Class := { plain "byte" none with kind := .primitive 'B', accessFlags := 0x411 }
/-- [B -/
def k14 : Class := { plain "[B" (some 0) with kind := .array 13 .byte, interfaces := #[12, 2], accessFlags := 1041 }

/-- the primitive int -/
def k15 : Class := { plain "int" none with kind := .primitive 'I', accessFlags := 0x411 }
/-- [I -/
def k16 : Class := { plain "[I" (some 0) with kind := .array 15 .int, interfaces := #[12, 2], accessFlags := 1041 }

def heap : Heap := #[{ cls := 7, slots := #[.long 0, .int 1, .null, .int 0, .null, .int 0, .int 0], vm := .statics 7 },
  { cls := 9, slots := #[.null, .null, .null], vm := .statics 9 }]
def classes : Array Class := #[k0, k1, k2, k3, k4, k5, k6, k7, k8, k9, k10, k11, k12, k13, k14, k15, k16]
def interned : List (Array UInt16 × Addr) := []
def slotsUsed : Nat := 10
def theMethod : MethodId := ⟨1, 1⟩
def args0 : Array Value := #[.int 65, .int 3]
def aboutOver (below : List Frame) : State where
  vm := { classes := classes, interned := interned.toArray }
  heap := heap
  slotsUsed := slotsUsed
  threads := #[{ frames := .invoking theMethod args0 :: below }]
def below0 : List Frame := [.native { method := ⟨0, 0⟩, args := #[] }]
def about1 : State := aboutOver below0
def p0 : Program := .bare "" "" ""
def e0 : Env := launch0.env 0 0 0
theorem w_frames : about1.frames = Frame.invoking theMethod args0 :: below0 := rfl
set_option maxRecDepth 65536 in
theorem w_args : argsFit about1.vm theMethod args0 = true := by decide +kernel
set_option maxRecDepth 65536 in
theorem w_heap : heapFits about1 = true := by decide +kernel
set_option maxRecDepth 65536 in
theorem w_runnable : about1.curStatus? = some .runnable := by decide +kernel
set_option maxRecDepth 65536 in
theorem w_alone : about1.alone = true := by decide +kernel
set_option maxRecDepth 65536 in
theorem w_named : about1.methodNamed? x = some theMethod := by decide +kernel
set_option maxRecDepth 65536 in
theorem w_hears : about1.hears theMethod below0 = true := by decide +kernel
set_option maxRecDepth 65536 in
theorem w_ripe : about1.ripe theMethod args0 below0 = true := by decide +kernel
theorem w_running : about1.status = .running := rfl
set_option maxRecDepth 65536 in
theorem w_room : about1.hasRoom e0.platform room_1 = true :=
  launch0.hasRoom_least _ room_1 (by decide +kernel) (by decide +kernel) (by decide +kernel) (by decide +kernel) (by decide +kernel) (by decide +kernel)
theorem allAtoms_all (ts : List Jvm.Cond) (a : Array Jvm.Value) (st : Jvm.State) : (allAtoms ts).before a st = ts.all (fun c => c.before a st) := by
  induction ts with
  | nil => rfl
  | cons c t ih =>
    show (Jvm.Cond.and c (allAtoms t)).before a st = _
    rw [Jvm.Cond.before_and, ih, List.all_cons]
def words1 : List Jvm.Cond := Jvm.Cond.code x code maxLocals ret :: tables_1
/-- a 'code' word, met by the world's own term for the bytes: nothing is compared byte by byte -/
theorem code_word {y : MethodName} {bytes : ByteArray} {mx : Nat} {rt : Option FieldType} {a : Array Value} {s : State} {m : MethodId} {meth : Method} {c : Code} (h1 : s.methodNamed? y = some m) (h2 : s.vm.method? m = some meth) (h3 : meth.code = some c) (h4 : c.code = bytes)
    (h5 : (c.maxLocals == mx && c.exceptionTable.isEmpty && decide (c.maxStack ≤ mostOperands) && decide (meth.sig.returnType = rt) && !meth.locks && decide (parseMethodDescriptor y.desc = some meth.sig)) = true) : (Jvm.Cond.code y bytes mx rt).before a s = true := by
  simp only [Bool.and_eq_true, beq_iff_eq, Bool.not_eq_true', decide_eq_true_eq] at h5
  obtain ⟨⟨⟨⟨⟨g1, g2⟩, g3⟩, g4⟩, g5⟩, g6⟩ := h5
  simp [Cond.before, Cond.holds, Cond.value, h1, h2, h3, h4, g1, g2, g3, g4, g5, g6]
def isCode : Jvm.Cond → Bool
  | .code _ _ _ _ => true
  | _ => false
theorem all_split {L : List Jvm.Cond} {P : Jvm.Cond → Bool} (h1 : L.all (fun c => isCode c || P c) = true) (h2 : ∀ c ∈ L.filter isCode, P c = true) : L.all P = true := by
  refine List.all_eq_true.mpr fun c hc => ?_
  have h := List.all_eq_true.mp h1 c hc
  rcases Bool.eq_false_or_eq_true (isCode c) with hi | hi
  · exact h2 c (List.mem_filter.mpr ⟨hc, hi⟩)
  · simpa [hi] using h
set_option maxRecDepth 65536 in
theorem w_c0 : (Jvm.Cond.code x code maxLocals ret).before args0 about1 = true := code_word (m := ⟨1, 1⟩) (meth := k1m1) (c := k1c1) (by decide +kernel) rfl rfl rfl (by decide +kernel)
set_option maxRecDepth 65536 in
theorem w_c1 : (Jvm.Cond.code ({ cls := "java/lang/String", name := "charAt", desc := "(I)C" } : Jvm.MethodName) jdk_42_method_56_code (2 : Nat) (Option.some Jvm.ClassFile.FieldType.char)).before args0 about1 = true := code_word (m := ⟨7, 1⟩) (meth := k7m1) (c := k7c1) (by decide +kernel) rfl rfl rfl (by decide +kernel)
set_option maxRecDepth 65536 in
theorem w_c2 : (Jvm.Cond.code ({ cls := "java/lang/String", name := "isLatin1", desc := "()Z" } : Jvm.MethodName) jdk_42_method_154_code (1 : Nat) (Option.some Jvm.ClassFile.FieldType.boolean)).before args0 about1 = true := code_word (m := ⟨7, 2⟩) (meth := k7m2) (c := k7c2) (by decide +kernel) rfl rfl rfl (by decide +kernel)
set_option maxRecDepth 65536 in
theorem w_c3 : (Jvm.Cond.code ({ cls := "java/lang/StringLatin1", name := "charAt", desc := "([BI)C" } : Jvm.MethodName) jdk_43_method_2_code (2 : Nat) (Option.some Jvm.ClassFile.FieldType.char)).before args0 about1 = true := code_word (m := ⟨8, 1⟩) (meth := k8m1) (c := k8c1) (by decide +kernel) rfl rfl rfl (by decide +kernel)
set_option maxRecDepth 65536 in
theorem w_c4 : (Jvm.Cond.code ({ cls := "java/lang/String", name := "checkIndex", desc := "(II)V" } : Jvm.MethodName) jdk_42_method_155_code (2 : Nat) (Option.none : Option Jvm.ClassFile.FieldType)).before args0 about1 = true := code_word (m := ⟨7, 3⟩) (meth := k7m3) (c := k7c3) (by decide +kernel) rfl rfl rfl (by decide +kernel)
set_option maxRecDepth 65536 in
theorem w_c5 : (Jvm.Cond.code ({ cls := "jdk/internal/util/Preconditions", name := "checkIndex", desc := "(IILjava/util/function/BiFunction;)I" } : Jvm.MethodName) jdk_41_method_11_code (3 : Nat) (Option.some Jvm.ClassFile.FieldType.int)).before args0 about1 = true := code_word (m := ⟨9, 1⟩) (meth := k9m1) (c := k9c1) (by decide +kernel) rfl rfl rfl (by decide +kernel)
set_option maxRecDepth 65536 in
theorem w_c6 : (Jvm.Cond.code ({ cls := "com/example/hermod/hermod/HexDigit", name := "value", desc := "(I)I" } : Jvm.MethodName) prog_9_method_2_code (2 : Nat) (Option.some Jvm.ClassFile.FieldType.int)).before args0 about1 = true := code_word (m := ⟨10, 1⟩) (meth := k10m1) (c := k10c1) (by decide +kernel) rfl rfl rfl (by decide +kernel)
def codes1 : List Jvm.Cond := [Jvm.Cond.code x code maxLocals ret, Jvm.Cond.code ({ cls := "java/lang/String", name := "charAt", desc := "(I)C" } : Jvm.MethodName) jdk_42_method_56_code (2 : Nat) (Option.some Jvm.ClassFile.FieldType.char), Jvm.Cond.code ({ cls := "java/lang/String", name := "isLatin1", desc := "()Z" } : Jvm.MethodName) jdk_42_method_154_code (1 : Nat) (Option.some Jvm.ClassFile.FieldType.boolean), Jvm.Cond.code ({ cls := "java/lang/StringLatin1", name := "charAt", desc := "([BI)C" } : Jvm.MethodName) jdk_43_method_2_code (2 : Nat) (Option.some Jvm.ClassFile.FieldType.char), Jvm.Cond.code ({ cls := "java/lang/String", name := "checkIndex", desc := "(II)V" } : Jvm.MethodName) jdk_42_method_155_code (2 : Nat) (Option.none : Option Jvm.ClassFile.FieldType), Jvm.Cond.code ({ cls := "jdk/internal/util/Preconditions", name := "checkIndex", desc := "(IILjava/util/function/BiFunction;)I" } : Jvm.MethodName) jdk_41_method_11_code (3 : Nat) (Option.some Jvm.ClassFile.FieldType.int), Jvm.Cond.code ({ cls := "com/example/hermod/hermod/HexDigit", name := "value", desc := "(I)I" } : Jvm.MethodName) prog_9_method_2_code (2 : Nat) (Option.some Jvm.ClassFile.FieldType.int)]
set_option maxRecDepth 65536 in
theorem codes_eq : words1.filter isCode = codes1 := rfl
theorem w_codes : ∀ c ∈ words1.filter isCode, c.before args0 about1 = true := by
  rw [codes_eq]
  intro c hc
  simp only [codes1, List.mem_cons, List.not_mem_nil, or_false] at hc
  rcases hc with rfl | rfl | rfl | rfl | rfl | rfl | rfl
  · exact w_c0
  · exact w_c1
  · exact w_c2
  · exact w_c3
  · exact w_c4
  · exact w_c5
  · exact w_c6
set_option maxRecDepth 65536 in
theorem w_t1 : (words1.take 24).all (fun c => isCode c || c.before args0 about1) = true := by decide +kernel
set_option maxRecDepth 65536 in
theorem w_t2 : (words1.drop 24).all (fun c => isCode c || c.before args0 about1) = true := by decide +kernel
theorem w_tables : (allAtoms (Jvm.Cond.code x code maxLocals ret :: tables_1)).before args0 about1 = true := by
  rw [allAtoms_all]
  show words1.all (fun c => c.before args0 about1) = true
  refine all_split ?_ w_codes
  rw [← List.take_append_drop 24 words1, List.all_append, w_t1, w_t2]
  rfl
set_option maxRecDepth 65536 in
theorem w_rest : rest_1_c.before args0 about1 = true := by decide +kernel
set_option maxRecDepth 65536 in
theorem w_case : (Jvm.Cond.and given_1 narrow_1).before args0 about1 = true := by decide +kernel
set_option maxRecDepth 65536 in
theorem w_consts : constsHeld consts_1 about1 := Jvm.Lit.constsHeldB_iff.mp (by decide +kernel)
theorem w_applies : (headSpec (Jvm.Cond.code x code maxLocals ret :: tables_1) room_1).applies x e0.platform about1 = true :=
  (Spec.applies_iff w_frames).mpr ⟨w_running, w_runnable, w_alone, w_named, w_hears, w_ripe, w_room, w_tables⟩
theorem atStart : AtStart classFile x code maxLocals ret World_1 tables_1 room_1 Calls_1 rest_1 Pre_1 launch0 p0 e0 about1 theMethod args0 below0 :=
  ⟨lists_1, trivial, launch0.admits_env _ _ _, launch0.least_env, fairChoices_fair.cas, fairChoices_fair.clock, w_frames, w_args, w_heap, w_applies, ⟨w_consts, trivial⟩, w_rest, w_case⟩
end start1
theorem witness_1 : WitnessClaimed_1 := ⟨start1.p0, start1.e0, start1.about1, start1.theMethod, start1.args0, start1.below0, start1.atStart⟩
end Jvm.Pilot.@@N@@
