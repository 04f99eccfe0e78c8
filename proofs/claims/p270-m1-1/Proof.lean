import JvmDerived
import JvmDerived.Pilot.@@N@@Statement
import JvmDerived.Pilot.@@N@@Code
set_option linter.unusedVariables false
set_option linter.unusedSimpArgs false
namespace Jvm.RoadKit
open Sem ClassFile Op Lib Jvm.Stand Jvm.Free Jvm.LawKit
section New
variable {p : Program} {l : Launch} {e : Env} {R : Room} {s : State} {m : MethodId} {args : Array Value} {below : List Frame} {meth : Method} {c : Code} {T : State} {locs : List Loc} {cells slots : Nat}
theorem retI (X : Stand p l e R s m args below meth c T locs cells slots) (hx : p.tables.exec = Jvm.exec) {pc : Nat} {Ls : Array Slot} {z : Int32} {rest : List Value} (hret : meth.sig.returnType = some .int) (hd : decode c.code pc = .ok (.ireturn, 1)) {fs : List Frame}
    (hl : ∀ (f : JFrame) (acts : List Action), f.method = m → f.locked = none → f.entered = [] → (doReturn e (T.setTop f) acts (some (.int z))).1 = T.setFrames fs) : Steps p.tables e below (T.setTop (mkF m pc Ls (.int z :: rest))) (T.setFrames fs) := by
  have hm' : T.vm.method? m = some meth := X.method'
  have hn : narrow .int (.int z) = .int z := rfl
  show Steps p.tables e below (T.setTop { method := m, pc := pc, locals := Ls, stack := _ :: rest, locked := none }) _
  jvm_step X.here [X.here.top, hx, hd, hm', hret, hn]
  first | (intro acts; rw [hl _ acts rfl rfl rfl]) | rw [hl _ _ rfl rfl rfl]
  exact Steps.refl _
end New
end Jvm.RoadKit
namespace Jvm.Pilot.@@N@@
open Jvm Jvm.ClassFile Sem Op Lib Jvm.Free Jvm.Stand Jvm.LawKit Jvm.RoadKit Bundle Jvm.Pilot.@@N@@.Jvm.D
theorem own_lti {x y : Int32} : x < y ↔ x.toInt < y.toInt := Int32.lt_iff_toInt_lt
theorem own_b8 (x : Int32) : x.toInt8.toInt32.toInt8.toInt32 = x.toInt8.toInt32 := by simp
def own_AL (Z : State) (h : Heap) (a ed : Addr) (sz mc : Int32) : Prop := Exa Z h a "java/util/ArrayList" ∧ Fld Z h a "java/util/AbstractList" "modCount" "I" (.int mc) ∧ Fld Z h a "java/util/ArrayList" "elementData" "[Ljava/lang/Object;" (.ref ed) ∧ Fld Z h a "java/util/ArrayList" "size" "I" (.int sz)
theorem own_AL.ext {Z : State} {h h' : Heap} {a ed : Addr} {sz mc : Int32} (O : own_AL Z h a ed sz mc) (E : Ext h h') : own_AL Z h' a ed sz mc := ⟨O.1.ext E, O.2.1.ext E, O.2.2.1.ext E, O.2.2.2.ext E⟩
theorem own_AL.keep {Z : State} {h h' : Heap} {ws : List Addr} {a ed : Addr} {sz mc : Int32} (O : own_AL Z h a ed sz mc) (K : Keep h h' ws) (q : a ∉ ws) : own_AL Z h' a ed sz mc := ⟨O.1.keep K, O.2.1.keep K q, O.2.2.1.keep K q, O.2.2.2.keep K q⟩
theorem own_AL.other {Z : State} {h h' : Heap} {a ed b : Addr} {sl : Nat} {v : Value} {sz mc : Int32} (O : own_AL Z h a ed sz mc) (W : Wr h h' b sl v) (q : a ≠ b) : own_AL Z h' a ed sz mc := ⟨O.1.wr W, O.2.1.other W (Or.inl q), O.2.2.1.other W (Or.inl q), O.2.2.2.other W (Or.inl q)⟩
theorem own_AL.lt {Z : State} {h : Heap} {a ed : Addr} {sz mc : Int32} (O : own_AL Z h a ed sz mc) : a < h.size := O.1.lt
def own_RB (Z : State) (h : Heap) (a al : Addr) (sz : Int32) : Prop := Exa Z h a "com/example/darter/darter/ResultBuffer" ∧ Fld Z h a "com/example/darter/darter/ResultBuffer" "blocks" "Ljava/util/List;" (.ref al) ∧ Fld Z h a "com/example/darter/darter/ResultBuffer" "size" "I" (.int sz)
theorem own_RB.ext {Z : State} {h h' : Heap} {a al : Addr} {sz : Int32} (O : own_RB Z h a al sz) (E : Ext h h') : own_RB Z h' a al sz := ⟨O.1.ext E, O.2.1.ext E, O.2.2.ext E⟩
theorem own_RB.keep {Z : State} {h h' : Heap} {ws : List Addr} {a al : Addr} {sz : Int32} (O : own_RB Z h a al sz) (K : Keep h h' ws) (q : a ∉ ws) : own_RB Z h' a al sz := ⟨O.1.keep K, O.2.1.keep K q, O.2.2.keep K q⟩
theorem own_RB.lt {Z : State} {h : Heap} {a al : Addr} {sz : Int32} (O : own_RB Z h a al sz) : a < h.size := O.1.lt
abbrev own_D (Z : State) (d0 : Addr) (kD : ClassId) : Prop := Sta Z Z.heap "java/util/ArrayList" "DEFAULTCAPACITY_EMPTY_ELEMENTDATA" "[Ljava/lang/Object;" (.ref d0) ∧ Arv Z Z.heap d0 kD (.object "java/lang/Object") (0 : Int32) [] .null
/-- the list with one block -/
def own_One (Z : State) (h : Heap) (al ed blk : Addr) (kE kB : ClassId) (vs : List Value) : Prop := (∃ mc, own_AL Z h al ed 1 mc) ∧ Arv Z h ed kE (.object "java/lang/Object") (10 : Int32) [.ref blk] .null ∧ Exa Z h blk "[B" ∧ Arv Z h blk kB .byte (256 : Int32) vs (.int (0 : Int32)) ∧ al ≠ ed ∧ al ≠ blk ∧ ed ≠ blk
theorem own_app (vs : List Value) (d v : Value) : (vs ++ List.replicate 1 d).set vs.length v = vs ++ [v] := by simp
def own_fi (f : Int32 → Int32) (b i : Int32) : Nat → Int32
  | 0 => i
  | n + 1 => if f i = b then i else own_fi f b (i + (1 : Int32)) n
abbrev own_ref (e0 e1 e2 e3 n b fr : Int32) : Int32 := if ¬ 0 < fr ∧ 0 < n ∧ e0 = b then 0 else if ¬ 1 < fr ∧ 1 < n ∧ e1 = b then 1 else if ¬ 2 < fr ∧ 2 < n ∧ e2 = b then 2 else if ¬ 3 < fr ∧ 3 < n ∧ e3 = b then 3 else -1
theorem own_fail {A B C : Prop} (h : ¬ (¬ A ∧ B ∧ C)) : A ∨ (¬ A ∧ ¬ B) ∨ (¬ A ∧ B ∧ ¬ C) := by
  by_cases a : A <;> by_cases b : B <;> by_cases c : C <;> simp [a, b, c] at h ⊢
theorem own_fib (f : Int32 → Int32) (b : Int32) : ∀ (n : Nat) (i k : Int32), 0 ≤ i.toInt → i.toInt + n = k.toInt → k.toInt ≤ 4 → i.toInt ≤ (own_fi f b i n).toInt ∧ (own_fi f b i n).toInt ≤ k.toInt
  | 0, i, k, h0, h, h4 => ⟨Int.le_refl _, by show i.toInt ≤ _; omega⟩
  | n + 1, i, k, h0, h, h4 => by
    unfold own_fi
    have q := c_iadd i 1
    have z : (1 : Int32).toInt = 1 := rfl
    have r := rng32 (i + 1)
    split
    · omega
    · have t := own_fib f b n (i + 1) k (by omega) (by omega) h4
      omega
theorem own_n (x : Int32) : (x &&& (7 : Int32)) % (5 : Int32) = 0 ∨ (x &&& (7 : Int32)) % (5 : Int32) = 1 ∨ (x &&& (7 : Int32)) % (5 : Int32) = 2 ∨ (x &&& (7 : Int32)) % (5 : Int32) = 3 ∨ (x &&& (7 : Int32)) % (5 : Int32) = 4 := by
  have m := c_mask x 7 3 (by decide) (by decide)
  have q := (c_irem (x &&& 7) 5 5 rfl).1 (by rw [m]; omega)
  have z : (0 : Int32).toInt = 0 := rfl
  have z1 : (1 : Int32).toInt = 1 := rfl
  have z2 : (2 : Int32).toInt = 2 := rfl
  have z3 : (3 : Int32).toInt = 3 := rfl
  have z4 : (4 : Int32).toInt = 4 := rfl
  simp only [← Int32.toInt_inj]
  omega
abbrev own_g (e0 e1 e2 e3 : Int32) (i : Int32) : Int32 := if i = 0 then e0 else if i = 1 then e1 else if i = 2 then e2 else e3
abbrev own_pos (fr : Int32) : Int32 := if (0 : Int32) < fr then fr else 0
theorem own_pos0 (fr : Int32) : 0 ≤ (own_pos fr).toInt := by
  have z : (0 : Int32).toInt = 0 := rfl
  unfold own_pos; split
  · rename_i h; rw [own_lti] at h; omega
  · rw [z]; exact Int.le_refl _
theorem own_small {x : Int32} (h0 : 0 ≤ x.toInt) (h : x < 4) : x / (131072 : Int32) = 0 ∧ x % (131072 : Int32) = x := by
  have z4 : (4 : Int32).toInt = 4 := rfl
  rw [own_lti] at h
  have d := (c_idiv x 131072 131072 rfl (by decide)).1 h0
  have m := (c_irem x 131072 131072 rfl).1 h0
  refine ⟨Int32.toInt_inj.mp ?_, Int32.toInt_inj.mp ?_⟩
  · rw [d]; show _ = (0 : Int); omega
  · rw [m]; omega
theorem own_lits {x : Int32} (h0 : 0 ≤ x.toInt) (h : x < 4) : x = 0 ∨ x = 1 ∨ x = 2 ∨ x = 3 := by
  have z : (0 : Int32).toInt = 0 := rfl
  have z1 : (1 : Int32).toInt = 1 := rfl
  have z2 : (2 : Int32).toInt = 2 := rfl
  have z3 : (3 : Int32).toInt = 3 := rfl
  have z4 : (4 : Int32).toInt = 4 := rfl
  rw [own_lti] at h
  simp only [← Int32.toInt_inj]
  omega
theorem own_far (e0 e1 e2 e3 b fr k : Int32) (hk : ¬ 4 < k) (h : ¬ own_pos fr < k) (h0 : ¬ k < 0) : (-1 : Int32) = own_ref e0 e1 e2 e3 k b fr := by
  have z : (0 : Int32).toInt = 0 := rfl
  have z1 : (1 : Int32).toInt = 1 := rfl
  have z2 : (2 : Int32).toInt = 2 := rfl
  have z3 : (3 : Int32).toInt = 3 := rfl
  have z4 : (4 : Int32).toInt = 4 := rfl
  have q : ¬ (0 : Int32) < k ∨ ¬ fr < k := by
    by_cases u : (0 : Int32) < fr
    · right; rw [own_pos, if_pos u] at h; exact h
    · left; rw [own_pos, if_neg u] at h; exact h
  unfold own_ref
  simp only [own_lti, z, z1, z2, z3, z4] at *
  rw [if_neg, if_neg, if_neg, if_neg]
  all_goals (intro u; obtain ⟨u1, u2, -⟩ := u; omega)
set_option maxRecDepth 65536 in
set_option maxHeartbeats 40000000 in
theorem own_near (e0 e1 e2 e3 b fr k : Int32) (nn : Nat) (hk : k = 1 ∨ k = 2 ∨ k = 3 ∨ k = 4) (h : own_pos fr < k) (hnn : (own_pos fr).toInt + nn = k.toInt) : (if own_fi (own_g e0 e1 e2 e3) b (own_pos fr) nn < k then own_fi (own_g e0 e1 e2 e3) b (own_pos fr) nn else -1) = own_ref e0 e1 e2 e3 k b fr := by
  have z : (0 : Int32).toInt = 0 := rfl
  have z1 : (1 : Int32).toInt = 1 := rfl
  have z2 : (2 : Int32).toInt = 2 := rfl
  have z3 : (3 : Int32).toInt = 3 := rfl
  have z4 : (4 : Int32).toInt = 4 := rfl
  have a1 : (0 : Int32) + 1 = 1 := rfl
  have a2 : (1 : Int32) + 1 = 2 := rfl
  have a3 : (2 : Int32) + 1 = 3 := rfl
  have a4 : (3 : Int32) + 1 = 4 := rfl
  have p0 := own_pos0 fr
  have hp : own_pos fr < 4 := by rw [own_lti] at h ⊢; rcases hk with rfl | rfl | rfl | rfl <;> omega
  have hn4 : nn = 0 ∨ nn = 1 ∨ nn = 2 ∨ nn = 3 ∨ nn = 4 := by rcases hk with rfl | rfl | rfl | rfl <;> omega
  have hfr : own_pos fr = 0 ∧ ¬ 0 < fr ∧ ¬ 1 < fr ∧ ¬ 2 < fr ∧ ¬ 3 < fr ∨ own_pos fr = fr ∧ (0 : Int32) < fr := by
    by_cases u : (0 : Int32) < fr
    · exact Or.inr ⟨if_pos u, u⟩
    · refine Or.inl ⟨if_neg u, u, ?_, ?_, ?_⟩ <;> (rw [own_lti] at u ⊢; omega)
  rcases hfr with ⟨q, f0, f1, f2, f3⟩ | ⟨q, f0⟩
  · rw [q] at hnn h ⊢
    rcases hk with rfl | rfl | rfl | rfl <;> rcases hn4 with rfl | rfl | rfl | rfl | rfl <;> first
      | (exfalso; omega)
      | (by_cases b0 : e0 = b <;> by_cases b1 : e1 = b <;> by_cases b2 : e2 = b <;> by_cases b3 : e3 = b <;> simp [own_fi, own_g, own_ref, b0, b1, b2, b3, a1, a2, a3, a4, f0, f1, f2, f3] <;> decide)
  · rw [q] at hnn h hp p0 ⊢
    rcases own_lits p0 hp with rfl | rfl | rfl | rfl <;> rcases hk with rfl | rfl | rfl | rfl <;> rcases hn4 with rfl | rfl | rfl | rfl | rfl <;> first
      | (exfalso; omega)
      | (exfalso; rw [own_lti] at f0; omega)
      | (by_cases b0 : e0 = b <;> by_cases b1 : e1 = b <;> by_cases b2 : e2 = b <;> by_cases b3 : e3 = b <;> simp [own_fi, own_g, own_ref, b0, b1, b2, b3, a1, a2, a3, a4] <;> decide)
theorem own_len0 {t : Term} {args : Array Value} {s : State} {a : Addr} {c : Cell} (ht : t.eval args s none [] s = some (.ref a)) (ha : s.arrayAt? a = some c) (h : (Jvm.Cond.eq (.length t) (.int 0)).value args s none s [] = some true) : c.slots.size < 2 ^ 31 ∧ c.slots.size.toInt32 = 0 := by
  by_cases hl : c.slots.size < 2 ^ 31
  · rw [Cond.eq_ints (len_f ht ha hl) rfl] at h
    exact ⟨hl, by simpa using h⟩
  · have q : (Term.length t).eval args s none [] s = none := by simp [Term.eval, ht, ha, hl]
    simp [Cond.value, q] at h
theorem own_selp {Z : State} {a0 : Array Value} {C : String} {x y : MethodName} (hx : x.cls = y.cls) (ws : (Jvm.Cond.selects C x x).before a0 Z = true) (wp : (Jvm.Cond.privateMethod y).before a0 Z = true) (wi : (Jvm.Cond.instanceMethod y).before a0 Z = true) (hy : y.cls ≠ "java/lang/invoke/MethodHandle" ∧ y.cls ≠ "java/lang/invoke/VarHandle") : (Jvm.Cond.selects y.cls y y).before a0 Z = true := by
  obtain ⟨c2, r2, m2, -, -, q3, -, kP, hkP, hkPi⟩ := Cond.selects_spec ws
  exact selects_self_of_private (by rw [← hx]; exact findClass_of_methodNamed q3) hkP hkPi (Cond.privateMethod_at wp) wi hy
theorem d1_0 : decode prog_10_method_1_code 0 = .ok (.aload_n 0, 1) := by decide +kernel
theorem d1_1 : decode prog_10_method_1_code 1 = .ok (.invokespecial 1, 3) := by decide +kernel
theorem d1_4 : decode prog_10_method_1_code 4 = .ok (.aload_n 0, 1) := by decide +kernel
theorem d1_5 : decode prog_10_method_1_code 5 = .ok (.new 7, 3) := by decide +kernel
theorem d1_8 : decode prog_10_method_1_code 8 = .ok (.dup, 1) := by decide +kernel
theorem d1_9 : decode prog_10_method_1_code 9 = .ok (.invokespecial 9, 3) := by decide +kernel
theorem d1_12 : decode prog_10_method_1_code 12 = .ok (.putfield 10, 3) := by decide +kernel
theorem d1_15 : decode prog_10_method_1_code 15 = .ok (.return_, 1) := by decide +kernel
theorem d2_0 : decode jdk_2038_method_1_code 0 = .ok (.aload_n 0, 1) := by decide +kernel
theorem d2_1 : decode jdk_2038_method_1_code 1 = .ok (.invokespecial 1, 3) := by decide +kernel
theorem d2_4 : decode jdk_2038_method_1_code 4 = .ok (.return_, 1) := by decide +kernel
theorem d4_0 : decode jdk_38_method_2_code 0 = .ok (.aload_n 0, 1) := by decide +kernel
theorem d4_1 : decode jdk_38_method_2_code 1 = .ok (.invokespecial 1, 3) := by decide +kernel
theorem d4_4 : decode jdk_38_method_2_code 4 = .ok (.aload_n 0, 1) := by decide +kernel
theorem d4_5 : decode jdk_38_method_2_code 5 = .ok (.getstatic 39, 3) := by decide +kernel
theorem d4_8 : decode jdk_38_method_2_code 8 = .ok (.putfield 9, 3) := by decide +kernel
theorem d4_11 : decode jdk_38_method_2_code 11 = .ok (.return_, 1) := by decide +kernel
theorem d5_0 : decode jdk_39_method_1_code 0 = .ok (.aload_n 0, 1) := by decide +kernel
theorem d5_1 : decode jdk_39_method_1_code 1 = .ok (.invokespecial 1, 3) := by decide +kernel
theorem d5_4 : decode jdk_39_method_1_code 4 = .ok (.aload_n 0, 1) := by decide +kernel
theorem d5_5 : decode jdk_39_method_1_code 5 = .ok (.iconst 0, 1) := by decide +kernel
theorem d5_6 : decode jdk_39_method_1_code 6 = .ok (.putfield 7, 3) := by decide +kernel
theorem d5_9 : decode jdk_39_method_1_code 9 = .ok (.return_, 1) := by decide +kernel
theorem d6_0 : decode jdk_22_method_1_code 0 = .ok (.aload_n 0, 1) := by decide +kernel
theorem d6_1 : decode jdk_22_method_1_code 1 = .ok (.invokespecial 1, 3) := by decide +kernel
theorem d6_4 : decode jdk_22_method_1_code 4 = .ok (.return_, 1) := by decide +kernel
theorem d7_0 : decode prog_10_method_2_code 0 = .ok (.aload_n 0, 1) := by decide +kernel
theorem d7_1 : decode prog_10_method_2_code 1 = .ok (.iconst 1, 1) := by decide +kernel
theorem d7_2 : decode prog_10_method_2_code 2 = .ok (.invokevirtual 16, 3) := by decide +kernel
theorem d7_5 : decode prog_10_method_2_code 5 = .ok (.aload_n 0, 1) := by decide +kernel
theorem d7_6 : decode prog_10_method_2_code 6 = .ok (.iconst 1, 1) := by decide +kernel
theorem d7_7 : decode prog_10_method_2_code 7 = .ok (.invokevirtual 20, 3) := by decide +kernel
theorem d7_10 : decode prog_10_method_2_code 10 = .ok (.astore_n 2, 1) := by decide +kernel
theorem d7_11 : decode prog_10_method_2_code 11 = .ok (.aload_n 2, 1) := by decide +kernel
theorem d7_12 : decode prog_10_method_2_code 12 = .ok (.aload_n 0, 1) := by decide +kernel
theorem d7_13 : decode prog_10_method_2_code 13 = .ok (.getfield 24, 3) := by decide +kernel
theorem d7_16 : decode prog_10_method_2_code 16 = .ok (.ldc 28, 2) := by decide +kernel
theorem d7_18 : decode prog_10_method_2_code 18 = .ok (.irem, 1) := by decide +kernel
theorem d7_19 : decode prog_10_method_2_code 19 = .ok (.iload_n 1, 1) := by decide +kernel
theorem d7_20 : decode prog_10_method_2_code 20 = .ok (.i2b, 1) := by decide +kernel
theorem d7_21 : decode prog_10_method_2_code 21 = .ok (.bastore, 1) := by decide +kernel
theorem d7_22 : decode prog_10_method_2_code 22 = .ok (.aload_n 0, 1) := by decide +kernel
theorem d7_23 : decode prog_10_method_2_code 23 = .ok (.dup, 1) := by decide +kernel
theorem d7_24 : decode prog_10_method_2_code 24 = .ok (.getfield 24, 3) := by decide +kernel
theorem d7_27 : decode prog_10_method_2_code 27 = .ok (.iconst 1, 1) := by decide +kernel
theorem d7_28 : decode prog_10_method_2_code 28 = .ok (.iadd, 1) := by decide +kernel
theorem d7_29 : decode prog_10_method_2_code 29 = .ok (.putfield 24, 3) := by decide +kernel
theorem d7_32 : decode prog_10_method_2_code 32 = .ok (.return_, 1) := by decide +kernel
theorem d8_0 : decode prog_10_method_10_code 0 = .ok (.aload_n 0, 1) := by decide +kernel
theorem d8_1 : decode prog_10_method_10_code 1 = .ok (.getfield 24, 3) := by decide +kernel
theorem d8_4 : decode prog_10_method_10_code 4 = .ok (.i2l, 1) := by decide +kernel
theorem d8_5 : decode prog_10_method_10_code 5 = .ok (.iload_n 1, 1) := by decide +kernel
theorem d8_6 : decode prog_10_method_10_code 6 = .ok (.i2l, 1) := by decide +kernel
theorem d8_7 : decode prog_10_method_10_code 7 = .ok (.ladd, 1) := by decide +kernel
theorem d8_8 : decode prog_10_method_10_code 8 = .ok (.ldc2_w 101, 3) := by decide +kernel
theorem d8_11 : decode prog_10_method_10_code 11 = .ok (.lcmp, 1) := by decide +kernel
theorem d8_12 : decode prog_10_method_10_code 12 = .ok (.ifCond .le 11, 3) := by decide +kernel
theorem d8_23 : decode prog_10_method_10_code 23 = .ok (.return_, 1) := by decide +kernel
theorem d9_0 : decode prog_10_method_11_code 0 = .ok (.aload_n 0, 1) := by decide +kernel
theorem d9_1 : decode prog_10_method_11_code 1 = .ok (.getfield 24, 3) := by decide +kernel
theorem d9_4 : decode prog_10_method_11_code 4 = .ok (.ldc 28, 2) := by decide +kernel
theorem d9_6 : decode prog_10_method_11_code 6 = .ok (.idiv, 1) := by decide +kernel
theorem d9_7 : decode prog_10_method_11_code 7 = .ok (.istore_n 2, 1) := by decide +kernel
theorem d9_8 : decode prog_10_method_11_code 8 = .ok (.aload_n 0, 1) := by decide +kernel
theorem d9_9 : decode prog_10_method_11_code 9 = .ok (.getfield 24, 3) := by decide +kernel
theorem d9_12 : decode prog_10_method_11_code 12 = .ok (.ldc 28, 2) := by decide +kernel
theorem d9_14 : decode prog_10_method_11_code 14 = .ok (.irem, 1) := by decide +kernel
theorem d9_15 : decode prog_10_method_11_code 15 = .ok (.istore_n 3, 1) := by decide +kernel
theorem d9_16 : decode prog_10_method_11_code 16 = .ok (.iload_n 2, 1) := by decide +kernel
theorem d9_17 : decode prog_10_method_11_code 17 = .ok (.aload_n 0, 1) := by decide +kernel
theorem d9_18 : decode prog_10_method_11_code 18 = .ok (.getfield 10, 3) := by decide +kernel
theorem d9_21 : decode prog_10_method_11_code 21 = .ok (.invokeinterface 67 1, 5) := by decide +kernel
theorem d9_26 : decode prog_10_method_11_code 26 = .ok (.if_icmp .ne 39, 3) := by decide +kernel
theorem d9_29 : decode prog_10_method_11_code 29 = .ok (.aload_n 0, 1) := by decide +kernel
theorem d9_30 : decode prog_10_method_11_code 30 = .ok (.getfield 10, 3) := by decide +kernel
theorem d9_33 : decode prog_10_method_11_code 33 = .ok (.iload_n 2, 1) := by decide +kernel
theorem d9_34 : decode prog_10_method_11_code 34 = .ok (.ifCond .ne 18, 3) := by decide +kernel
theorem d9_37 : decode prog_10_method_11_code 37 = .ok (.ldc 28, 2) := by decide +kernel
theorem d9_39 : decode prog_10_method_11_code 39 = .ok (.sipush 256, 3) := by decide +kernel
theorem d9_42 : decode prog_10_method_11_code 42 = .ok (.iload_n 1, 1) := by decide +kernel
theorem d9_43 : decode prog_10_method_11_code 43 = .ok (.invokestatic 47, 3) := by decide +kernel
theorem d9_46 : decode prog_10_method_11_code 46 = .ok (.invokestatic 35, 3) := by decide +kernel
theorem d9_49 : decode prog_10_method_11_code 49 = .ok (.goto 5, 3) := by decide +kernel
theorem d9_54 : decode prog_10_method_11_code 54 = .ok (.newarray .byte, 2) := by decide +kernel
theorem d9_56 : decode prog_10_method_11_code 56 = .ok (.invokeinterface 106 2, 5) := by decide +kernel
theorem d9_61 : decode prog_10_method_11_code 61 = .ok (.pop, 1) := by decide +kernel
theorem d9_62 : decode prog_10_method_11_code 62 = .ok (.goto 66, 3) := by decide +kernel
theorem d9_65 : decode prog_10_method_11_code 65 = .ok (.iload_n 3, 1) := by decide +kernel
theorem d9_66 : decode prog_10_method_11_code 66 = .ok (.aload_n 0, 1) := by decide +kernel
theorem d9_67 : decode prog_10_method_11_code 67 = .ok (.getfield 10, 3) := by decide +kernel
theorem d9_70 : decode prog_10_method_11_code 70 = .ok (.iload_n 2, 1) := by decide +kernel
theorem d9_71 : decode prog_10_method_11_code 71 = .ok (.invokeinterface 50 2, 5) := by decide +kernel
theorem d9_76 : decode prog_10_method_11_code 76 = .ok (.checkcast 56, 3) := by decide +kernel
theorem d9_79 : decode prog_10_method_11_code 79 = .ok (.arraylength, 1) := by decide +kernel
theorem d9_80 : decode prog_10_method_11_code 80 = .ok (.if_icmp .ne 48, 3) := by decide +kernel
theorem d9_128 : decode prog_10_method_11_code 128 = .ok (.aload_n 0, 1) := by decide +kernel
theorem d9_129 : decode prog_10_method_11_code 129 = .ok (.getfield 10, 3) := by decide +kernel
theorem d9_132 : decode prog_10_method_11_code 132 = .ok (.iload_n 2, 1) := by decide +kernel
theorem d9_133 : decode prog_10_method_11_code 133 = .ok (.invokeinterface 50 2, 5) := by decide +kernel
theorem d9_138 : decode prog_10_method_11_code 138 = .ok (.checkcast 56, 3) := by decide +kernel
theorem d9_141 : decode prog_10_method_11_code 141 = .ok (.areturn, 1) := by decide +kernel
theorem d10_0 : decode jdk_38_method_8_code 0 = .ok (.aload_n 0, 1) := by decide +kernel
theorem d10_1 : decode jdk_38_method_8_code 1 = .ok (.getfield 48, 3) := by decide +kernel
theorem d10_4 : decode jdk_38_method_8_code 4 = .ok (.ireturn, 1) := by decide +kernel
theorem d11_0 : decode jdk_29_method_65_code 0 = .ok (.iload_n 0, 1) := by decide +kernel
theorem d11_1 : decode jdk_29_method_65_code 1 = .ok (.iload_n 1, 1) := by decide +kernel
theorem d11_2 : decode jdk_29_method_65_code 2 = .ok (.if_icmp .lt 7, 3) := by decide +kernel
theorem d11_5 : decode jdk_29_method_65_code 5 = .ok (.iload_n 0, 1) := by decide +kernel
theorem d11_6 : decode jdk_29_method_65_code 6 = .ok (.goto 4, 3) := by decide +kernel
theorem d11_9 : decode jdk_29_method_65_code 9 = .ok (.iload_n 1, 1) := by decide +kernel
theorem d11_10 : decode jdk_29_method_65_code 10 = .ok (.ireturn, 1) := by decide +kernel
theorem d12_0 : decode jdk_29_method_69_code 0 = .ok (.iload_n 0, 1) := by decide +kernel
theorem d12_1 : decode jdk_29_method_69_code 1 = .ok (.iload_n 1, 1) := by decide +kernel
theorem d12_2 : decode jdk_29_method_69_code 2 = .ok (.if_icmp .gt 7, 3) := by decide +kernel
theorem d12_5 : decode jdk_29_method_69_code 5 = .ok (.iload_n 0, 1) := by decide +kernel
theorem d12_6 : decode jdk_29_method_69_code 6 = .ok (.goto 4, 3) := by decide +kernel
theorem d12_9 : decode jdk_29_method_69_code 9 = .ok (.iload_n 1, 1) := by decide +kernel
theorem d12_10 : decode jdk_29_method_69_code 10 = .ok (.ireturn, 1) := by decide +kernel
theorem d13_0 : decode jdk_38_method_25_code 0 = .ok (.aload_n 0, 1) := by decide +kernel
theorem d13_1 : decode jdk_38_method_25_code 1 = .ok (.dup, 1) := by decide +kernel
theorem d13_2 : decode jdk_38_method_25_code 2 = .ok (.getfield 63, 3) := by decide +kernel
theorem d13_5 : decode jdk_38_method_25_code 5 = .ok (.iconst 1, 1) := by decide +kernel
theorem d13_6 : decode jdk_38_method_25_code 6 = .ok (.iadd, 1) := by decide +kernel
theorem d13_7 : decode jdk_38_method_25_code 7 = .ok (.putfield 63, 3) := by decide +kernel
theorem d13_10 : decode jdk_38_method_25_code 10 = .ok (.aload_n 0, 1) := by decide +kernel
theorem d13_11 : decode jdk_38_method_25_code 11 = .ok (.aload_n 1, 1) := by decide +kernel
theorem d13_12 : decode jdk_38_method_25_code 12 = .ok (.aload_n 0, 1) := by decide +kernel
theorem d13_13 : decode jdk_38_method_25_code 13 = .ok (.getfield 9, 3) := by decide +kernel
theorem d13_16 : decode jdk_38_method_25_code 16 = .ok (.aload_n 0, 1) := by decide +kernel
theorem d13_17 : decode jdk_38_method_25_code 17 = .ok (.getfield 48, 3) := by decide +kernel
theorem d13_20 : decode jdk_38_method_25_code 20 = .ok (.invokevirtual 131, 3) := by decide +kernel
theorem d13_23 : decode jdk_38_method_25_code 23 = .ok (.iconst 1, 1) := by decide +kernel
theorem d13_24 : decode jdk_38_method_25_code 24 = .ok (.ireturn, 1) := by decide +kernel
theorem d14_0 : decode jdk_38_method_24_code 0 = .ok (.iload_n 3, 1) := by decide +kernel
theorem d14_1 : decode jdk_38_method_24_code 1 = .ok (.aload_n 2, 1) := by decide +kernel
theorem d14_2 : decode jdk_38_method_24_code 2 = .ok (.arraylength, 1) := by decide +kernel
theorem d14_3 : decode jdk_38_method_24_code 3 = .ok (.if_icmp .ne 8, 3) := by decide +kernel
theorem d14_6 : decode jdk_38_method_24_code 6 = .ok (.aload_n 0, 1) := by decide +kernel
theorem d14_7 : decode jdk_38_method_24_code 7 = .ok (.invokevirtual 129, 3) := by decide +kernel
theorem d14_10 : decode jdk_38_method_24_code 10 = .ok (.astore_n 2, 1) := by decide +kernel
theorem d14_11 : decode jdk_38_method_24_code 11 = .ok (.aload_n 2, 1) := by decide +kernel
theorem d14_12 : decode jdk_38_method_24_code 12 = .ok (.iload_n 3, 1) := by decide +kernel
theorem d14_13 : decode jdk_38_method_24_code 13 = .ok (.aload_n 1, 1) := by decide +kernel
theorem d14_14 : decode jdk_38_method_24_code 14 = .ok (.aastore, 1) := by decide +kernel
theorem d14_15 : decode jdk_38_method_24_code 15 = .ok (.aload_n 0, 1) := by decide +kernel
theorem d14_16 : decode jdk_38_method_24_code 16 = .ok (.iload_n 3, 1) := by decide +kernel
theorem d14_17 : decode jdk_38_method_24_code 17 = .ok (.iconst 1, 1) := by decide +kernel
theorem d14_18 : decode jdk_38_method_24_code 18 = .ok (.iadd, 1) := by decide +kernel
theorem d14_19 : decode jdk_38_method_24_code 19 = .ok (.putfield 48, 3) := by decide +kernel
theorem d14_22 : decode jdk_38_method_24_code 22 = .ok (.return_, 1) := by decide +kernel
theorem d15_0 : decode jdk_38_method_7_code 0 = .ok (.aload_n 0, 1) := by decide +kernel
theorem d15_1 : decode jdk_38_method_7_code 1 = .ok (.aload_n 0, 1) := by decide +kernel
theorem d15_2 : decode jdk_38_method_7_code 2 = .ok (.getfield 48, 3) := by decide +kernel
theorem d15_5 : decode jdk_38_method_7_code 5 = .ok (.iconst 1, 1) := by decide +kernel
theorem d15_6 : decode jdk_38_method_7_code 6 = .ok (.iadd, 1) := by decide +kernel
theorem d15_7 : decode jdk_38_method_7_code 7 = .ok (.invokevirtual 69, 3) := by decide +kernel
theorem d15_10 : decode jdk_38_method_7_code 10 = .ok (.areturn, 1) := by decide +kernel
theorem d16_0 : decode jdk_38_method_6_code 0 = .ok (.aload_n 0, 1) := by decide +kernel
theorem d16_1 : decode jdk_38_method_6_code 1 = .ok (.getfield 9, 3) := by decide +kernel
theorem d16_4 : decode jdk_38_method_6_code 4 = .ok (.arraylength, 1) := by decide +kernel
theorem d16_5 : decode jdk_38_method_6_code 5 = .ok (.istore_n 2, 1) := by decide +kernel
theorem d16_6 : decode jdk_38_method_6_code 6 = .ok (.iload_n 2, 1) := by decide +kernel
theorem d16_7 : decode jdk_38_method_6_code 7 = .ok (.ifCond .gt 13, 3) := by decide +kernel
theorem d16_10 : decode jdk_38_method_6_code 10 = .ok (.aload_n 0, 1) := by decide +kernel
theorem d16_11 : decode jdk_38_method_6_code 11 = .ok (.getfield 9, 3) := by decide +kernel
theorem d16_14 : decode jdk_38_method_6_code 14 = .ok (.getstatic 39, 3) := by decide +kernel
theorem d16_17 : decode jdk_38_method_6_code 17 = .ok (.if_acmp .eq 28, 3) := by decide +kernel
theorem d16_45 : decode jdk_38_method_6_code 45 = .ok (.aload_n 0, 1) := by decide +kernel
theorem d16_46 : decode jdk_38_method_6_code 46 = .ok (.bipush 10, 2) := by decide +kernel
theorem d16_48 : decode jdk_38_method_6_code 48 = .ok (.iload_n 1, 1) := by decide +kernel
theorem d16_49 : decode jdk_38_method_6_code 49 = .ok (.invokestatic 79, 3) := by decide +kernel
theorem d16_52 : decode jdk_38_method_6_code 52 = .ok (.anewarray 7, 3) := by decide +kernel
theorem d16_55 : decode jdk_38_method_6_code 55 = .ok (.dup_x1, 1) := by decide +kernel
theorem d16_56 : decode jdk_38_method_6_code 56 = .ok (.putfield 9, 3) := by decide +kernel
theorem d16_59 : decode jdk_38_method_6_code 59 = .ok (.areturn, 1) := by decide +kernel
theorem d17_0 : decode jdk_38_method_20_code 0 = .ok (.iload_n 1, 1) := by decide +kernel
theorem d17_1 : decode jdk_38_method_20_code 1 = .ok (.aload_n 0, 1) := by decide +kernel
theorem d17_2 : decode jdk_38_method_20_code 2 = .ok (.getfield 48, 3) := by decide +kernel
theorem d17_5 : decode jdk_38_method_20_code 5 = .ok (.invokestatic 118, 3) := by decide +kernel
theorem d17_8 : decode jdk_38_method_20_code 8 = .ok (.pop, 1) := by decide +kernel
theorem d17_9 : decode jdk_38_method_20_code 9 = .ok (.aload_n 0, 1) := by decide +kernel
theorem d17_10 : decode jdk_38_method_20_code 10 = .ok (.iload_n 1, 1) := by decide +kernel
theorem d17_11 : decode jdk_38_method_20_code 11 = .ok (.invokevirtual 123, 3) := by decide +kernel
theorem d17_14 : decode jdk_38_method_20_code 14 = .ok (.areturn, 1) := by decide +kernel
theorem d18_0 : decode jdk_31_method_17_code 0 = .ok (.iload_n 0, 1) := by decide +kernel
theorem d18_1 : decode jdk_31_method_17_code 1 = .ok (.iload_n 1, 1) := by decide +kernel
theorem d18_2 : decode jdk_31_method_17_code 2 = .ok (.aconst_null, 1) := by decide +kernel
theorem d18_3 : decode jdk_31_method_17_code 3 = .ok (.invokestatic 105, 3) := by decide +kernel
theorem d18_6 : decode jdk_31_method_17_code 6 = .ok (.ireturn, 1) := by decide +kernel
theorem d19_0 : decode jdk_41_method_11_code 0 = .ok (.iload_n 0, 1) := by decide +kernel
theorem d19_1 : decode jdk_41_method_11_code 1 = .ok (.ifCond .lt 8, 3) := by decide +kernel
theorem d19_4 : decode jdk_41_method_11_code 4 = .ok (.iload_n 0, 1) := by decide +kernel
theorem d19_5 : decode jdk_41_method_11_code 5 = .ok (.iload_n 1, 1) := by decide +kernel
theorem d19_6 : decode jdk_41_method_11_code 6 = .ok (.if_icmp .lt 10, 3) := by decide +kernel
theorem d19_16 : decode jdk_41_method_11_code 16 = .ok (.iload_n 0, 1) := by decide +kernel
theorem d19_17 : decode jdk_41_method_11_code 17 = .ok (.ireturn, 1) := by decide +kernel
theorem d20_0 : decode jdk_38_method_18_code 0 = .ok (.aload_n 0, 1) := by decide +kernel
theorem d20_1 : decode jdk_38_method_18_code 1 = .ok (.getfield 9, 3) := by decide +kernel
theorem d20_4 : decode jdk_38_method_18_code 4 = .ok (.iload_n 1, 1) := by decide +kernel
theorem d20_5 : decode jdk_38_method_18_code 5 = .ok (.aaload, 1) := by decide +kernel
theorem d20_6 : decode jdk_38_method_18_code 6 = .ok (.areturn, 1) := by decide +kernel
theorem d21_0 : decode prog_10_method_5_code 0 = .ok (.iconst (-1), 1) := by decide +kernel
theorem d21_1 : decode prog_10_method_5_code 1 = .ok (.istore_n 3, 1) := by decide +kernel
theorem d21_2 : decode prog_10_method_5_code 2 = .ok (.iconst 0, 1) := by decide +kernel
theorem d21_3 : decode prog_10_method_5_code 3 = .ok (.iload_n 2, 1) := by decide +kernel
theorem d21_4 : decode prog_10_method_5_code 4 = .ok (.invokestatic 47, 3) := by decide +kernel
theorem d21_7 : decode prog_10_method_5_code 7 = .ok (.istore 4, 2) := by decide +kernel
theorem d21_9 : decode prog_10_method_5_code 9 = .ok (.iload_n 3, 1) := by decide +kernel
theorem d21_10 : decode prog_10_method_5_code 10 = .ok (.ifCond .ge 112, 3) := by decide +kernel
theorem d21_13 : decode prog_10_method_5_code 13 = .ok (.iload 4, 2) := by decide +kernel
theorem d21_15 : decode prog_10_method_5_code 15 = .ok (.aload_n 0, 1) := by decide +kernel
theorem d21_16 : decode prog_10_method_5_code 16 = .ok (.getfield 24, 3) := by decide +kernel
theorem d21_19 : decode prog_10_method_5_code 19 = .ok (.if_icmp .ge 103, 3) := by decide +kernel
theorem d21_22 : decode prog_10_method_5_code 22 = .ok (.aload_n 0, 1) := by decide +kernel
theorem d21_23 : decode prog_10_method_5_code 23 = .ok (.getfield 10, 3) := by decide +kernel
theorem d21_26 : decode prog_10_method_5_code 26 = .ok (.iload 4, 2) := by decide +kernel
theorem d21_28 : decode prog_10_method_5_code 28 = .ok (.ldc 28, 2) := by decide +kernel
theorem d21_30 : decode prog_10_method_5_code 30 = .ok (.idiv, 1) := by decide +kernel
theorem d21_31 : decode prog_10_method_5_code 31 = .ok (.invokeinterface 50 2, 5) := by decide +kernel
theorem d21_36 : decode prog_10_method_5_code 36 = .ok (.checkcast 56, 3) := by decide +kernel
theorem d21_39 : decode prog_10_method_5_code 39 = .ok (.astore 5, 2) := by decide +kernel
theorem d21_41 : decode prog_10_method_5_code 41 = .ok (.iload 4, 2) := by decide +kernel
theorem d21_43 : decode prog_10_method_5_code 43 = .ok (.iload 4, 2) := by decide +kernel
theorem d21_45 : decode prog_10_method_5_code 45 = .ok (.ldc 28, 2) := by decide +kernel
theorem d21_47 : decode prog_10_method_5_code 47 = .ok (.irem, 1) := by decide +kernel
theorem d21_48 : decode prog_10_method_5_code 48 = .ok (.isub, 1) := by decide +kernel
theorem d21_49 : decode prog_10_method_5_code 49 = .ok (.istore 6, 2) := by decide +kernel
theorem d21_51 : decode prog_10_method_5_code 51 = .ok (.aload 5, 2) := by decide +kernel
theorem d21_53 : decode prog_10_method_5_code 53 = .ok (.arraylength, 1) := by decide +kernel
theorem d21_54 : decode prog_10_method_5_code 54 = .ok (.aload_n 0, 1) := by decide +kernel
theorem d21_55 : decode prog_10_method_5_code 55 = .ok (.getfield 24, 3) := by decide +kernel
theorem d21_58 : decode prog_10_method_5_code 58 = .ok (.iload 6, 2) := by decide +kernel
theorem d21_60 : decode prog_10_method_5_code 60 = .ok (.isub, 1) := by decide +kernel
theorem d21_61 : decode prog_10_method_5_code 61 = .ok (.invokestatic 35, 3) := by decide +kernel
theorem d21_64 : decode prog_10_method_5_code 64 = .ok (.istore 7, 2) := by decide +kernel
theorem d21_66 : decode prog_10_method_5_code 66 = .ok (.iload 4, 2) := by decide +kernel
theorem d21_68 : decode prog_10_method_5_code 68 = .ok (.iload 6, 2) := by decide +kernel
theorem d21_70 : decode prog_10_method_5_code 70 = .ok (.isub, 1) := by decide +kernel
theorem d21_71 : decode prog_10_method_5_code 71 = .ok (.istore 8, 2) := by decide +kernel
theorem d21_73 : decode prog_10_method_5_code 73 = .ok (.iload 8, 2) := by decide +kernel
theorem d21_75 : decode prog_10_method_5_code 75 = .ok (.iload 7, 2) := by decide +kernel
theorem d21_77 : decode prog_10_method_5_code 77 = .ok (.if_icmp .ge 18, 3) := by decide +kernel
theorem d21_80 : decode prog_10_method_5_code 80 = .ok (.aload 5, 2) := by decide +kernel
theorem d21_82 : decode prog_10_method_5_code 82 = .ok (.iload 8, 2) := by decide +kernel
theorem d21_84 : decode prog_10_method_5_code 84 = .ok (.baload, 1) := by decide +kernel
theorem d21_85 : decode prog_10_method_5_code 85 = .ok (.iload_n 1, 1) := by decide +kernel
theorem d21_86 : decode prog_10_method_5_code 86 = .ok (.if_icmp .eq 9, 3) := by decide +kernel
theorem d21_89 : decode prog_10_method_5_code 89 = .ok (.iinc 8 1, 3) := by decide +kernel
theorem d21_92 : decode prog_10_method_5_code 92 = .ok (.goto (-19), 3) := by decide +kernel
theorem d21_95 : decode prog_10_method_5_code 95 = .ok (.iload 8, 2) := by decide +kernel
theorem d21_97 : decode prog_10_method_5_code 97 = .ok (.iload 7, 2) := by decide +kernel
theorem d21_99 : decode prog_10_method_5_code 99 = .ok (.if_icmp .ge 11, 3) := by decide +kernel
theorem d21_102 : decode prog_10_method_5_code 102 = .ok (.iload 6, 2) := by decide +kernel
theorem d21_104 : decode prog_10_method_5_code 104 = .ok (.iload 8, 2) := by decide +kernel
theorem d21_106 : decode prog_10_method_5_code 106 = .ok (.iadd, 1) := by decide +kernel
theorem d21_107 : decode prog_10_method_5_code 107 = .ok (.goto 4, 3) := by decide +kernel
theorem d21_110 : decode prog_10_method_5_code 110 = .ok (.iconst (-1), 1) := by decide +kernel
theorem d21_111 : decode prog_10_method_5_code 111 = .ok (.istore_n 3, 1) := by decide +kernel
theorem d21_112 : decode prog_10_method_5_code 112 = .ok (.iload 6, 2) := by decide +kernel
theorem d21_114 : decode prog_10_method_5_code 114 = .ok (.iload 7, 2) := by decide +kernel
theorem d21_116 : decode prog_10_method_5_code 116 = .ok (.iadd, 1) := by decide +kernel
theorem d21_117 : decode prog_10_method_5_code 117 = .ok (.istore 4, 2) := by decide +kernel
theorem d21_119 : decode prog_10_method_5_code 119 = .ok (.goto (-110), 3) := by decide +kernel
theorem d21_122 : decode prog_10_method_5_code 122 = .ok (.iload_n 3, 1) := by decide +kernel
theorem d21_123 : decode prog_10_method_5_code 123 = .ok (.ireturn, 1) := by decide +kernel
theorem d22_0 : decode method_3_code 0 = .ok (.iload 6, 2) := by decide +kernel
theorem d22_2 : decode method_3_code 2 = .ok (.ifCond .gt 16, 3) := by decide +kernel
theorem d22_5 : decode method_3_code 5 = .ok (.iload 4, 2) := by decide +kernel
theorem d22_7 : decode method_3_code 7 = .ok (.ifCond .le 11, 3) := by decide +kernel
theorem d22_10 : decode method_3_code 10 = .ok (.iload_n 0, 1) := by decide +kernel
theorem d22_11 : decode method_3_code 11 = .ok (.iload 5, 2) := by decide +kernel
theorem d22_13 : decode method_3_code 13 = .ok (.if_icmp .ne 5, 3) := by decide +kernel
theorem d22_16 : decode method_3_code 16 = .ok (.iconst 0, 1) := by decide +kernel
theorem d22_17 : decode method_3_code 17 = .ok (.ireturn, 1) := by decide +kernel
theorem d22_18 : decode method_3_code 18 = .ok (.iload 6, 2) := by decide +kernel
theorem d22_20 : decode method_3_code 20 = .ok (.iconst 1, 1) := by decide +kernel
theorem d22_21 : decode method_3_code 21 = .ok (.if_icmp .gt 17, 3) := by decide +kernel
theorem d22_24 : decode method_3_code 24 = .ok (.iload 4, 2) := by decide +kernel
theorem d22_26 : decode method_3_code 26 = .ok (.iconst 1, 1) := by decide +kernel
theorem d22_27 : decode method_3_code 27 = .ok (.if_icmp .le 11, 3) := by decide +kernel
theorem d22_30 : decode method_3_code 30 = .ok (.iload_n 1, 1) := by decide +kernel
theorem d22_31 : decode method_3_code 31 = .ok (.iload 5, 2) := by decide +kernel
theorem d22_33 : decode method_3_code 33 = .ok (.if_icmp .ne 5, 3) := by decide +kernel
theorem d22_36 : decode method_3_code 36 = .ok (.iconst 1, 1) := by decide +kernel
theorem d22_37 : decode method_3_code 37 = .ok (.ireturn, 1) := by decide +kernel
theorem d22_38 : decode method_3_code 38 = .ok (.iload 6, 2) := by decide +kernel
theorem d22_40 : decode method_3_code 40 = .ok (.iconst 2, 1) := by decide +kernel
theorem d22_41 : decode method_3_code 41 = .ok (.if_icmp .gt 17, 3) := by decide +kernel
theorem d22_44 : decode method_3_code 44 = .ok (.iload 4, 2) := by decide +kernel
theorem d22_46 : decode method_3_code 46 = .ok (.iconst 2, 1) := by decide +kernel
theorem d22_47 : decode method_3_code 47 = .ok (.if_icmp .le 11, 3) := by decide +kernel
theorem d22_50 : decode method_3_code 50 = .ok (.iload_n 2, 1) := by decide +kernel
theorem d22_51 : decode method_3_code 51 = .ok (.iload 5, 2) := by decide +kernel
theorem d22_53 : decode method_3_code 53 = .ok (.if_icmp .ne 5, 3) := by decide +kernel
theorem d22_56 : decode method_3_code 56 = .ok (.iconst 2, 1) := by decide +kernel
theorem d22_57 : decode method_3_code 57 = .ok (.ireturn, 1) := by decide +kernel
theorem d22_58 : decode method_3_code 58 = .ok (.iload 6, 2) := by decide +kernel
theorem d22_60 : decode method_3_code 60 = .ok (.iconst 3, 1) := by decide +kernel
theorem d22_61 : decode method_3_code 61 = .ok (.if_icmp .gt 17, 3) := by decide +kernel
theorem d22_64 : decode method_3_code 64 = .ok (.iload 4, 2) := by decide +kernel
theorem d22_66 : decode method_3_code 66 = .ok (.iconst 3, 1) := by decide +kernel
theorem d22_67 : decode method_3_code 67 = .ok (.if_icmp .le 11, 3) := by decide +kernel
theorem d22_70 : decode method_3_code 70 = .ok (.iload_n 3, 1) := by decide +kernel
theorem d22_71 : decode method_3_code 71 = .ok (.iload 5, 2) := by decide +kernel
theorem d22_73 : decode method_3_code 73 = .ok (.if_icmp .ne 5, 3) := by decide +kernel
theorem d22_76 : decode method_3_code 76 = .ok (.iconst 3, 1) := by decide +kernel
theorem d22_77 : decode method_3_code 77 = .ok (.ireturn, 1) := by decide +kernel
theorem d22_78 : decode method_3_code 78 = .ok (.iconst (-1), 1) := by decide +kernel
theorem d22_79 : decode method_3_code 79 = .ok (.ireturn, 1) := by decide +kernel
theorem pd_0 : parseMethodDescriptor "()V" = some ⟨[], none⟩ := by decide +kernel
theorem pd_1 : parseMethodDescriptor "(IILjava/util/function/BiFunction;)I" = some ⟨[.int, .int, (.object "java/util/function/BiFunction")], some .int⟩ := by decide +kernel
theorem pd_2 : parseMethodDescriptor "(II)I" = some ⟨[.int, .int], some .int⟩ := by decide +kernel
theorem pd_3 : parseMethodDescriptor "(I)Ljava/lang/Object;" = some ⟨[.int], some (.object "java/lang/Object")⟩ := by decide +kernel
theorem pd_4 : parseMethodDescriptor "(I)[Ljava/lang/Object;" = some ⟨[.int], some (.array (.object "java/lang/Object"))⟩ := by decide +kernel
theorem pd_5 : parseMethodDescriptor "()[Ljava/lang/Object;" = some ⟨[], some (.array (.object "java/lang/Object"))⟩ := by decide +kernel
theorem pd_6 : parseMethodDescriptor "(Ljava/lang/Object;[Ljava/lang/Object;I)V" = some ⟨[(.object "java/lang/Object"), (.array (.object "java/lang/Object")), .int], none⟩ := by decide +kernel
theorem pd_7 : parseMethodDescriptor "()I" = some ⟨[], some .int⟩ := by decide +kernel
theorem pd_8 : parseMethodDescriptor "(Ljava/lang/Object;)Z" = some ⟨[(.object "java/lang/Object")], some .boolean⟩ := by decide +kernel
theorem pd_9 : parseMethodDescriptor "(I)V" = some ⟨[.int], none⟩ := by decide +kernel
theorem pd_10 : parseMethodDescriptor "(I)[B" = some ⟨[.int], some (.array .byte)⟩ := by decide +kernel
theorem pd_11 : parseMethodDescriptor "(BI)I" = some ⟨[.byte, .int], some .int⟩ := by decide +kernel
theorem pd_12 : parseMethodDescriptor "(BBBBIBI)I" = some ⟨[.byte, .byte, .byte, .byte, .int, .byte, .int], some .int⟩ := by decide +kernel
theorem pn_0 : plainName "java/io/OutputStream" = true := by first | (simp [plainName, overriddenIn]; done) | decide +kernel
theorem pn_1 : plainName "java/util/AbstractCollection" = true := by first | (simp [plainName, overriddenIn]; done) | decide +kernel
theorem pn_2 : plainName "java/util/AbstractList" = true := by first | (simp [plainName, overriddenIn]; done) | decide +kernel
theorem pn_3 : plainName "java/util/ArrayList" = true := by first | (simp [plainName, overriddenIn]; done) | decide +kernel
theorem pn_4 : plainName "com/example/darter/darter/ResultBuffer" = true := by first | (simp [plainName, overriddenIn]; done) | decide +kernel
theorem pn_5 : plainName "jdk/internal/util/Preconditions" = true := by first | (simp [plainName, overriddenIn]; done) | decide +kernel
theorem pn_6 : plainName "java/util/Objects" = true := by first | (simp [plainName, overriddenIn]; done) | decide +kernel
theorem pn_7 : plainName "com/example/darter/darter/ResultBufferIndexOfPinLaw" = true := by first | (simp [plainName, overriddenIn]; done) | decide +kernel
theorem ef_2 (m : MethodId) (x0 : Addr) : entryFrame m #[(.ref x0)] 1 = mkF m 0 #[.val (.ref x0)] [] := by first | (simp [entryFrame, mkF, argsToLocals, Value.category]; done) | rfl
def Q2 (Z : State) (a1 : Addr) (h0 : Heap) (n0 : Nat) (v : Option Value) (h : Heap) (L : List Loc) : Prop := v = none ∧ Fr n0 L ∧ h = h0
set_option maxRecDepth 65536 in
set_option maxHeartbeats 40000000 in
theorem rm2 (l : Launch) (Z : State) (a0 : Array Value) (hw : ∀ d ∈ tables_1, d.before a0 Z = true) (ws : List Jvm.Cond) (a1 : Addr) (h0 : Heap) (n0 : Nat) (Z0 : n0 ≤ h0.size) :
    MetFree l (⟨"java/io/OutputStream", "<init>", "()V"⟩ : MethodName) (head1 (Jvm.Cond.code (⟨"java/io/OutputStream", "<init>", "()V"⟩ : MethodName) jdk_2038_method_1_code 1 none :: ws) ({ frames := 1, cells := 0, slots := 0, locals := 12 } : Room)) (fun a U => a = #[(.ref a1)] ∧ Z.Warmed39 U.vm ∧ U.heap = h0) (fun _ _ _ _ _ => True) (fun _ U o U' => ∃ v L, o = .returned v ∧ Q2 Z a1 h0 n0 v U'.heap L ∧ FrameEnd U o U' L ({ frames := 1, cells := 0, slots := 0, locals := 12 } : Room).cells ({ frames := 1, cells := 0, slots := 0, locals := 12 } : Room).slots) := by
  refine MetFree.of_bodySF (plainFor_of_name pn_0) hisR ?_
  intro p e s m args below meth c s₁ Bd hml0 hP hK
  obtain ⟨rfl, hZ, hh⟩ := hP
  have hx := Bd.exec
  have hby := Bd.bytes
  have hml : c.maxLocals = 1 := hml0
  have hown : s.vm.findClass "java/io/OutputStream" = some m.cls := findClass_of_methodNamed Bd.named
  have hnm := (name_of_methodNamed Bd.named Bd.method).1
  have X0 : Stand p l e ({ frames := 1, cells := 0, slots := 0, locals := 12 } : Room) s m #[(.ref a1)] below meth c s₁ [] 0 0 := Stand.of_body Bd
  have e0 : s₁.heap = h0 := by rw [← hh, Bd.state]; rfl
  have N0 := Fr.nil n0
  have pre0 : ∀ t, Steps p.tables e below (s₁.setTop (mkF m 0 #[.val (.ref a1)] [])) t → Steps p.tables e below (s₁.setTop (entryFrame m #[(.ref a1)] 1)) t := fun t k => castTop (ef_2 m a1) k
  obtain ⟨T1, X1, e1, st1⟩ := initO X0 hx hZ hown (hw _ (List.mem_of_getElem? (i := 11) rfl)) (hw _ (List.mem_of_getElem? (i := 12) rfl)) (hw _ (List.mem_of_getElem? (i := 13) rfl)) e0 (g := (mkF m 1 #[.val (.ref a1)] [(.ref a1)])) rfl (by rw [hml]; rfl) rfl (hb hby d2_1) (by decide) (W := 0) (by show 2 * 0 + _ ≤ _; exact Nat.le_of_eq rfl) (by decide)
  have fl2 : ∀ target, Steps p.tables e below (T1.setTop (mkF m 4 #[.val (.ref a1)] [])) target → Steps p.tables e below (s₁.setTop (mkF m 0 #[.val (.ref a1)] [])) target := fun target kt => by
    show Steps p.tables e below (s₁.setTop (mkF m 0 #[.val (.ref a1)] [])) _
    refine XS.aloadN X0.here hx rfl (hb hby d2_0) rfl rfl ?_
    show Steps p.tables e below (s₁.setTop (mkF m 1 #[.val (.ref a1)] [(.ref a1)])) _
    refine st1 _ ?_
    exact kt
  obtain ⟨fs, hrt, hrun, hended, hW, hsame⟩ := X1.leave (v := none) (fun _ => rfl)
  refine ⟨_, _, pre0 _ (fl2 _ ?_), hrun, hended, _, _, rfl, ?_, ⟨_, rfl⟩, hW, hsame.mono (by decide) (by decide)⟩
  · exact X1.returnOut hx Bd.returns (hb hby d2_4) hrt
  · show Q2 _ _ _ _ _ T1.heap _
    rw [e1]
    exact ⟨rfl, N0, rfl⟩
theorem ef_6 (m : MethodId) (x0 : Addr) : entryFrame m #[(.ref x0)] 1 = mkF m 0 #[.val (.ref x0)] [] := by first | (simp [entryFrame, mkF, argsToLocals, Value.category]; done) | rfl
def Q6 (Z : State) (a1 : Addr) (h0 : Heap) (n0 : Nat) (v : Option Value) (h : Heap) (L : List Loc) : Prop := v = none ∧ Fr n0 L ∧ h = h0
set_option maxRecDepth 65536 in
set_option maxHeartbeats 40000000 in
theorem rm6 (l : Launch) (Z : State) (a0 : Array Value) (hw : ∀ d ∈ tables_1, d.before a0 Z = true) (ws : List Jvm.Cond) (a1 : Addr) (h0 : Heap) (n0 : Nat) (Z0 : n0 ≤ h0.size) :
    MetFree l (⟨"java/util/AbstractCollection", "<init>", "()V"⟩ : MethodName) (head1 (Jvm.Cond.code (⟨"java/util/AbstractCollection", "<init>", "()V"⟩ : MethodName) jdk_22_method_1_code 1 none :: ws) ({ frames := 1, cells := 0, slots := 0, locals := 12 } : Room)) (fun a U => a = #[(.ref a1)] ∧ Z.Warmed39 U.vm ∧ U.heap = h0) (fun _ _ _ _ _ => True) (fun _ U o U' => ∃ v L, o = .returned v ∧ Q6 Z a1 h0 n0 v U'.heap L ∧ FrameEnd U o U' L ({ frames := 1, cells := 0, slots := 0, locals := 12 } : Room).cells ({ frames := 1, cells := 0, slots := 0, locals := 12 } : Room).slots) := by
  refine MetFree.of_bodySF (plainFor_of_name pn_1) hisR ?_
  intro p e s m args below meth c s₁ Bd hml0 hP hK
  obtain ⟨rfl, hZ, hh⟩ := hP
  have hx := Bd.exec
  have hby := Bd.bytes
  have hml : c.maxLocals = 1 := hml0
  have hown : s.vm.findClass "java/util/AbstractCollection" = some m.cls := findClass_of_methodNamed Bd.named
  have hnm := (name_of_methodNamed Bd.named Bd.method).1
  have X0 : Stand p l e ({ frames := 1, cells := 0, slots := 0, locals := 12 } : Room) s m #[(.ref a1)] below meth c s₁ [] 0 0 := Stand.of_body Bd
  have e0 : s₁.heap = h0 := by rw [← hh, Bd.state]; rfl
  have N0 := Fr.nil n0
  have pre0 : ∀ t, Steps p.tables e below (s₁.setTop (mkF m 0 #[.val (.ref a1)] [])) t → Steps p.tables e below (s₁.setTop (entryFrame m #[(.ref a1)] 1)) t := fun t k => castTop (ef_6 m a1) k
  obtain ⟨T3, X3, e3, st3⟩ := initO X0 hx hZ hown (hw _ (List.mem_of_getElem? (i := 32) rfl)) (hw _ (List.mem_of_getElem? (i := 12) rfl)) (hw _ (List.mem_of_getElem? (i := 13) rfl)) e0 (g := (mkF m 1 #[.val (.ref a1)] [(.ref a1)])) rfl (by rw [hml]; rfl) rfl (hb hby d6_1) (by decide) (W := 0) (by show 2 * 0 + _ ≤ _; exact Nat.le_of_eq rfl) (by decide)
  have fl4 : ∀ target, Steps p.tables e below (T3.setTop (mkF m 4 #[.val (.ref a1)] [])) target → Steps p.tables e below (s₁.setTop (mkF m 0 #[.val (.ref a1)] [])) target := fun target kt => by
    show Steps p.tables e below (s₁.setTop (mkF m 0 #[.val (.ref a1)] [])) _
    refine XS.aloadN X0.here hx rfl (hb hby d6_0) rfl rfl ?_
    show Steps p.tables e below (s₁.setTop (mkF m 1 #[.val (.ref a1)] [(.ref a1)])) _
    refine st3 _ ?_
    exact kt
  obtain ⟨fs, hrt, hrun, hended, hW, hsame⟩ := X3.leave (v := none) (fun _ => rfl)
  refine ⟨_, _, pre0 _ (fl4 _ ?_), hrun, hended, _, _, rfl, ?_, ⟨_, rfl⟩, hW, hsame.mono (by decide) (by decide)⟩
  · exact X3.returnOut hx Bd.returns (hb hby d6_4) hrt
  · show Q6 _ _ _ _ _ T3.heap _
    rw [e3]
    exact ⟨rfl, N0, rfl⟩
theorem ef_AI (m : MethodId) (x0 : Addr) : entryFrame m #[(.ref x0)] 1 = mkF m 0 #[.val (.ref x0)] [] := by first | (simp [entryFrame, mkF, argsToLocals, Value.category]; done) | rfl
def QAI (Z : State) (a1 : Addr) (h0 : Heap) (n0 : Nat) (v : Option Value) (h : Heap) (L : List Loc) : Prop := v = none ∧ Fr n0 L ∧ Keep h0 h [a1] ∧ Fld Z h a1 "java/util/AbstractList" "modCount" "I" (.int 0) ∧ Fld Z h a1 "java/util/ArrayList" "elementData" "[Ljava/lang/Object;" .null ∧ Fld Z h a1 "java/util/ArrayList" "size" "I" (.int 0)
set_option maxRecDepth 65536 in
set_option maxHeartbeats 40000000 in
theorem rmAI (l : Launch) (Z : State) (a0 : Array Value) (hw : ∀ d ∈ tables_1, d.before a0 Z = true) (ws : List Jvm.Cond) (a1 : Addr) (h0 : Heap) (n0 : Nat) (Z0 : n0 ≤ h0.size) (E_a1 : Exa Z h0 a1 "java/util/ArrayList") (F_modCount : Fld Z h0 a1 "java/util/AbstractList" "modCount" "I" (.int 0)) (F_elementData : Fld Z h0 a1 "java/util/ArrayList" "elementData" "[Ljava/lang/Object;" .null) (F_size : Fld Z h0 a1 "java/util/ArrayList" "size" "I" (.int 0)) (g_a1 : n0 ≤ a1) :
    MetFree l (⟨"java/util/AbstractList", "<init>", "()V"⟩ : MethodName) (head1 (Jvm.Cond.code (⟨"java/util/AbstractList", "<init>", "()V"⟩ : MethodName) jdk_39_method_1_code 1 none :: ws) ({ frames := 2, cells := 0, slots := 0, locals := 24 } : Room)) (fun a U => a = #[(.ref a1)] ∧ Z.Warmed39 U.vm ∧ U.heap = h0) (fun _ _ _ _ _ => True) (fun _ U o U' => ∃ v L, o = .returned v ∧ QAI Z a1 h0 n0 v U'.heap L ∧ FrameEnd U o U' L ({ frames := 2, cells := 0, slots := 0, locals := 24 } : Room).cells ({ frames := 2, cells := 0, slots := 0, locals := 24 } : Room).slots) := by
  refine MetFree.of_bodySF (plainFor_of_name pn_2) hisR ?_
  intro p e s m args below meth c s₁ Bd hml0 hP hK
  obtain ⟨rfl, hZ, hh⟩ := hP
  have hx := Bd.exec
  have hby := Bd.bytes
  have hml : c.maxLocals = 1 := hml0
  have hown : s.vm.findClass "java/util/AbstractList" = some m.cls := findClass_of_methodNamed Bd.named
  have hnm := (name_of_methodNamed Bd.named Bd.method).1
  have X0 : Stand p l e ({ frames := 2, cells := 0, slots := 0, locals := 24 } : Room) s m #[(.ref a1)] below meth c s₁ [] 0 0 := Stand.of_body Bd
  have e0 : s₁.heap = h0 := by rw [← hh, Bd.state]; rfl
  have N0 := Fr.nil n0
  have pre0 : ∀ t, Steps p.tables e below (s₁.setTop (mkF m 0 #[.val (.ref a1)] [])) t → Steps p.tables e below (s₁.setTop (entryFrame m #[(.ref a1)] 1)) t := fun t k => castTop (ef_AI m a1) k
  obtain ⟨_, _, ⟨T8, L8, k8, n8⟩, -, X8, ⟨Lc8, hQ8, l8, y8, z8⟩, st8⟩ := X0.specialBack hx (y := (⟨"java/util/AbstractCollection", "<init>", "()V"⟩ : MethodName)) rfl hown (mvT hZ (hw _ (List.mem_of_getElem? (i := 26) rfl))) (mvT hZ (hw _ (List.mem_of_getElem? (i := 27) rfl))) (mvT hZ (hw _ (List.mem_of_getElem? (i := 31) rfl))) (by decide) (backOf (W := 0) (rm6 l Z a0 hw [] a1  h0 n0 Z0 ) hZ (hw _ (List.mem_of_getElem? (i := 31) rfl)) (hw _ (List.mem_of_getElem? (i := 30) rfl)) (by decide) (by decide)) (g := (mkF m 1 #[.val (.ref a1)] [(.ref a1)])) rfl (by rw [hml]; rfl) (Steps.refl _) (a := a1) (argsL := []) (rest := []) (lenOf pd_0 rfl) rfl (by show 2 * 0 + _ ≤ _; exact Nat.le_of_eq rfl) (hb hby d5_1) (fun _ _ => ⟨rfl, e0, (by decide : 0 + 0 ≤ _), (by decide : 0 + 0 ≤ _)⟩)
  dsimp only [Pt.U, Pt.locs, Pt.cells, Pt.slots] at X8 l8 y8 z8 st8 hQ8
  subst l8 y8 z8
  obtain ⟨rfl, N8q, he8⟩ := hQ8
  have N8 := Fr.app N0 N8q
  have Kc8 : Keep h0 T8.heap [] := by rw [he8]; exact Keep.refl _ _
  have E_a1_8 := E_a1.keep Kc8
  have F_modCount_8 := F_modCount.keep Kc8 nin0
  have F_elementData_8 := F_elementData.keep Kc8 nin0
  have F_size_8 := F_size.keep Kc8 nin0
  have K8 : Keep h0 T8.heap [a1] := (Keep.refl h0 [a1]).trans Kc8 all0
  have z8z : n0 ≤ T8.heap.size := Nat.le_trans Z0 Kc8.1
  obtain ⟨T9, h9, X9, e9, W9, st9⟩ := putF X8 hx hZ hown (host := "") (Or.inl (hw _ (List.mem_of_getElem? (i := 33) rfl))) Via.refl rfl F_modCount_8 E_a1_8 (Or.inl (hw _ (List.mem_of_getElem? (i := 34) rfl))) (hw _ (List.mem_of_getElem? (i := 15) rfl)) (ty := .int) (by decide) rfl rfl (g := (mkF m 6 #[.val (.ref a1)] [(.int (0 : Int32)), (.ref a1)])) rfl rfl (hb hby d5_6)
  have Fw9 := F_modCount_8.same W9
  have E_a1_9 := E_a1_8.wr W9
  have F_elementData_9 := F_elementData_8.other W9 (Or.inr (slot_ne (Or.inl (hw _ (List.mem_of_getElem? (i := 37) rfl))) (Or.inl (hw _ (List.mem_of_getElem? (i := 34) rfl))) (by decide) (t := (.array (.object "java/lang/Object"))) (t' := .int) (by decide) (by decide)))
  have F_size_9 := F_size_8.other W9 (Or.inr (slot_ne (Or.inl (hw _ (List.mem_of_getElem? (i := 67) rfl))) (Or.inl (hw _ (List.mem_of_getElem? (i := 34) rfl))) (by decide) (t := .int) (t' := .int) (by decide) (by decide)))
  have N9 := Fr.snoc X9 N8 g_a1
  have K9 : Keep h0 h9 [a1] := K8.wr W9 (Or.inl (List.mem_of_getElem? (i := 0) rfl))
  have z9 : n0 ≤ h9.size := Nat.le_trans z8z (Keep.of_wr W9).1
  have fl10 : ∀ target, Steps p.tables e below (T9.setTop (mkF m 9 #[.val (.ref a1)] [])) target → Steps p.tables e below (s₁.setTop (mkF m 0 #[.val (.ref a1)] [])) target := fun target kt => by
    show Steps p.tables e below (s₁.setTop (mkF m 0 #[.val (.ref a1)] [])) _
    refine XS.aloadN X0.here hx rfl (hb hby d5_0) rfl rfl ?_
    show Steps p.tables e below (s₁.setTop (mkF m 1 #[.val (.ref a1)] [(.ref a1)])) _
    refine st8.trans ?_
    show Steps p.tables e below (T8.setTop (mkF m 4 #[.val (.ref a1)] [])) _
    refine XS.aloadN X8.here hx rfl (hb hby d5_4) rfl rfl ?_
    show Steps p.tables e below (T8.setTop (mkF m 5 #[.val (.ref a1)] [(.ref a1)])) _
    refine XS.iconst X8.here hx rfl (hb hby d5_5) ?_
    show Steps p.tables e below (T8.setTop (mkF m 6 #[.val (.ref a1)] [(.int (0 : Int32)), (.ref a1)])) _
    refine st9 _ ?_
    exact kt
  obtain ⟨fs, hrt, hrun, hended, hW, hsame⟩ := X9.leave (v := none) (fun _ => rfl)
  refine ⟨_, _, pre0 _ (fl10 _ ?_), hrun, hended, _, _, rfl, ?_, ⟨_, rfl⟩, hW, hsame.mono (by decide) (by decide)⟩
  · exact X9.returnOut hx Bd.returns (hb hby d5_9) hrt
  · show QAI _ _ _ _ _ T9.heap _
    rw [e9]
    exact ⟨rfl, N9, K9, Fw9, F_elementData_9, F_size_9⟩
theorem ef_4 (m : MethodId) (x0 : Addr) : entryFrame m #[(.ref x0)] 1 = mkF m 0 #[.val (.ref x0)] [] := by first | (simp [entryFrame, mkF, argsToLocals, Value.category]; done) | rfl
def Q4 (Z : State) (a1 : Addr) (d0 : Addr) (kD : ClassId) (h0 : Heap) (n0 : Nat) (v : Option Value) (h : Heap) (L : List Loc) : Prop := v = none ∧ Fr n0 L ∧ Keep h0 h [a1] ∧ own_AL Z h a1 d0 0 0
set_option maxRecDepth 65536 in
set_option maxHeartbeats 40000000 in
theorem rm4 (l : Launch) (Z : State) (a0 : Array Value) (hw : ∀ d ∈ tables_1, d.before a0 Z = true) (ws : List Jvm.Cond) (a1 : Addr) (d0 : Addr) (kD : ClassId) (h0 : Heap) (n0 : Nat) (Z0 : n0 ≤ h0.size) (Dz : own_D Z d0 kD) (Ol : Old Z n0 h0) (E_a1 : Exa Z h0 a1 "java/util/ArrayList") (F_modCount : Fld Z h0 a1 "java/util/AbstractList" "modCount" "I" (.int 0)) (F_elementData : Fld Z h0 a1 "java/util/ArrayList" "elementData" "[Ljava/lang/Object;" .null) (F_size : Fld Z h0 a1 "java/util/ArrayList" "size" "I" (.int 0)) (g_a1 : n0 ≤ a1) :
    MetFree l (⟨"java/util/ArrayList", "<init>", "()V"⟩ : MethodName) (head1 (Jvm.Cond.code (⟨"java/util/ArrayList", "<init>", "()V"⟩ : MethodName) jdk_38_method_2_code 1 none :: ws) ({ frames := 3, cells := 0, slots := 0, locals := 36 } : Room)) (fun a U => a = #[(.ref a1)] ∧ Z.Warmed39 U.vm ∧ U.heap = h0) (fun _ _ _ _ _ => True) (fun _ U o U' => ∃ v L, o = .returned v ∧ Q4 Z a1 d0 kD h0 n0 v U'.heap L ∧ FrameEnd U o U' L ({ frames := 3, cells := 0, slots := 0, locals := 36 } : Room).cells ({ frames := 3, cells := 0, slots := 0, locals := 36 } : Room).slots) := by
  refine MetFree.of_bodySF (plainFor_of_name pn_3) hisR ?_
  intro p e s m args below meth c s₁ Bd hml0 hP hK
  obtain ⟨rfl, hZ, hh⟩ := hP
  have hx := Bd.exec
  have hby := Bd.bytes
  have hml : c.maxLocals = 1 := hml0
  have hown : s.vm.findClass "java/util/ArrayList" = some m.cls := findClass_of_methodNamed Bd.named
  have hnm := (name_of_methodNamed Bd.named Bd.method).1
  have X0 : Stand p l e ({ frames := 3, cells := 0, slots := 0, locals := 36 } : Room) s m #[(.ref a1)] below meth c s₁ [] 0 0 := Stand.of_body Bd
  have e0 : s₁.heap = h0 := by rw [← hh, Bd.state]; rfl
  have N0 := Fr.nil n0
  have pre0 : ∀ t, Steps p.tables e below (s₁.setTop (mkF m 0 #[.val (.ref a1)] [])) t → Steps p.tables e below (s₁.setTop (entryFrame m #[(.ref a1)] 1)) t := fun t k => castTop (ef_4 m a1) k
  obtain ⟨_, _, ⟨T11, L11, k11, n11⟩, -, X11, ⟨Lc11, hQ11, l11, y11, z11⟩, st11⟩ := X0.specialBack hx (y := (⟨"java/util/AbstractList", "<init>", "()V"⟩ : MethodName)) rfl hown (mvT hZ (hw _ (List.mem_of_getElem? (i := 20) rfl))) (mvT hZ (hw _ (List.mem_of_getElem? (i := 21) rfl))) (mvT hZ (hw _ (List.mem_of_getElem? (i := 25) rfl))) (by decide) (backOf (W := 0) (rmAI l Z a0 hw [] a1  h0 n0 Z0 E_a1 F_modCount F_elementData F_size g_a1) hZ (hw _ (List.mem_of_getElem? (i := 25) rfl)) (hw _ (List.mem_of_getElem? (i := 24) rfl)) (by decide) (by decide)) (g := (mkF m 1 #[.val (.ref a1)] [(.ref a1)])) rfl (by rw [hml]; rfl) (Steps.refl _) (a := a1) (argsL := []) (rest := []) (lenOf pd_0 rfl) rfl (by show 2 * 0 + _ ≤ _; exact Nat.le_of_eq rfl) (hb hby d4_1) (fun _ _ => ⟨rfl, e0, (by decide : 0 + 0 ≤ _), (by decide : 0 + 0 ≤ _)⟩)
  dsimp only [Pt.U, Pt.locs, Pt.cells, Pt.slots] at X11 l11 y11 z11 st11 hQ11
  subst l11 y11 z11
  obtain ⟨rfl, N11q, Kc11, Fm11, Fe11, Fs11⟩ := hQ11
  have N11 := Fr.app N0 N11q
  have E_a1_11 := E_a1.keep Kc11
  have Ol_11 := Ol.keep Kc11 (allS g_a1 all0)
  have K11 : Keep h0 T11.heap [a1] := (Keep.refl h0 [a1]).trans Kc11 (allS (Or.inl (List.mem_of_getElem? (i := 0) rfl)) (all0))
  have z11z : n0 ≤ T11.heap.size := Nat.le_trans Z0 Kc11.1
  have Sd := Dz.1.ext Ol_11.2
  obtain ⟨T12, X12, e12, st12⟩ := getS2 X11 hx hZ hown (host := "") (Or.inl (hw _ (List.mem_of_getElem? (i := 35) rfl))) Via.refl rfl Sd (g := (mkF m 5 #[.val (.ref a1)] [(.ref a1)])) rfl (hb hby d4_5)
  obtain ⟨T13, h13, X13, e13, W13, st13⟩ := putF X12 hx hZ hown (host := "") (Or.inl (hw _ (List.mem_of_getElem? (i := 36) rfl))) Via.refl e12 Fe11 E_a1_11 (Or.inl (hw _ (List.mem_of_getElem? (i := 37) rfl))) (hw _ (List.mem_of_getElem? (i := 15) rfl)) (ty := (.array (.object "java/lang/Object"))) (by decide) rfl rfl (g := (mkF m 8 #[.val (.ref a1)] [(.ref d0), (.ref a1)])) rfl rfl (hb hby d4_8)
  have Fw13 := Fe11.same W13
  have E_a1_13 := E_a1_11.wr W13
  have Ol_13 := Ol_11.wr W13 g_a1
  have Fm11_13 := Fm11.other W13 (Or.inr (slot_ne (Or.inl (hw _ (List.mem_of_getElem? (i := 34) rfl))) (Or.inl (hw _ (List.mem_of_getElem? (i := 37) rfl))) (by decide) (t := .int) (t' := (.array (.object "java/lang/Object"))) (by decide) (by decide)))
  have Fs11_13 := Fs11.other W13 (Or.inr (slot_ne (Or.inl (hw _ (List.mem_of_getElem? (i := 67) rfl))) (Or.inl (hw _ (List.mem_of_getElem? (i := 37) rfl))) (by decide) (t := .int) (t' := (.array (.object "java/lang/Object"))) (by decide) (by decide)))
  have N13 := Fr.snoc X13 N11 g_a1
  have K13 : Keep h0 h13 [a1] := K11.wr W13 (Or.inl (List.mem_of_getElem? (i := 0) rfl))
  have z13 : n0 ≤ h13.size := Nat.le_trans z11z (Keep.of_wr W13).1
  have fl14 : ∀ target, Steps p.tables e below (T13.setTop (mkF m 11 #[.val (.ref a1)] [])) target → Steps p.tables e below (s₁.setTop (mkF m 0 #[.val (.ref a1)] [])) target := fun target kt => by
    show Steps p.tables e below (s₁.setTop (mkF m 0 #[.val (.ref a1)] [])) _
    refine XS.aloadN X0.here hx rfl (hb hby d4_0) rfl rfl ?_
    show Steps p.tables e below (s₁.setTop (mkF m 1 #[.val (.ref a1)] [(.ref a1)])) _
    refine st11.trans ?_
    show Steps p.tables e below (T11.setTop (mkF m 4 #[.val (.ref a1)] [])) _
    refine XS.aloadN X11.here hx rfl (hb hby d4_4) rfl rfl ?_
    show Steps p.tables e below (T11.setTop (mkF m 5 #[.val (.ref a1)] [(.ref a1)])) _
    refine st12 _ ?_
    show Steps p.tables e below (T12.setTop (mkF m 8 #[.val (.ref a1)] [(.ref d0), (.ref a1)])) _
    refine st13 _ ?_
    exact kt
  obtain ⟨fs, hrt, hrun, hended, hW, hsame⟩ := X13.leave (v := none) (fun _ => rfl)
  refine ⟨_, _, pre0 _ (fl14 _ ?_), hrun, hended, _, _, rfl, ?_, ⟨_, rfl⟩, hW, hsame.mono (by decide) (by decide)⟩
  · exact X13.returnOut hx Bd.returns (hb hby d4_11) hrt
  · show Q4 _ _ _ _ _ _ _ T13.heap _
    rw [e13]
    exact ⟨rfl, N13, K13, ⟨E_a1_13, Fm11_13, Fw13, Fs11_13⟩⟩
theorem ef_1 (m : MethodId) (x0 : Addr) : entryFrame m #[(.ref x0)] 1 = mkF m 0 #[.val (.ref x0)] [] := by first | (simp [entryFrame, mkF, argsToLocals, Value.category]; done) | rfl
def Q1 (Z : State) (a1 : Addr) (d0 : Addr) (kD : ClassId) (h0 : Heap) (n0 : Nat) (v : Option Value) (h : Heap) (L : List Loc) : Prop := ∃ al : Addr, v = none ∧ Fr n0 L ∧ Keep h0 h [a1] ∧ own_RB Z h a1 al 0 ∧ own_AL Z h al d0 0 0 ∧ h0.size ≤ al ∧ n0 ≤ al
set_option maxRecDepth 65536 in
set_option maxHeartbeats 40000000 in
theorem rm1 (l : Launch) (Z : State) (a0 : Array Value) (hw : ∀ d ∈ tables_1, d.before a0 Z = true) (ws : List Jvm.Cond) (a1 : Addr) (d0 : Addr) (kD : ClassId) (h0 : Heap) (n0 : Nat) (Z0 : n0 ≤ h0.size) (Dz : own_D Z d0 kD) (Ol : Old Z n0 h0) (E_a1 : Exa Z h0 a1 "com/example/darter/darter/ResultBuffer") (F_blocks : Fld Z h0 a1 "com/example/darter/darter/ResultBuffer" "blocks" "Ljava/util/List;" .null) (F_size : Fld Z h0 a1 "com/example/darter/darter/ResultBuffer" "size" "I" (.int 0)) (g_a1 : n0 ≤ a1) :
    MetFree l (⟨"com/example/darter/darter/ResultBuffer", "<init>", "()V"⟩ : MethodName) (head1 (Jvm.Cond.code (⟨"com/example/darter/darter/ResultBuffer", "<init>", "()V"⟩ : MethodName) prog_10_method_1_code 1 none :: ws) ({ frames := 4, cells := 1, slots := 3, locals := 50 } : Room)) (fun a U => a = #[(.ref a1)] ∧ Z.Warmed39 U.vm ∧ U.heap = h0) (fun _ _ _ _ _ => True) (fun _ U o U' => ∃ v L, o = .returned v ∧ Q1 Z a1 d0 kD h0 n0 v U'.heap L ∧ FrameEnd U o U' L ({ frames := 4, cells := 1, slots := 3, locals := 50 } : Room).cells ({ frames := 4, cells := 1, slots := 3, locals := 50 } : Room).slots) := by
  refine MetFree.of_bodySF (plainFor_of_name pn_4) hisR ?_
  intro p e s m args below meth c s₁ Bd hml0 hP hK
  obtain ⟨rfl, hZ, hh⟩ := hP
  have hx := Bd.exec
  have hby := Bd.bytes
  have hml : c.maxLocals = 1 := hml0
  have hown : s.vm.findClass "com/example/darter/darter/ResultBuffer" = some m.cls := findClass_of_methodNamed Bd.named
  have hnm := (name_of_methodNamed Bd.named Bd.method).1
  have X0 : Stand p l e ({ frames := 4, cells := 1, slots := 3, locals := 50 } : Room) s m #[(.ref a1)] below meth c s₁ [] 0 0 := Stand.of_body Bd
  have e0 : s₁.heap = h0 := by rw [← hh, Bd.state]; rfl
  have N0 := Fr.nil n0
  have pre0 : ∀ t, Steps p.tables e below (s₁.setTop (mkF m 0 #[.val (.ref a1)] [])) t → Steps p.tables e below (s₁.setTop (entryFrame m #[(.ref a1)] 1)) t := fun t k => castTop (ef_1 m a1) k
  obtain ⟨_, _, ⟨T15, L15, k15, n15⟩, -, X15, ⟨Lc15, hQ15, l15, y15, z15⟩, st15⟩ := X0.specialBack hx (y := (⟨"java/io/OutputStream", "<init>", "()V"⟩ : MethodName)) rfl hown (mvT hZ (hw _ (List.mem_of_getElem? (i := 6) rfl))) (mvT hZ (hw _ (List.mem_of_getElem? (i := 7) rfl))) (mvT hZ (hw _ (List.mem_of_getElem? (i := 10) rfl))) (by decide) (backOf (W := 0) (rm2 l Z a0 hw [] a1  h0 n0 Z0 ) hZ (hw _ (List.mem_of_getElem? (i := 10) rfl)) (hw _ (List.mem_of_getElem? (i := 9) rfl)) (by decide) (by decide)) (g := (mkF m 1 #[.val (.ref a1)] [(.ref a1)])) rfl (by rw [hml]; rfl) (Steps.refl _) (a := a1) (argsL := []) (rest := []) (lenOf pd_0 rfl) rfl (by show 2 * 0 + _ ≤ _; exact Nat.le_of_eq rfl) (hb hby d1_1) (fun _ _ => ⟨rfl, e0, (by decide : 0 + 0 ≤ _), (by decide : 0 + 0 ≤ _)⟩)
  dsimp only [Pt.U, Pt.locs, Pt.cells, Pt.slots] at X15 l15 y15 z15 st15 hQ15
  subst l15 y15 z15
  obtain ⟨rfl, N15q, he15⟩ := hQ15
  have N15 := Fr.app N0 N15q
  have Kc15 : Keep h0 T15.heap [] := by rw [he15]; exact Keep.refl _ _
  have E_a1_15 := E_a1.keep Kc15
  have Ol_15 := Ol.keep Kc15 all0
  have F_blocks_15 := F_blocks.keep Kc15 nin0
  have F_size_15 := F_size.keep Kc15 nin0
  have K15 : Keep h0 T15.heap [a1] := (Keep.refl h0 [a1]).trans Kc15 all0
  have z15z : n0 ≤ T15.heap.size := Nat.le_trans Z0 Kc15.1
  obtain ⟨T16, h16, X16, e16, E16, A16, D16, -, st16⟩ := newO X15 hx hZ hown (hw _ (List.mem_of_getElem? (i := 14) rfl)) (hw _ (List.mem_of_getElem? (i := 15) rfl)) (hw _ (List.mem_of_getElem? (i := 16) rfl)) rfl (g := (mkF m 5 #[.val (.ref a1)] [(.ref a1)])) rfl (hb hby d1_5) (by decide) (by decide)
  obtain ⟨b16, g16⟩ : ∃ z, z = T15.heap.size := ⟨_, rfl⟩
  rw [← g16] at A16 D16 st16
  have ne_a1_b16 : a1 ≠ b16 := Nat.ne_of_lt (by rw [g16]; exact E_a1_15.lt)
  have g_b16 : n0 ≤ b16 := Nat.le_trans z15z (Nat.le_of_eq g16.symm)
  have sz_b16 : h0.size ≤ b16 := Nat.le_trans K15.1 (Nat.le_of_eq g16.symm)
  have E_a1_16 := E_a1_15.ext E16
  have Ol_16 := Ol_15.ext E16
  have F_blocks_16 := F_blocks_15.ext E16
  have F_size_16 := F_size_15.ext E16
  have F16_modCount : Fld Z h16 b16 "java/util/AbstractList" "modCount" "I" (.int (0 : Int32)) := D16 (Or.inl (hw _ (List.mem_of_getElem? (i := 34) rfl))) (ty := .int) (by decide)
  have F16_elementData : Fld Z h16 b16 "java/util/ArrayList" "elementData" "[Ljava/lang/Object;" .null := D16 (Or.inl (hw _ (List.mem_of_getElem? (i := 37) rfl))) (ty := (.array (.object "java/lang/Object"))) (by decide)
  have F16_size : Fld Z h16 b16 "java/util/ArrayList" "size" "I" (.int (0 : Int32)) := D16 (Or.inl (hw _ (List.mem_of_getElem? (i := 67) rfl))) (ty := .int) (by decide)
  have K16 : Keep h0 h16 [a1] := K15.ext E16
  have z16 : n0 ≤ h16.size := Nat.le_trans z15z E16.1
  obtain ⟨_, _, ⟨T17, L17, k17, n17⟩, -, X17, ⟨Lc17, hQ17, l17, y17, z17⟩, st17⟩ := X16.specialBack hx (y := (⟨"java/util/ArrayList", "<init>", "()V"⟩ : MethodName)) rfl hown (mvT hZ (hw _ (List.mem_of_getElem? (i := 17) rfl))) (mvT hZ (hw _ (List.mem_of_getElem? (i := 18) rfl))) (mvT hZ (hw _ (List.mem_of_getElem? (i := 19) rfl))) (by decide) (backOf (W := 2) (rm4 l Z a0 hw [] b16 d0 kD h16 n0 z16 Dz Ol_16 A16 F16_modCount F16_elementData F16_size g_b16) hZ (hw _ (List.mem_of_getElem? (i := 19) rfl)) (hw _ (List.mem_of_getElem? (i := 16) rfl)) (by decide) (by decide)) (g := (mkF m 9 #[.val (.ref a1)] [(.ref b16), (.ref b16), (.ref a1)])) rfl (by rw [hml]; rfl) (Steps.refl _) (a := b16) (argsL := []) (rest := [(.ref b16), (.ref a1)]) (lenOf pd_0 rfl) rfl (by show 2 * 0 + _ ≤ _; exact Nat.le_of_eq rfl) (hb hby d1_9) (fun _ _ => ⟨rfl, e16, (by decide : 1 + 0 ≤ _), (by decide : 3 + 0 ≤ _)⟩)
  dsimp only [Pt.U, Pt.locs, Pt.cells, Pt.slots] at X17 l17 y17 z17 st17 hQ17
  subst l17 y17 z17
  obtain ⟨rfl, N17q, Kc17, ALc17⟩ := hQ17
  have N17 := Fr.app N15 N17q
  have E_a1_17 := E_a1_16.keep Kc17
  have Ol_17 := Ol_16.keep Kc17 (allS g_b16 all0)
  have F_blocks_17 := F_blocks_16.keep Kc17 (ninS ne_a1_b16 nin0)
  have F_size_17 := F_size_16.keep Kc17 (ninS ne_a1_b16 nin0)
  have A16_17 := A16.keep Kc17
  have K17 : Keep h0 T17.heap [a1] := K16.trans Kc17 (allS (Or.inr sz_b16) (all0))
  have z17z : n0 ≤ T17.heap.size := Nat.le_trans z16 Kc17.1
  obtain ⟨T18, h18, X18, e18, W18, st18⟩ := putF X17 hx hZ hown (host := "") (Or.inl (hw _ (List.mem_of_getElem? (i := 38) rfl))) Via.refl rfl F_blocks_17 E_a1_17 (Or.inr ⟨(hw _ (List.mem_of_getElem? (i := 39) rfl)), rfl, hnm⟩) (hw _ (List.mem_of_getElem? (i := 1) rfl)) (ty := (.object "java/util/List")) (by decide) rfl rfl (g := (mkF m 12 #[.val (.ref a1)] [(.ref b16), (.ref a1)])) rfl rfl (hb hby d1_12)
  have Fw18 := F_blocks_17.same W18
  have E_a1_18 := E_a1_17.wr W18
  have Ol_18 := Ol_17.wr W18 g_a1
  have F_size_18 := F_size_17.other W18 (Or.inr (slot_ne (Or.inl (hw _ (List.mem_of_getElem? (i := 50) rfl))) (Or.inr (hw _ (List.mem_of_getElem? (i := 39) rfl))) (by decide) (t := .int) (t' := (.object "java/util/List")) (by decide) (by decide)))
  have A16_18 := A16_17.wr W18
  have ALc17_18 := ALc17.other W18 (Ne.symm ne_a1_b16)
  have N18 := Fr.snoc X18 N17 g_a1
  have K18 : Keep h0 h18 [a1] := K17.wr W18 (Or.inl (List.mem_of_getElem? (i := 0) rfl))
  have z18 : n0 ≤ h18.size := Nat.le_trans z17z (Keep.of_wr W18).1
  have fl19 : ∀ target, Steps p.tables e below (T18.setTop (mkF m 15 #[.val (.ref a1)] [])) target → Steps p.tables e below (s₁.setTop (mkF m 0 #[.val (.ref a1)] [])) target := fun target kt => by
    show Steps p.tables e below (s₁.setTop (mkF m 0 #[.val (.ref a1)] [])) _
    refine XS.aloadN X0.here hx rfl (hb hby d1_0) rfl rfl ?_
    show Steps p.tables e below (s₁.setTop (mkF m 1 #[.val (.ref a1)] [(.ref a1)])) _
    refine st15.trans ?_
    show Steps p.tables e below (T15.setTop (mkF m 4 #[.val (.ref a1)] [])) _
    refine XS.aloadN X15.here hx rfl (hb hby d1_4) rfl rfl ?_
    show Steps p.tables e below (T15.setTop (mkF m 5 #[.val (.ref a1)] [(.ref a1)])) _
    refine st16 _ ?_
    show Steps p.tables e below (T16.setTop (mkF m 8 #[.val (.ref a1)] [(.ref b16), (.ref a1)])) _
    refine XS.dup X16.here hx rfl (hb hby d1_8) rfl rfl ?_
    show Steps p.tables e below (T16.setTop (mkF m 9 #[.val (.ref a1)] [(.ref b16), (.ref b16), (.ref a1)])) _
    refine st17.trans ?_
    show Steps p.tables e below (T17.setTop (mkF m 12 #[.val (.ref a1)] [(.ref b16), (.ref a1)])) _
    refine st18 _ ?_
    exact kt
  obtain ⟨fs, hrt, hrun, hended, hW, hsame⟩ := X18.leave (v := none) (fun _ => rfl)
  refine ⟨_, _, pre0 _ (fl19 _ ?_), hrun, hended, _, _, rfl, ?_, ⟨_, rfl⟩, hW, hsame.mono (by decide) (by decide)⟩
  · exact X18.returnOut hx Bd.returns (hb hby d1_15) hrt
  · show Q1 _ _ _ _ _ _ _ T18.heap _
    rw [e18]
    exact ⟨b16, rfl, N18, K18, ⟨E_a1_18, Fw18, F_size_18⟩, ALc17_18, sz_b16, g_b16⟩
theorem ef_12 (m : MethodId) (x0 : Int32) (x1 : Int32) : entryFrame m #[(.int x0), (.int x1)] 2 = mkF m 0 #[.val (.int x0), .val (.int x1)] [] := by first | (simp [entryFrame, mkF, argsToLocals, Value.category]; done) | rfl
def Q12 (Z : State) (p1 : Int32) (p2 : Int32) (r : Int32) (h0 : Heap) (n0 : Nat) (v : Option Value) (h : Heap) (L : List Loc) : Prop := v = some (.int r) ∧ Fr n0 L ∧ h = h0
set_option maxRecDepth 65536 in
set_option maxHeartbeats 40000000 in
theorem rm12 (l : Launch) (Z : State) (a0 : Array Value) (hw : ∀ d ∈ tables_1, d.before a0 Z = true) (ws : List Jvm.Cond) (p1 : Int32) (p2 : Int32) (r : Int32) (h0 : Heap) (n0 : Nat) (Z0 : n0 ≤ h0.size) (hr : r = if p2 < p1 then p2 else p1) :
    MetFree l (⟨"java/lang/Math", "min", "(II)I"⟩ : MethodName) (head1 (Jvm.Cond.code (⟨"java/lang/Math", "min", "(II)I"⟩ : MethodName) jdk_29_method_69_code 2 (some .int) :: ws) ({ frames := 0, cells := 0, slots := 0, locals := 0 } : Room)) (fun a U => a = #[(.int p1), (.int p2)] ∧ Z.Warmed39 U.vm ∧ U.heap = h0) (fun _ _ _ _ _ => True) (fun _ U o U' => ∃ v L, o = .returned v ∧ Q12 Z p1 p2 r h0 n0 v U'.heap L ∧ FrameEnd U o U' L ({ frames := 0, cells := 0, slots := 0, locals := 0 } : Room).cells ({ frames := 0, cells := 0, slots := 0, locals := 0 } : Room).slots) := by
  refine MetFree.of_bodySF (Jvm.Free.JP.mathPlain rfl (by decide +kernel)) hisR ?_
  intro p e s m args below meth c s₁ Bd hml0 hP hK
  obtain ⟨rfl, hZ, hh⟩ := hP
  have hx := Bd.exec
  have hby := Bd.bytes
  have hml : c.maxLocals = 2 := hml0
  have hown : s.vm.findClass "java/lang/Math" = some m.cls := findClass_of_methodNamed Bd.named
  have hnm := (name_of_methodNamed Bd.named Bd.method).1
  have X0 : Stand p l e ({ frames := 0, cells := 0, slots := 0, locals := 0 } : Room) s m #[(.int p1), (.int p2)] below meth c s₁ [] 0 0 := Stand.of_body Bd
  have e0 : s₁.heap = h0 := by rw [← hh, Bd.state]; rfl
  have N0 := Fr.nil n0
  have pre0 : ∀ t, Steps p.tables e below (s₁.setTop (mkF m 0 #[.val (.int p1), .val (.int p2)] [])) t → Steps p.tables e below (s₁.setTop (entryFrame m #[(.int p1), (.int p2)] 2)) t := fun t k => castTop (ef_12 m p1 p2) k
  by_cases hc : p2 < p1
  · obtain rfl : p2 = r := by rw [hr]; exact (if_pos hc).symm
    have fl20 : ∀ target, Steps p.tables e below (s₁.setTop (mkF m 10 #[.val (.int p1), .val (.int p2)] [(.int p2)])) target → Steps p.tables e below (s₁.setTop (mkF m 0 #[.val (.int p1), .val (.int p2)] [])) target := fun target kt => by
      show Steps p.tables e below (s₁.setTop (mkF m 0 #[.val (.int p1), .val (.int p2)] [])) _
      refine XS.iloadN X0.here hx rfl (hb hby d12_0) rfl ?_
      show Steps p.tables e below (s₁.setTop (mkF m 1 #[.val (.int p1), .val (.int p2)] [(.int p1)])) _
      refine XS.iloadN X0.here hx rfl (hb hby d12_1) rfl ?_
      show Steps p.tables e below (s₁.setTop (mkF m 2 #[.val (.int p1), .val (.int p2)] [(.int p2), (.int p1)])) _
      refine XS.icmpYes X0.here hx rfl (pc0 := 2) (pc' := 9) rfl (hb hby d12_2) rfl (tlt (hc : p2 < p1)).2.2.1 (by decide) (by decide) ?_
      show Steps p.tables e below (s₁.setTop (mkF m 9 #[.val (.int p1), .val (.int p2)] [])) _
      refine XS.iloadN X0.here hx rfl (hb hby d12_9) rfl ?_
      exact kt
    obtain ⟨fs, hrt, hrun, hended, hW, hsame⟩ := X0.leave (v := some (.int p2)) (fun h => by rw [Bd.returns] at h; cases h)
    refine ⟨_, _, pre0 _ (fl20 _ ?_), hrun, hended, _, _, rfl, ?_, ⟨_, rfl⟩, hW, hsame.mono (by decide) (by decide)⟩
    · exact retI X0 hx Bd.returns (hb hby d12_10) hrt
    · show Q12 _ _ _ _ _ _ _ s₁.heap _
      rw [e0]
      exact ⟨rfl, N0, rfl⟩
  · obtain rfl : p1 = r := by rw [hr]; exact (if_neg hc).symm
    have fl21 : ∀ target, Steps p.tables e below (s₁.setTop (mkF m 10 #[.val (.int p1), .val (.int p2)] [(.int p1)])) target → Steps p.tables e below (s₁.setTop (mkF m 0 #[.val (.int p1), .val (.int p2)] [])) target := fun target kt => by
      show Steps p.tables e below (s₁.setTop (mkF m 0 #[.val (.int p1), .val (.int p2)] [])) _
      refine XS.iloadN X0.here hx rfl (hb hby d12_0) rfl ?_
      show Steps p.tables e below (s₁.setTop (mkF m 1 #[.val (.int p1), .val (.int p2)] [(.int p1)])) _
      refine XS.iloadN X0.here hx rfl (hb hby d12_1) rfl ?_
      show Steps p.tables e below (s₁.setTop (mkF m 2 #[.val (.int p1), .val (.int p2)] [(.int p2), (.int p1)])) _
      refine XS.icmpNo X0.here hx rfl (hb hby d12_2) rfl (flt (hc : ¬ (p2 < p1))).2.2.1 ?_
      show Steps p.tables e below (s₁.setTop (mkF m 5 #[.val (.int p1), .val (.int p2)] [])) _
      refine XS.iloadN X0.here hx rfl (hb hby d12_5) rfl ?_
      show Steps p.tables e below (s₁.setTop (mkF m 6 #[.val (.int p1), .val (.int p2)] [(.int p1)])) _
      refine XS.goto X0.here hx rfl (pc0 := 6) (pc' := 10) rfl (hb hby d12_6) (by decide) (by decide) ?_
      exact kt
    obtain ⟨fs, hrt, hrun, hended, hW, hsame⟩ := X0.leave (v := some (.int p1)) (fun h => by rw [Bd.returns] at h; cases h)
    refine ⟨_, _, pre0 _ (fl21 _ ?_), hrun, hended, _, _, rfl, ?_, ⟨_, rfl⟩, hW, hsame.mono (by decide) (by decide)⟩
    · exact retI X0 hx Bd.returns (hb hby d12_10) hrt
    · show Q12 _ _ _ _ _ _ _ s₁.heap _
      rw [e0]
      exact ⟨rfl, N0, rfl⟩
theorem ef_11 (m : MethodId) (x0 : Int32) (x1 : Int32) : entryFrame m #[(.int x0), (.int x1)] 2 = mkF m 0 #[.val (.int x0), .val (.int x1)] [] := by first | (simp [entryFrame, mkF, argsToLocals, Value.category]; done) | rfl
def Q11 (Z : State) (p1 : Int32) (p2 : Int32) (r : Int32) (h0 : Heap) (n0 : Nat) (v : Option Value) (h : Heap) (L : List Loc) : Prop := v = some (.int r) ∧ Fr n0 L ∧ h = h0
set_option maxRecDepth 65536 in
set_option maxHeartbeats 40000000 in
theorem rm11 (l : Launch) (Z : State) (a0 : Array Value) (hw : ∀ d ∈ tables_1, d.before a0 Z = true) (ws : List Jvm.Cond) (p1 : Int32) (p2 : Int32) (r : Int32) (h0 : Heap) (n0 : Nat) (Z0 : n0 ≤ h0.size) (hr : r = if p1 < p2 then p2 else p1) :
    MetFree l (⟨"java/lang/Math", "max", "(II)I"⟩ : MethodName) (head1 (Jvm.Cond.code (⟨"java/lang/Math", "max", "(II)I"⟩ : MethodName) jdk_29_method_65_code 2 (some .int) :: ws) ({ frames := 0, cells := 0, slots := 0, locals := 0 } : Room)) (fun a U => a = #[(.int p1), (.int p2)] ∧ Z.Warmed39 U.vm ∧ U.heap = h0) (fun _ _ _ _ _ => True) (fun _ U o U' => ∃ v L, o = .returned v ∧ Q11 Z p1 p2 r h0 n0 v U'.heap L ∧ FrameEnd U o U' L ({ frames := 0, cells := 0, slots := 0, locals := 0 } : Room).cells ({ frames := 0, cells := 0, slots := 0, locals := 0 } : Room).slots) := by
  refine MetFree.of_bodySF (Jvm.Free.JP.mathPlain rfl (by decide +kernel)) hisR ?_
  intro p e s m args below meth c s₁ Bd hml0 hP hK
  obtain ⟨rfl, hZ, hh⟩ := hP
  have hx := Bd.exec
  have hby := Bd.bytes
  have hml : c.maxLocals = 2 := hml0
  have hown : s.vm.findClass "java/lang/Math" = some m.cls := findClass_of_methodNamed Bd.named
  have hnm := (name_of_methodNamed Bd.named Bd.method).1
  have X0 : Stand p l e ({ frames := 0, cells := 0, slots := 0, locals := 0 } : Room) s m #[(.int p1), (.int p2)] below meth c s₁ [] 0 0 := Stand.of_body Bd
  have e0 : s₁.heap = h0 := by rw [← hh, Bd.state]; rfl
  have N0 := Fr.nil n0
  have pre0 : ∀ t, Steps p.tables e below (s₁.setTop (mkF m 0 #[.val (.int p1), .val (.int p2)] [])) t → Steps p.tables e below (s₁.setTop (entryFrame m #[(.int p1), (.int p2)] 2)) t := fun t k => castTop (ef_11 m p1 p2) k
  by_cases hc : p1 < p2
  · obtain rfl : p2 = r := by rw [hr]; exact (if_pos hc).symm
    have fl22 : ∀ target, Steps p.tables e below (s₁.setTop (mkF m 10 #[.val (.int p1), .val (.int p2)] [(.int p2)])) target → Steps p.tables e below (s₁.setTop (mkF m 0 #[.val (.int p1), .val (.int p2)] [])) target := fun target kt => by
      show Steps p.tables e below (s₁.setTop (mkF m 0 #[.val (.int p1), .val (.int p2)] [])) _
      refine XS.iloadN X0.here hx rfl (hb hby d11_0) rfl ?_
      show Steps p.tables e below (s₁.setTop (mkF m 1 #[.val (.int p1), .val (.int p2)] [(.int p1)])) _
      refine XS.iloadN X0.here hx rfl (hb hby d11_1) rfl ?_
      show Steps p.tables e below (s₁.setTop (mkF m 2 #[.val (.int p1), .val (.int p2)] [(.int p2), (.int p1)])) _
      refine XS.icmpYes X0.here hx rfl (pc0 := 2) (pc' := 9) rfl (hb hby d11_2) rfl (tlt (hc : p1 < p2)).1 (by decide) (by decide) ?_
      show Steps p.tables e below (s₁.setTop (mkF m 9 #[.val (.int p1), .val (.int p2)] [])) _
      refine XS.iloadN X0.here hx rfl (hb hby d11_9) rfl ?_
      exact kt
    obtain ⟨fs, hrt, hrun, hended, hW, hsame⟩ := X0.leave (v := some (.int p2)) (fun h => by rw [Bd.returns] at h; cases h)
    refine ⟨_, _, pre0 _ (fl22 _ ?_), hrun, hended, _, _, rfl, ?_, ⟨_, rfl⟩, hW, hsame.mono (by decide) (by decide)⟩
    · exact retI X0 hx Bd.returns (hb hby d11_10) hrt
    · show Q11 _ _ _ _ _ _ _ s₁.heap _
      rw [e0]
      exact ⟨rfl, N0, rfl⟩
  · obtain rfl : p1 = r := by rw [hr]; exact (if_neg hc).symm
    have fl23 : ∀ target, Steps p.tables e below (s₁.setTop (mkF m 10 #[.val (.int p1), .val (.int p2)] [(.int p1)])) target → Steps p.tables e below (s₁.setTop (mkF m 0 #[.val (.int p1), .val (.int p2)] [])) target := fun target kt => by
      show Steps p.tables e below (s₁.setTop (mkF m 0 #[.val (.int p1), .val (.int p2)] [])) _
      refine XS.iloadN X0.here hx rfl (hb hby d11_0) rfl ?_
      show Steps p.tables e below (s₁.setTop (mkF m 1 #[.val (.int p1), .val (.int p2)] [(.int p1)])) _
      refine XS.iloadN X0.here hx rfl (hb hby d11_1) rfl ?_
      show Steps p.tables e below (s₁.setTop (mkF m 2 #[.val (.int p1), .val (.int p2)] [(.int p2), (.int p1)])) _
      refine XS.icmpNo X0.here hx rfl (hb hby d11_2) rfl (flt (hc : ¬ (p1 < p2))).1 ?_
      show Steps p.tables e below (s₁.setTop (mkF m 5 #[.val (.int p1), .val (.int p2)] [])) _
      refine XS.iloadN X0.here hx rfl (hb hby d11_5) rfl ?_
      show Steps p.tables e below (s₁.setTop (mkF m 6 #[.val (.int p1), .val (.int p2)] [(.int p1)])) _
      refine XS.goto X0.here hx rfl (pc0 := 6) (pc' := 10) rfl (hb hby d11_6) (by decide) (by decide) ?_
      exact kt
    obtain ⟨fs, hrt, hrun, hended, hW, hsame⟩ := X0.leave (v := some (.int p1)) (fun h => by rw [Bd.returns] at h; cases h)
    refine ⟨_, _, pre0 _ (fl23 _ ?_), hrun, hended, _, _, rfl, ?_, ⟨_, rfl⟩, hW, hsame.mono (by decide) (by decide)⟩
    · exact retI X0 hx Bd.returns (hb hby d11_10) hrt
    · show Q11 _ _ _ _ _ _ _ s₁.heap _
      rw [e0]
      exact ⟨rfl, N0, rfl⟩
theorem ef_8 (m : MethodId) (x0 : Addr) (x1 : Int32) : entryFrame m #[(.ref x0), (.int x1)] 2 = mkF m 0 #[.val (.ref x0), .val (.int x1)] [] := by first | (simp [entryFrame, mkF, argsToLocals, Value.category]; done) | rfl
def Q8 (Z : State) (a1 : Addr) (p2 : Int32) (sz : Int32) (h0 : Heap) (n0 : Nat) (v : Option Value) (h : Heap) (L : List Loc) : Prop := v = none ∧ Fr n0 L ∧ h = h0
set_option maxRecDepth 65536 in
set_option maxHeartbeats 40000000 in
theorem rm8 (l : Launch) (Z : State) (a0 : Array Value) (hw : ∀ d ∈ tables_1, d.before a0 Z = true) (ws : List Jvm.Cond) (a1 : Addr) (p2 : Int32) (sz : Int32) (h0 : Heap) (n0 : Nat) (Z0 : n0 ≤ h0.size) (F_size : Fld Z h0 a1 "com/example/darter/darter/ResultBuffer" "size" "I" (.int sz)) (hsz : ¬ (67108864 : Int64) < sz.toInt64 + p2.toInt64) :
    MetFree l (⟨"com/example/darter/darter/ResultBuffer", "makeRoom", "(I)V"⟩ : MethodName) (head1 (Jvm.Cond.code (⟨"com/example/darter/darter/ResultBuffer", "makeRoom", "(I)V"⟩ : MethodName) prog_10_method_10_code 2 none :: ws) ({ frames := 0, cells := 0, slots := 0, locals := 0 } : Room)) (fun a U => a = #[(.ref a1), (.int p2)] ∧ Z.Warmed39 U.vm ∧ U.heap = h0) (fun _ _ _ _ _ => True) (fun _ U o U' => ∃ v L, o = .returned v ∧ Q8 Z a1 p2 sz h0 n0 v U'.heap L ∧ FrameEnd U o U' L ({ frames := 0, cells := 0, slots := 0, locals := 0 } : Room).cells ({ frames := 0, cells := 0, slots := 0, locals := 0 } : Room).slots) := by
  refine MetFree.of_bodySF (plainFor_of_name pn_4) hisR ?_
  intro p e s m args below meth c s₁ Bd hml0 hP hK
  obtain ⟨rfl, hZ, hh⟩ := hP
  have hx := Bd.exec
  have hby := Bd.bytes
  have hml : c.maxLocals = 2 := hml0
  have hown : s.vm.findClass "com/example/darter/darter/ResultBuffer" = some m.cls := findClass_of_methodNamed Bd.named
  have hnm := (name_of_methodNamed Bd.named Bd.method).1
  have X0 : Stand p l e ({ frames := 0, cells := 0, slots := 0, locals := 0 } : Room) s m #[(.ref a1), (.int p2)] below meth c s₁ [] 0 0 := Stand.of_body Bd
  have e0 : s₁.heap = h0 := by rw [← hh, Bd.state]; rfl
  have N0 := Fr.nil n0
  have pre0 : ∀ t, Steps p.tables e below (s₁.setTop (mkF m 0 #[.val (.ref a1), .val (.int p2)] [])) t → Steps p.tables e below (s₁.setTop (entryFrame m #[(.ref a1), (.int p2)] 2)) t := fun t k => castTop (ef_8 m a1 p2) k
  obtain ⟨T24, X24, e24, st24⟩ := getF X0 hx hZ hown (host := "") (Or.inl (hw _ (List.mem_of_getElem? (i := 49) rfl))) Via.refl e0 F_size (g := (mkF m 1 #[.val (.ref a1), .val (.int p2)] [(.ref a1)])) rfl rfl (hb hby d8_1)
  have fl25 : ∀ target, Steps p.tables e below (T24.setTop (mkF m 23 #[.val (.ref a1), .val (.int p2)] [])) target → Steps p.tables e below (s₁.setTop (mkF m 0 #[.val (.ref a1), .val (.int p2)] [])) target := fun target kt => by
    show Steps p.tables e below (s₁.setTop (mkF m 0 #[.val (.ref a1), .val (.int p2)] [])) _
    refine XS.aloadN X0.here hx rfl (hb hby d8_0) rfl rfl ?_
    show Steps p.tables e below (s₁.setTop (mkF m 1 #[.val (.ref a1), .val (.int p2)] [(.ref a1)])) _
    refine st24 _ ?_
    show Steps p.tables e below (T24.setTop (mkF m 4 #[.val (.ref a1), .val (.int p2)] [(.int sz)])) _
    refine XS.i2l X24.here hx rfl (hb hby d8_4) rfl ?_
    show Steps p.tables e below (T24.setTop (mkF m 5 #[.val (.ref a1), .val (.int p2)] [(.long (sz.toInt64))])) _
    refine XS.iloadN X24.here hx rfl (hb hby d8_5) rfl ?_
    show Steps p.tables e below (T24.setTop (mkF m 6 #[.val (.ref a1), .val (.int p2)] [(.int p2), (.long (sz.toInt64))])) _
    refine XS.i2l X24.here hx rfl (hb hby d8_6) rfl ?_
    show Steps p.tables e below (T24.setTop (mkF m 7 #[.val (.ref a1), .val (.int p2)] [(.long (p2.toInt64)), (.long (sz.toInt64))])) _
    refine XS.ladd X24.here hx rfl (hb hby d8_7) rfl ?_
    show Steps p.tables e below (T24.setTop (mkF m 8 #[.val (.ref a1), .val (.int p2)] [(.long ((sz.toInt64) + (p2.toInt64)))])) _
    refine X24.ldc2Long hx hown (mvT hZ (hw _ (List.mem_of_getElem? (i := 51) rfl))) (g := (mkF m 8 #[.val (.ref a1), .val (.int p2)] [(.long ((sz.toInt64) + (p2.toInt64)))])) rfl (hb hby d8_8) _ ?_
    show Steps p.tables e below (T24.setTop (mkF m 11 #[.val (.ref a1), .val (.int p2)] [(.long (67108864 : Int64)), (.long ((sz.toInt64) + (p2.toInt64)))])) _
    refine XS.lcmp X24.here hx rfl (hb hby d8_11) rfl ?_
    show Steps p.tables e below (T24.setTop (mkF m 12 #[.val (.ref a1), .val (.int p2)] [(.int (lcmpW ((sz.toInt64) + (p2.toInt64)) (67108864 : Int64)))])) _
    refine XS.ifYes X24.here hx rfl (pc0 := 12) (pc' := 23) rfl (hb hby d8_12) rfl ((if0 _ _).trans (flt (fun u => hsz ((lw_gt _ _).mp u) : ¬ ((0 : Int32) < (lcmpW ((sz.toInt64) + (p2.toInt64)) (67108864 : Int64))))).2.2.2) (by decide) (by decide) ?_
    exact kt
  obtain ⟨fs, hrt, hrun, hended, hW, hsame⟩ := X24.leave (v := none) (fun _ => rfl)
  refine ⟨_, _, pre0 _ (fl25 _ ?_), hrun, hended, _, _, rfl, ?_, ⟨_, rfl⟩, hW, hsame.mono (by decide) (by decide)⟩
  · exact X24.returnOut hx Bd.returns (hb hby d8_23) hrt
  · show Q8 _ _ _ _ _ _ _ T24.heap _
    rw [e24]
    exact ⟨rfl, N0, rfl⟩
theorem ef_10 (m : MethodId) (x0 : Addr) : entryFrame m #[(.ref x0)] 1 = mkF m 0 #[.val (.ref x0)] [] := by first | (simp [entryFrame, mkF, argsToLocals, Value.category]; done) | rfl
def Q10 (Z : State) (a1 : Addr) (ed : Addr) (sz : Int32) (mc : Int32) (h0 : Heap) (n0 : Nat) (v : Option Value) (h : Heap) (L : List Loc) : Prop := v = some (.int sz) ∧ Fr n0 L ∧ h = h0
set_option maxRecDepth 65536 in
set_option maxHeartbeats 40000000 in
theorem rm10 (l : Launch) (Z : State) (a0 : Array Value) (hw : ∀ d ∈ tables_1, d.before a0 Z = true) (ws : List Jvm.Cond) (a1 : Addr) (ed : Addr) (sz : Int32) (mc : Int32) (h0 : Heap) (n0 : Nat) (Z0 : n0 ≤ h0.size) (O : own_AL Z h0 a1 ed sz mc) :
    MetFree l (⟨"java/util/ArrayList", "size", "()I"⟩ : MethodName) (head1 (Jvm.Cond.code (⟨"java/util/ArrayList", "size", "()I"⟩ : MethodName) jdk_38_method_8_code 1 (some .int) :: ws) ({ frames := 0, cells := 0, slots := 0, locals := 0 } : Room)) (fun a U => a = #[(.ref a1)] ∧ Z.Warmed39 U.vm ∧ U.heap = h0) (fun _ _ _ _ _ => True) (fun _ U o U' => ∃ v L, o = .returned v ∧ Q10 Z a1 ed sz mc h0 n0 v U'.heap L ∧ FrameEnd U o U' L ({ frames := 0, cells := 0, slots := 0, locals := 0 } : Room).cells ({ frames := 0, cells := 0, slots := 0, locals := 0 } : Room).slots) := by
  refine MetFree.of_bodySF (plainFor_of_name pn_3) hisR ?_
  intro p e s m args below meth c s₁ Bd hml0 hP hK
  obtain ⟨rfl, hZ, hh⟩ := hP
  have hx := Bd.exec
  have hby := Bd.bytes
  have hml : c.maxLocals = 1 := hml0
  have hown : s.vm.findClass "java/util/ArrayList" = some m.cls := findClass_of_methodNamed Bd.named
  have hnm := (name_of_methodNamed Bd.named Bd.method).1
  have X0 : Stand p l e ({ frames := 0, cells := 0, slots := 0, locals := 0 } : Room) s m #[(.ref a1)] below meth c s₁ [] 0 0 := Stand.of_body Bd
  have e0 : s₁.heap = h0 := by rw [← hh, Bd.state]; rfl
  have N0 := Fr.nil n0
  have pre0 : ∀ t, Steps p.tables e below (s₁.setTop (mkF m 0 #[.val (.ref a1)] [])) t → Steps p.tables e below (s₁.setTop (entryFrame m #[(.ref a1)] 1)) t := fun t k => castTop (ef_10 m a1) k
  obtain ⟨T26, X26, e26, st26⟩ := getF X0 hx hZ hown (host := "") (Or.inl (hw _ (List.mem_of_getElem? (i := 66) rfl))) Via.refl e0 O.2.2.2 (g := (mkF m 1 #[.val (.ref a1)] [(.ref a1)])) rfl rfl (hb hby d10_1)
  have fl27 : ∀ target, Steps p.tables e below (T26.setTop (mkF m 4 #[.val (.ref a1)] [(.int sz)])) target → Steps p.tables e below (s₁.setTop (mkF m 0 #[.val (.ref a1)] [])) target := fun target kt => by
    show Steps p.tables e below (s₁.setTop (mkF m 0 #[.val (.ref a1)] [])) _
    refine XS.aloadN X0.here hx rfl (hb hby d10_0) rfl rfl ?_
    show Steps p.tables e below (s₁.setTop (mkF m 1 #[.val (.ref a1)] [(.ref a1)])) _
    refine st26 _ ?_
    exact kt
  obtain ⟨fs, hrt, hrun, hended, hW, hsame⟩ := X26.leave (v := some (.int sz)) (fun h => by rw [Bd.returns] at h; cases h)
  refine ⟨_, _, pre0 _ (fl27 _ ?_), hrun, hended, _, _, rfl, ?_, ⟨_, rfl⟩, hW, hsame.mono (by decide) (by decide)⟩
  · exact retI X26 hx Bd.returns (hb hby d10_4) hrt
  · show Q10 _ _ _ _ _ _ _ _ T26.heap _
    rw [e26]
    exact ⟨rfl, N0, rfl⟩
theorem ef_19 (m : MethodId) (x0 : Int32) (x1 : Int32) : entryFrame m #[(.int x0), (.int x1), .null] 3 = mkF m 0 #[.val (.int x0), .val (.int x1), .val .null] [] := by first | (simp [entryFrame, mkF, argsToLocals, Value.category]; done) | rfl
def Q19 (Z : State) (p1 : Int32) (p2 : Int32) (h0 : Heap) (n0 : Nat) (v : Option Value) (h : Heap) (L : List Loc) : Prop := v = some (.int p1) ∧ Fr n0 L ∧ h = h0
set_option maxRecDepth 65536 in
set_option maxHeartbeats 40000000 in
theorem rm19 (l : Launch) (Z : State) (a0 : Array Value) (hw : ∀ d ∈ tables_1, d.before a0 Z = true) (ws : List Jvm.Cond) (p1 : Int32) (p2 : Int32) (h0 : Heap) (n0 : Nat) (Z0 : n0 ≤ h0.size) (hj : ¬ p1 < 0 ∧ p1 < p2) :
    MetFree l (⟨"jdk/internal/util/Preconditions", "checkIndex", "(IILjava/util/function/BiFunction;)I"⟩ : MethodName) (head1 (Jvm.Cond.code (⟨"jdk/internal/util/Preconditions", "checkIndex", "(IILjava/util/function/BiFunction;)I"⟩ : MethodName) jdk_41_method_11_code 3 (some .int) :: ws) ({ frames := 0, cells := 0, slots := 0, locals := 0 } : Room)) (fun a U => a = #[(.int p1), (.int p2), .null] ∧ Z.Warmed39 U.vm ∧ U.heap = h0) (fun _ _ _ _ _ => True) (fun _ U o U' => ∃ v L, o = .returned v ∧ Q19 Z p1 p2 h0 n0 v U'.heap L ∧ FrameEnd U o U' L ({ frames := 0, cells := 0, slots := 0, locals := 0 } : Room).cells ({ frames := 0, cells := 0, slots := 0, locals := 0 } : Room).slots) := by
  refine MetFree.of_bodySF (plainFor_of_name pn_5) hisR ?_
  intro p e s m args below meth c s₁ Bd hml0 hP hK
  obtain ⟨rfl, hZ, hh⟩ := hP
  have hx := Bd.exec
  have hby := Bd.bytes
  have hml : c.maxLocals = 3 := hml0
  have hown : s.vm.findClass "jdk/internal/util/Preconditions" = some m.cls := findClass_of_methodNamed Bd.named
  have hnm := (name_of_methodNamed Bd.named Bd.method).1
  have X0 : Stand p l e ({ frames := 0, cells := 0, slots := 0, locals := 0 } : Room) s m #[(.int p1), (.int p2), .null] below meth c s₁ [] 0 0 := Stand.of_body Bd
  have e0 : s₁.heap = h0 := by rw [← hh, Bd.state]; rfl
  have N0 := Fr.nil n0
  have pre0 : ∀ t, Steps p.tables e below (s₁.setTop (mkF m 0 #[.val (.int p1), .val (.int p2), .val .null] [])) t → Steps p.tables e below (s₁.setTop (entryFrame m #[(.int p1), (.int p2), .null] 3)) t := fun t k => castTop (ef_19 m p1 p2) k
  have fl28 : ∀ target, Steps p.tables e below (s₁.setTop (mkF m 17 #[.val (.int p1), .val (.int p2), .val .null] [(.int p1)])) target → Steps p.tables e below (s₁.setTop (mkF m 0 #[.val (.int p1), .val (.int p2), .val .null] [])) target := fun target kt => by
    show Steps p.tables e below (s₁.setTop (mkF m 0 #[.val (.int p1), .val (.int p2), .val .null] [])) _
    refine XS.iloadN X0.here hx rfl (hb hby d19_0) rfl ?_
    show Steps p.tables e below (s₁.setTop (mkF m 1 #[.val (.int p1), .val (.int p2), .val .null] [(.int p1)])) _
    refine XS.ifNo X0.here hx rfl (hb hby d19_1) rfl ((if0 _ _).trans (flt (hj.1 : ¬ (p1 < (0 : Int32)))).1) ?_
    show Steps p.tables e below (s₁.setTop (mkF m 4 #[.val (.int p1), .val (.int p2), .val .null] [])) _
    refine XS.iloadN X0.here hx rfl (hb hby d19_4) rfl ?_
    show Steps p.tables e below (s₁.setTop (mkF m 5 #[.val (.int p1), .val (.int p2), .val .null] [(.int p1)])) _
    refine XS.iloadN X0.here hx rfl (hb hby d19_5) rfl ?_
    show Steps p.tables e below (s₁.setTop (mkF m 6 #[.val (.int p1), .val (.int p2), .val .null] [(.int p2), (.int p1)])) _
    refine XS.icmpYes X0.here hx rfl (pc0 := 6) (pc' := 16) rfl (hb hby d19_6) rfl (tlt (hj.2 : p1 < p2)).1 (by decide) (by decide) ?_
    show Steps p.tables e below (s₁.setTop (mkF m 16 #[.val (.int p1), .val (.int p2), .val .null] [])) _
    refine XS.iloadN X0.here hx rfl (hb hby d19_16) rfl ?_
    exact kt
  obtain ⟨fs, hrt, hrun, hended, hW, hsame⟩ := X0.leave (v := some (.int p1)) (fun h => by rw [Bd.returns] at h; cases h)
  refine ⟨_, _, pre0 _ (fl28 _ ?_), hrun, hended, _, _, rfl, ?_, ⟨_, rfl⟩, hW, hsame.mono (by decide) (by decide)⟩
  · exact retI X0 hx Bd.returns (hb hby d19_17) hrt
  · show Q19 _ _ _ _ _ _ s₁.heap _
    rw [e0]
    exact ⟨rfl, N0, rfl⟩
theorem ef_18 (m : MethodId) (x0 : Int32) (x1 : Int32) : entryFrame m #[(.int x0), (.int x1)] 2 = mkF m 0 #[.val (.int x0), .val (.int x1)] [] := by first | (simp [entryFrame, mkF, argsToLocals, Value.category]; done) | rfl
def Q18 (Z : State) (p1 : Int32) (p2 : Int32) (h0 : Heap) (n0 : Nat) (v : Option Value) (h : Heap) (L : List Loc) : Prop := v = some (.int p1) ∧ Fr n0 L ∧ h = h0
set_option maxRecDepth 65536 in
set_option maxHeartbeats 40000000 in
theorem rm18 (l : Launch) (Z : State) (a0 : Array Value) (hw : ∀ d ∈ tables_1, d.before a0 Z = true) (ws : List Jvm.Cond) (p1 : Int32) (p2 : Int32) (h0 : Heap) (n0 : Nat) (Z0 : n0 ≤ h0.size) (hj : ¬ p1 < 0 ∧ p1 < p2) :
    MetFree l (⟨"java/util/Objects", "checkIndex", "(II)I"⟩ : MethodName) (head1 (Jvm.Cond.code (⟨"java/util/Objects", "checkIndex", "(II)I"⟩ : MethodName) jdk_31_method_17_code 2 (some .int) :: ws) ({ frames := 1, cells := 0, slots := 0, locals := 14 } : Room)) (fun a U => a = #[(.int p1), (.int p2)] ∧ Z.Warmed39 U.vm ∧ U.heap = h0) (fun _ _ _ _ _ => True) (fun _ U o U' => ∃ v L, o = .returned v ∧ Q18 Z p1 p2 h0 n0 v U'.heap L ∧ FrameEnd U o U' L ({ frames := 1, cells := 0, slots := 0, locals := 14 } : Room).cells ({ frames := 1, cells := 0, slots := 0, locals := 14 } : Room).slots) := by
  refine MetFree.of_bodySF (plainFor_of_name pn_6) hisR ?_
  intro p e s m args below meth c s₁ Bd hml0 hP hK
  obtain ⟨rfl, hZ, hh⟩ := hP
  have hx := Bd.exec
  have hby := Bd.bytes
  have hml : c.maxLocals = 2 := hml0
  have hown : s.vm.findClass "java/util/Objects" = some m.cls := findClass_of_methodNamed Bd.named
  have hnm := (name_of_methodNamed Bd.named Bd.method).1
  have X0 : Stand p l e ({ frames := 1, cells := 0, slots := 0, locals := 14 } : Room) s m #[(.int p1), (.int p2)] below meth c s₁ [] 0 0 := Stand.of_body Bd
  have e0 : s₁.heap = h0 := by rw [← hh, Bd.state]; rfl
  have N0 := Fr.nil n0
  have pre0 : ∀ t, Steps p.tables e below (s₁.setTop (mkF m 0 #[.val (.int p1), .val (.int p2)] [])) t → Steps p.tables e below (s₁.setTop (entryFrame m #[(.int p1), (.int p2)] 2)) t := fun t k => castTop (ef_18 m p1 p2) k
  obtain ⟨_, _, ⟨T29, L29, k29, n29⟩, -, X29, ⟨Lc29, hQ29, l29, y29, z29⟩, st29⟩ := Jvm.LawKit.callS X0 hx (y := (⟨"jdk/internal/util/Preconditions", "checkIndex", "(IILjava/util/function/BiFunction;)I"⟩ : MethodName)) hown (mvT hZ (hw _ (List.mem_of_getElem? (i := 117) rfl))) (mvT hZ (hw _ (List.mem_of_getElem? (i := 118) rfl))) (mvT hZ (hw _ (List.mem_of_getElem? (i := 119) rfl))) (mvT hZ (hw _ (List.mem_of_getElem? (i := 120) rfl))) (by decide) (backOf (W := 0) (rm19 l Z a0 hw [] p1 p2  h0 n0 Z0 hj) hZ (hw _ (List.mem_of_getElem? (i := 120) rfl)) (hw _ (List.mem_of_getElem? (i := 119) rfl)) (by decide) (by decide)) (g := (mkF m 3 #[.val (.int p1), .val (.int p2)] [.null, (.int p2), (.int p1)])) rfl (by rw [hml]; rfl) (argsL := [(.int p1), (.int p2), .null]) (rest := []) (lenOf pd_1 rfl) rfl (by show 2 * 0 + _ ≤ _; exact Nat.le_of_eq rfl) (hb hby d18_3) (fun _ _ => ⟨rfl, e0, (by decide : 0 + 0 ≤ _), (by decide : 0 + 0 ≤ _)⟩)
  dsimp only [Pt.U, Pt.locs, Pt.cells, Pt.slots] at X29 l29 y29 z29 st29 hQ29
  subst l29 y29 z29
  obtain ⟨rfl, N29q, he29⟩ := hQ29
  have N29 := Fr.app N0 N29q
  have fl30 : ∀ target, Steps p.tables e below (T29.setTop (mkF m 6 #[.val (.int p1), .val (.int p2)] [(.int p1)])) target → Steps p.tables e below (s₁.setTop (mkF m 0 #[.val (.int p1), .val (.int p2)] [])) target := fun target kt => by
    show Steps p.tables e below (s₁.setTop (mkF m 0 #[.val (.int p1), .val (.int p2)] [])) _
    refine XS.iloadN X0.here hx rfl (hb hby d18_0) rfl ?_
    show Steps p.tables e below (s₁.setTop (mkF m 1 #[.val (.int p1), .val (.int p2)] [(.int p1)])) _
    refine XS.iloadN X0.here hx rfl (hb hby d18_1) rfl ?_
    show Steps p.tables e below (s₁.setTop (mkF m 2 #[.val (.int p1), .val (.int p2)] [(.int p2), (.int p1)])) _
    refine XS.aconstNull X0.here hx rfl (hb hby d18_2) ?_
    show Steps p.tables e below (s₁.setTop (mkF m 3 #[.val (.int p1), .val (.int p2)] [.null, (.int p2), (.int p1)])) _
    refine st29 _ ?_
    exact kt
  obtain ⟨fs, hrt, hrun, hended, hW, hsame⟩ := X29.leave (v := some (.int p1)) (fun h => by rw [Bd.returns] at h; cases h)
  refine ⟨_, _, pre0 _ (fl30 _ ?_), hrun, hended, _, _, rfl, ?_, ⟨_, rfl⟩, hW, hsame.mono (by decide) (by decide)⟩
  · exact retI X29 hx Bd.returns (hb hby d18_6) hrt
  · show Q18 _ _ _ _ _ _ T29.heap _
    exact ⟨rfl, N29, he29⟩
theorem ef_20 (m : MethodId) (x0 : Addr) (x1 : Int32) : entryFrame m #[(.ref x0), (.int x1)] 2 = mkF m 0 #[.val (.ref x0), .val (.int x1)] [] := by first | (simp [entryFrame, mkF, argsToLocals, Value.category]; done) | rfl
def Q20 (Z : State) (a1 : Addr) (p2 : Int32) (ed : Addr) (sz : Int32) (mc : Int32) (kE : ClassId) (blk : Addr) (h0 : Heap) (n0 : Nat) (v : Option Value) (h : Heap) (L : List Loc) : Prop := v = some (.ref blk) ∧ Fr n0 L ∧ h = h0
set_option maxRecDepth 65536 in
set_option maxHeartbeats 40000000 in
theorem rm20 (l : Launch) (Z : State) (a0 : Array Value) (hw : ∀ d ∈ tables_1, d.before a0 Z = true) (ws : List Jvm.Cond) (a1 : Addr) (p2 : Int32) (ed : Addr) (sz : Int32) (mc : Int32) (kE : ClassId) (blk : Addr) (h0 : Heap) (n0 : Nat) (Z0 : n0 ≤ h0.size) (hp2 : p2 = 0) (O : own_AL Z h0 a1 ed sz mc) (Ve : Arv Z h0 ed kE (.object "java/lang/Object") (10 : Int32) [.ref blk] .null) :
    MetFree l (⟨"java/util/ArrayList", "elementData", "(I)Ljava/lang/Object;"⟩ : MethodName) (head1 (Jvm.Cond.code (⟨"java/util/ArrayList", "elementData", "(I)Ljava/lang/Object;"⟩ : MethodName) jdk_38_method_18_code 2 (some (.object "java/lang/Object")) :: ws) ({ frames := 0, cells := 0, slots := 0, locals := 0 } : Room)) (fun a U => a = #[(.ref a1), (.int p2)] ∧ Z.Warmed39 U.vm ∧ U.heap = h0) (fun _ _ _ _ _ => True) (fun _ U o U' => ∃ v L, o = .returned v ∧ Q20 Z a1 p2 ed sz mc kE blk h0 n0 v U'.heap L ∧ FrameEnd U o U' L ({ frames := 0, cells := 0, slots := 0, locals := 0 } : Room).cells ({ frames := 0, cells := 0, slots := 0, locals := 0 } : Room).slots) := by
  refine MetFree.of_bodySF (plainFor_of_name pn_3) hisR ?_
  intro p e s m args below meth c s₁ Bd hml0 hP hK
  obtain ⟨rfl, hZ, hh⟩ := hP
  have hx := Bd.exec
  have hby := Bd.bytes
  have hml : c.maxLocals = 2 := hml0
  have hown : s.vm.findClass "java/util/ArrayList" = some m.cls := findClass_of_methodNamed Bd.named
  have hnm := (name_of_methodNamed Bd.named Bd.method).1
  have X0 : Stand p l e ({ frames := 0, cells := 0, slots := 0, locals := 0 } : Room) s m #[(.ref a1), (.int p2)] below meth c s₁ [] 0 0 := Stand.of_body Bd
  have e0 : s₁.heap = h0 := by rw [← hh, Bd.state]; rfl
  have N0 := Fr.nil n0
  have pre0 : ∀ t, Steps p.tables e below (s₁.setTop (mkF m 0 #[.val (.ref a1), .val (.int p2)] [])) t → Steps p.tables e below (s₁.setTop (entryFrame m #[(.ref a1), (.int p2)] 2)) t := fun t k => castTop (ef_20 m a1 p2) k
  subst hp2
  obtain ⟨clx, Ar, -, Sz, Nz, Hv, -⟩ := id Ve
  have hin : ¬ ((0 : Int32) < 0 ∨ clx.slots.size ≤ (0 : Int32).toNatClampNeg) := inb_of Sz ⟨by decide, by decide⟩
  have hat := Hv.at (v := .ref blk) hin rfl
  obtain ⟨T31, X31, e31, st31⟩ := getF X0 hx hZ hown (host := "") (Or.inl (hw _ (List.mem_of_getElem? (i := 36) rfl))) Via.refl e0 O.2.2.1 (g := (mkF m 1 #[.val (.ref a1), .val (.int (0 : Int32))] [(.ref a1)])) rfl rfl (hb hby d20_1)
  have fl32 : ∀ target, Steps p.tables e below (T31.setTop (mkF m 6 #[.val (.ref a1), .val (.int (0 : Int32))] [(.ref blk)])) target → Steps p.tables e below (s₁.setTop (mkF m 0 #[.val (.ref a1), .val (.int (0 : Int32))] [])) target := fun target kt => by
    show Steps p.tables e below (s₁.setTop (mkF m 0 #[.val (.ref a1), .val (.int (0 : Int32))] [])) _
    refine XS.aloadN X0.here hx rfl (hb hby d20_0) rfl rfl ?_
    show Steps p.tables e below (s₁.setTop (mkF m 1 #[.val (.ref a1), .val (.int (0 : Int32))] [(.ref a1)])) _
    refine st31 _ ?_
    show Steps p.tables e below (T31.setTop (mkF m 4 #[.val (.ref a1), .val (.int (0 : Int32))] [(.ref ed)])) _
    refine XS.iloadN X31.here hx rfl (hb hby d20_4) rfl ?_
    show Steps p.tables e below (T31.setTop (mkF m 5 #[.val (.ref a1), .val (.int (0 : Int32))] [(.int (0 : Int32)), (.ref ed)])) _
    refine X31.aaload hx (j := (0 : Int32)) (v := (.ref blk)) (by rw [e31]; exact Ar.1) (State.isArrayOf_alike hZ.alike Ar.2.1) rfl Ar.2.2 hin hat (g := (mkF m 5 #[.val (.ref a1), .val (.int (0 : Int32))] [(.int (0 : Int32)), (.ref ed)])) rfl rfl (hb hby d20_5) _ ?_
    exact kt
  obtain ⟨fs, hrt, hrun, hended, hW, hsame⟩ := X31.leave (v := some (.ref blk)) (fun h => by rw [Bd.returns] at h; cases h)
  refine ⟨_, _, pre0 _ (fl32 _ ?_), hrun, hended, _, _, rfl, ?_, ⟨_, rfl⟩, hW, hsame.mono (by decide) (by decide)⟩
  · jvm_step X31.here [X31.here.top, hx, (hb hby d20_6), X31.method', Bd.returns, Value.isRef, FieldType.isReference]
    first | (intro acts; rw [hrt _ acts rfl rfl rfl]) | rw [hrt _ _ rfl rfl rfl]
    exact Steps.refl _
  · show Q20 _ _ _ _ _ _ _ _ _ _ _ T31.heap _
    rw [e31]
    exact ⟨rfl, N0, rfl⟩
theorem ef_17 (m : MethodId) (x0 : Addr) (x1 : Int32) : entryFrame m #[(.ref x0), (.int x1)] 2 = mkF m 0 #[.val (.ref x0), .val (.int x1)] [] := by first | (simp [entryFrame, mkF, argsToLocals, Value.category]; done) | rfl
def Q17 (Z : State) (a1 : Addr) (p2 : Int32) (ed : Addr) (mc : Int32) (kE : ClassId) (blk : Addr) (h0 : Heap) (n0 : Nat) (v : Option Value) (h : Heap) (L : List Loc) : Prop := v = some (.ref blk) ∧ Fr n0 L ∧ h = h0
set_option maxRecDepth 65536 in
set_option maxHeartbeats 40000000 in
theorem rm17 (l : Launch) (Z : State) (a0 : Array Value) (hw : ∀ d ∈ tables_1, d.before a0 Z = true) (ws : List Jvm.Cond) (a1 : Addr) (p2 : Int32) (ed : Addr) (mc : Int32) (kE : ClassId) (blk : Addr) (h0 : Heap) (n0 : Nat) (Z0 : n0 ≤ h0.size) (hp2 : p2 = 0) (O : own_AL Z h0 a1 ed 1 mc) (Ve : Arv Z h0 ed kE (.object "java/lang/Object") (10 : Int32) [.ref blk] .null) :
    MetFree l (⟨"java/util/ArrayList", "get", "(I)Ljava/lang/Object;"⟩ : MethodName) (head1 (Jvm.Cond.code (⟨"java/util/ArrayList", "get", "(I)Ljava/lang/Object;"⟩ : MethodName) jdk_38_method_20_code 2 (some (.object "java/lang/Object")) :: ws) ({ frames := 2, cells := 0, slots := 0, locals := 27 } : Room)) (fun a U => a = #[(.ref a1), (.int p2)] ∧ Z.Warmed39 U.vm ∧ U.heap = h0) (fun _ _ _ _ _ => True) (fun _ U o U' => ∃ v L, o = .returned v ∧ Q17 Z a1 p2 ed mc kE blk h0 n0 v U'.heap L ∧ FrameEnd U o U' L ({ frames := 2, cells := 0, slots := 0, locals := 27 } : Room).cells ({ frames := 2, cells := 0, slots := 0, locals := 27 } : Room).slots) := by
  refine MetFree.of_bodySF (plainFor_of_name pn_3) hisR ?_
  intro p e s m args below meth c s₁ Bd hml0 hP hK
  obtain ⟨rfl, hZ, hh⟩ := hP
  have hx := Bd.exec
  have hby := Bd.bytes
  have hml : c.maxLocals = 2 := hml0
  have hown : s.vm.findClass "java/util/ArrayList" = some m.cls := findClass_of_methodNamed Bd.named
  have hnm := (name_of_methodNamed Bd.named Bd.method).1
  have X0 : Stand p l e ({ frames := 2, cells := 0, slots := 0, locals := 27 } : Room) s m #[(.ref a1), (.int p2)] below meth c s₁ [] 0 0 := Stand.of_body Bd
  have e0 : s₁.heap = h0 := by rw [← hh, Bd.state]; rfl
  have N0 := Fr.nil n0
  have pre0 : ∀ t, Steps p.tables e below (s₁.setTop (mkF m 0 #[.val (.ref a1), .val (.int p2)] [])) t → Steps p.tables e below (s₁.setTop (entryFrame m #[(.ref a1), (.int p2)] 2)) t := fun t k => castTop (ef_17 m a1 p2) k
  subst hp2
  obtain ⟨T33, X33, e33, st33⟩ := getF X0 hx hZ hown (host := "") (Or.inl (hw _ (List.mem_of_getElem? (i := 66) rfl))) Via.refl e0 O.2.2.2 (g := (mkF m 2 #[.val (.ref a1), .val (.int (0 : Int32))] [(.ref a1), (.int (0 : Int32))])) rfl rfl (hb hby d17_2)
  obtain ⟨_, _, ⟨T34, L34, k34, n34⟩, -, X34, ⟨Lc34, hQ34, l34, y34, z34⟩, st34⟩ := Jvm.LawKit.callS X33 hx (y := (⟨"java/util/Objects", "checkIndex", "(II)I"⟩ : MethodName)) hown (mvT hZ (hw _ (List.mem_of_getElem? (i := 113) rfl))) (mvT hZ (hw _ (List.mem_of_getElem? (i := 114) rfl))) (mvT hZ (hw _ (List.mem_of_getElem? (i := 115) rfl))) (mvT hZ (hw _ (List.mem_of_getElem? (i := 116) rfl))) (by decide) (backOf (W := 0) (rm18 l Z a0 hw [] (0 : Int32) (1 : Int32)  h0 n0 Z0 ⟨by decide, by decide⟩) hZ (hw _ (List.mem_of_getElem? (i := 116) rfl)) (hw _ (List.mem_of_getElem? (i := 115) rfl)) (by decide) (by decide)) (g := (mkF m 5 #[.val (.ref a1), .val (.int (0 : Int32))] [(.int (1 : Int32)), (.int (0 : Int32))])) rfl (by rw [hml]; rfl) (argsL := [(.int (0 : Int32)), (.int (1 : Int32))]) (rest := []) (lenOf pd_2 rfl) rfl (by show 2 * 0 + _ ≤ _; exact Nat.le_of_eq rfl) (hb hby d17_5) (fun _ _ => ⟨rfl, e33, (by decide : 0 + 0 ≤ _), (by decide : 0 + 0 ≤ _)⟩)
  dsimp only [Pt.U, Pt.locs, Pt.cells, Pt.slots] at X34 l34 y34 z34 st34 hQ34
  subst l34 y34 z34
  obtain ⟨rfl, N34q, he34⟩ := hQ34
  have N34 := Fr.app N0 N34q
  have Kc34 : Keep h0 T34.heap [] := by rw [he34]; exact Keep.refl _ _
  have O_1_34 := O.1.keep Kc34
  have O_2_1_34 := O.2.1.keep Kc34 nin0
  have O_2_2_1_34 := O.2.2.1.keep Kc34 nin0
  have O_2_2_2_34 := O.2.2.2.keep Kc34 nin0
  have Ve_34 := Ve.keep Kc34 nin0
  have O_34 := O.keep Kc34 nin0
  have K34 : Keep h0 T34.heap [] := (Keep.refl h0 []).trans Kc34 all0
  have z34z : n0 ≤ T34.heap.size := Nat.le_trans Z0 Kc34.1
  obtain ⟨cq35, kq35, q35a, q35b, q35c⟩ := isOf hZ rfl O_1_34
  obtain ⟨_, _, ⟨T35, L35, k35, n35⟩, -, X35, ⟨Lc35, hQ35, l35, y35, z35⟩, st35⟩ := X34.virtualBack hx (y := (⟨"java/util/ArrayList", "elementData", "(I)Ljava/lang/Object;"⟩ : MethodName)) (z := (⟨"java/util/ArrayList", "elementData", "(I)Ljava/lang/Object;"⟩ : MethodName)) hown (mvT hZ (hw _ (List.mem_of_getElem? (i := 121) rfl))) (mvT hZ (hw _ (List.mem_of_getElem? (i := 122) rfl))) (notFace_of_selects (args := #[]) (mvT hZ (hw _ (List.mem_of_getElem? (i := 124) rfl)))) (mvT hZ (hw _ (List.mem_of_getElem? (i := 124) rfl))) (mvT hZ (hw _ (List.mem_of_getElem? (i := 123) rfl))) (by decide) (backOf (W := 0) (rm20 l Z a0 hw [] a1 (0 : Int32) ed 1 mc kE blk T34.heap n0 z34z rfl O_34 Ve_34) hZ (hw _ (List.mem_of_getElem? (i := 125) rfl)) (hw _ (List.mem_of_getElem? (i := 16) rfl)) (by decide) (by decide)) q35a q35c (g := (mkF m 11 #[.val (.ref a1), .val (.int (0 : Int32))] [(.int (0 : Int32)), (.ref a1)])) rfl (by rw [hml]; rfl) (Steps.refl _) (argsL := [(.int (0 : Int32))]) (rest := []) (lenOf pd_3 rfl) rfl (by show 2 * 0 + _ ≤ _; exact Nat.le_of_eq rfl) (hb hby d17_11) (fun _ _ => ⟨rfl, rfl, (by decide : 0 + 0 ≤ _), (by decide : 0 + 0 ≤ _)⟩)
  dsimp only [Pt.U, Pt.locs, Pt.cells, Pt.slots] at X35 l35 y35 z35 st35 hQ35
  subst l35 y35 z35
  obtain ⟨rfl, N35q, he35⟩ := hQ35
  have N35 := Fr.app N34 N35q
  have fl36 : ∀ target, Steps p.tables e below (T35.setTop (mkF m 14 #[.val (.ref a1), .val (.int (0 : Int32))] [(.ref blk)])) target → Steps p.tables e below (s₁.setTop (mkF m 0 #[.val (.ref a1), .val (.int (0 : Int32))] [])) target := fun target kt => by
    show Steps p.tables e below (s₁.setTop (mkF m 0 #[.val (.ref a1), .val (.int (0 : Int32))] [])) _
    refine XS.iloadN X0.here hx rfl (hb hby d17_0) rfl ?_
    show Steps p.tables e below (s₁.setTop (mkF m 1 #[.val (.ref a1), .val (.int (0 : Int32))] [(.int (0 : Int32))])) _
    refine XS.aloadN X0.here hx rfl (hb hby d17_1) rfl rfl ?_
    show Steps p.tables e below (s₁.setTop (mkF m 2 #[.val (.ref a1), .val (.int (0 : Int32))] [(.ref a1), (.int (0 : Int32))])) _
    refine st33 _ ?_
    show Steps p.tables e below (T33.setTop (mkF m 5 #[.val (.ref a1), .val (.int (0 : Int32))] [(.int (1 : Int32)), (.int (0 : Int32))])) _
    refine st34 _ ?_
    show Steps p.tables e below (T34.setTop (mkF m 8 #[.val (.ref a1), .val (.int (0 : Int32))] [(.int (0 : Int32))])) _
    refine XS.pop X34.here hx rfl (hb hby d17_8) rfl rfl ?_
    show Steps p.tables e below (T34.setTop (mkF m 9 #[.val (.ref a1), .val (.int (0 : Int32))] [])) _
    refine XS.aloadN X34.here hx rfl (hb hby d17_9) rfl rfl ?_
    show Steps p.tables e below (T34.setTop (mkF m 10 #[.val (.ref a1), .val (.int (0 : Int32))] [(.ref a1)])) _
    refine XS.iloadN X34.here hx rfl (hb hby d17_10) rfl ?_
    show Steps p.tables e below (T34.setTop (mkF m 11 #[.val (.ref a1), .val (.int (0 : Int32))] [(.int (0 : Int32)), (.ref a1)])) _
    refine st35.trans ?_
    exact kt
  obtain ⟨fs, hrt, hrun, hended, hW, hsame⟩ := X35.leave (v := some (.ref blk)) (fun h => by rw [Bd.returns] at h; cases h)
  refine ⟨_, _, pre0 _ (fl36 _ ?_), hrun, hended, _, _, rfl, ?_, ⟨_, rfl⟩, hW, hsame.mono (by decide) (by decide)⟩
  · jvm_step X35.here [X35.here.top, hx, (hb hby d17_14), X35.method', Bd.returns, Value.isRef, FieldType.isReference]
    first | (intro acts; rw [hrt _ acts rfl rfl rfl]) | rw [hrt _ _ rfl rfl rfl]
    exact Steps.refl _
  · show Q17 _ _ _ _ _ _ _ _ _ _ T35.heap _
    exact ⟨rfl, N35, he35.trans he34⟩
theorem ef_16 (m : MethodId) (x0 : Addr) (x1 : Int32) : entryFrame m #[(.ref x0), (.int x1)] 4 = mkF m 0 #[.val (.ref x0), .val (.int x1), .unset, .unset] [] := by first | (simp [entryFrame, mkF, argsToLocals, Value.category]; done) | rfl
def Q16 (Z : State) (a1 : Addr) (p2 : Int32) (d0 : Addr) (kD : ClassId) (mc : Int32) (h0 : Heap) (n0 : Nat) (v : Option Value) (h : Heap) (L : List Loc) : Prop := ∃ (ed : Addr) (kE : ClassId), v = some (.ref ed) ∧ Fr n0 L ∧ Keep h0 h [a1] ∧ own_AL Z h a1 ed 0 mc ∧ Arv Z h ed kE (.object "java/lang/Object") (10 : Int32) [] .null ∧ Ovr Z kE "java/lang/Object" ∧ h0.size ≤ ed ∧ n0 ≤ ed
set_option maxRecDepth 65536 in
set_option maxHeartbeats 40000000 in
theorem rm16 (l : Launch) (Z : State) (a0 : Array Value) (hw : ∀ d ∈ tables_1, d.before a0 Z = true) (ws : List Jvm.Cond) (a1 : Addr) (p2 : Int32) (d0 : Addr) (kD : ClassId) (mc : Int32) (h0 : Heap) (n0 : Nat) (Z0 : n0 ≤ h0.size) (hp2 : p2 = 1) (Dz : own_D Z d0 kD) (Ol : Old Z n0 h0) (O : own_AL Z h0 a1 d0 0 mc) (g_a1 : n0 ≤ a1) :
    MetFree l (⟨"java/util/ArrayList", "grow", "(I)[Ljava/lang/Object;"⟩ : MethodName) (head1 (Jvm.Cond.code (⟨"java/util/ArrayList", "grow", "(I)[Ljava/lang/Object;"⟩ : MethodName) jdk_38_method_6_code 4 (some (.array (.object "java/lang/Object"))) :: ws) ({ frames := 1, cells := 1, slots := 10, locals := 14 } : Room)) (fun a U => a = #[(.ref a1), (.int p2)] ∧ Z.Warmed39 U.vm ∧ U.heap = h0) (fun _ _ _ _ _ => True) (fun _ U o U' => ∃ v L, o = .returned v ∧ Q16 Z a1 p2 d0 kD mc h0 n0 v U'.heap L ∧ FrameEnd U o U' L ({ frames := 1, cells := 1, slots := 10, locals := 14 } : Room).cells ({ frames := 1, cells := 1, slots := 10, locals := 14 } : Room).slots) := by
  refine MetFree.of_bodySF (plainFor_of_name pn_3) hisR ?_
  intro p e s m args below meth c s₁ Bd hml0 hP hK
  obtain ⟨rfl, hZ, hh⟩ := hP
  have hx := Bd.exec
  have hby := Bd.bytes
  have hml : c.maxLocals = 4 := hml0
  have hown : s.vm.findClass "java/util/ArrayList" = some m.cls := findClass_of_methodNamed Bd.named
  have hnm := (name_of_methodNamed Bd.named Bd.method).1
  have X0 : Stand p l e ({ frames := 1, cells := 1, slots := 10, locals := 14 } : Room) s m #[(.ref a1), (.int p2)] below meth c s₁ [] 0 0 := Stand.of_body Bd
  have e0 : s₁.heap = h0 := by rw [← hh, Bd.state]; rfl
  have N0 := Fr.nil n0
  have pre0 : ∀ t, Steps p.tables e below (s₁.setTop (mkF m 0 #[.val (.ref a1), .val (.int p2), .unset, .unset] [])) t → Steps p.tables e below (s₁.setTop (entryFrame m #[(.ref a1), (.int p2)] 4)) t := fun t k => castTop (ef_16 m a1 p2) k
  subst hp2
  have Sd := Dz.1.ext Ol.2
  have Vd := Dz.2.ext Ol.2
  obtain ⟨clx, Ar, -, Sz, Nz, -, -⟩ := id Vd
  obtain ⟨T37, X37, e37, st37⟩ := getF X0 hx hZ hown (host := "") (Or.inl (hw _ (List.mem_of_getElem? (i := 36) rfl))) Via.refl e0 O.2.2.1 (g := (mkF m 1 #[.val (.ref a1), .val (.int (1 : Int32)), .unset, .unset] [(.ref a1)])) rfl rfl (hb hby d16_1)
  obtain ⟨T38, X38, e38, st38⟩ := getF X37 hx hZ hown (host := "") (Or.inl (hw _ (List.mem_of_getElem? (i := 36) rfl))) Via.refl e37 O.2.2.1 (g := (mkF m 11 #[.val (.ref a1), .val (.int (1 : Int32)), .val (.int (0 : Int32)), .unset] [(.ref a1)])) rfl rfl (hb hby d16_11)
  obtain ⟨T39, X39, e39, st39⟩ := getS2 X38 hx hZ hown (host := "") (Or.inl (hw _ (List.mem_of_getElem? (i := 35) rfl))) Via.refl e38 Sd (g := (mkF m 14 #[.val (.ref a1), .val (.int (1 : Int32)), .val (.int (0 : Int32)), .unset] [(.ref d0)])) rfl (hb hby d16_14)
  obtain ⟨_, _, ⟨T40, L40, k40, n40⟩, -, X40, ⟨Lc40, hQ40, l40, y40, z40⟩, st40⟩ := Jvm.LawKit.callS X39 hx (y := (⟨"java/lang/Math", "max", "(II)I"⟩ : MethodName)) hown (mvT hZ (hw _ (List.mem_of_getElem? (i := 101) rfl))) (mvT hZ (hw _ (List.mem_of_getElem? (i := 69) rfl))) (mvT hZ (hw _ (List.mem_of_getElem? (i := 70) rfl))) (mvT hZ (hw _ (List.mem_of_getElem? (i := 71) rfl))) (by decide) (backOf (W := 1) (rm11 l Z a0 hw [] (10 : Int32) (1 : Int32) (10 : Int32) h0 n0 Z0 (by decide)) hZ (hw _ (List.mem_of_getElem? (i := 71) rfl)) (hw _ (List.mem_of_getElem? (i := 70) rfl)) (by decide) (by decide)) (g := (mkF m 49 #[.val (.ref a1), .val (.int (1 : Int32)), .val (.int (0 : Int32)), .unset] [(.int (1 : Int32)), (.int (10 : Int32)), (.ref a1)])) rfl (by rw [hml]; rfl) (argsL := [(.int (10 : Int32)), (.int (1 : Int32))]) (rest := [(.ref a1)]) (lenOf pd_2 rfl) rfl (by show 2 * 0 + _ ≤ _; exact Nat.le_of_eq rfl) (hb hby d16_49) (fun _ _ => ⟨rfl, e39, (by decide : 0 + 0 ≤ _), (by decide : 0 + 0 ≤ _)⟩)
  dsimp only [Pt.U, Pt.locs, Pt.cells, Pt.slots] at X40 l40 y40 z40 st40 hQ40
  subst l40 y40 z40
  obtain ⟨rfl, N40q, he40⟩ := hQ40
  have N40 := Fr.app N0 N40q
  have Kc40 : Keep h0 T40.heap [] := by rw [he40]; exact Keep.refl _ _
  have O_1_40 := O.1.keep Kc40
  have O_2_1_40 := O.2.1.keep Kc40 nin0
  have O_2_2_1_40 := O.2.2.1.keep Kc40 nin0
  have O_2_2_2_40 := O.2.2.2.keep Kc40 nin0
  have Ol_40 := Ol.keep Kc40 all0
  have K40 : Keep h0 T40.heap [a1] := (Keep.refl h0 [a1]).trans Kc40 all0
  have z40z : n0 ≤ T40.heap.size := Nat.le_trans Z0 Kc40.1
  obtain ⟨T41, h41, k41, X41, e41, E41, A41, O41, st41⟩ := newR X40 hx hZ hown (hw _ (List.mem_of_getElem? (i := 102) rfl)) (hw _ (List.mem_of_getElem? (i := 103) rfl)) rfl (g := (mkF m 52 #[.val (.ref a1), .val (.int (1 : Int32)), .val (.int (0 : Int32)), .unset] [(.int (10 : Int32)), (.ref a1)])) rfl (hb hby d16_52) rfl (by decide) (cap := 10) (by decide) (by decide) (by decide) (by decide)
  obtain ⟨b41, g41⟩ : ∃ z, z = T40.heap.size := ⟨_, rfl⟩
  rw [← g41] at A41 st41
  have ne_a1_b41 : a1 ≠ b41 := Nat.ne_of_lt (by rw [g41]; exact O_1_40.lt)
  have g_b41 : n0 ≤ b41 := Nat.le_trans z40z (Nat.le_of_eq g41.symm)
  have sz_b41 : h0.size ≤ b41 := Nat.le_trans K40.1 (Nat.le_of_eq g41.symm)
  have O_1_41 := O_1_40.ext E41
  have O_2_1_41 := O_2_1_40.ext E41
  have O_2_2_1_41 := O_2_2_1_40.ext E41
  have O_2_2_2_41 := O_2_2_2_40.ext E41
  have Ol_41 := Ol_40.ext E41
  have V41 := Arv.new A41 (by decide)
  have K41 : Keep h0 h41 [a1] := K40.ext E41
  have z41 : n0 ≤ h41.size := Nat.le_trans z40z E41.1
  obtain ⟨T42, h42, X42, e42, W42, st42⟩ := putF X41 hx hZ hown (host := "") (Or.inl (hw _ (List.mem_of_getElem? (i := 36) rfl))) Via.refl e41 O_2_2_1_41 O_1_41 (Or.inl (hw _ (List.mem_of_getElem? (i := 37) rfl))) (hw _ (List.mem_of_getElem? (i := 15) rfl)) (ty := (.array (.object "java/lang/Object"))) (by decide) rfl rfl (g := (mkF m 56 #[.val (.ref a1), .val (.int (1 : Int32)), .val (.int (0 : Int32)), .unset] [(.ref b41), (.ref a1), (.ref b41)])) rfl rfl (hb hby d16_56)
  have Fw42 := O_2_2_1_41.same W42
  have O_1_42 := O_1_41.wr W42
  have O_2_1_42 := O_2_1_41.other W42 (Or.inr (slot_ne (Or.inl (hw _ (List.mem_of_getElem? (i := 34) rfl))) (Or.inl (hw _ (List.mem_of_getElem? (i := 37) rfl))) (by decide) (t := .int) (t' := (.array (.object "java/lang/Object"))) (by decide) (by decide)))
  have O_2_2_2_42 := O_2_2_2_41.other W42 (Or.inr (slot_ne (Or.inl (hw _ (List.mem_of_getElem? (i := 67) rfl))) (Or.inl (hw _ (List.mem_of_getElem? (i := 37) rfl))) (by decide) (t := .int) (t' := (.array (.object "java/lang/Object"))) (by decide) (by decide)))
  have Ol_42 := Ol_41.wr W42 g_a1
  have V41_42 := V41.other W42 (Ne.symm ne_a1_b41)
  have N42 := Fr.snoc X42 N40 g_a1
  have K42 : Keep h0 h42 [a1] := K41.wr W42 (Or.inl (List.mem_of_getElem? (i := 0) rfl))
  have z42 : n0 ≤ h42.size := Nat.le_trans z41 (Keep.of_wr W42).1
  have fl43 : ∀ target, Steps p.tables e below (T42.setTop (mkF m 59 #[.val (.ref a1), .val (.int (1 : Int32)), .val (.int (0 : Int32)), .unset] [(.ref b41)])) target → Steps p.tables e below (s₁.setTop (mkF m 0 #[.val (.ref a1), .val (.int (1 : Int32)), .unset, .unset] [])) target := fun target kt => by
    show Steps p.tables e below (s₁.setTop (mkF m 0 #[.val (.ref a1), .val (.int (1 : Int32)), .unset, .unset] [])) _
    refine XS.aloadN X0.here hx rfl (hb hby d16_0) rfl rfl ?_
    show Steps p.tables e below (s₁.setTop (mkF m 1 #[.val (.ref a1), .val (.int (1 : Int32)), .unset, .unset] [(.ref a1)])) _
    refine st37 _ ?_
    show Steps p.tables e below (T37.setTop (mkF m 4 #[.val (.ref a1), .val (.int (1 : Int32)), .unset, .unset] [(.ref d0)])) _
    refine X37.arraylength hx (cell := clx) (by rw [e37]; exact Ar.1) (State.isArrayOf_alike hZ.alike Ar.2.1) (g := (mkF m 4 #[.val (.ref a1), .val (.int (1 : Int32)), .unset, .unset] [(.ref d0)])) rfl (rest := []) rfl (hb hby d16_4) _ ?_
    rw [len_of Sz Nz]
    show Steps p.tables e below (T37.setTop (mkF m 5 #[.val (.ref a1), .val (.int (1 : Int32)), .unset, .unset] [(.int (0 : Int32))])) _
    refine XS.istoreN X37.here hx rfl (hb hby d16_5) rfl (l' := #[.val (.ref a1), .val (.int (1 : Int32)), .val (.int (0 : Int32)), .unset]) rfl ?_
    show Steps p.tables e below (T37.setTop (mkF m 6 #[.val (.ref a1), .val (.int (1 : Int32)), .val (.int (0 : Int32)), .unset] [])) _
    refine XS.iloadN X37.here hx rfl (hb hby d16_6) rfl ?_
    show Steps p.tables e below (T37.setTop (mkF m 7 #[.val (.ref a1), .val (.int (1 : Int32)), .val (.int (0 : Int32)), .unset] [(.int (0 : Int32))])) _
    refine XS.ifNo X37.here hx rfl (hb hby d16_7) rfl ((if0 _ _).trans (flt (by decide : ¬ ((0 : Int32) < (0 : Int32)))).2.2.1) ?_
    show Steps p.tables e below (T37.setTop (mkF m 10 #[.val (.ref a1), .val (.int (1 : Int32)), .val (.int (0 : Int32)), .unset] [])) _
    refine XS.aloadN X37.here hx rfl (hb hby d16_10) rfl rfl ?_
    show Steps p.tables e below (T37.setTop (mkF m 11 #[.val (.ref a1), .val (.int (1 : Int32)), .val (.int (0 : Int32)), .unset] [(.ref a1)])) _
    refine st38 _ ?_
    show Steps p.tables e below (T38.setTop (mkF m 14 #[.val (.ref a1), .val (.int (1 : Int32)), .val (.int (0 : Int32)), .unset] [(.ref d0)])) _
    refine st39 _ ?_
    show Steps p.tables e below (T39.setTop (mkF m 17 #[.val (.ref a1), .val (.int (1 : Int32)), .val (.int (0 : Int32)), .unset] [(.ref d0), (.ref d0)])) _
    refine Jvm.RoadKit.acmp (g := (mkF m 17 #[.val (.ref a1), .val (.int (1 : Int32)), .val (.int (0 : Int32)), .unset] [(.ref d0), (.ref d0)])) X39 hx rfl rfl rfl (pc0 := 17) (pc' := 45) (same := true) rfl (hb hby d16_17) rfl (decide_eq_true rfl) (by decide) (by decide) ?_
    show Steps p.tables e below (T39.setTop (mkF m 45 #[.val (.ref a1), .val (.int (1 : Int32)), .val (.int (0 : Int32)), .unset] [])) _
    refine XS.aloadN X39.here hx rfl (hb hby d16_45) rfl rfl ?_
    show Steps p.tables e below (T39.setTop (mkF m 46 #[.val (.ref a1), .val (.int (1 : Int32)), .val (.int (0 : Int32)), .unset] [(.ref a1)])) _
    refine XS.bipush X39.here hx rfl (hb hby d16_46) ?_
    show Steps p.tables e below (T39.setTop (mkF m 48 #[.val (.ref a1), .val (.int (1 : Int32)), .val (.int (0 : Int32)), .unset] [(.int (10 : Int32)), (.ref a1)])) _
    refine XS.iloadN X39.here hx rfl (hb hby d16_48) rfl ?_
    show Steps p.tables e below (T39.setTop (mkF m 49 #[.val (.ref a1), .val (.int (1 : Int32)), .val (.int (0 : Int32)), .unset] [(.int (1 : Int32)), (.int (10 : Int32)), (.ref a1)])) _
    refine st40 _ ?_
    show Steps p.tables e below (T40.setTop (mkF m 52 #[.val (.ref a1), .val (.int (1 : Int32)), .val (.int (0 : Int32)), .unset] [(.int (10 : Int32)), (.ref a1)])) _
    refine st41 _ ?_
    show Steps p.tables e below (T41.setTop (mkF m 55 #[.val (.ref a1), .val (.int (1 : Int32)), .val (.int (0 : Int32)), .unset] [(.ref b41), (.ref a1)])) _
    refine XS.dupX1 X41.here hx rfl (hb hby d16_55) rfl rfl rfl ?_
    show Steps p.tables e below (T41.setTop (mkF m 56 #[.val (.ref a1), .val (.int (1 : Int32)), .val (.int (0 : Int32)), .unset] [(.ref b41), (.ref a1), (.ref b41)])) _
    refine st42 _ ?_
    exact kt
  obtain ⟨fs, hrt, hrun, hended, hW, hsame⟩ := X42.leave (v := some (.ref b41)) (fun h => by rw [Bd.returns] at h; cases h)
  refine ⟨_, _, pre0 _ (fl43 _ ?_), hrun, hended, _, _, rfl, ?_, ⟨_, rfl⟩, hW, hsame.mono (by decide) (by decide)⟩
  · jvm_step X42.here [X42.here.top, hx, (hb hby d16_59), X42.method', Bd.returns, Value.isRef, FieldType.isReference]
    first | (intro acts; rw [hrt _ acts rfl rfl rfl]) | rw [hrt _ _ rfl rfl rfl]
    exact Steps.refl _
  · show Q16 _ _ _ _ _ _ _ _ _ T42.heap _
    rw [e42]
    exact ⟨b41, k41, rfl, N42, K42, ⟨O_1_42, O_2_1_42, Fw42, O_2_2_2_42⟩, V41_42, O41, sz_b41, g_b41⟩
theorem ef_15 (m : MethodId) (x0 : Addr) : entryFrame m #[(.ref x0)] 1 = mkF m 0 #[.val (.ref x0)] [] := by first | (simp [entryFrame, mkF, argsToLocals, Value.category]; done) | rfl
def Q15 (Z : State) (a1 : Addr) (d0 : Addr) (kD : ClassId) (mc : Int32) (h0 : Heap) (n0 : Nat) (v : Option Value) (h : Heap) (L : List Loc) : Prop := ∃ (ed : Addr) (kE : ClassId), v = some (.ref ed) ∧ Fr n0 L ∧ Keep h0 h [a1] ∧ own_AL Z h a1 ed 0 mc ∧ Arv Z h ed kE (.object "java/lang/Object") (10 : Int32) [] .null ∧ Ovr Z kE "java/lang/Object" ∧ h0.size ≤ ed ∧ n0 ≤ ed
set_option maxRecDepth 65536 in
set_option maxHeartbeats 40000000 in
theorem rm15 (l : Launch) (Z : State) (a0 : Array Value) (hw : ∀ d ∈ tables_1, d.before a0 Z = true) (ws : List Jvm.Cond) (a1 : Addr) (d0 : Addr) (kD : ClassId) (mc : Int32) (h0 : Heap) (n0 : Nat) (Z0 : n0 ≤ h0.size) (Dz : own_D Z d0 kD) (Ol : Old Z n0 h0) (O : own_AL Z h0 a1 d0 0 mc) (g_a1 : n0 ≤ a1) :
    MetFree l (⟨"java/util/ArrayList", "grow", "()[Ljava/lang/Object;"⟩ : MethodName) (head1 (Jvm.Cond.code (⟨"java/util/ArrayList", "grow", "()[Ljava/lang/Object;"⟩ : MethodName) jdk_38_method_7_code 1 (some (.array (.object "java/lang/Object"))) :: ws) ({ frames := 2, cells := 1, slots := 10, locals := 29 } : Room)) (fun a U => a = #[(.ref a1)] ∧ Z.Warmed39 U.vm ∧ U.heap = h0) (fun _ _ _ _ _ => True) (fun _ U o U' => ∃ v L, o = .returned v ∧ Q15 Z a1 d0 kD mc h0 n0 v U'.heap L ∧ FrameEnd U o U' L ({ frames := 2, cells := 1, slots := 10, locals := 29 } : Room).cells ({ frames := 2, cells := 1, slots := 10, locals := 29 } : Room).slots) := by
  refine MetFree.of_bodySF (plainFor_of_name pn_3) hisR ?_
  intro p e s m args below meth c s₁ Bd hml0 hP hK
  obtain ⟨rfl, hZ, hh⟩ := hP
  have hx := Bd.exec
  have hby := Bd.bytes
  have hml : c.maxLocals = 1 := hml0
  have hown : s.vm.findClass "java/util/ArrayList" = some m.cls := findClass_of_methodNamed Bd.named
  have hnm := (name_of_methodNamed Bd.named Bd.method).1
  have X0 : Stand p l e ({ frames := 2, cells := 1, slots := 10, locals := 29 } : Room) s m #[(.ref a1)] below meth c s₁ [] 0 0 := Stand.of_body Bd
  have e0 : s₁.heap = h0 := by rw [← hh, Bd.state]; rfl
  have N0 := Fr.nil n0
  have pre0 : ∀ t, Steps p.tables e below (s₁.setTop (mkF m 0 #[.val (.ref a1)] [])) t → Steps p.tables e below (s₁.setTop (entryFrame m #[(.ref a1)] 1)) t := fun t k => castTop (ef_15 m a1) k
  obtain ⟨T44, X44, e44, st44⟩ := getF X0 hx hZ hown (host := "") (Or.inl (hw _ (List.mem_of_getElem? (i := 66) rfl))) Via.refl e0 O.2.2.2 (g := (mkF m 2 #[.val (.ref a1)] [(.ref a1), (.ref a1)])) rfl rfl (hb hby d15_2)
  obtain ⟨cq45, q45, q45'⟩ := O.1.cell
  obtain ⟨_, _, ⟨T45, L45, k45, n45⟩, -, X45, ⟨Lc45, hQ45, l45, y45, z45⟩, st45⟩ := X44.privateBack hx (y := (⟨"java/util/ArrayList", "grow", "(I)[Ljava/lang/Object;"⟩ : MethodName)) hown (mvT hZ (hw _ (List.mem_of_getElem? (i := 96) rfl))) (mvT hZ (hw _ (List.mem_of_getElem? (i := 97) rfl))) (mvT hZ (hw _ (List.mem_of_getElem? (i := 99) rfl))) (Cond.privateMethod_at (mvP hZ (hw _ (List.mem_of_getElem? (i := 98) rfl)) (args := #[]))) (mvT hZ (hw _ (List.mem_of_getElem? (i := 100) rfl))) (by decide) (backOf (W := 0) (rm16 l Z a0 hw [] a1 ((0 : Int32) + (1 : Int32)) d0 kD mc h0 n0 Z0 (by decide) Dz Ol O g_a1) hZ (hw _ (List.mem_of_getElem? (i := 100) rfl)) (hw _ (List.mem_of_getElem? (i := 16) rfl)) (by decide) (by decide)) (g := (mkF m 7 #[.val (.ref a1)] [(.int ((0 : Int32) + (1 : Int32))), (.ref a1)])) rfl (by rw [hml]; rfl) (Steps.refl _) (a := a1) (by rw [e44]; exact q45) q45' (argsL := [(.int ((0 : Int32) + (1 : Int32)))]) (rest := []) (lenOf pd_4 rfl) rfl (by show 2 * 0 + _ ≤ _; exact Nat.le_of_eq rfl) (hb hby d15_7) (fun _ _ => ⟨rfl, e44, (by decide : 0 + 1 ≤ _), (by decide : 0 + 10 ≤ _)⟩)
  dsimp only [Pt.U, Pt.locs, Pt.cells, Pt.slots] at X45 l45 y45 z45 st45 hQ45
  subst l45 y45 z45
  obtain ⟨ed, kE, rfl, N45q, Kc45, ALc, Vc, Oc, szc, gc⟩ := hQ45
  have N45 := Fr.app N0 N45q
  have fl46 : ∀ target, Steps p.tables e below (T45.setTop (mkF m 10 #[.val (.ref a1)] [(.ref ed)])) target → Steps p.tables e below (s₁.setTop (mkF m 0 #[.val (.ref a1)] [])) target := fun target kt => by
    show Steps p.tables e below (s₁.setTop (mkF m 0 #[.val (.ref a1)] [])) _
    refine XS.aloadN X0.here hx rfl (hb hby d15_0) rfl rfl ?_
    show Steps p.tables e below (s₁.setTop (mkF m 1 #[.val (.ref a1)] [(.ref a1)])) _
    refine XS.aloadN X0.here hx rfl (hb hby d15_1) rfl rfl ?_
    show Steps p.tables e below (s₁.setTop (mkF m 2 #[.val (.ref a1)] [(.ref a1), (.ref a1)])) _
    refine st44 _ ?_
    show Steps p.tables e below (T44.setTop (mkF m 5 #[.val (.ref a1)] [(.int (0 : Int32)), (.ref a1)])) _
    refine XS.iconst X44.here hx rfl (hb hby d15_5) ?_
    show Steps p.tables e below (T44.setTop (mkF m 6 #[.val (.ref a1)] [(.int (1 : Int32)), (.int (0 : Int32)), (.ref a1)])) _
    refine XS.iadd X44.here hx rfl (hb hby d15_6) rfl ?_
    show Steps p.tables e below (T44.setTop (mkF m 7 #[.val (.ref a1)] [(.int ((0 : Int32) + (1 : Int32))), (.ref a1)])) _
    refine st45.trans ?_
    exact kt
  obtain ⟨fs, hrt, hrun, hended, hW, hsame⟩ := X45.leave (v := some (.ref ed)) (fun h => by rw [Bd.returns] at h; cases h)
  refine ⟨_, _, pre0 _ (fl46 _ ?_), hrun, hended, _, _, rfl, ?_, ⟨_, rfl⟩, hW, hsame.mono (by decide) (by decide)⟩
  · jvm_step X45.here [X45.here.top, hx, (hb hby d15_10), X45.method', Bd.returns, Value.isRef, FieldType.isReference]
    first | (intro acts; rw [hrt _ acts rfl rfl rfl]) | rw [hrt _ _ rfl rfl rfl]
    exact Steps.refl _
  · show Q15 _ _ _ _ _ _ _ _ T45.heap _
    exact ⟨ed, kE, rfl, N45, Kc45, ALc, Vc, Oc, szc, gc⟩
theorem ef_14 (m : MethodId) (x0 : Addr) (x1 : Addr) (x2 : Addr) (x3 : Int32) : entryFrame m #[(.ref x0), (.ref x1), (.ref x2), (.int x3)] 4 = mkF m 0 #[.val (.ref x0), .val (.ref x1), .val (.ref x2), .val (.int x3)] [] := by first | (simp [entryFrame, mkF, argsToLocals, Value.category]; done) | rfl
def Q14 (Z : State) (a1 : Addr) (a2 : Addr) (a3 : Addr) (p4 : Int32) (d0 : Addr) (kD : ClassId) (mc : Int32) (h0 : Heap) (n0 : Nat) (v : Option Value) (h : Heap) (L : List Loc) : Prop := ∃ (ed : Addr) (kE : ClassId), v = none ∧ Fr n0 L ∧ Keep h0 h [a1] ∧ own_AL Z h a1 ed 1 mc ∧ Arv Z h ed kE (.object "java/lang/Object") (10 : Int32) [.ref a2] .null ∧ h0.size ≤ ed ∧ n0 ≤ ed
set_option maxRecDepth 65536 in
set_option maxHeartbeats 40000000 in
theorem rm14 (l : Launch) (Z : State) (a0 : Array Value) (hw : ∀ d ∈ tables_1, d.before a0 Z = true) (ws : List Jvm.Cond) (a1 : Addr) (a2 : Addr) (a3 : Addr) (p4 : Int32) (d0 : Addr) (kD : ClassId) (mc : Int32) (h0 : Heap) (n0 : Nat) (Z0 : n0 ≤ h0.size) (ha3 : d0 = a3) (hp4 : p4 = 0) (Dz : own_D Z d0 kD) (Ol : Old Z n0 h0) (O : own_AL Z h0 a1 d0 0 mc) (g_a1 : n0 ≤ a1) (E2 : Exa Z h0 a2 "[B") :
    MetFree l (⟨"java/util/ArrayList", "add", "(Ljava/lang/Object;[Ljava/lang/Object;I)V"⟩ : MethodName) (head1 (Jvm.Cond.code (⟨"java/util/ArrayList", "add", "(Ljava/lang/Object;[Ljava/lang/Object;I)V"⟩ : MethodName) jdk_38_method_24_code 4 none :: ws) ({ frames := 3, cells := 1, slots := 10, locals := 41 } : Room)) (fun a U => a = #[(.ref a1), (.ref a2), (.ref a3), (.int p4)] ∧ Z.Warmed39 U.vm ∧ U.heap = h0) (fun _ _ _ _ _ => True) (fun _ U o U' => ∃ v L, o = .returned v ∧ Q14 Z a1 a2 a3 p4 d0 kD mc h0 n0 v U'.heap L ∧ FrameEnd U o U' L ({ frames := 3, cells := 1, slots := 10, locals := 41 } : Room).cells ({ frames := 3, cells := 1, slots := 10, locals := 41 } : Room).slots) := by
  refine MetFree.of_bodySF (plainFor_of_name pn_3) hisR ?_
  intro p e s m args below meth c s₁ Bd hml0 hP hK
  obtain ⟨rfl, hZ, hh⟩ := hP
  have hx := Bd.exec
  have hby := Bd.bytes
  have hml : c.maxLocals = 4 := hml0
  have hown : s.vm.findClass "java/util/ArrayList" = some m.cls := findClass_of_methodNamed Bd.named
  have hnm := (name_of_methodNamed Bd.named Bd.method).1
  have X0 : Stand p l e ({ frames := 3, cells := 1, slots := 10, locals := 41 } : Room) s m #[(.ref a1), (.ref a2), (.ref a3), (.int p4)] below meth c s₁ [] 0 0 := Stand.of_body Bd
  have e0 : s₁.heap = h0 := by rw [← hh, Bd.state]; rfl
  have N0 := Fr.nil n0
  have pre0 : ∀ t, Steps p.tables e below (s₁.setTop (mkF m 0 #[.val (.ref a1), .val (.ref a2), .val (.ref a3), .val (.int p4)] [])) t → Steps p.tables e below (s₁.setTop (entryFrame m #[(.ref a1), (.ref a2), (.ref a3), (.int p4)] 4)) t := fun t k => castTop (ef_14 m a1 a2 a3 p4) k
  subst hp4
  subst ha3
  have Vd := Dz.2.ext Ol.2
  obtain ⟨clx, Ar, -, Sz, Nz, -, -⟩ := id Vd
  obtain ⟨cq47, q47, q47'⟩ := O.1.cell
  obtain ⟨_, _, ⟨T47, L47, k47, n47⟩, -, X47, ⟨Lc47, hQ47, l47, y47, z47⟩, st47⟩ := X0.privateBack hx (y := (⟨"java/util/ArrayList", "grow", "()[Ljava/lang/Object;"⟩ : MethodName)) hown (mvT hZ (hw _ (List.mem_of_getElem? (i := 91) rfl))) (mvT hZ (hw _ (List.mem_of_getElem? (i := 92) rfl))) (mvT hZ (hw _ (List.mem_of_getElem? (i := 94) rfl))) (Cond.privateMethod_at (mvP hZ (hw _ (List.mem_of_getElem? (i := 93) rfl)) (args := #[]))) (mvT hZ (hw _ (List.mem_of_getElem? (i := 95) rfl))) (by decide) (backOf (W := 0) (rm15 l Z a0 hw [] a1 d0 kD mc h0 n0 Z0 Dz Ol O g_a1) hZ (hw _ (List.mem_of_getElem? (i := 95) rfl)) (hw _ (List.mem_of_getElem? (i := 16) rfl)) (by decide) (by decide)) (g := (mkF m 7 #[.val (.ref a1), .val (.ref a2), .val (.ref d0), .val (.int (0 : Int32))] [(.ref a1)])) rfl (by rw [hml]; rfl) (Steps.refl _) (a := a1) (by rw [e0]; exact q47) q47' (argsL := []) (rest := []) (lenOf pd_5 rfl) rfl (by show 2 * 0 + _ ≤ _; exact Nat.le_of_eq rfl) (hb hby d14_7) (fun _ _ => ⟨rfl, e0, (by decide : 0 + 1 ≤ _), (by decide : 0 + 10 ≤ _)⟩)
  dsimp only [Pt.U, Pt.locs, Pt.cells, Pt.slots] at X47 l47 y47 z47 st47 hQ47
  subst l47 y47 z47
  obtain ⟨ed, kE, rfl, N47q, Kc47, ALc, Vc, Oc, szc, gc⟩ := hQ47
  have N47 := Fr.app N0 N47q
  have O_1_47 := O.1.keep Kc47
  have E2_47 := E2.keep Kc47
  have K47 : Keep h0 T47.heap [a1] := (Keep.refl h0 [a1]).trans Kc47 (allS (Or.inl (List.mem_of_getElem? (i := 0) rfl)) (all0))
  have z47z : n0 ≤ T47.heap.size := Nat.le_trans Z0 Kc47.1
  have sz_ed : h0.size ≤ ed := szc
  have g_ed : n0 ≤ ed := gc
  have ne_a1_ed : a1 ≠ ed := Nat.ne_of_lt (Nat.lt_of_lt_of_le O.1.lt szc)
  have Vp : Arv Z T47.heap ed kE (.object "java/lang/Object") (10 : Int32) [.null] .null := Vc.pad (pad_rep [] .null 1)
  obtain ⟨cle, Are, qke, Sze, Nze, Hve, Gve⟩ := id Vp
  have hine : ¬ ((0 : Int32) < 0 ∨ cle.slots.size ≤ (0 : Int32).toNatClampNeg) := inb_of Sze ⟨by decide, by decide⟩
  have Ss := Sto.ofV Are qke Oc (Ins.of_exa E2_47 (hw _ (List.mem_of_getElem? (i := 104) rfl)))
  obtain ⟨T48, h48, X48, e48, W48, st48⟩ := stR X47 hx hZ rfl Are (j := (0 : Int32)) hine rfl Ss (g := (mkF m 14 #[.val (.ref a1), .val (.ref a2), .val (.ref ed), .val (.int (0 : Int32))] [(.ref a2), (.int (0 : Int32)), (.ref ed)])) rfl rfl (hb hby d14_14)
  have ALc_1_48 := ALc.1.wr W48
  have E2_48 := E2_47.wr W48
  have ALc_2_1_48 := ALc.2.1.other W48 (Or.inl ne_a1_ed)
  have ALc_2_2_1_48 := ALc.2.2.1.other W48 (Or.inl ne_a1_ed)
  have ALc_2_2_2_48 := ALc.2.2.2.other W48 (Or.inl ne_a1_ed)
  have N48 := Fr.snoc X48 N47 g_ed
  have K48 : Keep h0 h48 [a1] := K47.wr W48 (Or.inr sz_ed)
  have z48 : n0 ≤ h48.size := Nat.le_trans z47z (Keep.of_wr W48).1
  have Ve : Arv Z h48 ed kE (.object "java/lang/Object") (10 : Int32) [.ref a2] .null := Arv.set Are qke Sze Nze Hve Gve (v := .ref a2) rfl W48 0 rfl (Nat.le_of_ble_eq_true rfl)
  obtain ⟨T49, h49, X49, e49, W49, st49⟩ := putF X48 hx hZ hown (host := "") (Or.inl (hw _ (List.mem_of_getElem? (i := 66) rfl))) Via.refl e48 ALc_2_2_2_48 ALc_1_48 (Or.inl (hw _ (List.mem_of_getElem? (i := 67) rfl))) (hw _ (List.mem_of_getElem? (i := 15) rfl)) (ty := .int) (by decide) rfl rfl (g := (mkF m 19 #[.val (.ref a1), .val (.ref a2), .val (.ref ed), .val (.int (0 : Int32))] [(.int ((0 : Int32) + (1 : Int32))), (.ref a1)])) rfl rfl (hb hby d14_19)
  have Fw49 := ALc_2_2_2_48.same W49
  have ALc_1_49 := ALc_1_48.wr W49
  have E2_49 := E2_48.wr W49
  have ALc_2_1_49 := ALc_2_1_48.other W49 (Or.inr (slot_ne (Or.inl (hw _ (List.mem_of_getElem? (i := 34) rfl))) (Or.inl (hw _ (List.mem_of_getElem? (i := 67) rfl))) (by decide) (t := .int) (t' := .int) (by decide) (by decide)))
  have ALc_2_2_1_49 := ALc_2_2_1_48.other W49 (Or.inr (slot_ne (Or.inl (hw _ (List.mem_of_getElem? (i := 37) rfl))) (Or.inl (hw _ (List.mem_of_getElem? (i := 67) rfl))) (by decide) (t := (.array (.object "java/lang/Object"))) (t' := .int) (by decide) (by decide)))
  have Ve_49 := Ve.other W49 (Ne.symm ne_a1_ed)
  have N49 := Fr.snoc X49 N48 g_a1
  have K49 : Keep h0 h49 [a1] := K48.wr W49 (Or.inl (List.mem_of_getElem? (i := 0) rfl))
  have z49 : n0 ≤ h49.size := Nat.le_trans z48 (Keep.of_wr W49).1
  have fl50 : ∀ target, Steps p.tables e below (T49.setTop (mkF m 22 #[.val (.ref a1), .val (.ref a2), .val (.ref ed), .val (.int (0 : Int32))] [])) target → Steps p.tables e below (s₁.setTop (mkF m 0 #[.val (.ref a1), .val (.ref a2), .val (.ref d0), .val (.int (0 : Int32))] [])) target := fun target kt => by
    show Steps p.tables e below (s₁.setTop (mkF m 0 #[.val (.ref a1), .val (.ref a2), .val (.ref d0), .val (.int (0 : Int32))] [])) _
    refine XS.iloadN X0.here hx rfl (hb hby d14_0) rfl ?_
    show Steps p.tables e below (s₁.setTop (mkF m 1 #[.val (.ref a1), .val (.ref a2), .val (.ref d0), .val (.int (0 : Int32))] [(.int (0 : Int32))])) _
    refine XS.aloadN X0.here hx rfl (hb hby d14_1) rfl rfl ?_
    show Steps p.tables e below (s₁.setTop (mkF m 2 #[.val (.ref a1), .val (.ref a2), .val (.ref d0), .val (.int (0 : Int32))] [(.ref d0), (.int (0 : Int32))])) _
    refine X0.arraylength hx (cell := clx) (by rw [e0]; exact Ar.1) (State.isArrayOf_alike hZ.alike Ar.2.1) (g := (mkF m 2 #[.val (.ref a1), .val (.ref a2), .val (.ref d0), .val (.int (0 : Int32))] [(.ref d0), (.int (0 : Int32))])) rfl (rest := [(.int (0 : Int32))]) rfl (hb hby d14_2) _ ?_
    rw [len_of Sz Nz]
    show Steps p.tables e below (s₁.setTop (mkF m 3 #[.val (.ref a1), .val (.ref a2), .val (.ref d0), .val (.int (0 : Int32))] [(.int (0 : Int32)), (.int (0 : Int32))])) _
    refine XS.icmpNo X0.here hx rfl (hb hby d14_3) rfl (teq (by decide : (0 : Int32) = (0 : Int32))).2 ?_
    show Steps p.tables e below (s₁.setTop (mkF m 6 #[.val (.ref a1), .val (.ref a2), .val (.ref d0), .val (.int (0 : Int32))] [])) _
    refine XS.aloadN X0.here hx rfl (hb hby d14_6) rfl rfl ?_
    show Steps p.tables e below (s₁.setTop (mkF m 7 #[.val (.ref a1), .val (.ref a2), .val (.ref d0), .val (.int (0 : Int32))] [(.ref a1)])) _
    refine st47.trans ?_
    show Steps p.tables e below (T47.setTop (mkF m 10 #[.val (.ref a1), .val (.ref a2), .val (.ref d0), .val (.int (0 : Int32))] [(.ref ed)])) _
    refine XS.astoreN X47.here hx rfl (hb hby d14_10) rfl rfl (l' := #[.val (.ref a1), .val (.ref a2), .val (.ref ed), .val (.int (0 : Int32))]) rfl ?_
    show Steps p.tables e below (T47.setTop (mkF m 11 #[.val (.ref a1), .val (.ref a2), .val (.ref ed), .val (.int (0 : Int32))] [])) _
    refine XS.aloadN X47.here hx rfl (hb hby d14_11) rfl rfl ?_
    show Steps p.tables e below (T47.setTop (mkF m 12 #[.val (.ref a1), .val (.ref a2), .val (.ref ed), .val (.int (0 : Int32))] [(.ref ed)])) _
    refine XS.iloadN X47.here hx rfl (hb hby d14_12) rfl ?_
    show Steps p.tables e below (T47.setTop (mkF m 13 #[.val (.ref a1), .val (.ref a2), .val (.ref ed), .val (.int (0 : Int32))] [(.int (0 : Int32)), (.ref ed)])) _
    refine XS.aloadN X47.here hx rfl (hb hby d14_13) rfl rfl ?_
    show Steps p.tables e below (T47.setTop (mkF m 14 #[.val (.ref a1), .val (.ref a2), .val (.ref ed), .val (.int (0 : Int32))] [(.ref a2), (.int (0 : Int32)), (.ref ed)])) _
    refine st48 _ ?_
    show Steps p.tables e below (T48.setTop (mkF m 15 #[.val (.ref a1), .val (.ref a2), .val (.ref ed), .val (.int (0 : Int32))] [])) _
    refine XS.aloadN X48.here hx rfl (hb hby d14_15) rfl rfl ?_
    show Steps p.tables e below (T48.setTop (mkF m 16 #[.val (.ref a1), .val (.ref a2), .val (.ref ed), .val (.int (0 : Int32))] [(.ref a1)])) _
    refine XS.iloadN X48.here hx rfl (hb hby d14_16) rfl ?_
    show Steps p.tables e below (T48.setTop (mkF m 17 #[.val (.ref a1), .val (.ref a2), .val (.ref ed), .val (.int (0 : Int32))] [(.int (0 : Int32)), (.ref a1)])) _
    refine XS.iconst X48.here hx rfl (hb hby d14_17) ?_
    show Steps p.tables e below (T48.setTop (mkF m 18 #[.val (.ref a1), .val (.ref a2), .val (.ref ed), .val (.int (0 : Int32))] [(.int (1 : Int32)), (.int (0 : Int32)), (.ref a1)])) _
    refine XS.iadd X48.here hx rfl (hb hby d14_18) rfl ?_
    show Steps p.tables e below (T48.setTop (mkF m 19 #[.val (.ref a1), .val (.ref a2), .val (.ref ed), .val (.int (0 : Int32))] [(.int ((0 : Int32) + (1 : Int32))), (.ref a1)])) _
    refine st49 _ ?_
    exact kt
  obtain ⟨fs, hrt, hrun, hended, hW, hsame⟩ := X49.leave (v := none) (fun _ => rfl)
  refine ⟨_, _, pre0 _ (fl50 _ ?_), hrun, hended, _, _, rfl, ?_, ⟨_, rfl⟩, hW, hsame.mono (by decide) (by decide)⟩
  · exact X49.returnOut hx Bd.returns (hb hby d14_22) hrt
  · show Q14 _ _ _ _ _ _ _ _ _ _ _ T49.heap _
    rw [e49]
    exact ⟨ed, kE, rfl, N49, K49, ⟨ALc_1_49, ALc_2_1_49, ALc_2_2_1_49, Fw49⟩, Ve_49, szc, gc⟩
theorem ef_13 (m : MethodId) (x0 : Addr) (x1 : Addr) : entryFrame m #[(.ref x0), (.ref x1)] 2 = mkF m 0 #[.val (.ref x0), .val (.ref x1)] [] := by first | (simp [entryFrame, mkF, argsToLocals, Value.category]; done) | rfl
def Q13 (Z : State) (a1 : Addr) (a2 : Addr) (d0 : Addr) (kD : ClassId) (mc : Int32) (h0 : Heap) (n0 : Nat) (v : Option Value) (h : Heap) (L : List Loc) : Prop := ∃ (ed : Addr) (kE : ClassId), v = some (.int (1 : Int32)) ∧ Fr n0 L ∧ Keep h0 h [a1] ∧ own_AL Z h a1 ed 1 (mc + (1 : Int32)) ∧ Arv Z h ed kE (.object "java/lang/Object") (10 : Int32) [.ref a2] .null ∧ h0.size ≤ ed ∧ n0 ≤ ed
set_option maxRecDepth 65536 in
set_option maxHeartbeats 40000000 in
theorem rm13 (l : Launch) (Z : State) (a0 : Array Value) (hw : ∀ d ∈ tables_1, d.before a0 Z = true) (ws : List Jvm.Cond) (a1 : Addr) (a2 : Addr) (d0 : Addr) (kD : ClassId) (mc : Int32) (h0 : Heap) (n0 : Nat) (Z0 : n0 ≤ h0.size) (Dz : own_D Z d0 kD) (Ol : Old Z n0 h0) (O : own_AL Z h0 a1 d0 0 mc) (g_a1 : n0 ≤ a1) (E2 : Exa Z h0 a2 "[B") :
    MetFree l (⟨"java/util/ArrayList", "add", "(Ljava/lang/Object;)Z"⟩ : MethodName) (head1 (Jvm.Cond.code (⟨"java/util/ArrayList", "add", "(Ljava/lang/Object;)Z"⟩ : MethodName) jdk_38_method_25_code 2 (some .boolean) :: ws) ({ frames := 4, cells := 1, slots := 10, locals := 56 } : Room)) (fun a U => a = #[(.ref a1), (.ref a2)] ∧ Z.Warmed39 U.vm ∧ U.heap = h0) (fun _ _ _ _ _ => True) (fun _ U o U' => ∃ v L, o = .returned v ∧ Q13 Z a1 a2 d0 kD mc h0 n0 v U'.heap L ∧ FrameEnd U o U' L ({ frames := 4, cells := 1, slots := 10, locals := 56 } : Room).cells ({ frames := 4, cells := 1, slots := 10, locals := 56 } : Room).slots) := by
  refine MetFree.of_bodySF (plainFor_of_name pn_3) hisR ?_
  intro p e s m args below meth c s₁ Bd hml0 hP hK
  obtain ⟨rfl, hZ, hh⟩ := hP
  have hx := Bd.exec
  have hby := Bd.bytes
  have hml : c.maxLocals = 2 := hml0
  have hown : s.vm.findClass "java/util/ArrayList" = some m.cls := findClass_of_methodNamed Bd.named
  have hnm := (name_of_methodNamed Bd.named Bd.method).1
  have X0 : Stand p l e ({ frames := 4, cells := 1, slots := 10, locals := 56 } : Room) s m #[(.ref a1), (.ref a2)] below meth c s₁ [] 0 0 := Stand.of_body Bd
  have e0 : s₁.heap = h0 := by rw [← hh, Bd.state]; rfl
  have N0 := Fr.nil n0
  have pre0 : ∀ t, Steps p.tables e below (s₁.setTop (mkF m 0 #[.val (.ref a1), .val (.ref a2)] [])) t → Steps p.tables e below (s₁.setTop (entryFrame m #[(.ref a1), (.ref a2)] 2)) t := fun t k => castTop (ef_13 m a1 a2) k
  obtain ⟨T51, X51, e51, st51⟩ := getF X0 hx hZ hown (host := "") (Or.inl (hw _ (List.mem_of_getElem? (i := 84) rfl))) (Via.of (hw _ (List.mem_of_getElem? (i := 85) rfl))) e0 O.2.1 (g := (mkF m 2 #[.val (.ref a1), .val (.ref a2)] [(.ref a1), (.ref a1)])) rfl rfl (hb hby d13_2)
  obtain ⟨T52, h52, X52, e52, W52, st52⟩ := putF X51 hx hZ hown (host := "") (Or.inl (hw _ (List.mem_of_getElem? (i := 84) rfl))) (Via.of (hw _ (List.mem_of_getElem? (i := 85) rfl))) e51 O.2.1 O.1 (Or.inl (hw _ (List.mem_of_getElem? (i := 34) rfl))) (hw _ (List.mem_of_getElem? (i := 15) rfl)) (ty := .int) (by decide) rfl rfl (g := (mkF m 7 #[.val (.ref a1), .val (.ref a2)] [(.int (mc + (1 : Int32))), (.ref a1)])) rfl rfl (hb hby d13_7)
  have Fw52 := O.2.1.same W52
  have O_1_52 := O.1.wr W52
  have O_2_2_1_52 := O.2.2.1.other W52 (Or.inr (slot_ne (Or.inl (hw _ (List.mem_of_getElem? (i := 37) rfl))) (Or.inl (hw _ (List.mem_of_getElem? (i := 34) rfl))) (by decide) (t := (.array (.object "java/lang/Object"))) (t' := .int) (by decide) (by decide)))
  have O_2_2_2_52 := O.2.2.2.other W52 (Or.inr (slot_ne (Or.inl (hw _ (List.mem_of_getElem? (i := 67) rfl))) (Or.inl (hw _ (List.mem_of_getElem? (i := 34) rfl))) (by decide) (t := .int) (t' := .int) (by decide) (by decide)))
  have Ol_52 := Ol.wr W52 g_a1
  have E2_52 := E2.wr W52
  have N52 := Fr.snoc X52 N0 g_a1
  have K52 : Keep h0 h52 [a1] := (Keep.refl h0 [a1]).wr W52 (Or.inl (List.mem_of_getElem? (i := 0) rfl))
  have z52 : n0 ≤ h52.size := Nat.le_trans Z0 (Keep.of_wr W52).1
  obtain ⟨T53, X53, e53, st53⟩ := getF X52 hx hZ hown (host := "") (Or.inl (hw _ (List.mem_of_getElem? (i := 36) rfl))) Via.refl e52 O_2_2_1_52 (g := (mkF m 13 #[.val (.ref a1), .val (.ref a2)] [(.ref a1), (.ref a2), (.ref a1)])) rfl rfl (hb hby d13_13)
  obtain ⟨T54, X54, e54, st54⟩ := getF X53 hx hZ hown (host := "") (Or.inl (hw _ (List.mem_of_getElem? (i := 66) rfl))) Via.refl e53 O_2_2_2_52 (g := (mkF m 17 #[.val (.ref a1), .val (.ref a2)] [(.ref a1), (.ref d0), (.ref a2), (.ref a1)])) rfl rfl (hb hby d13_17)
  obtain ⟨cq55, q55, q55'⟩ := O_1_52.cell
  obtain ⟨_, _, ⟨T55, L55, k55, n55⟩, -, X55, ⟨Lc55, hQ55, l55, y55, z55⟩, st55⟩ := X54.privateBack hx (y := (⟨"java/util/ArrayList", "add", "(Ljava/lang/Object;[Ljava/lang/Object;I)V"⟩ : MethodName)) hown (mvT hZ (hw _ (List.mem_of_getElem? (i := 86) rfl))) (mvT hZ (hw _ (List.mem_of_getElem? (i := 87) rfl))) (mvT hZ (hw _ (List.mem_of_getElem? (i := 89) rfl))) (Cond.privateMethod_at (mvP hZ (hw _ (List.mem_of_getElem? (i := 88) rfl)) (args := #[]))) (mvT hZ (hw _ (List.mem_of_getElem? (i := 90) rfl))) (by decide) (backOf (W := 0) (rm14 l Z a0 hw [] a1 a2 d0 (0 : Int32) d0 kD (mc + (1 : Int32)) h52 n0 z52 rfl rfl Dz Ol_52 ⟨O_1_52, Fw52, O_2_2_1_52, O_2_2_2_52⟩ g_a1 E2_52) hZ (hw _ (List.mem_of_getElem? (i := 90) rfl)) (hw _ (List.mem_of_getElem? (i := 16) rfl)) (by decide) (by decide)) (g := (mkF m 20 #[.val (.ref a1), .val (.ref a2)] [(.int (0 : Int32)), (.ref d0), (.ref a2), (.ref a1)])) rfl (by rw [hml]; rfl) (Steps.refl _) (a := a1) (by rw [e54]; exact q55) q55' (argsL := [(.ref a2), (.ref d0), (.int (0 : Int32))]) (rest := []) (lenOf pd_6 rfl) rfl (by show 2 * 0 + _ ≤ _; exact Nat.le_of_eq rfl) (hb hby d13_20) (fun _ _ => ⟨rfl, e54, (by decide : 0 + 1 ≤ _), (by decide : 0 + 10 ≤ _)⟩)
  dsimp only [Pt.U, Pt.locs, Pt.cells, Pt.slots] at X55 l55 y55 z55 st55 hQ55
  subst l55 y55 z55
  obtain ⟨ed, kE, rfl, N55q, Kc55, ALc, Vc, szc, gc⟩ := hQ55
  have N55 := Fr.app N52 N55q
  have K55 : Keep h0 T55.heap [a1] := K52.trans Kc55 (allS (Or.inl (List.mem_of_getElem? (i := 0) rfl)) (all0))
  have z55z : n0 ≤ T55.heap.size := Nat.le_trans z52 Kc55.1
  have fl56 : ∀ target, Steps p.tables e below (T55.setTop (mkF m 24 #[.val (.ref a1), .val (.ref a2)] [(.int (1 : Int32))])) target → Steps p.tables e below (s₁.setTop (mkF m 0 #[.val (.ref a1), .val (.ref a2)] [])) target := fun target kt => by
    show Steps p.tables e below (s₁.setTop (mkF m 0 #[.val (.ref a1), .val (.ref a2)] [])) _
    refine XS.aloadN X0.here hx rfl (hb hby d13_0) rfl rfl ?_
    show Steps p.tables e below (s₁.setTop (mkF m 1 #[.val (.ref a1), .val (.ref a2)] [(.ref a1)])) _
    refine XS.dup X0.here hx rfl (hb hby d13_1) rfl rfl ?_
    show Steps p.tables e below (s₁.setTop (mkF m 2 #[.val (.ref a1), .val (.ref a2)] [(.ref a1), (.ref a1)])) _
    refine st51 _ ?_
    show Steps p.tables e below (T51.setTop (mkF m 5 #[.val (.ref a1), .val (.ref a2)] [(.int mc), (.ref a1)])) _
    refine XS.iconst X51.here hx rfl (hb hby d13_5) ?_
    show Steps p.tables e below (T51.setTop (mkF m 6 #[.val (.ref a1), .val (.ref a2)] [(.int (1 : Int32)), (.int mc), (.ref a1)])) _
    refine XS.iadd X51.here hx rfl (hb hby d13_6) rfl ?_
    show Steps p.tables e below (T51.setTop (mkF m 7 #[.val (.ref a1), .val (.ref a2)] [(.int (mc + (1 : Int32))), (.ref a1)])) _
    refine st52 _ ?_
    show Steps p.tables e below (T52.setTop (mkF m 10 #[.val (.ref a1), .val (.ref a2)] [])) _
    refine XS.aloadN X52.here hx rfl (hb hby d13_10) rfl rfl ?_
    show Steps p.tables e below (T52.setTop (mkF m 11 #[.val (.ref a1), .val (.ref a2)] [(.ref a1)])) _
    refine XS.aloadN X52.here hx rfl (hb hby d13_11) rfl rfl ?_
    show Steps p.tables e below (T52.setTop (mkF m 12 #[.val (.ref a1), .val (.ref a2)] [(.ref a2), (.ref a1)])) _
    refine XS.aloadN X52.here hx rfl (hb hby d13_12) rfl rfl ?_
    show Steps p.tables e below (T52.setTop (mkF m 13 #[.val (.ref a1), .val (.ref a2)] [(.ref a1), (.ref a2), (.ref a1)])) _
    refine st53 _ ?_
    show Steps p.tables e below (T53.setTop (mkF m 16 #[.val (.ref a1), .val (.ref a2)] [(.ref d0), (.ref a2), (.ref a1)])) _
    refine XS.aloadN X53.here hx rfl (hb hby d13_16) rfl rfl ?_
    show Steps p.tables e below (T53.setTop (mkF m 17 #[.val (.ref a1), .val (.ref a2)] [(.ref a1), (.ref d0), (.ref a2), (.ref a1)])) _
    refine st54 _ ?_
    show Steps p.tables e below (T54.setTop (mkF m 20 #[.val (.ref a1), .val (.ref a2)] [(.int (0 : Int32)), (.ref d0), (.ref a2), (.ref a1)])) _
    refine st55.trans ?_
    show Steps p.tables e below (T55.setTop (mkF m 23 #[.val (.ref a1), .val (.ref a2)] [])) _
    refine XS.iconst X55.here hx rfl (hb hby d13_23) ?_
    exact kt
  obtain ⟨fs, hrt, hrun, hended, hW, hsame⟩ := X55.leave (v := some (.int (1 : Int32))) (fun h => by rw [Bd.returns] at h; cases h)
  refine ⟨_, _, pre0 _ (fl56 _ ?_), hrun, hended, _, _, rfl, ?_, ⟨_, rfl⟩, hW, hsame.mono (by decide) (by decide)⟩
  · exact retN X55 hx (t := .boolean) Bd.returns (by simp) (hb hby d13_24) hrt
  · show Q13 _ _ _ _ _ _ _ _ _ T55.heap _
    exact ⟨ed, kE, rfl, N55, K55, ALc, Vc, Nat.le_trans (K52).1 szc, gc⟩
theorem ef_BW0 (m : MethodId) (x0 : Addr) (x1 : Int32) : entryFrame m #[(.ref x0), (.int x1)] 5 = mkF m 0 #[.val (.ref x0), .val (.int x1), .unset, .unset, .unset] [] := by first | (simp [entryFrame, mkF, argsToLocals, Value.category]; done) | rfl
def QBW0 (Z : State) (a1 : Addr) (p2 : Int32) (d0 : Addr) (kD : ClassId) (al : Addr) (mc : Int32) (h0 : Heap) (n0 : Nat) (v : Option Value) (h : Heap) (L : List Loc) : Prop := ∃ (blk ed : Addr) (kE kB : ClassId), v = some (.ref blk) ∧ Fr n0 L ∧ Keep h0 h [al] ∧ own_RB Z h a1 al 0 ∧ own_One Z h al ed blk kE kB [] ∧ h0.size ≤ blk ∧ n0 ≤ blk ∧ h0.size ≤ ed
set_option maxRecDepth 65536 in
set_option maxHeartbeats 40000000 in
theorem rmBW0 (l : Launch) (Z : State) (a0 : Array Value) (hw : ∀ d ∈ tables_1, d.before a0 Z = true) (ws : List Jvm.Cond) (a1 : Addr) (p2 : Int32) (d0 : Addr) (kD : ClassId) (al : Addr) (mc : Int32) (h0 : Heap) (n0 : Nat) (Z0 : n0 ≤ h0.size) (hp2 : p2 = 1) (Dz : own_D Z d0 kD) (Ol : Old Z n0 h0) (B : own_RB Z h0 a1 al 0) (O : own_AL Z h0 al d0 0 mc) (g_al : n0 ≤ al) (nea : a1 ≠ al) (ltal : al < h0.size) :
    MetFree l (⟨"com/example/darter/darter/ResultBuffer", "blockWithRoom", "(I)[B"⟩ : MethodName) (head1 (Jvm.Cond.code (⟨"com/example/darter/darter/ResultBuffer", "blockWithRoom", "(I)[B"⟩ : MethodName) prog_10_method_11_code 5 (some (.array .byte)) :: ws) ({ frames := 5, cells := 2, slots := 266, locals := 69 } : Room)) (fun a U => a = #[(.ref a1), (.int p2)] ∧ Z.Warmed39 U.vm ∧ U.heap = h0) (fun _ _ _ _ _ => True) (fun _ U o U' => ∃ v L, o = .returned v ∧ QBW0 Z a1 p2 d0 kD al mc h0 n0 v U'.heap L ∧ FrameEnd U o U' L ({ frames := 5, cells := 2, slots := 266, locals := 69 } : Room).cells ({ frames := 5, cells := 2, slots := 266, locals := 69 } : Room).slots) := by
  refine MetFree.of_bodySF (plainFor_of_name pn_4) hisR ?_
  intro p e s m args below meth c s₁ Bd hml0 hP hK
  obtain ⟨rfl, hZ, hh⟩ := hP
  have hx := Bd.exec
  have hby := Bd.bytes
  have hml : c.maxLocals = 5 := hml0
  have hown : s.vm.findClass "com/example/darter/darter/ResultBuffer" = some m.cls := findClass_of_methodNamed Bd.named
  have hnm := (name_of_methodNamed Bd.named Bd.method).1
  have X0 : Stand p l e ({ frames := 5, cells := 2, slots := 266, locals := 69 } : Room) s m #[(.ref a1), (.int p2)] below meth c s₁ [] 0 0 := Stand.of_body Bd
  have e0 : s₁.heap = h0 := by rw [← hh, Bd.state]; rfl
  have N0 := Fr.nil n0
  have pre0 : ∀ t, Steps p.tables e below (s₁.setTop (mkF m 0 #[.val (.ref a1), .val (.int p2), .unset, .unset, .unset] [])) t → Steps p.tables e below (s₁.setTop (entryFrame m #[(.ref a1), (.int p2)] 5)) t := fun t k => castTop (ef_BW0 m a1 p2) k
  subst hp2
  obtain ⟨T57, X57, e57, st57⟩ := getF X0 hx hZ hown (host := "") (Or.inl (hw _ (List.mem_of_getElem? (i := 49) rfl))) Via.refl e0 B.2.2 (g := (mkF m 1 #[.val (.ref a1), .val (.int (1 : Int32)), .unset, .unset, .unset] [(.ref a1)])) rfl rfl (hb hby d9_1)
  have fl58 : ∀ target, Steps p.tables e below (T57.setTop (mkF m 7 #[.val (.ref a1), .val (.int (1 : Int32)), .unset, .unset, .unset] [(.int ((0 : Int32) / (131072 : Int32)))])) target → Steps p.tables e below (s₁.setTop (mkF m 0 #[.val (.ref a1), .val (.int (1 : Int32)), .unset, .unset, .unset] [])) target := fun target kt => by
    show Steps p.tables e below (s₁.setTop (mkF m 0 #[.val (.ref a1), .val (.int (1 : Int32)), .unset, .unset, .unset] [])) _
    refine XS.aloadN X0.here hx rfl (hb hby d9_0) rfl rfl ?_
    show Steps p.tables e below (s₁.setTop (mkF m 1 #[.val (.ref a1), .val (.int (1 : Int32)), .unset, .unset, .unset] [(.ref a1)])) _
    refine st57 _ ?_
    show Steps p.tables e below (T57.setTop (mkF m 4 #[.val (.ref a1), .val (.int (1 : Int32)), .unset, .unset, .unset] [(.int (0 : Int32))])) _
    refine X57.ldcInt hx hown (mvT hZ (hw _ (List.mem_of_getElem? (i := 56) rfl))) (g := (mkF m 4 #[.val (.ref a1), .val (.int (1 : Int32)), .unset, .unset, .unset] [(.int (0 : Int32))])) rfl (hb hby d9_4) _ ?_
    show Steps p.tables e below (T57.setTop (mkF m 6 #[.val (.ref a1), .val (.int (1 : Int32)), .unset, .unset, .unset] [(.int (131072 : Int32)), (.int (0 : Int32))])) _
    refine XS.idiv X57.here hx rfl (hb hby d9_6) rfl (by decide) ?_
    exact kt
  rw [show ((0 : Int32) / (131072 : Int32)) = (0 : Int32) by decide] at fl58
  obtain ⟨T59, X59, e59, st59⟩ := getF X57 hx hZ hown (host := "") (Or.inl (hw _ (List.mem_of_getElem? (i := 49) rfl))) Via.refl e57 B.2.2 (g := (mkF m 9 #[.val (.ref a1), .val (.int (1 : Int32)), .val (.int (0 : Int32)), .unset, .unset] [(.ref a1)])) rfl rfl (hb hby d9_9)
  have fl60 : ∀ target, Steps p.tables e below (T59.setTop (mkF m 15 #[.val (.ref a1), .val (.int (1 : Int32)), .val (.int (0 : Int32)), .unset, .unset] [(.int ((0 : Int32) % (131072 : Int32)))])) target → Steps p.tables e below (T57.setTop (mkF m 7 #[.val (.ref a1), .val (.int (1 : Int32)), .unset, .unset, .unset] [(.int (0 : Int32))])) target := fun target kt => by
    show Steps p.tables e below (T57.setTop (mkF m 7 #[.val (.ref a1), .val (.int (1 : Int32)), .unset, .unset, .unset] [(.int (0 : Int32))])) _
    refine XS.istoreN X57.here hx rfl (hb hby d9_7) rfl (l' := #[.val (.ref a1), .val (.int (1 : Int32)), .val (.int (0 : Int32)), .unset, .unset]) rfl ?_
    show Steps p.tables e below (T57.setTop (mkF m 8 #[.val (.ref a1), .val (.int (1 : Int32)), .val (.int (0 : Int32)), .unset, .unset] [])) _
    refine XS.aloadN X57.here hx rfl (hb hby d9_8) rfl rfl ?_
    show Steps p.tables e below (T57.setTop (mkF m 9 #[.val (.ref a1), .val (.int (1 : Int32)), .val (.int (0 : Int32)), .unset, .unset] [(.ref a1)])) _
    refine st59 _ ?_
    show Steps p.tables e below (T59.setTop (mkF m 12 #[.val (.ref a1), .val (.int (1 : Int32)), .val (.int (0 : Int32)), .unset, .unset] [(.int (0 : Int32))])) _
    refine X59.ldcInt hx hown (mvT hZ (hw _ (List.mem_of_getElem? (i := 56) rfl))) (g := (mkF m 12 #[.val (.ref a1), .val (.int (1 : Int32)), .val (.int (0 : Int32)), .unset, .unset] [(.int (0 : Int32))])) rfl (hb hby d9_12) _ ?_
    show Steps p.tables e below (T59.setTop (mkF m 14 #[.val (.ref a1), .val (.int (1 : Int32)), .val (.int (0 : Int32)), .unset, .unset] [(.int (131072 : Int32)), (.int (0 : Int32))])) _
    refine iremM X59 hx rfl (hb hby d9_14) rfl (by decide) ?_
    exact kt
  rw [show ((0 : Int32) % (131072 : Int32)) = (0 : Int32) by decide] at fl60
  obtain ⟨T61, X61, e61, st61⟩ := getF X59 hx hZ hown (host := "") (Or.inl (hw _ (List.mem_of_getElem? (i := 38) rfl))) Via.refl e59 B.2.1 (g := (mkF m 18 #[.val (.ref a1), .val (.int (1 : Int32)), .val (.int (0 : Int32)), .val (.int (0 : Int32)), .unset] [(.ref a1), (.int (0 : Int32))])) rfl rfl (hb hby d9_18)
  obtain ⟨cq62, kq62, q62a, q62b, q62c⟩ := isOf hZ e61 O.1
  obtain ⟨_, _, ⟨T62, L62, k62, n62⟩, -, X62, ⟨Lc62, hQ62, l62, y62, z62⟩, st62⟩ := X61.interfaceBack hx (xi := (⟨"java/util/List", "size", "()I"⟩ : MethodName)) (y := (⟨"java/util/ArrayList", "size", "()I"⟩ : MethodName)) hown (mvT hZ (hw _ (List.mem_of_getElem? (i := 57) rfl))) (mvT hZ (hw _ (List.mem_of_getElem? (i := 58) rfl))) (mvT hZ (hw _ (List.mem_of_getElem? (i := 59) rfl))) (mvT hZ (hw _ (List.mem_of_getElem? (i := 60) rfl))) (mvT hZ (hw _ (List.mem_of_getElem? (i := 61) rfl))) (mvT hZ (hw _ (List.mem_of_getElem? (i := 62) rfl))) (mvT hZ (hw _ (List.mem_of_getElem? (i := 63) rfl))) (mvT hZ (hw _ (List.mem_of_getElem? (i := 64) rfl))) (by decide) (backOf (W := 1) (rm10 l Z a0 hw [] al d0 0 mc h0 n0 Z0 O) hZ (hw _ (List.mem_of_getElem? (i := 65) rfl)) (hw _ (List.mem_of_getElem? (i := 16) rfl)) (by decide) (by decide)) q62a q62b q62c (g := (mkF m 21 #[.val (.ref a1), .val (.int (1 : Int32)), .val (.int (0 : Int32)), .val (.int (0 : Int32)), .unset] [(.ref al), (.int (0 : Int32))])) rfl (by rw [hml]; rfl) (Steps.refl _) (argsL := []) (rest := [(.int (0 : Int32))]) (lenOf pd_7 rfl) rfl (by show 2 * 0 + _ ≤ _; exact Nat.le_of_eq rfl) (hb hby d9_21) (fun _ _ => ⟨rfl, e61, (by decide : 0 + 0 ≤ _), (by decide : 0 + 0 ≤ _)⟩)
  dsimp only [Pt.U, Pt.locs, Pt.cells, Pt.slots] at X62 l62 y62 z62 st62 hQ62
  subst l62 y62 z62
  obtain ⟨rfl, N62q, he62⟩ := hQ62
  have N62 := Fr.app N0 N62q
  have Kc62 : Keep h0 T62.heap [] := by rw [he62]; exact Keep.refl _ _
  have B_1_62 := B.1.keep Kc62
  have B_2_1_62 := B.2.1.keep Kc62 nin0
  have B_2_2_62 := B.2.2.keep Kc62 nin0
  have O_62 := O.keep Kc62 nin0
  have O_1_62 := O.1.keep Kc62
  have Ol_62 := Ol.keep Kc62 all0
  have K62 : Keep h0 T62.heap [al] := (Keep.refl h0 [al]).trans Kc62 all0
  have z62z : n0 ≤ T62.heap.size := Nat.le_trans Z0 Kc62.1
  obtain ⟨T63, X63, e63, st63⟩ := getF X62 hx hZ hown (host := "") (Or.inl (hw _ (List.mem_of_getElem? (i := 38) rfl))) Via.refl rfl B_2_1_62 (g := (mkF m 30 #[.val (.ref a1), .val (.int (1 : Int32)), .val (.int (0 : Int32)), .val (.int (0 : Int32)), .unset] [(.ref a1)])) rfl rfl (hb hby d9_30)
  obtain ⟨_, _, ⟨T64, L64, k64, n64⟩, -, X64, ⟨Lc64, hQ64, l64, y64, z64⟩, st64⟩ := Jvm.LawKit.callS X63 hx (y := (⟨"java/lang/Math", "max", "(II)I"⟩ : MethodName)) hown (mvT hZ (hw _ (List.mem_of_getElem? (i := 68) rfl))) (mvT hZ (hw _ (List.mem_of_getElem? (i := 69) rfl))) (mvT hZ (hw _ (List.mem_of_getElem? (i := 70) rfl))) (mvT hZ (hw _ (List.mem_of_getElem? (i := 71) rfl))) (by decide) (backOf (W := 2) (rm11 l Z a0 hw [] (256 : Int32) (1 : Int32) (256 : Int32) T62.heap n0 z62z (by decide)) hZ (hw _ (List.mem_of_getElem? (i := 71) rfl)) (hw _ (List.mem_of_getElem? (i := 70) rfl)) (by decide) (by decide)) (g := (mkF m 43 #[.val (.ref a1), .val (.int (1 : Int32)), .val (.int (0 : Int32)), .val (.int (0 : Int32)), .unset] [(.int (1 : Int32)), (.int (256 : Int32)), (.int (131072 : Int32)), (.ref al)])) rfl (by rw [hml]; rfl) (argsL := [(.int (256 : Int32)), (.int (1 : Int32))]) (rest := [(.int (131072 : Int32)), (.ref al)]) (lenOf pd_2 rfl) rfl (by show 2 * 0 + _ ≤ _; exact Nat.le_of_eq rfl) (hb hby d9_43) (fun _ _ => ⟨rfl, e63, (by decide : 0 + 0 ≤ _), (by decide : 0 + 0 ≤ _)⟩)
  dsimp only [Pt.U, Pt.locs, Pt.cells, Pt.slots] at X64 l64 y64 z64 st64 hQ64
  subst l64 y64 z64
  obtain ⟨rfl, N64q, he64⟩ := hQ64
  have N64 := Fr.app N62 N64q
  have Kc64 : Keep T62.heap T64.heap [] := by rw [he64]; exact Keep.refl _ _
  have B_1_64 := B_1_62.keep Kc64
  have B_2_1_64 := B_2_1_62.keep Kc64 nin0
  have B_2_2_64 := B_2_2_62.keep Kc64 nin0
  have O_64 := O_62.keep Kc64 nin0
  have O_1_64 := O_1_62.keep Kc64
  have Ol_64 := Ol_62.keep Kc64 all0
  have K64 : Keep h0 T64.heap [al] := K62.trans Kc64 all0
  have z64z : n0 ≤ T64.heap.size := Nat.le_trans z62z Kc64.1
  obtain ⟨_, _, ⟨T65, L65, k65, n65⟩, -, X65, ⟨Lc65, hQ65, l65, y65, z65⟩, st65⟩ := Jvm.LawKit.callS X64 hx (y := (⟨"java/lang/Math", "min", "(II)I"⟩ : MethodName)) hown (mvT hZ (hw _ (List.mem_of_getElem? (i := 72) rfl))) (mvT hZ (hw _ (List.mem_of_getElem? (i := 73) rfl))) (mvT hZ (hw _ (List.mem_of_getElem? (i := 70) rfl))) (mvT hZ (hw _ (List.mem_of_getElem? (i := 74) rfl))) (by decide) (backOf (W := 1) (rm12 l Z a0 hw [] (131072 : Int32) (256 : Int32) (256 : Int32) T64.heap n0 z64z (by decide)) hZ (hw _ (List.mem_of_getElem? (i := 74) rfl)) (hw _ (List.mem_of_getElem? (i := 70) rfl)) (by decide) (by decide)) (g := (mkF m 46 #[.val (.ref a1), .val (.int (1 : Int32)), .val (.int (0 : Int32)), .val (.int (0 : Int32)), .unset] [(.int (256 : Int32)), (.int (131072 : Int32)), (.ref al)])) rfl (by rw [hml]; rfl) (argsL := [(.int (131072 : Int32)), (.int (256 : Int32))]) (rest := [(.ref al)]) (lenOf pd_2 rfl) rfl (by show 2 * 0 + _ ≤ _; exact Nat.le_of_eq rfl) (hb hby d9_46) (fun _ _ => ⟨rfl, rfl, (by decide : 0 + 0 ≤ _), (by decide : 0 + 0 ≤ _)⟩)
  dsimp only [Pt.U, Pt.locs, Pt.cells, Pt.slots] at X65 l65 y65 z65 st65 hQ65
  subst l65 y65 z65
  obtain ⟨rfl, N65q, he65⟩ := hQ65
  have N65 := Fr.app N64 N65q
  have Kc65 : Keep T64.heap T65.heap [] := by rw [he65]; exact Keep.refl _ _
  have B_1_65 := B_1_64.keep Kc65
  have B_2_1_65 := B_2_1_64.keep Kc65 nin0
  have B_2_2_65 := B_2_2_64.keep Kc65 nin0
  have O_65 := O_64.keep Kc65 nin0
  have O_1_65 := O_1_64.keep Kc65
  have Ol_65 := Ol_64.keep Kc65 all0
  have K65 : Keep h0 T65.heap [al] := K64.trans Kc65 all0
  have z65z : n0 ≤ T65.heap.size := Nat.le_trans z64z Kc65.1
  obtain ⟨T66, h66, k66, X66, e66, E66, A66, Ex66, st66⟩ := newPE X65 hx hZ (hw _ (List.mem_of_getElem? (i := 75) rfl)) rfl (g := (mkF m 54 #[.val (.ref a1), .val (.int (1 : Int32)), .val (.int (0 : Int32)), .val (.int (0 : Int32)), .unset] [(.int (256 : Int32)), (.ref al)])) rfl (hb hby d9_54) rfl (by decide) (cap := 256) (by decide) (by decide) (by decide) (by decide) (ad := "[B") rfl
  obtain ⟨b66, g66⟩ : ∃ z, z = T65.heap.size := ⟨_, rfl⟩
  rw [← g66] at A66 st66 Ex66
  have ne_a1_b66 : a1 ≠ b66 := Nat.ne_of_lt (by rw [g66]; exact B_1_65.lt)
  have ne_al_b66 : al ≠ b66 := Nat.ne_of_lt (by rw [g66]; exact O_65.lt)
  have g_b66 : n0 ≤ b66 := Nat.le_trans z65z (Nat.le_of_eq g66.symm)
  have sz_b66 : h0.size ≤ b66 := Nat.le_trans K65.1 (Nat.le_of_eq g66.symm)
  have B_1_66 := B_1_65.ext E66
  have B_2_1_66 := B_2_1_65.ext E66
  have B_2_2_66 := B_2_2_65.ext E66
  have O_66 := O_65.ext E66
  have O_1_66 := O_1_65.ext E66
  have Ol_66 := Ol_65.ext E66
  have V66 := Arv.new A66 (by decide)
  have K66 : Keep h0 h66 [al] := K65.ext E66
  have z66 : n0 ≤ h66.size := Nat.le_trans z65z E66.1
  have gal : n0 ≤ al := g_al
  obtain ⟨cq67, kq67, q67a, q67b, q67c⟩ := isOf hZ e66 O_1_66
  obtain ⟨_, _, ⟨T67, L67, k67, n67⟩, -, X67, ⟨Lc67, hQ67, l67, y67, z67⟩, st67⟩ := X66.interfaceBack hx (xi := (⟨"java/util/List", "add", "(Ljava/lang/Object;)Z"⟩ : MethodName)) (y := (⟨"java/util/ArrayList", "add", "(Ljava/lang/Object;)Z"⟩ : MethodName)) hown (mvT hZ (hw _ (List.mem_of_getElem? (i := 76) rfl))) (mvT hZ (hw _ (List.mem_of_getElem? (i := 77) rfl))) (mvT hZ (hw _ (List.mem_of_getElem? (i := 78) rfl))) (mvT hZ (hw _ (List.mem_of_getElem? (i := 79) rfl))) (mvT hZ (hw _ (List.mem_of_getElem? (i := 80) rfl))) (mvT hZ (hw _ (List.mem_of_getElem? (i := 81) rfl))) (mvT hZ (hw _ (List.mem_of_getElem? (i := 82) rfl))) (mvT hZ (hw _ (List.mem_of_getElem? (i := 64) rfl))) (by decide) (backOf (W := 0) (rm13 l Z a0 hw [] al b66 d0 kD mc h66 n0 z66 Dz Ol_66 O_66 g_al Ex66) hZ (hw _ (List.mem_of_getElem? (i := 83) rfl)) (hw _ (List.mem_of_getElem? (i := 16) rfl)) (by decide) (by decide)) q67a q67b q67c (g := (mkF m 56 #[.val (.ref a1), .val (.int (1 : Int32)), .val (.int (0 : Int32)), .val (.int (0 : Int32)), .unset] [(.ref b66), (.ref al)])) rfl (by rw [hml]; rfl) (Steps.refl _) (argsL := [(.ref b66)]) (rest := []) (lenOf pd_8 rfl) rfl (by show 2 * 0 + _ ≤ _; exact Nat.le_of_eq rfl) (hb hby d9_56) (fun _ _ => ⟨rfl, e66, (by decide : 1 + 1 ≤ _), (by decide : 256 + 10 ≤ _)⟩)
  dsimp only [Pt.U, Pt.locs, Pt.cells, Pt.slots] at X67 l67 y67 z67 st67 hQ67
  subst l67 y67 z67
  obtain ⟨ed, kE, rfl, N67q, Kc67, ALc, Vc, szc, gc⟩ := hQ67
  have N67 := Fr.app N65 N67q
  have kpre := K66
  have ltb := V66.lt
  have B_1_67 := B_1_66.keep Kc67
  have B_2_1_67 := B_2_1_66.keep Kc67 (ninS nea nin0)
  have B_2_2_67 := B_2_2_66.keep Kc67 (ninS nea nin0)
  have O_1_67 := O_1_66.keep Kc67
  have Ol_67 := Ol_66.keep Kc67 (allS g_al all0)
  have Ex66_67 := Ex66.keep Kc67
  have V66_67 := V66.keep Kc67 (ninS (Ne.symm ne_al_b66) nin0)
  have K67 : Keep h0 T67.heap [al] := K66.trans Kc67 (allS (Or.inl (List.mem_of_getElem? (i := 0) rfl)) (all0))
  have z67z : n0 ≤ T67.heap.size := Nat.le_trans z66 Kc67.1
  obtain ⟨T68, X68, e68, st68⟩ := getF X67 hx hZ hown (host := "") (Or.inl (hw _ (List.mem_of_getElem? (i := 38) rfl))) Via.refl rfl B_2_1_67 (g := (mkF m 129 #[.val (.ref a1), .val (.int (1 : Int32)), .val (.int (0 : Int32)), .val (.int (0 : Int32)), .unset] [(.ref a1)])) rfl rfl (hb hby d9_129)
  obtain ⟨cq69, kq69, q69a, q69b, q69c⟩ := isOf hZ e68 ALc.1
  obtain ⟨_, _, ⟨T69, L69, k69, n69⟩, -, X69, ⟨Lc69, hQ69, l69, y69, z69⟩, st69⟩ := X68.interfaceBack hx (xi := (⟨"java/util/List", "get", "(I)Ljava/lang/Object;"⟩ : MethodName)) (y := (⟨"java/util/ArrayList", "get", "(I)Ljava/lang/Object;"⟩ : MethodName)) hown (mvT hZ (hw _ (List.mem_of_getElem? (i := 105) rfl))) (mvT hZ (hw _ (List.mem_of_getElem? (i := 106) rfl))) (mvT hZ (hw _ (List.mem_of_getElem? (i := 107) rfl))) (mvT hZ (hw _ (List.mem_of_getElem? (i := 108) rfl))) (mvT hZ (hw _ (List.mem_of_getElem? (i := 109) rfl))) (mvT hZ (hw _ (List.mem_of_getElem? (i := 110) rfl))) (mvT hZ (hw _ (List.mem_of_getElem? (i := 111) rfl))) (mvT hZ (hw _ (List.mem_of_getElem? (i := 64) rfl))) (by decide) (backOf (W := 0) (rm17 l Z a0 hw [] al (0 : Int32) ed (mc + (1 : Int32)) kE b66 T67.heap n0 z67z rfl ALc Vc) hZ (hw _ (List.mem_of_getElem? (i := 112) rfl)) (hw _ (List.mem_of_getElem? (i := 16) rfl)) (by decide) (by decide)) q69a q69b q69c (g := (mkF m 133 #[.val (.ref a1), .val (.int (1 : Int32)), .val (.int (0 : Int32)), .val (.int (0 : Int32)), .unset] [(.int (0 : Int32)), (.ref al)])) rfl (by rw [hml]; rfl) (Steps.refl _) (argsL := [(.int (0 : Int32))]) (rest := []) (lenOf pd_3 rfl) rfl (by show 2 * 0 + _ ≤ _; exact Nat.le_of_eq rfl) (hb hby d9_133) (fun _ _ => ⟨rfl, e68, (by decide : 2 + 0 ≤ _), (by decide : 266 + 0 ≤ _)⟩)
  dsimp only [Pt.U, Pt.locs, Pt.cells, Pt.slots] at X69 l69 y69 z69 st69 hQ69
  subst l69 y69 z69
  obtain ⟨rfl, N69q, he69⟩ := hQ69
  have N69 := Fr.app N67 N69q
  have Kc69 : Keep T67.heap T69.heap [] := by rw [he69]; exact Keep.refl _ _
  have B_1_69 := B_1_67.keep Kc69
  have B_2_1_69 := B_2_1_67.keep Kc69 nin0
  have B_2_2_69 := B_2_2_67.keep Kc69 nin0
  have ALc_1_69 := ALc.1.keep Kc69
  have Ol_69 := Ol_67.keep Kc69 all0
  have Ex66_69 := Ex66_67.keep Kc69
  have V66_69 := V66_67.keep Kc69 nin0
  have ALc_69 := ALc.keep Kc69 nin0
  have Vc_69 := Vc.keep Kc69 nin0
  have K69 : Keep h0 T69.heap [al] := K67.trans Kc69 all0
  have z69z : n0 ≤ T69.heap.size := Nat.le_trans z67z Kc69.1
  obtain ⟨T70, X70, e70, st70⟩ := castY X69 hx hZ hown (hw _ (List.mem_of_getElem? (i := 126) rfl)) rfl (Ins.self Ex66_69) (g := (mkF m 138 #[.val (.ref a1), .val (.int (1 : Int32)), .val (.int (0 : Int32)), .val (.int (0 : Int32)), .unset] [(.ref b66)])) rfl rfl (hb hby d9_138)
  have fl71 : ∀ target, Steps p.tables e below (T70.setTop (mkF m 141 #[.val (.ref a1), .val (.int (1 : Int32)), .val (.int (0 : Int32)), .val (.int (0 : Int32)), .unset] [(.ref b66)])) target → Steps p.tables e below (T59.setTop (mkF m 15 #[.val (.ref a1), .val (.int (1 : Int32)), .val (.int (0 : Int32)), .unset, .unset] [(.int (0 : Int32))])) target := fun target kt => by
    show Steps p.tables e below (T59.setTop (mkF m 15 #[.val (.ref a1), .val (.int (1 : Int32)), .val (.int (0 : Int32)), .unset, .unset] [(.int (0 : Int32))])) _
    refine XS.istoreN X59.here hx rfl (hb hby d9_15) rfl (l' := #[.val (.ref a1), .val (.int (1 : Int32)), .val (.int (0 : Int32)), .val (.int (0 : Int32)), .unset]) rfl ?_
    show Steps p.tables e below (T59.setTop (mkF m 16 #[.val (.ref a1), .val (.int (1 : Int32)), .val (.int (0 : Int32)), .val (.int (0 : Int32)), .unset] [])) _
    refine XS.iloadN X59.here hx rfl (hb hby d9_16) rfl ?_
    show Steps p.tables e below (T59.setTop (mkF m 17 #[.val (.ref a1), .val (.int (1 : Int32)), .val (.int (0 : Int32)), .val (.int (0 : Int32)), .unset] [(.int (0 : Int32))])) _
    refine XS.aloadN X59.here hx rfl (hb hby d9_17) rfl rfl ?_
    show Steps p.tables e below (T59.setTop (mkF m 18 #[.val (.ref a1), .val (.int (1 : Int32)), .val (.int (0 : Int32)), .val (.int (0 : Int32)), .unset] [(.ref a1), (.int (0 : Int32))])) _
    refine st61 _ ?_
    show Steps p.tables e below (T61.setTop (mkF m 21 #[.val (.ref a1), .val (.int (1 : Int32)), .val (.int (0 : Int32)), .val (.int (0 : Int32)), .unset] [(.ref al), (.int (0 : Int32))])) _
    refine st62.trans ?_
    show Steps p.tables e below (T62.setTop (mkF m 26 #[.val (.ref a1), .val (.int (1 : Int32)), .val (.int (0 : Int32)), .val (.int (0 : Int32)), .unset] [(.int (0 : Int32)), (.int (0 : Int32))])) _
    refine XS.icmpNo X62.here hx rfl (hb hby d9_26) rfl (teq (by decide : (0 : Int32) = (0 : Int32))).2 ?_
    show Steps p.tables e below (T62.setTop (mkF m 29 #[.val (.ref a1), .val (.int (1 : Int32)), .val (.int (0 : Int32)), .val (.int (0 : Int32)), .unset] [])) _
    refine XS.aloadN X62.here hx rfl (hb hby d9_29) rfl rfl ?_
    show Steps p.tables e below (T62.setTop (mkF m 30 #[.val (.ref a1), .val (.int (1 : Int32)), .val (.int (0 : Int32)), .val (.int (0 : Int32)), .unset] [(.ref a1)])) _
    refine st63 _ ?_
    show Steps p.tables e below (T63.setTop (mkF m 33 #[.val (.ref a1), .val (.int (1 : Int32)), .val (.int (0 : Int32)), .val (.int (0 : Int32)), .unset] [(.ref al)])) _
    refine XS.iloadN X63.here hx rfl (hb hby d9_33) rfl ?_
    show Steps p.tables e below (T63.setTop (mkF m 34 #[.val (.ref a1), .val (.int (1 : Int32)), .val (.int (0 : Int32)), .val (.int (0 : Int32)), .unset] [(.int (0 : Int32)), (.ref al)])) _
    refine XS.ifNo X63.here hx rfl (hb hby d9_34) rfl ((if0 _ _).trans (teq (by decide : (0 : Int32) = (0 : Int32))).2) ?_
    show Steps p.tables e below (T63.setTop (mkF m 37 #[.val (.ref a1), .val (.int (1 : Int32)), .val (.int (0 : Int32)), .val (.int (0 : Int32)), .unset] [(.ref al)])) _
    refine X63.ldcInt hx hown (mvT hZ (hw _ (List.mem_of_getElem? (i := 56) rfl))) (g := (mkF m 37 #[.val (.ref a1), .val (.int (1 : Int32)), .val (.int (0 : Int32)), .val (.int (0 : Int32)), .unset] [(.ref al)])) rfl (hb hby d9_37) _ ?_
    show Steps p.tables e below (T63.setTop (mkF m 39 #[.val (.ref a1), .val (.int (1 : Int32)), .val (.int (0 : Int32)), .val (.int (0 : Int32)), .unset] [(.int (131072 : Int32)), (.ref al)])) _
    refine XS.sipush X63.here hx rfl (hb hby d9_39) ?_
    show Steps p.tables e below (T63.setTop (mkF m 42 #[.val (.ref a1), .val (.int (1 : Int32)), .val (.int (0 : Int32)), .val (.int (0 : Int32)), .unset] [(.int (256 : Int32)), (.int (131072 : Int32)), (.ref al)])) _
    refine XS.iloadN X63.here hx rfl (hb hby d9_42) rfl ?_
    show Steps p.tables e below (T63.setTop (mkF m 43 #[.val (.ref a1), .val (.int (1 : Int32)), .val (.int (0 : Int32)), .val (.int (0 : Int32)), .unset] [(.int (1 : Int32)), (.int (256 : Int32)), (.int (131072 : Int32)), (.ref al)])) _
    refine st64 _ ?_
    show Steps p.tables e below (T64.setTop (mkF m 46 #[.val (.ref a1), .val (.int (1 : Int32)), .val (.int (0 : Int32)), .val (.int (0 : Int32)), .unset] [(.int (256 : Int32)), (.int (131072 : Int32)), (.ref al)])) _
    refine st65 _ ?_
    show Steps p.tables e below (T65.setTop (mkF m 49 #[.val (.ref a1), .val (.int (1 : Int32)), .val (.int (0 : Int32)), .val (.int (0 : Int32)), .unset] [(.int (256 : Int32)), (.ref al)])) _
    refine XS.goto X65.here hx rfl (pc0 := 49) (pc' := 54) rfl (hb hby d9_49) (by decide) (by decide) ?_
    show Steps p.tables e below (T65.setTop (mkF m 54 #[.val (.ref a1), .val (.int (1 : Int32)), .val (.int (0 : Int32)), .val (.int (0 : Int32)), .unset] [(.int (256 : Int32)), (.ref al)])) _
    refine st66 _ ?_
    show Steps p.tables e below (T66.setTop (mkF m 56 #[.val (.ref a1), .val (.int (1 : Int32)), .val (.int (0 : Int32)), .val (.int (0 : Int32)), .unset] [(.ref b66), (.ref al)])) _
    refine st67.trans ?_
    show Steps p.tables e below (T67.setTop (mkF m 61 #[.val (.ref a1), .val (.int (1 : Int32)), .val (.int (0 : Int32)), .val (.int (0 : Int32)), .unset] [(.int (1 : Int32))])) _
    refine XS.pop X67.here hx rfl (hb hby d9_61) rfl rfl ?_
    show Steps p.tables e below (T67.setTop (mkF m 62 #[.val (.ref a1), .val (.int (1 : Int32)), .val (.int (0 : Int32)), .val (.int (0 : Int32)), .unset] [])) _
    refine XS.goto X67.here hx rfl (pc0 := 62) (pc' := 128) rfl (hb hby d9_62) (by decide) (by decide) ?_
    show Steps p.tables e below (T67.setTop (mkF m 128 #[.val (.ref a1), .val (.int (1 : Int32)), .val (.int (0 : Int32)), .val (.int (0 : Int32)), .unset] [])) _
    refine XS.aloadN X67.here hx rfl (hb hby d9_128) rfl rfl ?_
    show Steps p.tables e below (T67.setTop (mkF m 129 #[.val (.ref a1), .val (.int (1 : Int32)), .val (.int (0 : Int32)), .val (.int (0 : Int32)), .unset] [(.ref a1)])) _
    refine st68 _ ?_
    show Steps p.tables e below (T68.setTop (mkF m 132 #[.val (.ref a1), .val (.int (1 : Int32)), .val (.int (0 : Int32)), .val (.int (0 : Int32)), .unset] [(.ref al)])) _
    refine XS.iloadN X68.here hx rfl (hb hby d9_132) rfl ?_
    show Steps p.tables e below (T68.setTop (mkF m 133 #[.val (.ref a1), .val (.int (1 : Int32)), .val (.int (0 : Int32)), .val (.int (0 : Int32)), .unset] [(.int (0 : Int32)), (.ref al)])) _
    refine st69.trans ?_
    show Steps p.tables e below (T69.setTop (mkF m 138 #[.val (.ref a1), .val (.int (1 : Int32)), .val (.int (0 : Int32)), .val (.int (0 : Int32)), .unset] [(.ref b66)])) _
    refine st70 _ ?_
    exact kt
  obtain ⟨fs, hrt, hrun, hended, hW, hsame⟩ := X70.leave (v := some (.ref b66)) (fun h => by rw [Bd.returns] at h; cases h)
  refine ⟨_, _, pre0 _ (fl58 _ (fl60 _ (fl71 _ ?_))), hrun, hended, _, _, rfl, ?_, ⟨_, rfl⟩, hW, hsame.mono (by decide) (by decide)⟩
  · jvm_step X70.here [X70.here.top, hx, (hb hby d9_141), X70.method', Bd.returns, Value.isRef, FieldType.isReference]
    first | (intro acts; rw [hrt _ acts rfl rfl rfl]) | rw [hrt _ _ rfl rfl rfl]
    exact Steps.refl _
  · show QBW0 _ _ _ _ _ _ _ _ _ _ T70.heap _
    rw [e70]
    exact ⟨b66, ed, kE, k66, rfl, N69, K69, ⟨B_1_69, B_2_1_69, B_2_2_69⟩, ⟨⟨_, ALc_69⟩, Vc_69, Ex66_69, V66_69, Nat.ne_of_lt (Nat.lt_of_lt_of_le ltal (Nat.le_trans kpre.1 szc)), Nat.ne_of_lt (Nat.lt_of_lt_of_le ltal sz_b66), Ne.symm (Nat.ne_of_lt (Nat.lt_of_lt_of_le ltb szc))⟩, sz_b66, g_b66, Nat.le_trans kpre.1 szc⟩
theorem ef_BW1 (m : MethodId) (x0 : Addr) (x1 : Int32) : entryFrame m #[(.ref x0), (.int x1)] 5 = mkF m 0 #[.val (.ref x0), .val (.int x1), .unset, .unset, .unset] [] := by first | (simp [entryFrame, mkF, argsToLocals, Value.category]; done) | rfl
def QBW1 (Z : State) (a1 : Addr) (p2 : Int32) (al : Addr) (ed : Addr) (blk : Addr) (kE : ClassId) (kB : ClassId) (vs : List Value) (sz : Int32) (h0 : Heap) (n0 : Nat) (v : Option Value) (h : Heap) (L : List Loc) : Prop := v = some (.ref blk) ∧ Fr n0 L ∧ h = h0
set_option maxRecDepth 65536 in
set_option maxHeartbeats 40000000 in
theorem rmBW1 (l : Launch) (Z : State) (a0 : Array Value) (hw : ∀ d ∈ tables_1, d.before a0 Z = true) (ws : List Jvm.Cond) (a1 : Addr) (p2 : Int32) (al : Addr) (ed : Addr) (blk : Addr) (kE : ClassId) (kB : ClassId) (vs : List Value) (sz : Int32) (h0 : Heap) (n0 : Nat) (Z0 : n0 ≤ h0.size) (hp2 : p2 = 1) (B : own_RB Z h0 a1 al sz) (One1 : own_One Z h0 al ed blk kE kB vs) (hq : sz / (131072 : Int32) = 0) (hm : sz % (131072 : Int32) = sz) (h256 : ¬ sz = (256 : Int32)) :
    MetFree l (⟨"com/example/darter/darter/ResultBuffer", "blockWithRoom", "(I)[B"⟩ : MethodName) (head1 (Jvm.Cond.code (⟨"com/example/darter/darter/ResultBuffer", "blockWithRoom", "(I)[B"⟩ : MethodName) prog_10_method_11_code 5 (some (.array .byte)) :: ws) ({ frames := 3, cells := 0, slots := 0, locals := 41 } : Room)) (fun a U => a = #[(.ref a1), (.int p2)] ∧ Z.Warmed39 U.vm ∧ U.heap = h0) (fun _ _ _ _ _ => True) (fun _ U o U' => ∃ v L, o = .returned v ∧ QBW1 Z a1 p2 al ed blk kE kB vs sz h0 n0 v U'.heap L ∧ FrameEnd U o U' L ({ frames := 3, cells := 0, slots := 0, locals := 41 } : Room).cells ({ frames := 3, cells := 0, slots := 0, locals := 41 } : Room).slots) := by
  refine MetFree.of_bodySF (plainFor_of_name pn_4) hisR ?_
  intro p e s m args below meth c s₁ Bd hml0 hP hK
  obtain ⟨rfl, hZ, hh⟩ := hP
  have hx := Bd.exec
  have hby := Bd.bytes
  have hml : c.maxLocals = 5 := hml0
  have hown : s.vm.findClass "com/example/darter/darter/ResultBuffer" = some m.cls := findClass_of_methodNamed Bd.named
  have hnm := (name_of_methodNamed Bd.named Bd.method).1
  have X0 : Stand p l e ({ frames := 3, cells := 0, slots := 0, locals := 41 } : Room) s m #[(.ref a1), (.int p2)] below meth c s₁ [] 0 0 := Stand.of_body Bd
  have e0 : s₁.heap = h0 := by rw [← hh, Bd.state]; rfl
  have N0 := Fr.nil n0
  have pre0 : ∀ t, Steps p.tables e below (s₁.setTop (mkF m 0 #[.val (.ref a1), .val (.int p2), .unset, .unset, .unset] [])) t → Steps p.tables e below (s₁.setTop (entryFrame m #[(.ref a1), (.int p2)] 5)) t := fun t k => castTop (ef_BW1 m a1 p2) k
  subst hp2
  obtain ⟨⟨mc, O⟩, Ve, Eb, Vb, -, -, -⟩ := One1
  obtain ⟨T72, X72, e72, st72⟩ := getF X0 hx hZ hown (host := "") (Or.inl (hw _ (List.mem_of_getElem? (i := 49) rfl))) Via.refl e0 B.2.2 (g := (mkF m 1 #[.val (.ref a1), .val (.int (1 : Int32)), .unset, .unset, .unset] [(.ref a1)])) rfl rfl (hb hby d9_1)
  have fl73 : ∀ target, Steps p.tables e below (T72.setTop (mkF m 7 #[.val (.ref a1), .val (.int (1 : Int32)), .unset, .unset, .unset] [(.int (sz / (131072 : Int32)))])) target → Steps p.tables e below (s₁.setTop (mkF m 0 #[.val (.ref a1), .val (.int (1 : Int32)), .unset, .unset, .unset] [])) target := fun target kt => by
    show Steps p.tables e below (s₁.setTop (mkF m 0 #[.val (.ref a1), .val (.int (1 : Int32)), .unset, .unset, .unset] [])) _
    refine XS.aloadN X0.here hx rfl (hb hby d9_0) rfl rfl ?_
    show Steps p.tables e below (s₁.setTop (mkF m 1 #[.val (.ref a1), .val (.int (1 : Int32)), .unset, .unset, .unset] [(.ref a1)])) _
    refine st72 _ ?_
    show Steps p.tables e below (T72.setTop (mkF m 4 #[.val (.ref a1), .val (.int (1 : Int32)), .unset, .unset, .unset] [(.int sz)])) _
    refine X72.ldcInt hx hown (mvT hZ (hw _ (List.mem_of_getElem? (i := 56) rfl))) (g := (mkF m 4 #[.val (.ref a1), .val (.int (1 : Int32)), .unset, .unset, .unset] [(.int sz)])) rfl (hb hby d9_4) _ ?_
    show Steps p.tables e below (T72.setTop (mkF m 6 #[.val (.ref a1), .val (.int (1 : Int32)), .unset, .unset, .unset] [(.int (131072 : Int32)), (.int sz)])) _
    refine XS.idiv X72.here hx rfl (hb hby d9_6) rfl (by decide) ?_
    exact kt
  rw [hq] at fl73
  obtain ⟨T74, X74, e74, st74⟩ := getF X72 hx hZ hown (host := "") (Or.inl (hw _ (List.mem_of_getElem? (i := 49) rfl))) Via.refl e72 B.2.2 (g := (mkF m 9 #[.val (.ref a1), .val (.int (1 : Int32)), .val (.int (0 : Int32)), .unset, .unset] [(.ref a1)])) rfl rfl (hb hby d9_9)
  have fl75 : ∀ target, Steps p.tables e below (T74.setTop (mkF m 15 #[.val (.ref a1), .val (.int (1 : Int32)), .val (.int (0 : Int32)), .unset, .unset] [(.int (sz % (131072 : Int32)))])) target → Steps p.tables e below (T72.setTop (mkF m 7 #[.val (.ref a1), .val (.int (1 : Int32)), .unset, .unset, .unset] [(.int (0 : Int32))])) target := fun target kt => by
    show Steps p.tables e below (T72.setTop (mkF m 7 #[.val (.ref a1), .val (.int (1 : Int32)), .unset, .unset, .unset] [(.int (0 : Int32))])) _
    refine XS.istoreN X72.here hx rfl (hb hby d9_7) rfl (l' := #[.val (.ref a1), .val (.int (1 : Int32)), .val (.int (0 : Int32)), .unset, .unset]) rfl ?_
    show Steps p.tables e below (T72.setTop (mkF m 8 #[.val (.ref a1), .val (.int (1 : Int32)), .val (.int (0 : Int32)), .unset, .unset] [])) _
    refine XS.aloadN X72.here hx rfl (hb hby d9_8) rfl rfl ?_
    show Steps p.tables e below (T72.setTop (mkF m 9 #[.val (.ref a1), .val (.int (1 : Int32)), .val (.int (0 : Int32)), .unset, .unset] [(.ref a1)])) _
    refine st74 _ ?_
    show Steps p.tables e below (T74.setTop (mkF m 12 #[.val (.ref a1), .val (.int (1 : Int32)), .val (.int (0 : Int32)), .unset, .unset] [(.int sz)])) _
    refine X74.ldcInt hx hown (mvT hZ (hw _ (List.mem_of_getElem? (i := 56) rfl))) (g := (mkF m 12 #[.val (.ref a1), .val (.int (1 : Int32)), .val (.int (0 : Int32)), .unset, .unset] [(.int sz)])) rfl (hb hby d9_12) _ ?_
    show Steps p.tables e below (T74.setTop (mkF m 14 #[.val (.ref a1), .val (.int (1 : Int32)), .val (.int (0 : Int32)), .unset, .unset] [(.int (131072 : Int32)), (.int sz)])) _
    refine iremM X74 hx rfl (hb hby d9_14) rfl (by decide) ?_
    exact kt
  rw [hm] at fl75
  obtain ⟨T76, X76, e76, st76⟩ := getF X74 hx hZ hown (host := "") (Or.inl (hw _ (List.mem_of_getElem? (i := 38) rfl))) Via.refl e74 B.2.1 (g := (mkF m 18 #[.val (.ref a1), .val (.int (1 : Int32)), .val (.int (0 : Int32)), .val (.int sz), .unset] [(.ref a1), (.int (0 : Int32))])) rfl rfl (hb hby d9_18)
  obtain ⟨cq77, kq77, q77a, q77b, q77c⟩ := isOf hZ e76 O.1
  obtain ⟨_, _, ⟨T77, L77, k77, n77⟩, -, X77, ⟨Lc77, hQ77, l77, y77, z77⟩, st77⟩ := X76.interfaceBack hx (xi := (⟨"java/util/List", "size", "()I"⟩ : MethodName)) (y := (⟨"java/util/ArrayList", "size", "()I"⟩ : MethodName)) hown (mvT hZ (hw _ (List.mem_of_getElem? (i := 57) rfl))) (mvT hZ (hw _ (List.mem_of_getElem? (i := 58) rfl))) (mvT hZ (hw _ (List.mem_of_getElem? (i := 59) rfl))) (mvT hZ (hw _ (List.mem_of_getElem? (i := 60) rfl))) (mvT hZ (hw _ (List.mem_of_getElem? (i := 61) rfl))) (mvT hZ (hw _ (List.mem_of_getElem? (i := 62) rfl))) (mvT hZ (hw _ (List.mem_of_getElem? (i := 63) rfl))) (mvT hZ (hw _ (List.mem_of_getElem? (i := 64) rfl))) (by decide) (backOf (W := 1) (rm10 l Z a0 hw [] al ed 1 mc h0 n0 Z0 O) hZ (hw _ (List.mem_of_getElem? (i := 65) rfl)) (hw _ (List.mem_of_getElem? (i := 16) rfl)) (by decide) (by decide)) q77a q77b q77c (g := (mkF m 21 #[.val (.ref a1), .val (.int (1 : Int32)), .val (.int (0 : Int32)), .val (.int sz), .unset] [(.ref al), (.int (0 : Int32))])) rfl (by rw [hml]; rfl) (Steps.refl _) (argsL := []) (rest := [(.int (0 : Int32))]) (lenOf pd_7 rfl) rfl (by show 2 * 0 + _ ≤ _; exact Nat.le_of_eq rfl) (hb hby d9_21) (fun _ _ => ⟨rfl, e76, (by decide : 0 + 0 ≤ _), (by decide : 0 + 0 ≤ _)⟩)
  dsimp only [Pt.U, Pt.locs, Pt.cells, Pt.slots] at X77 l77 y77 z77 st77 hQ77
  subst l77 y77 z77
  obtain ⟨rfl, N77q, he77⟩ := hQ77
  have N77 := Fr.app N0 N77q
  have Kc77 : Keep h0 T77.heap [] := by rw [he77]; exact Keep.refl _ _
  have B_1_77 := B.1.keep Kc77
  have B_2_1_77 := B.2.1.keep Kc77 nin0
  have B_2_2_77 := B.2.2.keep Kc77 nin0
  have O_77 := O.keep Kc77 nin0
  have O_1_77 := O.1.keep Kc77
  have Ve_77 := Ve.keep Kc77 nin0
  have Vb_77 := Vb.keep Kc77 nin0
  have Eb_77 := Eb.keep Kc77
  have K77 : Keep h0 T77.heap [] := (Keep.refl h0 []).trans Kc77 all0
  have z77z : n0 ≤ T77.heap.size := Nat.le_trans Z0 Kc77.1
  obtain ⟨T78, X78, e78, st78⟩ := getF X77 hx hZ hown (host := "") (Or.inl (hw _ (List.mem_of_getElem? (i := 38) rfl))) Via.refl rfl B_2_1_77 (g := (mkF m 67 #[.val (.ref a1), .val (.int (1 : Int32)), .val (.int (0 : Int32)), .val (.int sz), .unset] [(.ref a1), (.int sz)])) rfl rfl (hb hby d9_67)
  obtain ⟨cq79, kq79, q79a, q79b, q79c⟩ := isOf hZ e78 O_1_77
  obtain ⟨_, _, ⟨T79, L79, k79, n79⟩, -, X79, ⟨Lc79, hQ79, l79, y79, z79⟩, st79⟩ := X78.interfaceBack hx (xi := (⟨"java/util/List", "get", "(I)Ljava/lang/Object;"⟩ : MethodName)) (y := (⟨"java/util/ArrayList", "get", "(I)Ljava/lang/Object;"⟩ : MethodName)) hown (mvT hZ (hw _ (List.mem_of_getElem? (i := 105) rfl))) (mvT hZ (hw _ (List.mem_of_getElem? (i := 106) rfl))) (mvT hZ (hw _ (List.mem_of_getElem? (i := 107) rfl))) (mvT hZ (hw _ (List.mem_of_getElem? (i := 108) rfl))) (mvT hZ (hw _ (List.mem_of_getElem? (i := 109) rfl))) (mvT hZ (hw _ (List.mem_of_getElem? (i := 110) rfl))) (mvT hZ (hw _ (List.mem_of_getElem? (i := 111) rfl))) (mvT hZ (hw _ (List.mem_of_getElem? (i := 64) rfl))) (by decide) (backOf (W := 1) (rm17 l Z a0 hw [] al (0 : Int32) ed mc kE blk T77.heap n0 z77z rfl O_77 Ve_77) hZ (hw _ (List.mem_of_getElem? (i := 112) rfl)) (hw _ (List.mem_of_getElem? (i := 16) rfl)) (by decide) (by decide)) q79a q79b q79c (g := (mkF m 71 #[.val (.ref a1), .val (.int (1 : Int32)), .val (.int (0 : Int32)), .val (.int sz), .unset] [(.int (0 : Int32)), (.ref al), (.int sz)])) rfl (by rw [hml]; rfl) (Steps.refl _) (argsL := [(.int (0 : Int32))]) (rest := [(.int sz)]) (lenOf pd_3 rfl) rfl (by show 2 * 0 + _ ≤ _; exact Nat.le_of_eq rfl) (hb hby d9_71) (fun _ _ => ⟨rfl, e78, (by decide : 0 + 0 ≤ _), (by decide : 0 + 0 ≤ _)⟩)
  dsimp only [Pt.U, Pt.locs, Pt.cells, Pt.slots] at X79 l79 y79 z79 st79 hQ79
  subst l79 y79 z79
  obtain ⟨rfl, N79q, he79⟩ := hQ79
  have N79 := Fr.app N77 N79q
  have Kc79 : Keep T77.heap T79.heap [] := by rw [he79]; exact Keep.refl _ _
  have B_1_79 := B_1_77.keep Kc79
  have B_2_1_79 := B_2_1_77.keep Kc79 nin0
  have B_2_2_79 := B_2_2_77.keep Kc79 nin0
  have O_79 := O_77.keep Kc79 nin0
  have O_1_79 := O_1_77.keep Kc79
  have Ve_79 := Ve_77.keep Kc79 nin0
  have Vb_79 := Vb_77.keep Kc79 nin0
  have Eb_79 := Eb_77.keep Kc79
  have K79 : Keep h0 T79.heap [] := K77.trans Kc79 all0
  have z79z : n0 ≤ T79.heap.size := Nat.le_trans z77z Kc79.1
  obtain ⟨clb, Arb, -, Szb, Nzb, -, -⟩ := id Vb_79
  obtain ⟨T80, X80, e80, st80⟩ := castY X79 hx hZ hown (hw _ (List.mem_of_getElem? (i := 126) rfl)) rfl (Ins.self Eb_79) (g := (mkF m 76 #[.val (.ref a1), .val (.int (1 : Int32)), .val (.int (0 : Int32)), .val (.int sz), .unset] [(.ref blk), (.int sz)])) rfl rfl (hb hby d9_76)
  obtain ⟨T81, X81, e81, st81⟩ := getF X80 hx hZ hown (host := "") (Or.inl (hw _ (List.mem_of_getElem? (i := 38) rfl))) Via.refl e80 B_2_1_79 (g := (mkF m 129 #[.val (.ref a1), .val (.int (1 : Int32)), .val (.int (0 : Int32)), .val (.int sz), .unset] [(.ref a1)])) rfl rfl (hb hby d9_129)
  obtain ⟨cq82, kq82, q82a, q82b, q82c⟩ := isOf hZ e81 O_1_79
  obtain ⟨_, _, ⟨T82, L82, k82, n82⟩, -, X82, ⟨Lc82, hQ82, l82, y82, z82⟩, st82⟩ := X81.interfaceBack hx (xi := (⟨"java/util/List", "get", "(I)Ljava/lang/Object;"⟩ : MethodName)) (y := (⟨"java/util/ArrayList", "get", "(I)Ljava/lang/Object;"⟩ : MethodName)) hown (mvT hZ (hw _ (List.mem_of_getElem? (i := 105) rfl))) (mvT hZ (hw _ (List.mem_of_getElem? (i := 106) rfl))) (mvT hZ (hw _ (List.mem_of_getElem? (i := 107) rfl))) (mvT hZ (hw _ (List.mem_of_getElem? (i := 108) rfl))) (mvT hZ (hw _ (List.mem_of_getElem? (i := 109) rfl))) (mvT hZ (hw _ (List.mem_of_getElem? (i := 110) rfl))) (mvT hZ (hw _ (List.mem_of_getElem? (i := 111) rfl))) (mvT hZ (hw _ (List.mem_of_getElem? (i := 64) rfl))) (by decide) (backOf (W := 0) (rm17 l Z a0 hw [] al (0 : Int32) ed mc kE blk T79.heap n0 z79z rfl O_79 Ve_79) hZ (hw _ (List.mem_of_getElem? (i := 112) rfl)) (hw _ (List.mem_of_getElem? (i := 16) rfl)) (by decide) (by decide)) q82a q82b q82c (g := (mkF m 133 #[.val (.ref a1), .val (.int (1 : Int32)), .val (.int (0 : Int32)), .val (.int sz), .unset] [(.int (0 : Int32)), (.ref al)])) rfl (by rw [hml]; rfl) (Steps.refl _) (argsL := [(.int (0 : Int32))]) (rest := []) (lenOf pd_3 rfl) rfl (by show 2 * 0 + _ ≤ _; exact Nat.le_of_eq rfl) (hb hby d9_133) (fun _ _ => ⟨rfl, e81, (by decide : 0 + 0 ≤ _), (by decide : 0 + 0 ≤ _)⟩)
  dsimp only [Pt.U, Pt.locs, Pt.cells, Pt.slots] at X82 l82 y82 z82 st82 hQ82
  subst l82 y82 z82
  obtain ⟨rfl, N82q, he82⟩ := hQ82
  have N82 := Fr.app N79 N82q
  have Kc82 : Keep T79.heap T82.heap [] := by rw [he82]; exact Keep.refl _ _
  have B_1_82 := B_1_79.keep Kc82
  have B_2_1_82 := B_2_1_79.keep Kc82 nin0
  have B_2_2_82 := B_2_2_79.keep Kc82 nin0
  have O_82 := O_79.keep Kc82 nin0
  have O_1_82 := O_1_79.keep Kc82
  have Ve_82 := Ve_79.keep Kc82 nin0
  have Vb_82 := Vb_79.keep Kc82 nin0
  have Eb_82 := Eb_79.keep Kc82
  have K82 : Keep h0 T82.heap [] := K79.trans Kc82 all0
  have z82z : n0 ≤ T82.heap.size := Nat.le_trans z79z Kc82.1
  obtain ⟨T83, X83, e83, st83⟩ := castY X82 hx hZ hown (hw _ (List.mem_of_getElem? (i := 126) rfl)) rfl (Ins.self Eb_82) (g := (mkF m 138 #[.val (.ref a1), .val (.int (1 : Int32)), .val (.int (0 : Int32)), .val (.int sz), .unset] [(.ref blk)])) rfl rfl (hb hby d9_138)
  have fl84 : ∀ target, Steps p.tables e below (T83.setTop (mkF m 141 #[.val (.ref a1), .val (.int (1 : Int32)), .val (.int (0 : Int32)), .val (.int sz), .unset] [(.ref blk)])) target → Steps p.tables e below (T74.setTop (mkF m 15 #[.val (.ref a1), .val (.int (1 : Int32)), .val (.int (0 : Int32)), .unset, .unset] [(.int sz)])) target := fun target kt => by
    show Steps p.tables e below (T74.setTop (mkF m 15 #[.val (.ref a1), .val (.int (1 : Int32)), .val (.int (0 : Int32)), .unset, .unset] [(.int sz)])) _
    refine XS.istoreN X74.here hx rfl (hb hby d9_15) rfl (l' := #[.val (.ref a1), .val (.int (1 : Int32)), .val (.int (0 : Int32)), .val (.int sz), .unset]) rfl ?_
    show Steps p.tables e below (T74.setTop (mkF m 16 #[.val (.ref a1), .val (.int (1 : Int32)), .val (.int (0 : Int32)), .val (.int sz), .unset] [])) _
    refine XS.iloadN X74.here hx rfl (hb hby d9_16) rfl ?_
    show Steps p.tables e below (T74.setTop (mkF m 17 #[.val (.ref a1), .val (.int (1 : Int32)), .val (.int (0 : Int32)), .val (.int sz), .unset] [(.int (0 : Int32))])) _
    refine XS.aloadN X74.here hx rfl (hb hby d9_17) rfl rfl ?_
    show Steps p.tables e below (T74.setTop (mkF m 18 #[.val (.ref a1), .val (.int (1 : Int32)), .val (.int (0 : Int32)), .val (.int sz), .unset] [(.ref a1), (.int (0 : Int32))])) _
    refine st76 _ ?_
    show Steps p.tables e below (T76.setTop (mkF m 21 #[.val (.ref a1), .val (.int (1 : Int32)), .val (.int (0 : Int32)), .val (.int sz), .unset] [(.ref al), (.int (0 : Int32))])) _
    refine st77.trans ?_
    show Steps p.tables e below (T77.setTop (mkF m 26 #[.val (.ref a1), .val (.int (1 : Int32)), .val (.int (0 : Int32)), .val (.int sz), .unset] [(.int (1 : Int32)), (.int (0 : Int32))])) _
    refine XS.icmpYes X77.here hx rfl (pc0 := 26) (pc' := 65) rfl (hb hby d9_26) rfl (feq (by decide : ¬ ((0 : Int32) = (1 : Int32)))).2 (by decide) (by decide) ?_
    show Steps p.tables e below (T77.setTop (mkF m 65 #[.val (.ref a1), .val (.int (1 : Int32)), .val (.int (0 : Int32)), .val (.int sz), .unset] [])) _
    refine XS.iloadN X77.here hx rfl (hb hby d9_65) rfl ?_
    show Steps p.tables e below (T77.setTop (mkF m 66 #[.val (.ref a1), .val (.int (1 : Int32)), .val (.int (0 : Int32)), .val (.int sz), .unset] [(.int sz)])) _
    refine XS.aloadN X77.here hx rfl (hb hby d9_66) rfl rfl ?_
    show Steps p.tables e below (T77.setTop (mkF m 67 #[.val (.ref a1), .val (.int (1 : Int32)), .val (.int (0 : Int32)), .val (.int sz), .unset] [(.ref a1), (.int sz)])) _
    refine st78 _ ?_
    show Steps p.tables e below (T78.setTop (mkF m 70 #[.val (.ref a1), .val (.int (1 : Int32)), .val (.int (0 : Int32)), .val (.int sz), .unset] [(.ref al), (.int sz)])) _
    refine XS.iloadN X78.here hx rfl (hb hby d9_70) rfl ?_
    show Steps p.tables e below (T78.setTop (mkF m 71 #[.val (.ref a1), .val (.int (1 : Int32)), .val (.int (0 : Int32)), .val (.int sz), .unset] [(.int (0 : Int32)), (.ref al), (.int sz)])) _
    refine st79.trans ?_
    show Steps p.tables e below (T79.setTop (mkF m 76 #[.val (.ref a1), .val (.int (1 : Int32)), .val (.int (0 : Int32)), .val (.int sz), .unset] [(.ref blk), (.int sz)])) _
    refine st80 _ ?_
    show Steps p.tables e below (T80.setTop (mkF m 79 #[.val (.ref a1), .val (.int (1 : Int32)), .val (.int (0 : Int32)), .val (.int sz), .unset] [(.ref blk), (.int sz)])) _
    refine X80.arraylength hx (cell := clb) (by rw [e80]; exact Arb.1) (State.isArrayOf_alike hZ.alike Arb.2.1) (g := (mkF m 79 #[.val (.ref a1), .val (.int (1 : Int32)), .val (.int (0 : Int32)), .val (.int sz), .unset] [(.ref blk), (.int sz)])) rfl (rest := [(.int sz)]) rfl (hb hby d9_79) _ ?_
    rw [len_of Szb Nzb]
    show Steps p.tables e below (T80.setTop (mkF m 80 #[.val (.ref a1), .val (.int (1 : Int32)), .val (.int (0 : Int32)), .val (.int sz), .unset] [(.int (256 : Int32)), (.int sz)])) _
    refine XS.icmpYes X80.here hx rfl (pc0 := 80) (pc' := 128) rfl (hb hby d9_80) rfl (feq (h256 : ¬ (sz = (256 : Int32)))).2 (by decide) (by decide) ?_
    show Steps p.tables e below (T80.setTop (mkF m 128 #[.val (.ref a1), .val (.int (1 : Int32)), .val (.int (0 : Int32)), .val (.int sz), .unset] [])) _
    refine XS.aloadN X80.here hx rfl (hb hby d9_128) rfl rfl ?_
    show Steps p.tables e below (T80.setTop (mkF m 129 #[.val (.ref a1), .val (.int (1 : Int32)), .val (.int (0 : Int32)), .val (.int sz), .unset] [(.ref a1)])) _
    refine st81 _ ?_
    show Steps p.tables e below (T81.setTop (mkF m 132 #[.val (.ref a1), .val (.int (1 : Int32)), .val (.int (0 : Int32)), .val (.int sz), .unset] [(.ref al)])) _
    refine XS.iloadN X81.here hx rfl (hb hby d9_132) rfl ?_
    show Steps p.tables e below (T81.setTop (mkF m 133 #[.val (.ref a1), .val (.int (1 : Int32)), .val (.int (0 : Int32)), .val (.int sz), .unset] [(.int (0 : Int32)), (.ref al)])) _
    refine st82.trans ?_
    show Steps p.tables e below (T82.setTop (mkF m 138 #[.val (.ref a1), .val (.int (1 : Int32)), .val (.int (0 : Int32)), .val (.int sz), .unset] [(.ref blk)])) _
    refine st83 _ ?_
    exact kt
  obtain ⟨fs, hrt, hrun, hended, hW, hsame⟩ := X83.leave (v := some (.ref blk)) (fun h => by rw [Bd.returns] at h; cases h)
  refine ⟨_, _, pre0 _ (fl73 _ (fl75 _ (fl84 _ ?_))), hrun, hended, _, _, rfl, ?_, ⟨_, rfl⟩, hW, hsame.mono (by decide) (by decide)⟩
  · jvm_step X83.here [X83.here.top, hx, (hb hby d9_141), X83.method', Bd.returns, Value.isRef, FieldType.isReference]
    first | (intro acts; rw [hrt _ acts rfl rfl rfl]) | rw [hrt _ _ rfl rfl rfl]
    exact Steps.refl _
  · show QBW1 _ _ _ _ _ _ _ _ _ _ _ _ _ T83.heap _
    rw [e83]
    exact ⟨rfl, N82, he82.trans (he79.trans (he77))⟩
theorem ef_W0 (m : MethodId) (x0 : Addr) (x1 : Int32) : entryFrame m #[(.ref x0), (.int x1)] 3 = mkF m 0 #[.val (.ref x0), .val (.int x1), .unset] [] := by first | (simp [entryFrame, mkF, argsToLocals, Value.category]; done) | rfl
def QW0 (Z : State) (a1 : Addr) (p2 : Int32) (d0 : Addr) (kD : ClassId) (al : Addr) (mc : Int32) (h0 : Heap) (n0 : Nat) (v : Option Value) (h : Heap) (L : List Loc) : Prop := ∃ (blk ed : Addr) (kE kB : ClassId), v = none ∧ Fr n0 L ∧ Keep h0 h [a1, al] ∧ own_RB Z h a1 al 1 ∧ own_One Z h al ed blk kE kB [.int p2.toInt8.toInt32] ∧ h0.size ≤ blk ∧ n0 ≤ blk ∧ h0.size ≤ ed
set_option maxRecDepth 65536 in
set_option maxHeartbeats 40000000 in
theorem rmW0 (l : Launch) (Z : State) (a0 : Array Value) (hw : ∀ d ∈ tables_1, d.before a0 Z = true) (ws : List Jvm.Cond) (a1 : Addr) (p2 : Int32) (d0 : Addr) (kD : ClassId) (al : Addr) (mc : Int32) (h0 : Heap) (n0 : Nat) (Z0 : n0 ≤ h0.size) (Dz : own_D Z d0 kD) (Ol : Old Z n0 h0) (B : own_RB Z h0 a1 al 0) (O : own_AL Z h0 al d0 0 mc) (g_a1 : n0 ≤ a1) (g_al : n0 ≤ al) (nea : a1 ≠ al) :
    MetFree l (⟨"com/example/darter/darter/ResultBuffer", "write", "(I)V"⟩ : MethodName) (head1 (Jvm.Cond.code (⟨"com/example/darter/darter/ResultBuffer", "write", "(I)V"⟩ : MethodName) prog_10_method_2_code 3 none :: ws) ({ frames := 6, cells := 2, slots := 266, locals := 85 } : Room)) (fun a U => a = #[(.ref a1), (.int p2)] ∧ Z.Warmed39 U.vm ∧ U.heap = h0) (fun _ _ _ _ _ => True) (fun _ U o U' => ∃ v L, o = .returned v ∧ QW0 Z a1 p2 d0 kD al mc h0 n0 v U'.heap L ∧ FrameEnd U o U' L ({ frames := 6, cells := 2, slots := 266, locals := 85 } : Room).cells ({ frames := 6, cells := 2, slots := 266, locals := 85 } : Room).slots) := by
  refine MetFree.of_bodySF (plainFor_of_name pn_4) hisR ?_
  intro p e s m args below meth c s₁ Bd hml0 hP hK
  obtain ⟨rfl, hZ, hh⟩ := hP
  have hx := Bd.exec
  have hby := Bd.bytes
  have hml : c.maxLocals = 3 := hml0
  have hown : s.vm.findClass "com/example/darter/darter/ResultBuffer" = some m.cls := findClass_of_methodNamed Bd.named
  have hnm := (name_of_methodNamed Bd.named Bd.method).1
  have X0 : Stand p l e ({ frames := 6, cells := 2, slots := 266, locals := 85 } : Room) s m #[(.ref a1), (.int p2)] below meth c s₁ [] 0 0 := Stand.of_body Bd
  have e0 : s₁.heap = h0 := by rw [← hh, Bd.state]; rfl
  have N0 := Fr.nil n0
  have pre0 : ∀ t, Steps p.tables e below (s₁.setTop (mkF m 0 #[.val (.ref a1), .val (.int p2), .unset] [])) t → Steps p.tables e below (s₁.setTop (entryFrame m #[(.ref a1), (.int p2)] 3)) t := fun t k => castTop (ef_W0 m a1 p2) k
  obtain ⟨cq85, q85, q85'⟩ := B.1.cell
  obtain ⟨_, _, ⟨T85, L85, k85, n85⟩, -, X85, ⟨Lc85, hQ85, l85, y85, z85⟩, st85⟩ := X0.privateBack hx (y := (⟨"com/example/darter/darter/ResultBuffer", "makeRoom", "(I)V"⟩ : MethodName)) hown (mvT hZ (hw _ (List.mem_of_getElem? (i := 45) rfl))) (mvT hZ (hw _ (List.mem_of_getElem? (i := 46) rfl))) (mvT hZ (own_selp (x := (⟨"com/example/darter/darter/ResultBuffer", "write", "(I)V"⟩ : MethodName)) (y := (⟨"com/example/darter/darter/ResultBuffer", "makeRoom", "(I)V"⟩ : MethodName)) rfl (hw _ (List.mem_of_getElem? (i := 43) rfl)) (hw _ (List.mem_of_getElem? (i := 47) rfl)) (hw _ (List.mem_of_getElem? (i := 46) rfl)) (by decide))) (Cond.privateMethod_at (mvP hZ (hw _ (List.mem_of_getElem? (i := 47) rfl)) (args := #[]))) (mvT hZ (hw _ (List.mem_of_getElem? (i := 48) rfl))) (by decide) (backOf (W := 0) (rm8 l Z a0 hw [] a1 (1 : Int32) (0 : Int32) h0 n0 Z0 B.2.2 (by decide)) hZ (hw _ (List.mem_of_getElem? (i := 48) rfl)) (hw _ (List.mem_of_getElem? (i := 2) rfl)) (by decide) (by decide)) (g := (mkF m 2 #[.val (.ref a1), .val (.int p2), .unset] [(.int (1 : Int32)), (.ref a1)])) rfl (by rw [hml]; rfl) (Steps.refl _) (a := a1) (by rw [e0]; exact q85) q85' (argsL := [(.int (1 : Int32))]) (rest := []) (lenOf pd_9 rfl) rfl (by show 2 * 0 + _ ≤ _; exact Nat.le_of_eq rfl) (hb hby d7_2) (fun _ _ => ⟨rfl, e0, (by decide : 0 + 0 ≤ _), (by decide : 0 + 0 ≤ _)⟩)
  dsimp only [Pt.U, Pt.locs, Pt.cells, Pt.slots] at X85 l85 y85 z85 st85 hQ85
  subst l85 y85 z85
  obtain ⟨rfl, N85q, he85⟩ := hQ85
  have N85 := Fr.app N0 N85q
  have Kc85 : Keep h0 T85.heap [] := by rw [he85]; exact Keep.refl _ _
  have B_1_85 := B.1.keep Kc85
  have B_2_1_85 := B.2.1.keep Kc85 nin0
  have B_2_2_85 := B.2.2.keep Kc85 nin0
  have O_85 := O.keep Kc85 nin0
  have Ol_85 := Ol.keep Kc85 all0
  have K85 : Keep h0 T85.heap [a1, al] := (Keep.refl h0 [a1, al]).trans Kc85 all0
  have z85z : n0 ≤ T85.heap.size := Nat.le_trans Z0 Kc85.1
  have Bq : own_RB Z T85.heap a1 al 0 := ⟨B_1_85, B_2_1_85, B_2_2_85⟩
  have ltal : al < T85.heap.size := O_85.lt
  obtain ⟨cq86, q86, q86'⟩ := B_1_85.cell
  obtain ⟨_, _, ⟨T86, L86, k86, n86⟩, -, X86, ⟨Lc86, hQ86, l86, y86, z86⟩, st86⟩ := X85.privateBack hx (y := (⟨"com/example/darter/darter/ResultBuffer", "blockWithRoom", "(I)[B"⟩ : MethodName)) hown (mvT hZ (hw _ (List.mem_of_getElem? (i := 52) rfl))) (mvT hZ (hw _ (List.mem_of_getElem? (i := 53) rfl))) (mvT hZ (own_selp (x := (⟨"com/example/darter/darter/ResultBuffer", "write", "(I)V"⟩ : MethodName)) (y := (⟨"com/example/darter/darter/ResultBuffer", "blockWithRoom", "(I)[B"⟩ : MethodName)) rfl (hw _ (List.mem_of_getElem? (i := 43) rfl)) (hw _ (List.mem_of_getElem? (i := 54) rfl)) (hw _ (List.mem_of_getElem? (i := 53) rfl)) (by decide))) (Cond.privateMethod_at (mvP hZ (hw _ (List.mem_of_getElem? (i := 54) rfl)) (args := #[]))) (mvT hZ (hw _ (List.mem_of_getElem? (i := 55) rfl))) (by decide) (backOf (W := 0) (rmBW0 l Z a0 hw [] a1 (1 : Int32) d0 kD al mc T85.heap n0 z85z rfl Dz Ol_85 Bq O_85 g_al nea ltal) hZ (hw _ (List.mem_of_getElem? (i := 55) rfl)) (hw _ (List.mem_of_getElem? (i := 2) rfl)) (by decide) (by decide)) (g := (mkF m 7 #[.val (.ref a1), .val (.int p2), .unset] [(.int (1 : Int32)), (.ref a1)])) rfl (by rw [hml]; rfl) (Steps.refl _) (a := a1) q86 q86' (argsL := [(.int (1 : Int32))]) (rest := []) (lenOf pd_10 rfl) rfl (by show 2 * 0 + _ ≤ _; exact Nat.le_of_eq rfl) (hb hby d7_7) (fun _ _ => ⟨rfl, rfl, (by decide : 0 + 2 ≤ _), (by decide : 0 + 266 ≤ _)⟩)
  dsimp only [Pt.U, Pt.locs, Pt.cells, Pt.slots] at X86 l86 y86 z86 st86 hQ86
  subst l86 y86 z86
  obtain ⟨blk, ed, kE, kB, rfl, N86q, Kc86, Bc, Oc, szb, gb, sze⟩ := hQ86
  have N86 := Fr.app N85 N86q
  have sz_blk : h0.size ≤ blk := Nat.le_trans (K85).1 szb
  have sz_ed : h0.size ≤ ed := Nat.le_trans (K85).1 sze
  have nab : a1 ≠ blk := Nat.ne_of_lt (Nat.lt_of_lt_of_le B.1.lt sz_blk)
  have nae : a1 ≠ ed := Nat.ne_of_lt (Nat.lt_of_lt_of_le B.1.lt sz_ed)
  have g_blk : n0 ≤ blk := gb
  have B_1_86 := B_1_85.keep Kc86
  have B_2_1_86 := B_2_1_85.keep Kc86 (ninS nea nin0)
  have B_2_2_86 := B_2_2_85.keep Kc86 (ninS nea nin0)
  have Ol_86 := Ol_85.keep Kc86 (allS g_al all0)
  have K86 : Keep h0 T86.heap [a1, al] := K85.trans Kc86 (allS (Or.inl (List.mem_of_getElem? (i := 1) rfl)) (all0))
  have z86z : n0 ≤ T86.heap.size := Nat.le_trans z85z Kc86.1
  obtain ⟨⟨mc1, Oa⟩, Ve, Eb, Vb, nle, nlb, neb⟩ := Oc
  obtain ⟨T87, X87, e87, st87⟩ := getF X86 hx hZ hown (host := "") (Or.inl (hw _ (List.mem_of_getElem? (i := 49) rfl))) Via.refl rfl Bc.2.2 (g := (mkF m 13 #[.val (.ref a1), .val (.int p2), .val (.ref blk)] [(.ref a1), (.ref blk)])) rfl rfl (hb hby d7_13)
  have fl88 : ∀ target, Steps p.tables e below (T87.setTop (mkF m 19 #[.val (.ref a1), .val (.int p2), .val (.ref blk)] [(.int ((0 : Int32) % (131072 : Int32))), (.ref blk)])) target → Steps p.tables e below (s₁.setTop (mkF m 0 #[.val (.ref a1), .val (.int p2), .unset] [])) target := fun target kt => by
    show Steps p.tables e below (s₁.setTop (mkF m 0 #[.val (.ref a1), .val (.int p2), .unset] [])) _
    refine XS.aloadN X0.here hx rfl (hb hby d7_0) rfl rfl ?_
    show Steps p.tables e below (s₁.setTop (mkF m 1 #[.val (.ref a1), .val (.int p2), .unset] [(.ref a1)])) _
    refine XS.iconst X0.here hx rfl (hb hby d7_1) ?_
    show Steps p.tables e below (s₁.setTop (mkF m 2 #[.val (.ref a1), .val (.int p2), .unset] [(.int (1 : Int32)), (.ref a1)])) _
    refine st85.trans ?_
    show Steps p.tables e below (T85.setTop (mkF m 5 #[.val (.ref a1), .val (.int p2), .unset] [])) _
    refine XS.aloadN X85.here hx rfl (hb hby d7_5) rfl rfl ?_
    show Steps p.tables e below (T85.setTop (mkF m 6 #[.val (.ref a1), .val (.int p2), .unset] [(.ref a1)])) _
    refine XS.iconst X85.here hx rfl (hb hby d7_6) ?_
    show Steps p.tables e below (T85.setTop (mkF m 7 #[.val (.ref a1), .val (.int p2), .unset] [(.int (1 : Int32)), (.ref a1)])) _
    refine st86.trans ?_
    show Steps p.tables e below (T86.setTop (mkF m 10 #[.val (.ref a1), .val (.int p2), .unset] [(.ref blk)])) _
    refine XS.astoreN X86.here hx rfl (hb hby d7_10) rfl rfl (l' := #[.val (.ref a1), .val (.int p2), .val (.ref blk)]) rfl ?_
    show Steps p.tables e below (T86.setTop (mkF m 11 #[.val (.ref a1), .val (.int p2), .val (.ref blk)] [])) _
    refine XS.aloadN X86.here hx rfl (hb hby d7_11) rfl rfl ?_
    show Steps p.tables e below (T86.setTop (mkF m 12 #[.val (.ref a1), .val (.int p2), .val (.ref blk)] [(.ref blk)])) _
    refine XS.aloadN X86.here hx rfl (hb hby d7_12) rfl rfl ?_
    show Steps p.tables e below (T86.setTop (mkF m 13 #[.val (.ref a1), .val (.int p2), .val (.ref blk)] [(.ref a1), (.ref blk)])) _
    refine st87 _ ?_
    show Steps p.tables e below (T87.setTop (mkF m 16 #[.val (.ref a1), .val (.int p2), .val (.ref blk)] [(.int (0 : Int32)), (.ref blk)])) _
    refine X87.ldcInt hx hown (mvT hZ (hw _ (List.mem_of_getElem? (i := 56) rfl))) (g := (mkF m 16 #[.val (.ref a1), .val (.int p2), .val (.ref blk)] [(.int (0 : Int32)), (.ref blk)])) rfl (hb hby d7_16) _ ?_
    show Steps p.tables e below (T87.setTop (mkF m 18 #[.val (.ref a1), .val (.int p2), .val (.ref blk)] [(.int (131072 : Int32)), (.int (0 : Int32)), (.ref blk)])) _
    refine iremM X87 hx rfl (hb hby d7_18) rfl (by decide) ?_
    exact kt
  rw [show ((0 : Int32) % (131072 : Int32)) = (0 : Int32) by decide] at fl88
  have Vp : Arv Z T86.heap blk kB .byte (256 : Int32) [.int (0 : Int32)] (.int (0 : Int32)) := Vb.pad (pad_rep [] (.int (0 : Int32)) 1)
  obtain ⟨clb, Arb, qkb, Szb, Nzb, Hvb, Gvb⟩ := id Vp
  have hinb : ¬ ((0 : Int32) < 0 ∨ clb.slots.size ≤ (0 : Int32).toNatClampNeg) := inb_of Szb ⟨by decide, by decide⟩
  obtain ⟨T89, h89, X89, e89, W89, st89⟩ := stB X87 hx hZ e87 Arb (j := (0 : Int32)) hinb (g := (mkF m 21 #[.val (.ref a1), .val (.int p2), .val (.ref blk)] [(.int (p2.toInt8.toInt32)), (.int (0 : Int32)), (.ref blk)])) rfl rfl (hb hby d7_21)
  have Bc_1_89 := Bc.1.wr W89
  have Bc_2_1_89 := Bc.2.1.other W89 (Or.inl nab)
  have Bc_2_2_89 := Bc.2.2.other W89 (Or.inl nab)
  have Ol_89 := Ol_86.wr W89 g_blk
  have Oa_89 := Oa.other W89 nlb
  have Ve_89 := Ve.other W89 neb
  have Eb_89 := Eb.wr W89
  have N89 := Fr.snoc X89 N86 g_blk
  have K89 : Keep h0 h89 [a1, al] := K86.wr W89 (Or.inr sz_blk)
  have z89 : n0 ≤ h89.size := Nat.le_trans z86z (Keep.of_wr W89).1
  have Vs : Arv Z h89 blk kB .byte (256 : Int32) [.int p2.toInt8.toInt32] (.int (0 : Int32)) := by
    have q := Arv.set Arb qkb Szb Nzb Hvb Gvb (fits_nar_byte _) W89 0 rfl (Nat.le_of_ble_eq_true rfl)
    rw [own_b8 p2] at q
    exact q
  obtain ⟨T90, X90, e90, st90⟩ := getF X89 hx hZ hown (host := "") (Or.inl (hw _ (List.mem_of_getElem? (i := 49) rfl))) Via.refl e89 Bc_2_2_89 (g := (mkF m 24 #[.val (.ref a1), .val (.int p2), .val (.ref blk)] [(.ref a1), (.ref a1)])) rfl rfl (hb hby d7_24)
  have fl91 : ∀ target, Steps p.tables e below (T90.setTop (mkF m 29 #[.val (.ref a1), .val (.int p2), .val (.ref blk)] [(.int ((0 : Int32) + (1 : Int32))), (.ref a1)])) target → Steps p.tables e below (T87.setTop (mkF m 19 #[.val (.ref a1), .val (.int p2), .val (.ref blk)] [(.int (0 : Int32)), (.ref blk)])) target := fun target kt => by
    show Steps p.tables e below (T87.setTop (mkF m 19 #[.val (.ref a1), .val (.int p2), .val (.ref blk)] [(.int (0 : Int32)), (.ref blk)])) _
    refine XS.iloadN X87.here hx rfl (hb hby d7_19) rfl ?_
    show Steps p.tables e below (T87.setTop (mkF m 20 #[.val (.ref a1), .val (.int p2), .val (.ref blk)] [(.int p2), (.int (0 : Int32)), (.ref blk)])) _
    refine XS.i2b X87.here hx rfl (hb hby d7_20) rfl ?_
    show Steps p.tables e below (T87.setTop (mkF m 21 #[.val (.ref a1), .val (.int p2), .val (.ref blk)] [(.int (p2.toInt8.toInt32)), (.int (0 : Int32)), (.ref blk)])) _
    refine st89 _ ?_
    show Steps p.tables e below (T89.setTop (mkF m 22 #[.val (.ref a1), .val (.int p2), .val (.ref blk)] [])) _
    refine XS.aloadN X89.here hx rfl (hb hby d7_22) rfl rfl ?_
    show Steps p.tables e below (T89.setTop (mkF m 23 #[.val (.ref a1), .val (.int p2), .val (.ref blk)] [(.ref a1)])) _
    refine XS.dup X89.here hx rfl (hb hby d7_23) rfl rfl ?_
    show Steps p.tables e below (T89.setTop (mkF m 24 #[.val (.ref a1), .val (.int p2), .val (.ref blk)] [(.ref a1), (.ref a1)])) _
    refine st90 _ ?_
    show Steps p.tables e below (T90.setTop (mkF m 27 #[.val (.ref a1), .val (.int p2), .val (.ref blk)] [(.int (0 : Int32)), (.ref a1)])) _
    refine XS.iconst X90.here hx rfl (hb hby d7_27) ?_
    show Steps p.tables e below (T90.setTop (mkF m 28 #[.val (.ref a1), .val (.int p2), .val (.ref blk)] [(.int (1 : Int32)), (.int (0 : Int32)), (.ref a1)])) _
    refine XS.iadd X90.here hx rfl (hb hby d7_28) rfl ?_
    exact kt
  rw [show ((0 : Int32) + (1 : Int32)) = (1 : Int32) by decide] at fl91
  obtain ⟨T92, h92, X92, e92, W92, st92⟩ := putF X90 hx hZ hown (host := "") (Or.inl (hw _ (List.mem_of_getElem? (i := 49) rfl))) Via.refl e90 Bc_2_2_89 Bc_1_89 (Or.inl (hw _ (List.mem_of_getElem? (i := 50) rfl))) (hw _ (List.mem_of_getElem? (i := 1) rfl)) (ty := .int) (by decide) rfl rfl (g := (mkF m 29 #[.val (.ref a1), .val (.int p2), .val (.ref blk)] [(.int (1 : Int32)), (.ref a1)])) rfl rfl (hb hby d7_29)
  have Fw92 := Bc_2_2_89.same W92
  have Bc_1_92 := Bc_1_89.wr W92
  have Bc_2_1_92 := Bc_2_1_89.other W92 (Or.inr (slot_ne (Or.inr (hw _ (List.mem_of_getElem? (i := 39) rfl))) (Or.inl (hw _ (List.mem_of_getElem? (i := 50) rfl))) (by decide) (t := (.object "java/util/List")) (t' := .int) (by decide) (by decide)))
  have Ol_92 := Ol_89.wr W92 g_a1
  have Oa_92 := Oa_89.other W92 (Ne.symm nea)
  have Ve_92 := Ve_89.other W92 (Ne.symm nae)
  have Eb_92 := Eb_89.wr W92
  have Vs_92 := Vs.other W92 (Ne.symm nab)
  have N92 := Fr.snoc X92 N89 g_a1
  have K92 : Keep h0 h92 [a1, al] := K89.wr W92 (Or.inl (List.mem_of_getElem? (i := 0) rfl))
  have z92 : n0 ≤ h92.size := Nat.le_trans z89 (Keep.of_wr W92).1
  have fl93 : ∀ target, Steps p.tables e below (T92.setTop (mkF m 32 #[.val (.ref a1), .val (.int p2), .val (.ref blk)] [])) target → Steps p.tables e below (T90.setTop (mkF m 29 #[.val (.ref a1), .val (.int p2), .val (.ref blk)] [(.int (1 : Int32)), (.ref a1)])) target := fun target kt => by
    show Steps p.tables e below (T90.setTop (mkF m 29 #[.val (.ref a1), .val (.int p2), .val (.ref blk)] [(.int (1 : Int32)), (.ref a1)])) _
    refine st92 _ ?_
    exact kt
  obtain ⟨fs, hrt, hrun, hended, hW, hsame⟩ := X92.leave (v := none) (fun _ => rfl)
  refine ⟨_, _, pre0 _ (fl88 _ (fl91 _ (fl93 _ ?_))), hrun, hended, _, _, rfl, ?_, ⟨_, rfl⟩, hW, hsame.mono (by decide) (by decide)⟩
  · exact X92.returnOut hx Bd.returns (hb hby d7_32) hrt
  · show QW0 _ _ _ _ _ _ _ _ _ _ T92.heap _
    rw [e92]
    exact ⟨blk, ed, kE, kB, rfl, N92, K92, ⟨Bc_1_92, Bc_2_1_92, Fw92⟩, ⟨⟨_, Oa_92⟩, Ve_92, Eb_92, Vs_92, nle, nlb, neb⟩, sz_blk, gb, sz_ed⟩
theorem ef_W1 (m : MethodId) (x0 : Addr) (x1 : Int32) : entryFrame m #[(.ref x0), (.int x1)] 3 = mkF m 0 #[.val (.ref x0), .val (.int x1), .unset] [] := by first | (simp [entryFrame, mkF, argsToLocals, Value.category]; done) | rfl
def QW1 (Z : State) (a1 : Addr) (p2 : Int32) (al : Addr) (ed : Addr) (blk : Addr) (kE : ClassId) (kB : ClassId) (vs : List Value) (sz : Int32) (sz1 : Int32) (h0 : Heap) (n0 : Nat) (v : Option Value) (h : Heap) (L : List Loc) : Prop := v = none ∧ Fr n0 L ∧ Keep h0 h [a1, blk] ∧ own_RB Z h a1 al sz1 ∧ own_One Z h al ed blk kE kB (vs ++ [.int p2.toInt8.toInt32])
set_option maxRecDepth 65536 in
set_option maxHeartbeats 40000000 in
theorem rmW1 (l : Launch) (Z : State) (a0 : Array Value) (hw : ∀ d ∈ tables_1, d.before a0 Z = true) (ws : List Jvm.Cond) (a1 : Addr) (p2 : Int32) (al : Addr) (ed : Addr) (blk : Addr) (kE : ClassId) (kB : ClassId) (vs : List Value) (sz : Int32) (sz1 : Int32) (h0 : Heap) (n0 : Nat) (Z0 : n0 ≤ h0.size) (B : own_RB Z h0 a1 al sz) (One1 : own_One Z h0 al ed blk kE kB vs) (hq : sz / (131072 : Int32) = 0) (hm : sz % (131072 : Int32) = sz) (h256 : ¬ sz = (256 : Int32)) (hsz : ¬ (67108864 : Int64) < sz.toInt64 + (1 : Int32).toInt64) (hin : ¬ sz < 0 ∧ sz < (256 : Int32)) (hlen : sz.toNatClampNeg = vs.length) (hs1 : sz1 = sz + (1 : Int32)) (g_a1 : n0 ≤ a1) (g_blk : n0 ≤ blk) (nea : a1 ≠ al) (nae : a1 ≠ ed) (nab : a1 ≠ blk) :
    MetFree l (⟨"com/example/darter/darter/ResultBuffer", "write", "(I)V"⟩ : MethodName) (head1 (Jvm.Cond.code (⟨"com/example/darter/darter/ResultBuffer", "write", "(I)V"⟩ : MethodName) prog_10_method_2_code 3 none :: ws) ({ frames := 4, cells := 0, slots := 0, locals := 57 } : Room)) (fun a U => a = #[(.ref a1), (.int p2)] ∧ Z.Warmed39 U.vm ∧ U.heap = h0) (fun _ _ _ _ _ => True) (fun _ U o U' => ∃ v L, o = .returned v ∧ QW1 Z a1 p2 al ed blk kE kB vs sz sz1 h0 n0 v U'.heap L ∧ FrameEnd U o U' L ({ frames := 4, cells := 0, slots := 0, locals := 57 } : Room).cells ({ frames := 4, cells := 0, slots := 0, locals := 57 } : Room).slots) := by
  refine MetFree.of_bodySF (plainFor_of_name pn_4) hisR ?_
  intro p e s m args below meth c s₁ Bd hml0 hP hK
  obtain ⟨rfl, hZ, hh⟩ := hP
  have hx := Bd.exec
  have hby := Bd.bytes
  have hml : c.maxLocals = 3 := hml0
  have hown : s.vm.findClass "com/example/darter/darter/ResultBuffer" = some m.cls := findClass_of_methodNamed Bd.named
  have hnm := (name_of_methodNamed Bd.named Bd.method).1
  have X0 : Stand p l e ({ frames := 4, cells := 0, slots := 0, locals := 57 } : Room) s m #[(.ref a1), (.int p2)] below meth c s₁ [] 0 0 := Stand.of_body Bd
  have e0 : s₁.heap = h0 := by rw [← hh, Bd.state]; rfl
  have N0 := Fr.nil n0
  have pre0 : ∀ t, Steps p.tables e below (s₁.setTop (mkF m 0 #[.val (.ref a1), .val (.int p2), .unset] [])) t → Steps p.tables e below (s₁.setTop (entryFrame m #[(.ref a1), (.int p2)] 3)) t := fun t k => castTop (ef_W1 m a1 p2) k
  obtain ⟨⟨mc, O⟩, Ve, Eb, Vb, nle, nlb, neb⟩ := One1
  obtain ⟨cq94, q94, q94'⟩ := B.1.cell
  obtain ⟨_, _, ⟨T94, L94, k94, n94⟩, -, X94, ⟨Lc94, hQ94, l94, y94, z94⟩, st94⟩ := X0.privateBack hx (y := (⟨"com/example/darter/darter/ResultBuffer", "makeRoom", "(I)V"⟩ : MethodName)) hown (mvT hZ (hw _ (List.mem_of_getElem? (i := 45) rfl))) (mvT hZ (hw _ (List.mem_of_getElem? (i := 46) rfl))) (mvT hZ (own_selp (x := (⟨"com/example/darter/darter/ResultBuffer", "write", "(I)V"⟩ : MethodName)) (y := (⟨"com/example/darter/darter/ResultBuffer", "makeRoom", "(I)V"⟩ : MethodName)) rfl (hw _ (List.mem_of_getElem? (i := 43) rfl)) (hw _ (List.mem_of_getElem? (i := 47) rfl)) (hw _ (List.mem_of_getElem? (i := 46) rfl)) (by decide))) (Cond.privateMethod_at (mvP hZ (hw _ (List.mem_of_getElem? (i := 47) rfl)) (args := #[]))) (mvT hZ (hw _ (List.mem_of_getElem? (i := 48) rfl))) (by decide) (backOf (W := 0) (rm8 l Z a0 hw [] a1 (1 : Int32) sz h0 n0 Z0 B.2.2 hsz) hZ (hw _ (List.mem_of_getElem? (i := 48) rfl)) (hw _ (List.mem_of_getElem? (i := 2) rfl)) (by decide) (by decide)) (g := (mkF m 2 #[.val (.ref a1), .val (.int p2), .unset] [(.int (1 : Int32)), (.ref a1)])) rfl (by rw [hml]; rfl) (Steps.refl _) (a := a1) (by rw [e0]; exact q94) q94' (argsL := [(.int (1 : Int32))]) (rest := []) (lenOf pd_9 rfl) rfl (by show 2 * 0 + _ ≤ _; exact Nat.le_of_eq rfl) (hb hby d7_2) (fun _ _ => ⟨rfl, e0, (by decide : 0 + 0 ≤ _), (by decide : 0 + 0 ≤ _)⟩)
  dsimp only [Pt.U, Pt.locs, Pt.cells, Pt.slots] at X94 l94 y94 z94 st94 hQ94
  subst l94 y94 z94
  obtain ⟨rfl, N94q, he94⟩ := hQ94
  have N94 := Fr.app N0 N94q
  have Kc94 : Keep h0 T94.heap [] := by rw [he94]; exact Keep.refl _ _
  have B_1_94 := B.1.keep Kc94
  have B_2_1_94 := B.2.1.keep Kc94 nin0
  have B_2_2_94 := B.2.2.keep Kc94 nin0
  have O_94 := O.keep Kc94 nin0
  have Ve_94 := Ve.keep Kc94 nin0
  have Eb_94 := Eb.keep Kc94
  have Vb_94 := Vb.keep Kc94 nin0
  have K94 : Keep h0 T94.heap [a1, blk] := (Keep.refl h0 [a1, blk]).trans Kc94 all0
  have z94z : n0 ≤ T94.heap.size := Nat.le_trans Z0 Kc94.1
  obtain ⟨cq95, q95, q95'⟩ := B_1_94.cell
  obtain ⟨_, _, ⟨T95, L95, k95, n95⟩, -, X95, ⟨Lc95, hQ95, l95, y95, z95⟩, st95⟩ := X94.privateBack hx (y := (⟨"com/example/darter/darter/ResultBuffer", "blockWithRoom", "(I)[B"⟩ : MethodName)) hown (mvT hZ (hw _ (List.mem_of_getElem? (i := 52) rfl))) (mvT hZ (hw _ (List.mem_of_getElem? (i := 53) rfl))) (mvT hZ (own_selp (x := (⟨"com/example/darter/darter/ResultBuffer", "write", "(I)V"⟩ : MethodName)) (y := (⟨"com/example/darter/darter/ResultBuffer", "blockWithRoom", "(I)[B"⟩ : MethodName)) rfl (hw _ (List.mem_of_getElem? (i := 43) rfl)) (hw _ (List.mem_of_getElem? (i := 54) rfl)) (hw _ (List.mem_of_getElem? (i := 53) rfl)) (by decide))) (Cond.privateMethod_at (mvP hZ (hw _ (List.mem_of_getElem? (i := 54) rfl)) (args := #[]))) (mvT hZ (hw _ (List.mem_of_getElem? (i := 55) rfl))) (by decide) (backOf (W := 0) (rmBW1 l Z a0 hw [] a1 (1 : Int32) al ed blk kE kB vs sz T94.heap n0 z94z rfl ⟨B_1_94, B_2_1_94, B_2_2_94⟩ ⟨⟨mc, O_94⟩, Ve_94, Eb_94, Vb_94, nle, nlb, neb⟩ hq hm h256) hZ (hw _ (List.mem_of_getElem? (i := 55) rfl)) (hw _ (List.mem_of_getElem? (i := 2) rfl)) (by decide) (by decide)) (g := (mkF m 7 #[.val (.ref a1), .val (.int p2), .unset] [(.int (1 : Int32)), (.ref a1)])) rfl (by rw [hml]; rfl) (Steps.refl _) (a := a1) q95 q95' (argsL := [(.int (1 : Int32))]) (rest := []) (lenOf pd_10 rfl) rfl (by show 2 * 0 + _ ≤ _; exact Nat.le_of_eq rfl) (hb hby d7_7) (fun _ _ => ⟨rfl, rfl, (by decide : 0 + 0 ≤ _), (by decide : 0 + 0 ≤ _)⟩)
  dsimp only [Pt.U, Pt.locs, Pt.cells, Pt.slots] at X95 l95 y95 z95 st95 hQ95
  subst l95 y95 z95
  obtain ⟨rfl, N95q, he95⟩ := hQ95
  have N95 := Fr.app N94 N95q
  have Kc95 : Keep T94.heap T95.heap [] := by rw [he95]; exact Keep.refl _ _
  have B_1_95 := B_1_94.keep Kc95
  have B_2_1_95 := B_2_1_94.keep Kc95 nin0
  have B_2_2_95 := B_2_2_94.keep Kc95 nin0
  have O_95 := O_94.keep Kc95 nin0
  have Ve_95 := Ve_94.keep Kc95 nin0
  have Eb_95 := Eb_94.keep Kc95
  have Vb_95 := Vb_94.keep Kc95 nin0
  have K95 : Keep h0 T95.heap [a1, blk] := K94.trans Kc95 all0
  have z95z : n0 ≤ T95.heap.size := Nat.le_trans z94z Kc95.1
  obtain ⟨T96, X96, e96, st96⟩ := getF X95 hx hZ hown (host := "") (Or.inl (hw _ (List.mem_of_getElem? (i := 49) rfl))) Via.refl rfl B_2_2_95 (g := (mkF m 13 #[.val (.ref a1), .val (.int p2), .val (.ref blk)] [(.ref a1), (.ref blk)])) rfl rfl (hb hby d7_13)
  have fl97 : ∀ target, Steps p.tables e below (T96.setTop (mkF m 19 #[.val (.ref a1), .val (.int p2), .val (.ref blk)] [(.int (sz % (131072 : Int32))), (.ref blk)])) target → Steps p.tables e below (s₁.setTop (mkF m 0 #[.val (.ref a1), .val (.int p2), .unset] [])) target := fun target kt => by
    show Steps p.tables e below (s₁.setTop (mkF m 0 #[.val (.ref a1), .val (.int p2), .unset] [])) _
    refine XS.aloadN X0.here hx rfl (hb hby d7_0) rfl rfl ?_
    show Steps p.tables e below (s₁.setTop (mkF m 1 #[.val (.ref a1), .val (.int p2), .unset] [(.ref a1)])) _
    refine XS.iconst X0.here hx rfl (hb hby d7_1) ?_
    show Steps p.tables e below (s₁.setTop (mkF m 2 #[.val (.ref a1), .val (.int p2), .unset] [(.int (1 : Int32)), (.ref a1)])) _
    refine st94.trans ?_
    show Steps p.tables e below (T94.setTop (mkF m 5 #[.val (.ref a1), .val (.int p2), .unset] [])) _
    refine XS.aloadN X94.here hx rfl (hb hby d7_5) rfl rfl ?_
    show Steps p.tables e below (T94.setTop (mkF m 6 #[.val (.ref a1), .val (.int p2), .unset] [(.ref a1)])) _
    refine XS.iconst X94.here hx rfl (hb hby d7_6) ?_
    show Steps p.tables e below (T94.setTop (mkF m 7 #[.val (.ref a1), .val (.int p2), .unset] [(.int (1 : Int32)), (.ref a1)])) _
    refine st95.trans ?_
    show Steps p.tables e below (T95.setTop (mkF m 10 #[.val (.ref a1), .val (.int p2), .unset] [(.ref blk)])) _
    refine XS.astoreN X95.here hx rfl (hb hby d7_10) rfl rfl (l' := #[.val (.ref a1), .val (.int p2), .val (.ref blk)]) rfl ?_
    show Steps p.tables e below (T95.setTop (mkF m 11 #[.val (.ref a1), .val (.int p2), .val (.ref blk)] [])) _
    refine XS.aloadN X95.here hx rfl (hb hby d7_11) rfl rfl ?_
    show Steps p.tables e below (T95.setTop (mkF m 12 #[.val (.ref a1), .val (.int p2), .val (.ref blk)] [(.ref blk)])) _
    refine XS.aloadN X95.here hx rfl (hb hby d7_12) rfl rfl ?_
    show Steps p.tables e below (T95.setTop (mkF m 13 #[.val (.ref a1), .val (.int p2), .val (.ref blk)] [(.ref a1), (.ref blk)])) _
    refine st96 _ ?_
    show Steps p.tables e below (T96.setTop (mkF m 16 #[.val (.ref a1), .val (.int p2), .val (.ref blk)] [(.int sz), (.ref blk)])) _
    refine X96.ldcInt hx hown (mvT hZ (hw _ (List.mem_of_getElem? (i := 56) rfl))) (g := (mkF m 16 #[.val (.ref a1), .val (.int p2), .val (.ref blk)] [(.int sz), (.ref blk)])) rfl (hb hby d7_16) _ ?_
    show Steps p.tables e below (T96.setTop (mkF m 18 #[.val (.ref a1), .val (.int p2), .val (.ref blk)] [(.int (131072 : Int32)), (.int sz), (.ref blk)])) _
    refine iremM X96 hx rfl (hb hby d7_18) rfl (by decide) ?_
    exact kt
  rw [hm] at fl97
  have Vp := Vb_95.pad (pad_rep vs (.int (0 : Int32)) 1)
  obtain ⟨clb, Arb, qkb, Szb, Nzb, Hvb, Gvb⟩ := id Vp
  have hinb : ¬ (sz < 0 ∨ clb.slots.size ≤ sz.toNatClampNeg) := inb_of Szb hin
  obtain ⟨T98, h98, X98, e98, W98, st98⟩ := stB X96 hx hZ e96 Arb (j := sz) hinb (g := (mkF m 21 #[.val (.ref a1), .val (.int p2), .val (.ref blk)] [(.int (p2.toInt8.toInt32)), (.int sz), (.ref blk)])) rfl rfl (hb hby d7_21)
  have B_1_98 := B_1_95.wr W98
  have B_2_1_98 := B_2_1_95.other W98 (Or.inl nab)
  have B_2_2_98 := B_2_2_95.other W98 (Or.inl nab)
  have O_98 := O_95.other W98 nlb
  have Ve_98 := Ve_95.other W98 neb
  have Eb_98 := Eb_95.wr W98
  have N98 := Fr.snoc X98 N95 g_blk
  have K98 : Keep h0 h98 [a1, blk] := K95.wr W98 (Or.inl (List.mem_of_getElem? (i := 1) rfl))
  have z98 : n0 ≤ h98.size := Nat.le_trans z95z (Keep.of_wr W98).1
  have Vs : Arv Z h98 blk kB .byte (256 : Int32) (vs ++ [.int p2.toInt8.toInt32]) (.int (0 : Int32)) := by
    have q := Arv.set Arb qkb Szb Nzb Hvb Gvb (fits_nar_byte _) W98 vs.length hlen (by simp)
    rw [own_b8 p2, own_app] at q
    exact q
  obtain ⟨T99, X99, e99, st99⟩ := getF X98 hx hZ hown (host := "") (Or.inl (hw _ (List.mem_of_getElem? (i := 49) rfl))) Via.refl e98 B_2_2_98 (g := (mkF m 24 #[.val (.ref a1), .val (.int p2), .val (.ref blk)] [(.ref a1), (.ref a1)])) rfl rfl (hb hby d7_24)
  have fl100 : ∀ target, Steps p.tables e below (T99.setTop (mkF m 29 #[.val (.ref a1), .val (.int p2), .val (.ref blk)] [(.int (sz + (1 : Int32))), (.ref a1)])) target → Steps p.tables e below (T96.setTop (mkF m 19 #[.val (.ref a1), .val (.int p2), .val (.ref blk)] [(.int sz), (.ref blk)])) target := fun target kt => by
    show Steps p.tables e below (T96.setTop (mkF m 19 #[.val (.ref a1), .val (.int p2), .val (.ref blk)] [(.int sz), (.ref blk)])) _
    refine XS.iloadN X96.here hx rfl (hb hby d7_19) rfl ?_
    show Steps p.tables e below (T96.setTop (mkF m 20 #[.val (.ref a1), .val (.int p2), .val (.ref blk)] [(.int p2), (.int sz), (.ref blk)])) _
    refine XS.i2b X96.here hx rfl (hb hby d7_20) rfl ?_
    show Steps p.tables e below (T96.setTop (mkF m 21 #[.val (.ref a1), .val (.int p2), .val (.ref blk)] [(.int (p2.toInt8.toInt32)), (.int sz), (.ref blk)])) _
    refine st98 _ ?_
    show Steps p.tables e below (T98.setTop (mkF m 22 #[.val (.ref a1), .val (.int p2), .val (.ref blk)] [])) _
    refine XS.aloadN X98.here hx rfl (hb hby d7_22) rfl rfl ?_
    show Steps p.tables e below (T98.setTop (mkF m 23 #[.val (.ref a1), .val (.int p2), .val (.ref blk)] [(.ref a1)])) _
    refine XS.dup X98.here hx rfl (hb hby d7_23) rfl rfl ?_
    show Steps p.tables e below (T98.setTop (mkF m 24 #[.val (.ref a1), .val (.int p2), .val (.ref blk)] [(.ref a1), (.ref a1)])) _
    refine st99 _ ?_
    show Steps p.tables e below (T99.setTop (mkF m 27 #[.val (.ref a1), .val (.int p2), .val (.ref blk)] [(.int sz), (.ref a1)])) _
    refine XS.iconst X99.here hx rfl (hb hby d7_27) ?_
    show Steps p.tables e below (T99.setTop (mkF m 28 #[.val (.ref a1), .val (.int p2), .val (.ref blk)] [(.int (1 : Int32)), (.int sz), (.ref a1)])) _
    refine XS.iadd X99.here hx rfl (hb hby d7_28) rfl ?_
    exact kt
  rw [← hs1] at fl100
  obtain ⟨T101, h101, X101, e101, W101, st101⟩ := putF X99 hx hZ hown (host := "") (Or.inl (hw _ (List.mem_of_getElem? (i := 49) rfl))) Via.refl e99 B_2_2_98 B_1_98 (Or.inl (hw _ (List.mem_of_getElem? (i := 50) rfl))) (hw _ (List.mem_of_getElem? (i := 1) rfl)) (ty := .int) (by decide) rfl rfl (g := (mkF m 29 #[.val (.ref a1), .val (.int p2), .val (.ref blk)] [(.int sz1), (.ref a1)])) rfl rfl (hb hby d7_29)
  have Fw101 := B_2_2_98.same W101
  have B_1_101 := B_1_98.wr W101
  have B_2_1_101 := B_2_1_98.other W101 (Or.inr (slot_ne (Or.inr (hw _ (List.mem_of_getElem? (i := 39) rfl))) (Or.inl (hw _ (List.mem_of_getElem? (i := 50) rfl))) (by decide) (t := (.object "java/util/List")) (t' := .int) (by decide) (by decide)))
  have O_101 := O_98.other W101 (Ne.symm nea)
  have Ve_101 := Ve_98.other W101 (Ne.symm nae)
  have Eb_101 := Eb_98.wr W101
  have Vs_101 := Vs.other W101 (Ne.symm nab)
  have N101 := Fr.snoc X101 N98 g_a1
  have K101 : Keep h0 h101 [a1, blk] := K98.wr W101 (Or.inl (List.mem_of_getElem? (i := 0) rfl))
  have z101 : n0 ≤ h101.size := Nat.le_trans z98 (Keep.of_wr W101).1
  have fl102 : ∀ target, Steps p.tables e below (T101.setTop (mkF m 32 #[.val (.ref a1), .val (.int p2), .val (.ref blk)] [])) target → Steps p.tables e below (T99.setTop (mkF m 29 #[.val (.ref a1), .val (.int p2), .val (.ref blk)] [(.int sz1), (.ref a1)])) target := fun target kt => by
    show Steps p.tables e below (T99.setTop (mkF m 29 #[.val (.ref a1), .val (.int p2), .val (.ref blk)] [(.int sz1), (.ref a1)])) _
    refine st101 _ ?_
    exact kt
  obtain ⟨fs, hrt, hrun, hended, hW, hsame⟩ := X101.leave (v := none) (fun _ => rfl)
  refine ⟨_, _, pre0 _ (fl97 _ (fl100 _ (fl102 _ ?_))), hrun, hended, _, _, rfl, ?_, ⟨_, rfl⟩, hW, hsame.mono (by decide) (by decide)⟩
  · exact X101.returnOut hx Bd.returns (hb hby d7_32) hrt
  · show QW1 _ _ _ _ _ _ _ _ _ _ _ _ _ _ T101.heap _
    rw [e101]
    exact ⟨rfl, N101, K101, ⟨B_1_101, B_2_1_101, Fw101⟩, ⟨⟨_, O_101⟩, Ve_101, Eb_101, Vs_101, nle, nlb, neb⟩⟩
theorem ef_I0 (m : MethodId) (x0 : Addr) (x1 : Int32) (x2 : Int32) : entryFrame m #[(.ref x0), (.int x1), (.int x2)] 9 = mkF m 0 #[.val (.ref x0), .val (.int x1), .val (.int x2), .unset, .unset, .unset, .unset, .unset, .unset] [] := by first | (simp [entryFrame, mkF, argsToLocals, Value.category]; done) | rfl
def QI0 (Z : State) (a1 : Addr) (p2 : Int32) (p3 : Int32) (al : Addr) (sz : Int32) (pos : Int32) (h0 : Heap) (n0 : Nat) (v : Option Value) (h : Heap) (L : List Loc) : Prop := v = some (.int (-1 : Int32)) ∧ Fr n0 L ∧ h = h0
set_option maxRecDepth 65536 in
set_option maxHeartbeats 40000000 in
theorem rmI0 (l : Launch) (Z : State) (a0 : Array Value) (hw : ∀ d ∈ tables_1, d.before a0 Z = true) (ws : List Jvm.Cond) (a1 : Addr) (p2 : Int32) (p3 : Int32) (al : Addr) (sz : Int32) (pos : Int32) (h0 : Heap) (n0 : Nat) (Z0 : n0 ≤ h0.size) (B : own_RB Z h0 a1 al sz) (hpos : pos = if (0 : Int32) < p3 then p3 else 0) (hlt : ¬ pos < sz) :
    MetFree l (⟨"com/example/darter/darter/ResultBuffer", "indexOf", "(BI)I"⟩ : MethodName) (head1 (Jvm.Cond.code (⟨"com/example/darter/darter/ResultBuffer", "indexOf", "(BI)I"⟩ : MethodName) prog_10_method_5_code 9 (some .int) :: ws) ({ frames := 1, cells := 0, slots := 0, locals := 13 } : Room)) (fun a U => a = #[(.ref a1), (.int p2), (.int p3)] ∧ Z.Warmed39 U.vm ∧ U.heap = h0) (fun _ _ _ _ _ => True) (fun _ U o U' => ∃ v L, o = .returned v ∧ QI0 Z a1 p2 p3 al sz pos h0 n0 v U'.heap L ∧ FrameEnd U o U' L ({ frames := 1, cells := 0, slots := 0, locals := 13 } : Room).cells ({ frames := 1, cells := 0, slots := 0, locals := 13 } : Room).slots) := by
  refine MetFree.of_bodySF (plainFor_of_name pn_4) hisR ?_
  intro p e s m args below meth c s₁ Bd hml0 hP hK
  obtain ⟨rfl, hZ, hh⟩ := hP
  have hx := Bd.exec
  have hby := Bd.bytes
  have hml : c.maxLocals = 9 := hml0
  have hown : s.vm.findClass "com/example/darter/darter/ResultBuffer" = some m.cls := findClass_of_methodNamed Bd.named
  have hnm := (name_of_methodNamed Bd.named Bd.method).1
  have X0 : Stand p l e ({ frames := 1, cells := 0, slots := 0, locals := 13 } : Room) s m #[(.ref a1), (.int p2), (.int p3)] below meth c s₁ [] 0 0 := Stand.of_body Bd
  have e0 : s₁.heap = h0 := by rw [← hh, Bd.state]; rfl
  have N0 := Fr.nil n0
  have pre0 : ∀ t, Steps p.tables e below (s₁.setTop (mkF m 0 #[.val (.ref a1), .val (.int p2), .val (.int p3), .unset, .unset, .unset, .unset, .unset, .unset] [])) t → Steps p.tables e below (s₁.setTop (entryFrame m #[(.ref a1), (.int p2), (.int p3)] 9)) t := fun t k => castTop (ef_I0 m a1 p2 p3) k
  obtain ⟨_, _, ⟨T103, L103, k103, n103⟩, -, X103, ⟨Lc103, hQ103, l103, y103, z103⟩, st103⟩ := Jvm.LawKit.callS X0 hx (y := (⟨"java/lang/Math", "max", "(II)I"⟩ : MethodName)) hown (mvT hZ (hw _ (List.mem_of_getElem? (i := 68) rfl))) (mvT hZ (hw _ (List.mem_of_getElem? (i := 69) rfl))) (mvT hZ (hw _ (List.mem_of_getElem? (i := 70) rfl))) (mvT hZ (hw _ (List.mem_of_getElem? (i := 71) rfl))) (by decide) (backOf (W := 0) (rm11 l Z a0 hw [] (0 : Int32) p3 pos h0 n0 Z0 hpos) hZ (hw _ (List.mem_of_getElem? (i := 71) rfl)) (hw _ (List.mem_of_getElem? (i := 70) rfl)) (by decide) (by decide)) (g := (mkF m 4 #[.val (.ref a1), .val (.int p2), .val (.int p3), .val (.int (-1 : Int32)), .unset, .unset, .unset, .unset, .unset] [(.int p3), (.int (0 : Int32))])) rfl (by rw [hml]; rfl) (argsL := [(.int (0 : Int32)), (.int p3)]) (rest := []) (lenOf pd_2 rfl) rfl (by show 2 * 0 + _ ≤ _; exact Nat.le_of_eq rfl) (hb hby d21_4) (fun _ _ => ⟨rfl, e0, (by decide : 0 + 0 ≤ _), (by decide : 0 + 0 ≤ _)⟩)
  dsimp only [Pt.U, Pt.locs, Pt.cells, Pt.slots] at X103 l103 y103 z103 st103 hQ103
  subst l103 y103 z103
  obtain ⟨rfl, N103q, he103⟩ := hQ103
  have N103 := Fr.app N0 N103q
  have Kc103 : Keep h0 T103.heap [] := by rw [he103]; exact Keep.refl _ _
  have B_1_103 := B.1.keep Kc103
  have B_2_1_103 := B.2.1.keep Kc103 nin0
  have B_2_2_103 := B.2.2.keep Kc103 nin0
  have K103 : Keep h0 T103.heap [] := (Keep.refl h0 []).trans Kc103 all0
  have z103z : n0 ≤ T103.heap.size := Nat.le_trans Z0 Kc103.1
  obtain ⟨T104, X104, e104, st104⟩ := getF X103 hx hZ hown (host := "") (Or.inl (hw _ (List.mem_of_getElem? (i := 49) rfl))) Via.refl rfl B_2_2_103 (g := (mkF m 16 #[.val (.ref a1), .val (.int p2), .val (.int p3), .val (.int (-1 : Int32)), .val (.int pos), .unset, .unset, .unset, .unset] [(.ref a1), (.int pos)])) rfl rfl (hb hby d21_16)
  have fl105 : ∀ target, Steps p.tables e below (T104.setTop (mkF m 123 #[.val (.ref a1), .val (.int p2), .val (.int p3), .val (.int (-1 : Int32)), .val (.int pos), .unset, .unset, .unset, .unset] [(.int (-1 : Int32))])) target → Steps p.tables e below (s₁.setTop (mkF m 0 #[.val (.ref a1), .val (.int p2), .val (.int p3), .unset, .unset, .unset, .unset, .unset, .unset] [])) target := fun target kt => by
    show Steps p.tables e below (s₁.setTop (mkF m 0 #[.val (.ref a1), .val (.int p2), .val (.int p3), .unset, .unset, .unset, .unset, .unset, .unset] [])) _
    refine XS.iconst X0.here hx rfl (hb hby d21_0) ?_
    show Steps p.tables e below (s₁.setTop (mkF m 1 #[.val (.ref a1), .val (.int p2), .val (.int p3), .unset, .unset, .unset, .unset, .unset, .unset] [(.int (-1 : Int32))])) _
    refine XS.istoreN X0.here hx rfl (hb hby d21_1) rfl (l' := #[.val (.ref a1), .val (.int p2), .val (.int p3), .val (.int (-1 : Int32)), .unset, .unset, .unset, .unset, .unset]) rfl ?_
    show Steps p.tables e below (s₁.setTop (mkF m 2 #[.val (.ref a1), .val (.int p2), .val (.int p3), .val (.int (-1 : Int32)), .unset, .unset, .unset, .unset, .unset] [])) _
    refine XS.iconst X0.here hx rfl (hb hby d21_2) ?_
    show Steps p.tables e below (s₁.setTop (mkF m 3 #[.val (.ref a1), .val (.int p2), .val (.int p3), .val (.int (-1 : Int32)), .unset, .unset, .unset, .unset, .unset] [(.int (0 : Int32))])) _
    refine XS.iloadN X0.here hx rfl (hb hby d21_3) rfl ?_
    show Steps p.tables e below (s₁.setTop (mkF m 4 #[.val (.ref a1), .val (.int p2), .val (.int p3), .val (.int (-1 : Int32)), .unset, .unset, .unset, .unset, .unset] [(.int p3), (.int (0 : Int32))])) _
    refine st103 _ ?_
    show Steps p.tables e below (T103.setTop (mkF m 7 #[.val (.ref a1), .val (.int p2), .val (.int p3), .val (.int (-1 : Int32)), .unset, .unset, .unset, .unset, .unset] [(.int pos)])) _
    refine XS.istore X103.here hx rfl (hb hby d21_7) rfl (l' := #[.val (.ref a1), .val (.int p2), .val (.int p3), .val (.int (-1 : Int32)), .val (.int pos), .unset, .unset, .unset, .unset]) rfl ?_
    show Steps p.tables e below (T103.setTop (mkF m 9 #[.val (.ref a1), .val (.int p2), .val (.int p3), .val (.int (-1 : Int32)), .val (.int pos), .unset, .unset, .unset, .unset] [])) _
    refine XS.iloadN X103.here hx rfl (hb hby d21_9) rfl ?_
    show Steps p.tables e below (T103.setTop (mkF m 10 #[.val (.ref a1), .val (.int p2), .val (.int p3), .val (.int (-1 : Int32)), .val (.int pos), .unset, .unset, .unset, .unset] [(.int (-1 : Int32))])) _
    refine XS.ifNo X103.here hx rfl (hb hby d21_10) rfl ((if0 _ _).trans (tlt (by decide : (-1 : Int32) < (0 : Int32))).2.1) ?_
    show Steps p.tables e below (T103.setTop (mkF m 13 #[.val (.ref a1), .val (.int p2), .val (.int p3), .val (.int (-1 : Int32)), .val (.int pos), .unset, .unset, .unset, .unset] [])) _
    refine XS.iload X103.here hx rfl (hb hby d21_13) rfl ?_
    show Steps p.tables e below (T103.setTop (mkF m 15 #[.val (.ref a1), .val (.int p2), .val (.int p3), .val (.int (-1 : Int32)), .val (.int pos), .unset, .unset, .unset, .unset] [(.int pos)])) _
    refine XS.aloadN X103.here hx rfl (hb hby d21_15) rfl rfl ?_
    show Steps p.tables e below (T103.setTop (mkF m 16 #[.val (.ref a1), .val (.int p2), .val (.int p3), .val (.int (-1 : Int32)), .val (.int pos), .unset, .unset, .unset, .unset] [(.ref a1), (.int pos)])) _
    refine st104 _ ?_
    show Steps p.tables e below (T104.setTop (mkF m 19 #[.val (.ref a1), .val (.int p2), .val (.int p3), .val (.int (-1 : Int32)), .val (.int pos), .unset, .unset, .unset, .unset] [(.int sz), (.int pos)])) _
    refine XS.icmpYes X104.here hx rfl (pc0 := 19) (pc' := 122) rfl (hb hby d21_19) rfl (flt (hlt : ¬ (pos < sz))).2.1 (by decide) (by decide) ?_
    show Steps p.tables e below (T104.setTop (mkF m 122 #[.val (.ref a1), .val (.int p2), .val (.int p3), .val (.int (-1 : Int32)), .val (.int pos), .unset, .unset, .unset, .unset] [])) _
    refine XS.iloadN X104.here hx rfl (hb hby d21_122) rfl ?_
    exact kt
  obtain ⟨fs, hrt, hrun, hended, hW, hsame⟩ := X104.leave (v := some (.int (-1 : Int32))) (fun h => by rw [Bd.returns] at h; cases h)
  refine ⟨_, _, pre0 _ (fl105 _ ?_), hrun, hended, _, _, rfl, ?_, ⟨_, rfl⟩, hW, hsame.mono (by decide) (by decide)⟩
  · exact retI X104 hx Bd.returns (hb hby d21_123) hrt
  · show QI0 _ _ _ _ _ _ _ _ _ _ T104.heap _
    rw [e104]
    exact ⟨rfl, N103, he103⟩
set_option maxRecDepth 65536 in
set_option maxHeartbeats 40000000 in
theorem own_inl {p : Program} {l : Launch} {e : Env} {R : Room} {s : State} {m : MethodId} {args : Array Value} {below : List Frame} {meth : Method} {c : Code} {Z : State} {a0 : Array Value} {locs : List Loc} {cells slots : Nat} {h0 : Heap} {T0 : State} (a1 blk : Addr) (kB : ClassId) (vs : List Value) (p2 p3 pos sz : Int32) (f : Int32 → Int32) (hx : p.tables.exec = Jvm.exec) (hZ : Z.Warmed39 s.vm) (hw : ∀ d ∈ tables_1, d.before a0 Z = true) (hby : c.code = prog_10_method_5_code) (hml : c.maxLocals = 9) (hown : s.vm.findClass "com/example/darter/darter/ResultBuffer" = some m.cls) (X0 : Stand p l e R s m args below meth c T0 locs cells slots) (e0 : T0.heap = h0) (Vb : Arv Z h0 blk kB .byte (256 : Int32) vs (.int (0 : Int32))) (h4 : sz.toInt ≤ 4) (hget : ∀ j : Int32, ¬ j < 0 → j < sz → vs.getD j.toNatClampNeg (.int (0 : Int32)) = .int (f j)) : ∀ (n : Nat) (i : Int32), 0 ≤ i.toInt → i.toInt + n = sz.toInt →
    ∀ target, Steps p.tables e below (T0.setTop (mkF m 95 #[.val (.ref a1), .val (.int p2), .val (.int p3), .val (.int (-1 : Int32)), .val (.int pos), .val (.ref blk), .val (.int (0 : Int32)), .val (.int sz), .val (.int (own_fi f p2 i n))] [])) target → Steps p.tables e below (T0.setTop (mkF m 73 #[.val (.ref a1), .val (.int p2), .val (.int p3), .val (.int (-1 : Int32)), .val (.int pos), .val (.ref blk), .val (.int (0 : Int32)), .val (.int sz), .val (.int i)] [])) target := by
  obtain ⟨clx, Ar, -, Sz, Nz, Hv, -⟩ := id Vb
  intro n
  induction n with
  | zero =>
    intro i h1 h2 target kt
    obtain rfl : sz = i := Int32.toInt_inj.mp (by omega)
    show Steps p.tables e below (T0.setTop (mkF m 73 #[.val (.ref a1), .val (.int p2), .val (.int p3), .val (.int (-1 : Int32)), .val (.int pos), .val (.ref blk), .val (.int (0 : Int32)), .val (.int sz), .val (.int sz)] [])) _
    refine XS.iload X0.here hx rfl (hb hby d21_73) rfl ?_
    show Steps p.tables e below (T0.setTop (mkF m 75 #[.val (.ref a1), .val (.int p2), .val (.int p3), .val (.int (-1 : Int32)), .val (.int pos), .val (.ref blk), .val (.int (0 : Int32)), .val (.int sz), .val (.int sz)] [(.int sz)])) _
    refine XS.iload X0.here hx rfl (hb hby d21_75) rfl ?_
    show Steps p.tables e below (T0.setTop (mkF m 77 #[.val (.ref a1), .val (.int p2), .val (.int p3), .val (.int (-1 : Int32)), .val (.int pos), .val (.ref blk), .val (.int (0 : Int32)), .val (.int sz), .val (.int sz)] [(.int sz), (.int sz)])) _
    refine XS.icmpYes X0.here hx rfl (pc0 := 77) (pc' := 95) rfl (hb hby d21_77) rfl (flt (Int32.lt_irrefl : ¬ (sz < sz))).2.1 (by decide) (by decide) ?_
    exact kt
  | succ n ih =>
    intro i h1 h2 target kt
    have z0 : (0 : Int32).toInt = 0 := rfl
    have z1 : (1 : Int32).toInt = 1 := rfl
    have z5 : (256 : Int32).toInt = 256 := rfl
    have q := c_iadd i 1
    have r := rng32 (i + 1)
    have hn : ¬ i < 0 := by rw [own_lti]; omega
    have hlt : i < sz := by rw [own_lti]; omega
    have hin := inb_of Sz (j := i) ⟨hn, by rw [own_lti]; omega⟩
    have hat := Hv.at hin (hget i hn hlt)
    by_cases hb_ : f i = p2
    · rw [show own_fi f p2 i (n + 1) = i from if_pos hb_] at kt
      show Steps p.tables e below (T0.setTop (mkF m 73 #[.val (.ref a1), .val (.int p2), .val (.int p3), .val (.int (-1 : Int32)), .val (.int pos), .val (.ref blk), .val (.int (0 : Int32)), .val (.int sz), .val (.int i)] [])) _
      refine XS.iload X0.here hx rfl (hb hby d21_73) rfl ?_
      show Steps p.tables e below (T0.setTop (mkF m 75 #[.val (.ref a1), .val (.int p2), .val (.int p3), .val (.int (-1 : Int32)), .val (.int pos), .val (.ref blk), .val (.int (0 : Int32)), .val (.int sz), .val (.int i)] [(.int i)])) _
      refine XS.iload X0.here hx rfl (hb hby d21_75) rfl ?_
      show Steps p.tables e below (T0.setTop (mkF m 77 #[.val (.ref a1), .val (.int p2), .val (.int p3), .val (.int (-1 : Int32)), .val (.int pos), .val (.ref blk), .val (.int (0 : Int32)), .val (.int sz), .val (.int i)] [(.int sz), (.int i)])) _
      refine XS.icmpNo X0.here hx rfl (hb hby d21_77) rfl (tlt (hlt : i < sz)).2.1 ?_
      show Steps p.tables e below (T0.setTop (mkF m 80 #[.val (.ref a1), .val (.int p2), .val (.int p3), .val (.int (-1 : Int32)), .val (.int pos), .val (.ref blk), .val (.int (0 : Int32)), .val (.int sz), .val (.int i)] [])) _
      refine XS.aload X0.here hx rfl (hb hby d21_80) rfl rfl ?_
      show Steps p.tables e below (T0.setTop (mkF m 82 #[.val (.ref a1), .val (.int p2), .val (.int p3), .val (.int (-1 : Int32)), .val (.int pos), .val (.ref blk), .val (.int (0 : Int32)), .val (.int sz), .val (.int i)] [(.ref blk)])) _
      refine XS.iload X0.here hx rfl (hb hby d21_82) rfl ?_
      show Steps p.tables e below (T0.setTop (mkF m 84 #[.val (.ref a1), .val (.int p2), .val (.int p3), .val (.int (-1 : Int32)), .val (.int pos), .val (.ref blk), .val (.int (0 : Int32)), .val (.int sz), .val (.int i)] [(.int i), (.ref blk)])) _
      refine X0.baloadBytes hx (j := i) (v := (.int (f i))) (by rw [e0]; exact Ar.1) (State.isArrayOf_alike hZ.alike Ar.2.1) Ar.2.2 hin hat (g := (mkF m 84 #[.val (.ref a1), .val (.int p2), .val (.int p3), .val (.int (-1 : Int32)), .val (.int pos), .val (.ref blk), .val (.int (0 : Int32)), .val (.int sz), .val (.int i)] [(.int i), (.ref blk)])) rfl rfl (hb hby d21_84) _ ?_
      show Steps p.tables e below (T0.setTop (mkF m 85 #[.val (.ref a1), .val (.int p2), .val (.int p3), .val (.int (-1 : Int32)), .val (.int pos), .val (.ref blk), .val (.int (0 : Int32)), .val (.int sz), .val (.int i)] [(.int (f i))])) _
      refine XS.iloadN X0.here hx rfl (hb hby d21_85) rfl ?_
      show Steps p.tables e below (T0.setTop (mkF m 86 #[.val (.ref a1), .val (.int p2), .val (.int p3), .val (.int (-1 : Int32)), .val (.int pos), .val (.ref blk), .val (.int (0 : Int32)), .val (.int sz), .val (.int i)] [(.int p2), (.int (f i))])) _
      refine XS.icmpYes X0.here hx rfl (pc0 := 86) (pc' := 95) rfl (hb hby d21_86) rfl (teq (hb_ : (f i) = p2)).1 (by decide) (by decide) ?_
      exact kt
    · rw [show own_fi f p2 i (n + 1) = own_fi f p2 (i + (1 : Int32)) n from if_neg hb_] at kt
      show Steps p.tables e below (T0.setTop (mkF m 73 #[.val (.ref a1), .val (.int p2), .val (.int p3), .val (.int (-1 : Int32)), .val (.int pos), .val (.ref blk), .val (.int (0 : Int32)), .val (.int sz), .val (.int i)] [])) _
      refine XS.iload X0.here hx rfl (hb hby d21_73) rfl ?_
      show Steps p.tables e below (T0.setTop (mkF m 75 #[.val (.ref a1), .val (.int p2), .val (.int p3), .val (.int (-1 : Int32)), .val (.int pos), .val (.ref blk), .val (.int (0 : Int32)), .val (.int sz), .val (.int i)] [(.int i)])) _
      refine XS.iload X0.here hx rfl (hb hby d21_75) rfl ?_
      show Steps p.tables e below (T0.setTop (mkF m 77 #[.val (.ref a1), .val (.int p2), .val (.int p3), .val (.int (-1 : Int32)), .val (.int pos), .val (.ref blk), .val (.int (0 : Int32)), .val (.int sz), .val (.int i)] [(.int sz), (.int i)])) _
      refine XS.icmpNo X0.here hx rfl (hb hby d21_77) rfl (tlt (hlt : i < sz)).2.1 ?_
      show Steps p.tables e below (T0.setTop (mkF m 80 #[.val (.ref a1), .val (.int p2), .val (.int p3), .val (.int (-1 : Int32)), .val (.int pos), .val (.ref blk), .val (.int (0 : Int32)), .val (.int sz), .val (.int i)] [])) _
      refine XS.aload X0.here hx rfl (hb hby d21_80) rfl rfl ?_
      show Steps p.tables e below (T0.setTop (mkF m 82 #[.val (.ref a1), .val (.int p2), .val (.int p3), .val (.int (-1 : Int32)), .val (.int pos), .val (.ref blk), .val (.int (0 : Int32)), .val (.int sz), .val (.int i)] [(.ref blk)])) _
      refine XS.iload X0.here hx rfl (hb hby d21_82) rfl ?_
      show Steps p.tables e below (T0.setTop (mkF m 84 #[.val (.ref a1), .val (.int p2), .val (.int p3), .val (.int (-1 : Int32)), .val (.int pos), .val (.ref blk), .val (.int (0 : Int32)), .val (.int sz), .val (.int i)] [(.int i), (.ref blk)])) _
      refine X0.baloadBytes hx (j := i) (v := (.int (f i))) (by rw [e0]; exact Ar.1) (State.isArrayOf_alike hZ.alike Ar.2.1) Ar.2.2 hin hat (g := (mkF m 84 #[.val (.ref a1), .val (.int p2), .val (.int p3), .val (.int (-1 : Int32)), .val (.int pos), .val (.ref blk), .val (.int (0 : Int32)), .val (.int sz), .val (.int i)] [(.int i), (.ref blk)])) rfl rfl (hb hby d21_84) _ ?_
      show Steps p.tables e below (T0.setTop (mkF m 85 #[.val (.ref a1), .val (.int p2), .val (.int p3), .val (.int (-1 : Int32)), .val (.int pos), .val (.ref blk), .val (.int (0 : Int32)), .val (.int sz), .val (.int i)] [(.int (f i))])) _
      refine XS.iloadN X0.here hx rfl (hb hby d21_85) rfl ?_
      show Steps p.tables e below (T0.setTop (mkF m 86 #[.val (.ref a1), .val (.int p2), .val (.int p3), .val (.int (-1 : Int32)), .val (.int pos), .val (.ref blk), .val (.int (0 : Int32)), .val (.int sz), .val (.int i)] [(.int p2), (.int (f i))])) _
      refine XS.icmpNo X0.here hx rfl (hb hby d21_86) rfl (feq (hb_ : ¬ ((f i) = p2))).1 ?_
      show Steps p.tables e below (T0.setTop (mkF m 89 #[.val (.ref a1), .val (.int p2), .val (.int p3), .val (.int (-1 : Int32)), .val (.int pos), .val (.ref blk), .val (.int (0 : Int32)), .val (.int sz), .val (.int i)] [])) _
      refine XS.iinc X0.here hx rfl (hb hby d21_89) rfl (l' := #[.val (.ref a1), .val (.int p2), .val (.int p3), .val (.int (-1 : Int32)), .val (.int pos), .val (.ref blk), .val (.int (0 : Int32)), .val (.int sz), .val (.int (i + (1 : Int32)))]) rfl ?_
      show Steps p.tables e below (T0.setTop (mkF m 92 #[.val (.ref a1), .val (.int p2), .val (.int p3), .val (.int (-1 : Int32)), .val (.int pos), .val (.ref blk), .val (.int (0 : Int32)), .val (.int sz), .val (.int (i + (1 : Int32)))] [])) _
      refine XS.goto X0.here hx rfl (pc0 := 92) (pc' := 73) rfl (hb hby d21_92) (by decide) (by decide) ?_
      exact ih (i + (1 : Int32)) (by omega) (by omega) _ kt
theorem ef_I1 (m : MethodId) (x0 : Addr) (x1 : Int32) (x2 : Int32) : entryFrame m #[(.ref x0), (.int x1), (.int x2)] 9 = mkF m 0 #[.val (.ref x0), .val (.int x1), .val (.int x2), .unset, .unset, .unset, .unset, .unset, .unset] [] := by first | (simp [entryFrame, mkF, argsToLocals, Value.category]; done) | rfl
def QI1 (Z : State) (a1 : Addr) (p2 : Int32) (p3 : Int32) (al : Addr) (ed : Addr) (blk : Addr) (kE : ClassId) (kB : ClassId) (vs : List Value) (sz : Int32) (pos : Int32) (f : Int32 → Int32) (nn : Nat) (r : Int32) (h0 : Heap) (n0 : Nat) (v : Option Value) (h : Heap) (L : List Loc) : Prop := v = some (.int r) ∧ Fr n0 L ∧ h = h0
set_option maxRecDepth 65536 in
set_option maxHeartbeats 40000000 in
theorem rmI1 (l : Launch) (Z : State) (a0 : Array Value) (hw : ∀ d ∈ tables_1, d.before a0 Z = true) (ws : List Jvm.Cond) (a1 : Addr) (p2 : Int32) (p3 : Int32) (al : Addr) (ed : Addr) (blk : Addr) (kE : ClassId) (kB : ClassId) (vs : List Value) (sz : Int32) (pos : Int32) (f : Int32 → Int32) (nn : Nat) (r : Int32) (h0 : Heap) (n0 : Nat) (Z0 : n0 ≤ h0.size) (B : own_RB Z h0 a1 al sz) (One1 : own_One Z h0 al ed blk kE kB vs) (hpos : pos = if (0 : Int32) < p3 then p3 else 0) (hlt : pos < sz) (hq : pos / (131072 : Int32) = 0) (hm : pos % (131072 : Int32) = pos) (hmin : sz = if sz < (256 : Int32) then sz else 256) (h4 : sz.toInt ≤ 4) (hp0 : 0 ≤ pos.toInt) (hnn : pos.toInt + nn = sz.toInt) (hget : ∀ j : Int32, ¬ j < 0 → j < sz → vs.getD j.toNatClampNeg (.int (0 : Int32)) = .int (f j)) (hr : r = if own_fi f p2 pos nn < sz then own_fi f p2 pos nn else -1) :
    MetFree l (⟨"com/example/darter/darter/ResultBuffer", "indexOf", "(BI)I"⟩ : MethodName) (head1 (Jvm.Cond.code (⟨"com/example/darter/darter/ResultBuffer", "indexOf", "(BI)I"⟩ : MethodName) prog_10_method_5_code 9 (some .int) :: ws) ({ frames := 3, cells := 0, slots := 0, locals := 40 } : Room)) (fun a U => a = #[(.ref a1), (.int p2), (.int p3)] ∧ Z.Warmed39 U.vm ∧ U.heap = h0) (fun _ _ _ _ _ => True) (fun _ U o U' => ∃ v L, o = .returned v ∧ QI1 Z a1 p2 p3 al ed blk kE kB vs sz pos f nn r h0 n0 v U'.heap L ∧ FrameEnd U o U' L ({ frames := 3, cells := 0, slots := 0, locals := 40 } : Room).cells ({ frames := 3, cells := 0, slots := 0, locals := 40 } : Room).slots) := by
  refine MetFree.of_bodySF (plainFor_of_name pn_4) hisR ?_
  intro p e s m args below meth c s₁ Bd hml0 hP hK
  obtain ⟨rfl, hZ, hh⟩ := hP
  have hx := Bd.exec
  have hby := Bd.bytes
  have hml : c.maxLocals = 9 := hml0
  have hown : s.vm.findClass "com/example/darter/darter/ResultBuffer" = some m.cls := findClass_of_methodNamed Bd.named
  have hnm := (name_of_methodNamed Bd.named Bd.method).1
  have X0 : Stand p l e ({ frames := 3, cells := 0, slots := 0, locals := 40 } : Room) s m #[(.ref a1), (.int p2), (.int p3)] below meth c s₁ [] 0 0 := Stand.of_body Bd
  have e0 : s₁.heap = h0 := by rw [← hh, Bd.state]; rfl
  have N0 := Fr.nil n0
  have pre0 : ∀ t, Steps p.tables e below (s₁.setTop (mkF m 0 #[.val (.ref a1), .val (.int p2), .val (.int p3), .unset, .unset, .unset, .unset, .unset, .unset] [])) t → Steps p.tables e below (s₁.setTop (entryFrame m #[(.ref a1), (.int p2), (.int p3)] 9)) t := fun t k => castTop (ef_I1 m a1 p2 p3) k
  obtain ⟨⟨mc, O⟩, Ve, Eb, Vb, -, -, -⟩ := One1
  obtain ⟨_, _, ⟨T106, L106, k106, n106⟩, -, X106, ⟨Lc106, hQ106, l106, y106, z106⟩, st106⟩ := Jvm.LawKit.callS X0 hx (y := (⟨"java/lang/Math", "max", "(II)I"⟩ : MethodName)) hown (mvT hZ (hw _ (List.mem_of_getElem? (i := 68) rfl))) (mvT hZ (hw _ (List.mem_of_getElem? (i := 69) rfl))) (mvT hZ (hw _ (List.mem_of_getElem? (i := 70) rfl))) (mvT hZ (hw _ (List.mem_of_getElem? (i := 71) rfl))) (by decide) (backOf (W := 0) (rm11 l Z a0 hw [] (0 : Int32) p3 pos h0 n0 Z0 hpos) hZ (hw _ (List.mem_of_getElem? (i := 71) rfl)) (hw _ (List.mem_of_getElem? (i := 70) rfl)) (by decide) (by decide)) (g := (mkF m 4 #[.val (.ref a1), .val (.int p2), .val (.int p3), .val (.int (-1 : Int32)), .unset, .unset, .unset, .unset, .unset] [(.int p3), (.int (0 : Int32))])) rfl (by rw [hml]; rfl) (argsL := [(.int (0 : Int32)), (.int p3)]) (rest := []) (lenOf pd_2 rfl) rfl (by show 2 * 0 + _ ≤ _; exact Nat.le_of_eq rfl) (hb hby d21_4) (fun _ _ => ⟨rfl, e0, (by decide : 0 + 0 ≤ _), (by decide : 0 + 0 ≤ _)⟩)
  dsimp only [Pt.U, Pt.locs, Pt.cells, Pt.slots] at X106 l106 y106 z106 st106 hQ106
  subst l106 y106 z106
  obtain ⟨rfl, N106q, he106⟩ := hQ106
  have N106 := Fr.app N0 N106q
  have Kc106 : Keep h0 T106.heap [] := by rw [he106]; exact Keep.refl _ _
  have B_1_106 := B.1.keep Kc106
  have B_2_1_106 := B.2.1.keep Kc106 nin0
  have B_2_2_106 := B.2.2.keep Kc106 nin0
  have O_106 := O.keep Kc106 nin0
  have O_1_106 := O.1.keep Kc106
  have Ve_106 := Ve.keep Kc106 nin0
  have Eb_106 := Eb.keep Kc106
  have Vb_106 := Vb.keep Kc106 nin0
  have K106 : Keep h0 T106.heap [] := (Keep.refl h0 []).trans Kc106 all0
  have z106z : n0 ≤ T106.heap.size := Nat.le_trans Z0 Kc106.1
  obtain ⟨T107, X107, e107, st107⟩ := getF X106 hx hZ hown (host := "") (Or.inl (hw _ (List.mem_of_getElem? (i := 49) rfl))) Via.refl rfl B_2_2_106 (g := (mkF m 16 #[.val (.ref a1), .val (.int p2), .val (.int p3), .val (.int (-1 : Int32)), .val (.int pos), .unset, .unset, .unset, .unset] [(.ref a1), (.int pos)])) rfl rfl (hb hby d21_16)
  obtain ⟨T108, X108, e108, st108⟩ := getF X107 hx hZ hown (host := "") (Or.inl (hw _ (List.mem_of_getElem? (i := 38) rfl))) Via.refl e107 B_2_1_106 (g := (mkF m 23 #[.val (.ref a1), .val (.int p2), .val (.int p3), .val (.int (-1 : Int32)), .val (.int pos), .unset, .unset, .unset, .unset] [(.ref a1)])) rfl rfl (hb hby d21_23)
  have fl109 : ∀ target, Steps p.tables e below (T108.setTop (mkF m 31 #[.val (.ref a1), .val (.int p2), .val (.int p3), .val (.int (-1 : Int32)), .val (.int pos), .unset, .unset, .unset, .unset] [(.int (pos / (131072 : Int32))), (.ref al)])) target → Steps p.tables e below (s₁.setTop (mkF m 0 #[.val (.ref a1), .val (.int p2), .val (.int p3), .unset, .unset, .unset, .unset, .unset, .unset] [])) target := fun target kt => by
    show Steps p.tables e below (s₁.setTop (mkF m 0 #[.val (.ref a1), .val (.int p2), .val (.int p3), .unset, .unset, .unset, .unset, .unset, .unset] [])) _
    refine XS.iconst X0.here hx rfl (hb hby d21_0) ?_
    show Steps p.tables e below (s₁.setTop (mkF m 1 #[.val (.ref a1), .val (.int p2), .val (.int p3), .unset, .unset, .unset, .unset, .unset, .unset] [(.int (-1 : Int32))])) _
    refine XS.istoreN X0.here hx rfl (hb hby d21_1) rfl (l' := #[.val (.ref a1), .val (.int p2), .val (.int p3), .val (.int (-1 : Int32)), .unset, .unset, .unset, .unset, .unset]) rfl ?_
    show Steps p.tables e below (s₁.setTop (mkF m 2 #[.val (.ref a1), .val (.int p2), .val (.int p3), .val (.int (-1 : Int32)), .unset, .unset, .unset, .unset, .unset] [])) _
    refine XS.iconst X0.here hx rfl (hb hby d21_2) ?_
    show Steps p.tables e below (s₁.setTop (mkF m 3 #[.val (.ref a1), .val (.int p2), .val (.int p3), .val (.int (-1 : Int32)), .unset, .unset, .unset, .unset, .unset] [(.int (0 : Int32))])) _
    refine XS.iloadN X0.here hx rfl (hb hby d21_3) rfl ?_
    show Steps p.tables e below (s₁.setTop (mkF m 4 #[.val (.ref a1), .val (.int p2), .val (.int p3), .val (.int (-1 : Int32)), .unset, .unset, .unset, .unset, .unset] [(.int p3), (.int (0 : Int32))])) _
    refine st106 _ ?_
    show Steps p.tables e below (T106.setTop (mkF m 7 #[.val (.ref a1), .val (.int p2), .val (.int p3), .val (.int (-1 : Int32)), .unset, .unset, .unset, .unset, .unset] [(.int pos)])) _
    refine XS.istore X106.here hx rfl (hb hby d21_7) rfl (l' := #[.val (.ref a1), .val (.int p2), .val (.int p3), .val (.int (-1 : Int32)), .val (.int pos), .unset, .unset, .unset, .unset]) rfl ?_
    show Steps p.tables e below (T106.setTop (mkF m 9 #[.val (.ref a1), .val (.int p2), .val (.int p3), .val (.int (-1 : Int32)), .val (.int pos), .unset, .unset, .unset, .unset] [])) _
    refine XS.iloadN X106.here hx rfl (hb hby d21_9) rfl ?_
    show Steps p.tables e below (T106.setTop (mkF m 10 #[.val (.ref a1), .val (.int p2), .val (.int p3), .val (.int (-1 : Int32)), .val (.int pos), .unset, .unset, .unset, .unset] [(.int (-1 : Int32))])) _
    refine XS.ifNo X106.here hx rfl (hb hby d21_10) rfl ((if0 _ _).trans (tlt (by decide : (-1 : Int32) < (0 : Int32))).2.1) ?_
    show Steps p.tables e below (T106.setTop (mkF m 13 #[.val (.ref a1), .val (.int p2), .val (.int p3), .val (.int (-1 : Int32)), .val (.int pos), .unset, .unset, .unset, .unset] [])) _
    refine XS.iload X106.here hx rfl (hb hby d21_13) rfl ?_
    show Steps p.tables e below (T106.setTop (mkF m 15 #[.val (.ref a1), .val (.int p2), .val (.int p3), .val (.int (-1 : Int32)), .val (.int pos), .unset, .unset, .unset, .unset] [(.int pos)])) _
    refine XS.aloadN X106.here hx rfl (hb hby d21_15) rfl rfl ?_
    show Steps p.tables e below (T106.setTop (mkF m 16 #[.val (.ref a1), .val (.int p2), .val (.int p3), .val (.int (-1 : Int32)), .val (.int pos), .unset, .unset, .unset, .unset] [(.ref a1), (.int pos)])) _
    refine st107 _ ?_
    show Steps p.tables e below (T107.setTop (mkF m 19 #[.val (.ref a1), .val (.int p2), .val (.int p3), .val (.int (-1 : Int32)), .val (.int pos), .unset, .unset, .unset, .unset] [(.int sz), (.int pos)])) _
    refine XS.icmpNo X107.here hx rfl (hb hby d21_19) rfl (tlt (hlt : pos < sz)).2.1 ?_
    show Steps p.tables e below (T107.setTop (mkF m 22 #[.val (.ref a1), .val (.int p2), .val (.int p3), .val (.int (-1 : Int32)), .val (.int pos), .unset, .unset, .unset, .unset] [])) _
    refine XS.aloadN X107.here hx rfl (hb hby d21_22) rfl rfl ?_
    show Steps p.tables e below (T107.setTop (mkF m 23 #[.val (.ref a1), .val (.int p2), .val (.int p3), .val (.int (-1 : Int32)), .val (.int pos), .unset, .unset, .unset, .unset] [(.ref a1)])) _
    refine st108 _ ?_
    show Steps p.tables e below (T108.setTop (mkF m 26 #[.val (.ref a1), .val (.int p2), .val (.int p3), .val (.int (-1 : Int32)), .val (.int pos), .unset, .unset, .unset, .unset] [(.ref al)])) _
    refine XS.iload X108.here hx rfl (hb hby d21_26) rfl ?_
    show Steps p.tables e below (T108.setTop (mkF m 28 #[.val (.ref a1), .val (.int p2), .val (.int p3), .val (.int (-1 : Int32)), .val (.int pos), .unset, .unset, .unset, .unset] [(.int pos), (.ref al)])) _
    refine X108.ldcInt hx hown (mvT hZ (hw _ (List.mem_of_getElem? (i := 56) rfl))) (g := (mkF m 28 #[.val (.ref a1), .val (.int p2), .val (.int p3), .val (.int (-1 : Int32)), .val (.int pos), .unset, .unset, .unset, .unset] [(.int pos), (.ref al)])) rfl (hb hby d21_28) _ ?_
    show Steps p.tables e below (T108.setTop (mkF m 30 #[.val (.ref a1), .val (.int p2), .val (.int p3), .val (.int (-1 : Int32)), .val (.int pos), .unset, .unset, .unset, .unset] [(.int (131072 : Int32)), (.int pos), (.ref al)])) _
    refine XS.idiv X108.here hx rfl (hb hby d21_30) rfl (by decide) ?_
    exact kt
  rw [hq] at fl109
  obtain ⟨cq110, kq110, q110a, q110b, q110c⟩ := isOf hZ e108 O_1_106
  obtain ⟨_, _, ⟨T110, L110, k110, n110⟩, -, X110, ⟨Lc110, hQ110, l110, y110, z110⟩, st110⟩ := X108.interfaceBack hx (xi := (⟨"java/util/List", "get", "(I)Ljava/lang/Object;"⟩ : MethodName)) (y := (⟨"java/util/ArrayList", "get", "(I)Ljava/lang/Object;"⟩ : MethodName)) hown (mvT hZ (hw _ (List.mem_of_getElem? (i := 105) rfl))) (mvT hZ (hw _ (List.mem_of_getElem? (i := 106) rfl))) (mvT hZ (hw _ (List.mem_of_getElem? (i := 107) rfl))) (mvT hZ (hw _ (List.mem_of_getElem? (i := 108) rfl))) (mvT hZ (hw _ (List.mem_of_getElem? (i := 109) rfl))) (mvT hZ (hw _ (List.mem_of_getElem? (i := 110) rfl))) (mvT hZ (hw _ (List.mem_of_getElem? (i := 111) rfl))) (mvT hZ (hw _ (List.mem_of_getElem? (i := 64) rfl))) (by decide) (backOf (W := 0) (rm17 l Z a0 hw [] al (0 : Int32) ed mc kE blk T106.heap n0 z106z rfl O_106 Ve_106) hZ (hw _ (List.mem_of_getElem? (i := 112) rfl)) (hw _ (List.mem_of_getElem? (i := 16) rfl)) (by decide) (by decide)) q110a q110b q110c (g := (mkF m 31 #[.val (.ref a1), .val (.int p2), .val (.int p3), .val (.int (-1 : Int32)), .val (.int pos), .unset, .unset, .unset, .unset] [(.int (0 : Int32)), (.ref al)])) rfl (by rw [hml]; rfl) (Steps.refl _) (argsL := [(.int (0 : Int32))]) (rest := []) (lenOf pd_3 rfl) rfl (by show 2 * 0 + _ ≤ _; exact Nat.le_of_eq rfl) (hb hby d21_31) (fun _ _ => ⟨rfl, e108, (by decide : 0 + 0 ≤ _), (by decide : 0 + 0 ≤ _)⟩)
  dsimp only [Pt.U, Pt.locs, Pt.cells, Pt.slots] at X110 l110 y110 z110 st110 hQ110
  subst l110 y110 z110
  obtain ⟨rfl, N110q, he110⟩ := hQ110
  have N110 := Fr.app N106 N110q
  have Kc110 : Keep T106.heap T110.heap [] := by rw [he110]; exact Keep.refl _ _
  have B_1_110 := B_1_106.keep Kc110
  have B_2_1_110 := B_2_1_106.keep Kc110 nin0
  have B_2_2_110 := B_2_2_106.keep Kc110 nin0
  have O_110 := O_106.keep Kc110 nin0
  have O_1_110 := O_1_106.keep Kc110
  have Ve_110 := Ve_106.keep Kc110 nin0
  have Eb_110 := Eb_106.keep Kc110
  have Vb_110 := Vb_106.keep Kc110 nin0
  have K110 : Keep h0 T110.heap [] := K106.trans Kc110 all0
  have z110z : n0 ≤ T110.heap.size := Nat.le_trans z106z Kc110.1
  obtain ⟨T111, X111, e111, st111⟩ := castY X110 hx hZ hown (hw _ (List.mem_of_getElem? (i := 126) rfl)) rfl (Ins.self Eb_110) (g := (mkF m 36 #[.val (.ref a1), .val (.int p2), .val (.int p3), .val (.int (-1 : Int32)), .val (.int pos), .unset, .unset, .unset, .unset] [(.ref blk)])) rfl rfl (hb hby d21_36)
  have fl112 : ∀ target, Steps p.tables e below (T111.setTop (mkF m 49 #[.val (.ref a1), .val (.int p2), .val (.int p3), .val (.int (-1 : Int32)), .val (.int pos), .val (.ref blk), .unset, .unset, .unset] [(.int (pos - (pos % (131072 : Int32))))])) target → Steps p.tables e below (T108.setTop (mkF m 31 #[.val (.ref a1), .val (.int p2), .val (.int p3), .val (.int (-1 : Int32)), .val (.int pos), .unset, .unset, .unset, .unset] [(.int (0 : Int32)), (.ref al)])) target := fun target kt => by
    show Steps p.tables e below (T108.setTop (mkF m 31 #[.val (.ref a1), .val (.int p2), .val (.int p3), .val (.int (-1 : Int32)), .val (.int pos), .unset, .unset, .unset, .unset] [(.int (0 : Int32)), (.ref al)])) _
    refine st110.trans ?_
    show Steps p.tables e below (T110.setTop (mkF m 36 #[.val (.ref a1), .val (.int p2), .val (.int p3), .val (.int (-1 : Int32)), .val (.int pos), .unset, .unset, .unset, .unset] [(.ref blk)])) _
    refine st111 _ ?_
    show Steps p.tables e below (T111.setTop (mkF m 39 #[.val (.ref a1), .val (.int p2), .val (.int p3), .val (.int (-1 : Int32)), .val (.int pos), .unset, .unset, .unset, .unset] [(.ref blk)])) _
    refine XS.astore X111.here hx rfl (hb hby d21_39) rfl rfl (l' := #[.val (.ref a1), .val (.int p2), .val (.int p3), .val (.int (-1 : Int32)), .val (.int pos), .val (.ref blk), .unset, .unset, .unset]) rfl ?_
    show Steps p.tables e below (T111.setTop (mkF m 41 #[.val (.ref a1), .val (.int p2), .val (.int p3), .val (.int (-1 : Int32)), .val (.int pos), .val (.ref blk), .unset, .unset, .unset] [])) _
    refine XS.iload X111.here hx rfl (hb hby d21_41) rfl ?_
    show Steps p.tables e below (T111.setTop (mkF m 43 #[.val (.ref a1), .val (.int p2), .val (.int p3), .val (.int (-1 : Int32)), .val (.int pos), .val (.ref blk), .unset, .unset, .unset] [(.int pos)])) _
    refine XS.iload X111.here hx rfl (hb hby d21_43) rfl ?_
    show Steps p.tables e below (T111.setTop (mkF m 45 #[.val (.ref a1), .val (.int p2), .val (.int p3), .val (.int (-1 : Int32)), .val (.int pos), .val (.ref blk), .unset, .unset, .unset] [(.int pos), (.int pos)])) _
    refine X111.ldcInt hx hown (mvT hZ (hw _ (List.mem_of_getElem? (i := 56) rfl))) (g := (mkF m 45 #[.val (.ref a1), .val (.int p2), .val (.int p3), .val (.int (-1 : Int32)), .val (.int pos), .val (.ref blk), .unset, .unset, .unset] [(.int pos), (.int pos)])) rfl (hb hby d21_45) _ ?_
    show Steps p.tables e below (T111.setTop (mkF m 47 #[.val (.ref a1), .val (.int p2), .val (.int p3), .val (.int (-1 : Int32)), .val (.int pos), .val (.ref blk), .unset, .unset, .unset] [(.int (131072 : Int32)), (.int pos), (.int pos)])) _
    refine iremM X111 hx rfl (hb hby d21_47) rfl (by decide) ?_
    show Steps p.tables e below (T111.setTop (mkF m 48 #[.val (.ref a1), .val (.int p2), .val (.int p3), .val (.int (-1 : Int32)), .val (.int pos), .val (.ref blk), .unset, .unset, .unset] [(.int (pos % (131072 : Int32))), (.int pos)])) _
    refine XS.isub X111.here hx rfl (hb hby d21_48) rfl ?_
    exact kt
  rw [hm, Int32.sub_self] at fl112
  obtain ⟨clb, Arb, -, Szb, Nzb, -, -⟩ := id Vb_110
  obtain ⟨T113, X113, e113, st113⟩ := getF X111 hx hZ hown (host := "") (Or.inl (hw _ (List.mem_of_getElem? (i := 49) rfl))) Via.refl e111 B_2_2_110 (g := (mkF m 55 #[.val (.ref a1), .val (.int p2), .val (.int p3), .val (.int (-1 : Int32)), .val (.int pos), .val (.ref blk), .val (.int (0 : Int32)), .unset, .unset] [(.ref a1), (.int (256 : Int32))])) rfl rfl (hb hby d21_55)
  have fl114 : ∀ target, Steps p.tables e below (T113.setTop (mkF m 61 #[.val (.ref a1), .val (.int p2), .val (.int p3), .val (.int (-1 : Int32)), .val (.int pos), .val (.ref blk), .val (.int (0 : Int32)), .unset, .unset] [(.int (sz - (0 : Int32))), (.int (256 : Int32))])) target → Steps p.tables e below (T111.setTop (mkF m 49 #[.val (.ref a1), .val (.int p2), .val (.int p3), .val (.int (-1 : Int32)), .val (.int pos), .val (.ref blk), .unset, .unset, .unset] [(.int (0 : Int32))])) target := fun target kt => by
    show Steps p.tables e below (T111.setTop (mkF m 49 #[.val (.ref a1), .val (.int p2), .val (.int p3), .val (.int (-1 : Int32)), .val (.int pos), .val (.ref blk), .unset, .unset, .unset] [(.int (0 : Int32))])) _
    refine XS.istore X111.here hx rfl (hb hby d21_49) rfl (l' := #[.val (.ref a1), .val (.int p2), .val (.int p3), .val (.int (-1 : Int32)), .val (.int pos), .val (.ref blk), .val (.int (0 : Int32)), .unset, .unset]) rfl ?_
    show Steps p.tables e below (T111.setTop (mkF m 51 #[.val (.ref a1), .val (.int p2), .val (.int p3), .val (.int (-1 : Int32)), .val (.int pos), .val (.ref blk), .val (.int (0 : Int32)), .unset, .unset] [])) _
    refine XS.aload X111.here hx rfl (hb hby d21_51) rfl rfl ?_
    show Steps p.tables e below (T111.setTop (mkF m 53 #[.val (.ref a1), .val (.int p2), .val (.int p3), .val (.int (-1 : Int32)), .val (.int pos), .val (.ref blk), .val (.int (0 : Int32)), .unset, .unset] [(.ref blk)])) _
    refine X111.arraylength hx (cell := clb) (by rw [e111]; exact Arb.1) (State.isArrayOf_alike hZ.alike Arb.2.1) (g := (mkF m 53 #[.val (.ref a1), .val (.int p2), .val (.int p3), .val (.int (-1 : Int32)), .val (.int pos), .val (.ref blk), .val (.int (0 : Int32)), .unset, .unset] [(.ref blk)])) rfl (rest := []) rfl (hb hby d21_53) _ ?_
    rw [len_of Szb Nzb]
    show Steps p.tables e below (T111.setTop (mkF m 54 #[.val (.ref a1), .val (.int p2), .val (.int p3), .val (.int (-1 : Int32)), .val (.int pos), .val (.ref blk), .val (.int (0 : Int32)), .unset, .unset] [(.int (256 : Int32))])) _
    refine XS.aloadN X111.here hx rfl (hb hby d21_54) rfl rfl ?_
    show Steps p.tables e below (T111.setTop (mkF m 55 #[.val (.ref a1), .val (.int p2), .val (.int p3), .val (.int (-1 : Int32)), .val (.int pos), .val (.ref blk), .val (.int (0 : Int32)), .unset, .unset] [(.ref a1), (.int (256 : Int32))])) _
    refine st113 _ ?_
    show Steps p.tables e below (T113.setTop (mkF m 58 #[.val (.ref a1), .val (.int p2), .val (.int p3), .val (.int (-1 : Int32)), .val (.int pos), .val (.ref blk), .val (.int (0 : Int32)), .unset, .unset] [(.int sz), (.int (256 : Int32))])) _
    refine XS.iload X113.here hx rfl (hb hby d21_58) rfl ?_
    show Steps p.tables e below (T113.setTop (mkF m 60 #[.val (.ref a1), .val (.int p2), .val (.int p3), .val (.int (-1 : Int32)), .val (.int pos), .val (.ref blk), .val (.int (0 : Int32)), .unset, .unset] [(.int (0 : Int32)), (.int sz), (.int (256 : Int32))])) _
    refine XS.isub X113.here hx rfl (hb hby d21_60) rfl ?_
    exact kt
  rw [Int32.sub_zero] at fl114
  obtain ⟨_, _, ⟨T115, L115, k115, n115⟩, -, X115, ⟨Lc115, hQ115, l115, y115, z115⟩, st115⟩ := Jvm.LawKit.callS X113 hx (y := (⟨"java/lang/Math", "min", "(II)I"⟩ : MethodName)) hown (mvT hZ (hw _ (List.mem_of_getElem? (i := 72) rfl))) (mvT hZ (hw _ (List.mem_of_getElem? (i := 73) rfl))) (mvT hZ (hw _ (List.mem_of_getElem? (i := 70) rfl))) (mvT hZ (hw _ (List.mem_of_getElem? (i := 74) rfl))) (by decide) (backOf (W := 0) (rm12 l Z a0 hw [] (256 : Int32) sz sz T110.heap n0 z110z hmin) hZ (hw _ (List.mem_of_getElem? (i := 74) rfl)) (hw _ (List.mem_of_getElem? (i := 70) rfl)) (by decide) (by decide)) (g := (mkF m 61 #[.val (.ref a1), .val (.int p2), .val (.int p3), .val (.int (-1 : Int32)), .val (.int pos), .val (.ref blk), .val (.int (0 : Int32)), .unset, .unset] [(.int sz), (.int (256 : Int32))])) rfl (by rw [hml]; rfl) (argsL := [(.int (256 : Int32)), (.int sz)]) (rest := []) (lenOf pd_2 rfl) rfl (by show 2 * 0 + _ ≤ _; exact Nat.le_of_eq rfl) (hb hby d21_61) (fun _ _ => ⟨rfl, e113, (by decide : 0 + 0 ≤ _), (by decide : 0 + 0 ≤ _)⟩)
  dsimp only [Pt.U, Pt.locs, Pt.cells, Pt.slots] at X115 l115 y115 z115 st115 hQ115
  subst l115 y115 z115
  obtain ⟨rfl, N115q, he115⟩ := hQ115
  have N115 := Fr.app N110 N115q
  have Kc115 : Keep T110.heap T115.heap [] := by rw [he115]; exact Keep.refl _ _
  have B_1_115 := B_1_110.keep Kc115
  have B_2_1_115 := B_2_1_110.keep Kc115 nin0
  have B_2_2_115 := B_2_2_110.keep Kc115 nin0
  have O_115 := O_110.keep Kc115 nin0
  have O_1_115 := O_1_110.keep Kc115
  have Ve_115 := Ve_110.keep Kc115 nin0
  have Eb_115 := Eb_110.keep Kc115
  have Vb_115 := Vb_110.keep Kc115 nin0
  have K115 : Keep h0 T115.heap [] := K110.trans Kc115 all0
  have z115z : n0 ≤ T115.heap.size := Nat.le_trans z110z Kc115.1
  have fl116 : ∀ target, Steps p.tables e below (T115.setTop (mkF m 71 #[.val (.ref a1), .val (.int p2), .val (.int p3), .val (.int (-1 : Int32)), .val (.int pos), .val (.ref blk), .val (.int (0 : Int32)), .val (.int sz), .unset] [(.int (pos - (0 : Int32)))])) target → Steps p.tables e below (T113.setTop (mkF m 61 #[.val (.ref a1), .val (.int p2), .val (.int p3), .val (.int (-1 : Int32)), .val (.int pos), .val (.ref blk), .val (.int (0 : Int32)), .unset, .unset] [(.int sz), (.int (256 : Int32))])) target := fun target kt => by
    show Steps p.tables e below (T113.setTop (mkF m 61 #[.val (.ref a1), .val (.int p2), .val (.int p3), .val (.int (-1 : Int32)), .val (.int pos), .val (.ref blk), .val (.int (0 : Int32)), .unset, .unset] [(.int sz), (.int (256 : Int32))])) _
    refine st115 _ ?_
    show Steps p.tables e below (T115.setTop (mkF m 64 #[.val (.ref a1), .val (.int p2), .val (.int p3), .val (.int (-1 : Int32)), .val (.int pos), .val (.ref blk), .val (.int (0 : Int32)), .unset, .unset] [(.int sz)])) _
    refine XS.istore X115.here hx rfl (hb hby d21_64) rfl (l' := #[.val (.ref a1), .val (.int p2), .val (.int p3), .val (.int (-1 : Int32)), .val (.int pos), .val (.ref blk), .val (.int (0 : Int32)), .val (.int sz), .unset]) rfl ?_
    show Steps p.tables e below (T115.setTop (mkF m 66 #[.val (.ref a1), .val (.int p2), .val (.int p3), .val (.int (-1 : Int32)), .val (.int pos), .val (.ref blk), .val (.int (0 : Int32)), .val (.int sz), .unset] [])) _
    refine XS.iload X115.here hx rfl (hb hby d21_66) rfl ?_
    show Steps p.tables e below (T115.setTop (mkF m 68 #[.val (.ref a1), .val (.int p2), .val (.int p3), .val (.int (-1 : Int32)), .val (.int pos), .val (.ref blk), .val (.int (0 : Int32)), .val (.int sz), .unset] [(.int pos)])) _
    refine XS.iload X115.here hx rfl (hb hby d21_68) rfl ?_
    show Steps p.tables e below (T115.setTop (mkF m 70 #[.val (.ref a1), .val (.int p2), .val (.int p3), .val (.int (-1 : Int32)), .val (.int pos), .val (.ref blk), .val (.int (0 : Int32)), .val (.int sz), .unset] [(.int (0 : Int32)), (.int pos)])) _
    refine XS.isub X115.here hx rfl (hb hby d21_70) rfl ?_
    exact kt
  rw [Int32.sub_zero] at fl116
  have fl117 : ∀ target, Steps p.tables e below (T115.setTop (mkF m 73 #[.val (.ref a1), .val (.int p2), .val (.int p3), .val (.int (-1 : Int32)), .val (.int pos), .val (.ref blk), .val (.int (0 : Int32)), .val (.int sz), .val (.int pos)] [])) target → Steps p.tables e below (T115.setTop (mkF m 71 #[.val (.ref a1), .val (.int p2), .val (.int p3), .val (.int (-1 : Int32)), .val (.int pos), .val (.ref blk), .val (.int (0 : Int32)), .val (.int sz), .unset] [(.int pos)])) target := fun target kt => by
    show Steps p.tables e below (T115.setTop (mkF m 71 #[.val (.ref a1), .val (.int p2), .val (.int p3), .val (.int (-1 : Int32)), .val (.int pos), .val (.ref blk), .val (.int (0 : Int32)), .val (.int sz), .unset] [(.int pos)])) _
    refine XS.istore X115.here hx rfl (hb hby d21_71) rfl (l' := #[.val (.ref a1), .val (.int p2), .val (.int p3), .val (.int (-1 : Int32)), .val (.int pos), .val (.ref blk), .val (.int (0 : Int32)), .val (.int sz), .val (.int pos)]) rfl ?_
    exact kt
  have lp := own_inl a1 blk kB vs p2 p3 pos sz f hx hZ hw hby hml hown X115 rfl Vb_115 h4 hget nn pos hp0 hnn
  have bd := own_fib f p2 nn pos sz hp0 hnn h4
  obtain ⟨j, hj⟩ : ∃ z : Int32, own_fi f p2 pos nn = z := ⟨_, rfl⟩
  rw [hj] at lp bd hr
  by_cases hc : j < sz
  · obtain rfl : r = j := by rw [hr]; exact if_pos hc
    have fl118 : ∀ target, Steps p.tables e below (T115.setTop (mkF m 111 #[.val (.ref a1), .val (.int p2), .val (.int p3), .val (.int (-1 : Int32)), .val (.int pos), .val (.ref blk), .val (.int (0 : Int32)), .val (.int sz), .val (.int r)] [(.int ((0 : Int32) + r))])) target → Steps p.tables e below (T115.setTop (mkF m 95 #[.val (.ref a1), .val (.int p2), .val (.int p3), .val (.int (-1 : Int32)), .val (.int pos), .val (.ref blk), .val (.int (0 : Int32)), .val (.int sz), .val (.int r)] [])) target := fun target kt => by
      show Steps p.tables e below (T115.setTop (mkF m 95 #[.val (.ref a1), .val (.int p2), .val (.int p3), .val (.int (-1 : Int32)), .val (.int pos), .val (.ref blk), .val (.int (0 : Int32)), .val (.int sz), .val (.int r)] [])) _
      refine XS.iload X115.here hx rfl (hb hby d21_95) rfl ?_
      show Steps p.tables e below (T115.setTop (mkF m 97 #[.val (.ref a1), .val (.int p2), .val (.int p3), .val (.int (-1 : Int32)), .val (.int pos), .val (.ref blk), .val (.int (0 : Int32)), .val (.int sz), .val (.int r)] [(.int r)])) _
      refine XS.iload X115.here hx rfl (hb hby d21_97) rfl ?_
      show Steps p.tables e below (T115.setTop (mkF m 99 #[.val (.ref a1), .val (.int p2), .val (.int p3), .val (.int (-1 : Int32)), .val (.int pos), .val (.ref blk), .val (.int (0 : Int32)), .val (.int sz), .val (.int r)] [(.int sz), (.int r)])) _
      refine XS.icmpNo X115.here hx rfl (hb hby d21_99) rfl (tlt (hc : r < sz)).2.1 ?_
      show Steps p.tables e below (T115.setTop (mkF m 102 #[.val (.ref a1), .val (.int p2), .val (.int p3), .val (.int (-1 : Int32)), .val (.int pos), .val (.ref blk), .val (.int (0 : Int32)), .val (.int sz), .val (.int r)] [])) _
      refine XS.iload X115.here hx rfl (hb hby d21_102) rfl ?_
      show Steps p.tables e below (T115.setTop (mkF m 104 #[.val (.ref a1), .val (.int p2), .val (.int p3), .val (.int (-1 : Int32)), .val (.int pos), .val (.ref blk), .val (.int (0 : Int32)), .val (.int sz), .val (.int r)] [(.int (0 : Int32))])) _
      refine XS.iload X115.here hx rfl (hb hby d21_104) rfl ?_
      show Steps p.tables e below (T115.setTop (mkF m 106 #[.val (.ref a1), .val (.int p2), .val (.int p3), .val (.int (-1 : Int32)), .val (.int pos), .val (.ref blk), .val (.int (0 : Int32)), .val (.int sz), .val (.int r)] [(.int r), (.int (0 : Int32))])) _
      refine XS.iadd X115.here hx rfl (hb hby d21_106) rfl ?_
      show Steps p.tables e below (T115.setTop (mkF m 107 #[.val (.ref a1), .val (.int p2), .val (.int p3), .val (.int (-1 : Int32)), .val (.int pos), .val (.ref blk), .val (.int (0 : Int32)), .val (.int sz), .val (.int r)] [(.int ((0 : Int32) + r))])) _
      refine XS.goto X115.here hx rfl (pc0 := 107) (pc' := 111) rfl (hb hby d21_107) (by decide) (by decide) ?_
      exact kt
    rw [Int32.zero_add] at fl118
    have fl119 : ∀ target, Steps p.tables e below (T115.setTop (mkF m 117 #[.val (.ref a1), .val (.int p2), .val (.int p3), .val (.int r), .val (.int pos), .val (.ref blk), .val (.int (0 : Int32)), .val (.int sz), .val (.int r)] [(.int ((0 : Int32) + sz))])) target → Steps p.tables e below (T115.setTop (mkF m 111 #[.val (.ref a1), .val (.int p2), .val (.int p3), .val (.int (-1 : Int32)), .val (.int pos), .val (.ref blk), .val (.int (0 : Int32)), .val (.int sz), .val (.int r)] [(.int r)])) target := fun target kt => by
      show Steps p.tables e below (T115.setTop (mkF m 111 #[.val (.ref a1), .val (.int p2), .val (.int p3), .val (.int (-1 : Int32)), .val (.int pos), .val (.ref blk), .val (.int (0 : Int32)), .val (.int sz), .val (.int r)] [(.int r)])) _
      refine XS.istoreN X115.here hx rfl (hb hby d21_111) rfl (l' := #[.val (.ref a1), .val (.int p2), .val (.int p3), .val (.int r), .val (.int pos), .val (.ref blk), .val (.int (0 : Int32)), .val (.int sz), .val (.int r)]) rfl ?_
      show Steps p.tables e below (T115.setTop (mkF m 112 #[.val (.ref a1), .val (.int p2), .val (.int p3), .val (.int r), .val (.int pos), .val (.ref blk), .val (.int (0 : Int32)), .val (.int sz), .val (.int r)] [])) _
      refine XS.iload X115.here hx rfl (hb hby d21_112) rfl ?_
      show Steps p.tables e below (T115.setTop (mkF m 114 #[.val (.ref a1), .val (.int p2), .val (.int p3), .val (.int r), .val (.int pos), .val (.ref blk), .val (.int (0 : Int32)), .val (.int sz), .val (.int r)] [(.int (0 : Int32))])) _
      refine XS.iload X115.here hx rfl (hb hby d21_114) rfl ?_
      show Steps p.tables e below (T115.setTop (mkF m 116 #[.val (.ref a1), .val (.int p2), .val (.int p3), .val (.int r), .val (.int pos), .val (.ref blk), .val (.int (0 : Int32)), .val (.int sz), .val (.int r)] [(.int sz), (.int (0 : Int32))])) _
      refine XS.iadd X115.here hx rfl (hb hby d21_116) rfl ?_
      exact kt
    rw [Int32.zero_add] at fl119
    have fl120 : ∀ target, Steps p.tables e below (T115.setTop (mkF m 123 #[.val (.ref a1), .val (.int p2), .val (.int p3), .val (.int r), .val (.int sz), .val (.ref blk), .val (.int (0 : Int32)), .val (.int sz), .val (.int r)] [(.int r)])) target → Steps p.tables e below (T115.setTop (mkF m 117 #[.val (.ref a1), .val (.int p2), .val (.int p3), .val (.int r), .val (.int pos), .val (.ref blk), .val (.int (0 : Int32)), .val (.int sz), .val (.int r)] [(.int sz)])) target := fun target kt => by
      show Steps p.tables e below (T115.setTop (mkF m 117 #[.val (.ref a1), .val (.int p2), .val (.int p3), .val (.int r), .val (.int pos), .val (.ref blk), .val (.int (0 : Int32)), .val (.int sz), .val (.int r)] [(.int sz)])) _
      refine XS.istore X115.here hx rfl (hb hby d21_117) rfl (l' := #[.val (.ref a1), .val (.int p2), .val (.int p3), .val (.int r), .val (.int sz), .val (.ref blk), .val (.int (0 : Int32)), .val (.int sz), .val (.int r)]) rfl ?_
      show Steps p.tables e below (T115.setTop (mkF m 119 #[.val (.ref a1), .val (.int p2), .val (.int p3), .val (.int r), .val (.int sz), .val (.ref blk), .val (.int (0 : Int32)), .val (.int sz), .val (.int r)] [])) _
      refine XS.goto X115.here hx rfl (pc0 := 119) (pc' := 9) rfl (hb hby d21_119) (by decide) (by decide) ?_
      show Steps p.tables e below (T115.setTop (mkF m 9 #[.val (.ref a1), .val (.int p2), .val (.int p3), .val (.int r), .val (.int sz), .val (.ref blk), .val (.int (0 : Int32)), .val (.int sz), .val (.int r)] [])) _
      refine XS.iloadN X115.here hx rfl (hb hby d21_9) rfl ?_
      show Steps p.tables e below (T115.setTop (mkF m 10 #[.val (.ref a1), .val (.int p2), .val (.int p3), .val (.int r), .val (.int sz), .val (.ref blk), .val (.int (0 : Int32)), .val (.int sz), .val (.int r)] [(.int r)])) _
      refine XS.ifYes X115.here hx rfl (pc0 := 10) (pc' := 122) rfl (hb hby d21_10) rfl ((if0 _ _).trans (flt (by have z0 : (0 : Int32).toInt = 0 := rfl; rw [own_lti]; omega : ¬ (r < (0 : Int32)))).2.1) (by decide) (by decide) ?_
      show Steps p.tables e below (T115.setTop (mkF m 122 #[.val (.ref a1), .val (.int p2), .val (.int p3), .val (.int r), .val (.int sz), .val (.ref blk), .val (.int (0 : Int32)), .val (.int sz), .val (.int r)] [])) _
      refine XS.iloadN X115.here hx rfl (hb hby d21_122) rfl ?_
      exact kt
    obtain ⟨fs, hrt, hrun, hended, hW, hsame⟩ := X115.leave (v := some (.int r)) (fun h => by rw [Bd.returns] at h; cases h)
    refine ⟨_, _, pre0 _ (fl109 _ (fl112 _ (fl114 _ (fl116 _ (fl117 _ (lp _ (fl118 _ (fl119 _ (fl120 _ ?_))))))))), hrun, hended, _, _, rfl, ?_, ⟨_, rfl⟩, hW, hsame.mono (by decide) (by decide)⟩
    · exact retI X115 hx Bd.returns (hb hby d21_123) hrt
    · show QI1 _ _ _ _ _ _ _ _ _ _ _ _ _ _ _ _ _ _ T115.heap _
      exact ⟨rfl, N115, he115.trans (he110.trans (he106))⟩
  · obtain rfl : r = -1 := by rw [hr]; exact if_neg hc
    have fl121 : ∀ target, Steps p.tables e below (T115.setTop (mkF m 117 #[.val (.ref a1), .val (.int p2), .val (.int p3), .val (.int (-1 : Int32)), .val (.int pos), .val (.ref blk), .val (.int (0 : Int32)), .val (.int sz), .val (.int j)] [(.int ((0 : Int32) + sz))])) target → Steps p.tables e below (T115.setTop (mkF m 95 #[.val (.ref a1), .val (.int p2), .val (.int p3), .val (.int (-1 : Int32)), .val (.int pos), .val (.ref blk), .val (.int (0 : Int32)), .val (.int sz), .val (.int j)] [])) target := fun target kt => by
      show Steps p.tables e below (T115.setTop (mkF m 95 #[.val (.ref a1), .val (.int p2), .val (.int p3), .val (.int (-1 : Int32)), .val (.int pos), .val (.ref blk), .val (.int (0 : Int32)), .val (.int sz), .val (.int j)] [])) _
      refine XS.iload X115.here hx rfl (hb hby d21_95) rfl ?_
      show Steps p.tables e below (T115.setTop (mkF m 97 #[.val (.ref a1), .val (.int p2), .val (.int p3), .val (.int (-1 : Int32)), .val (.int pos), .val (.ref blk), .val (.int (0 : Int32)), .val (.int sz), .val (.int j)] [(.int j)])) _
      refine XS.iload X115.here hx rfl (hb hby d21_97) rfl ?_
      show Steps p.tables e below (T115.setTop (mkF m 99 #[.val (.ref a1), .val (.int p2), .val (.int p3), .val (.int (-1 : Int32)), .val (.int pos), .val (.ref blk), .val (.int (0 : Int32)), .val (.int sz), .val (.int j)] [(.int sz), (.int j)])) _
      refine XS.icmpYes X115.here hx rfl (pc0 := 99) (pc' := 110) rfl (hb hby d21_99) rfl (flt (hc : ¬ (j < sz))).2.1 (by decide) (by decide) ?_
      show Steps p.tables e below (T115.setTop (mkF m 110 #[.val (.ref a1), .val (.int p2), .val (.int p3), .val (.int (-1 : Int32)), .val (.int pos), .val (.ref blk), .val (.int (0 : Int32)), .val (.int sz), .val (.int j)] [])) _
      refine XS.iconst X115.here hx rfl (hb hby d21_110) ?_
      show Steps p.tables e below (T115.setTop (mkF m 111 #[.val (.ref a1), .val (.int p2), .val (.int p3), .val (.int (-1 : Int32)), .val (.int pos), .val (.ref blk), .val (.int (0 : Int32)), .val (.int sz), .val (.int j)] [(.int (-1 : Int32))])) _
      refine XS.istoreN X115.here hx rfl (hb hby d21_111) rfl (l' := #[.val (.ref a1), .val (.int p2), .val (.int p3), .val (.int (-1 : Int32)), .val (.int pos), .val (.ref blk), .val (.int (0 : Int32)), .val (.int sz), .val (.int j)]) rfl ?_
      show Steps p.tables e below (T115.setTop (mkF m 112 #[.val (.ref a1), .val (.int p2), .val (.int p3), .val (.int (-1 : Int32)), .val (.int pos), .val (.ref blk), .val (.int (0 : Int32)), .val (.int sz), .val (.int j)] [])) _
      refine XS.iload X115.here hx rfl (hb hby d21_112) rfl ?_
      show Steps p.tables e below (T115.setTop (mkF m 114 #[.val (.ref a1), .val (.int p2), .val (.int p3), .val (.int (-1 : Int32)), .val (.int pos), .val (.ref blk), .val (.int (0 : Int32)), .val (.int sz), .val (.int j)] [(.int (0 : Int32))])) _
      refine XS.iload X115.here hx rfl (hb hby d21_114) rfl ?_
      show Steps p.tables e below (T115.setTop (mkF m 116 #[.val (.ref a1), .val (.int p2), .val (.int p3), .val (.int (-1 : Int32)), .val (.int pos), .val (.ref blk), .val (.int (0 : Int32)), .val (.int sz), .val (.int j)] [(.int sz), (.int (0 : Int32))])) _
      refine XS.iadd X115.here hx rfl (hb hby d21_116) rfl ?_
      exact kt
    rw [Int32.zero_add] at fl121
    obtain ⟨T122, X122, e122, st122⟩ := getF X115 hx hZ hown (host := "") (Or.inl (hw _ (List.mem_of_getElem? (i := 49) rfl))) Via.refl rfl B_2_2_115 (g := (mkF m 16 #[.val (.ref a1), .val (.int p2), .val (.int p3), .val (.int (-1 : Int32)), .val (.int sz), .val (.ref blk), .val (.int (0 : Int32)), .val (.int sz), .val (.int j)] [(.ref a1), (.int sz)])) rfl rfl (hb hby d21_16)
    have fl123 : ∀ target, Steps p.tables e below (T122.setTop (mkF m 123 #[.val (.ref a1), .val (.int p2), .val (.int p3), .val (.int (-1 : Int32)), .val (.int sz), .val (.ref blk), .val (.int (0 : Int32)), .val (.int sz), .val (.int j)] [(.int (-1 : Int32))])) target → Steps p.tables e below (T115.setTop (mkF m 117 #[.val (.ref a1), .val (.int p2), .val (.int p3), .val (.int (-1 : Int32)), .val (.int pos), .val (.ref blk), .val (.int (0 : Int32)), .val (.int sz), .val (.int j)] [(.int sz)])) target := fun target kt => by
      show Steps p.tables e below (T115.setTop (mkF m 117 #[.val (.ref a1), .val (.int p2), .val (.int p3), .val (.int (-1 : Int32)), .val (.int pos), .val (.ref blk), .val (.int (0 : Int32)), .val (.int sz), .val (.int j)] [(.int sz)])) _
      refine XS.istore X115.here hx rfl (hb hby d21_117) rfl (l' := #[.val (.ref a1), .val (.int p2), .val (.int p3), .val (.int (-1 : Int32)), .val (.int sz), .val (.ref blk), .val (.int (0 : Int32)), .val (.int sz), .val (.int j)]) rfl ?_
      show Steps p.tables e below (T115.setTop (mkF m 119 #[.val (.ref a1), .val (.int p2), .val (.int p3), .val (.int (-1 : Int32)), .val (.int sz), .val (.ref blk), .val (.int (0 : Int32)), .val (.int sz), .val (.int j)] [])) _
      refine XS.goto X115.here hx rfl (pc0 := 119) (pc' := 9) rfl (hb hby d21_119) (by decide) (by decide) ?_
      show Steps p.tables e below (T115.setTop (mkF m 9 #[.val (.ref a1), .val (.int p2), .val (.int p3), .val (.int (-1 : Int32)), .val (.int sz), .val (.ref blk), .val (.int (0 : Int32)), .val (.int sz), .val (.int j)] [])) _
      refine XS.iloadN X115.here hx rfl (hb hby d21_9) rfl ?_
      show Steps p.tables e below (T115.setTop (mkF m 10 #[.val (.ref a1), .val (.int p2), .val (.int p3), .val (.int (-1 : Int32)), .val (.int sz), .val (.ref blk), .val (.int (0 : Int32)), .val (.int sz), .val (.int j)] [(.int (-1 : Int32))])) _
      refine XS.ifNo X115.here hx rfl (hb hby d21_10) rfl ((if0 _ _).trans (tlt (by decide : (-1 : Int32) < (0 : Int32))).2.1) ?_
      show Steps p.tables e below (T115.setTop (mkF m 13 #[.val (.ref a1), .val (.int p2), .val (.int p3), .val (.int (-1 : Int32)), .val (.int sz), .val (.ref blk), .val (.int (0 : Int32)), .val (.int sz), .val (.int j)] [])) _
      refine XS.iload X115.here hx rfl (hb hby d21_13) rfl ?_
      show Steps p.tables e below (T115.setTop (mkF m 15 #[.val (.ref a1), .val (.int p2), .val (.int p3), .val (.int (-1 : Int32)), .val (.int sz), .val (.ref blk), .val (.int (0 : Int32)), .val (.int sz), .val (.int j)] [(.int sz)])) _
      refine XS.aloadN X115.here hx rfl (hb hby d21_15) rfl rfl ?_
      show Steps p.tables e below (T115.setTop (mkF m 16 #[.val (.ref a1), .val (.int p2), .val (.int p3), .val (.int (-1 : Int32)), .val (.int sz), .val (.ref blk), .val (.int (0 : Int32)), .val (.int sz), .val (.int j)] [(.ref a1), (.int sz)])) _
      refine st122 _ ?_
      show Steps p.tables e below (T122.setTop (mkF m 19 #[.val (.ref a1), .val (.int p2), .val (.int p3), .val (.int (-1 : Int32)), .val (.int sz), .val (.ref blk), .val (.int (0 : Int32)), .val (.int sz), .val (.int j)] [(.int sz), (.int sz)])) _
      refine XS.icmpYes X122.here hx rfl (pc0 := 19) (pc' := 122) rfl (hb hby d21_19) rfl (flt (Int32.lt_irrefl : ¬ (sz < sz))).2.1 (by decide) (by decide) ?_
      show Steps p.tables e below (T122.setTop (mkF m 122 #[.val (.ref a1), .val (.int p2), .val (.int p3), .val (.int (-1 : Int32)), .val (.int sz), .val (.ref blk), .val (.int (0 : Int32)), .val (.int sz), .val (.int j)] [])) _
      refine XS.iloadN X122.here hx rfl (hb hby d21_122) rfl ?_
      exact kt
    obtain ⟨fs, hrt, hrun, hended, hW, hsame⟩ := X122.leave (v := some (.int (-1 : Int32))) (fun h => by rw [Bd.returns] at h; cases h)
    refine ⟨_, _, pre0 _ (fl109 _ (fl112 _ (fl114 _ (fl116 _ (fl117 _ (lp _ (fl121 _ (fl123 _ ?_)))))))), hrun, hended, _, _, rfl, ?_, ⟨_, rfl⟩, hW, hsame.mono (by decide) (by decide)⟩
    · exact retI X122 hx Bd.returns (hb hby d21_123) hrt
    · show QI1 _ _ _ _ _ _ _ _ _ _ _ _ _ _ _ _ _ _ T122.heap _
      rw [e122]
      exact ⟨rfl, N115, he115.trans (he110.trans (he106))⟩
theorem ef_22 (m : MethodId) (x0 : Int32) (x1 : Int32) (x2 : Int32) (x3 : Int32) (x4 : Int32) (x5 : Int32) (x6 : Int32) : entryFrame m #[(.int x0), (.int x1), (.int x2), (.int x3), (.int x4), (.int x5), (.int x6)] 7 = mkF m 0 #[.val (.int x0), .val (.int x1), .val (.int x2), .val (.int x3), .val (.int x4), .val (.int x5), .val (.int x6)] [] := by first | (simp [entryFrame, mkF, argsToLocals, Value.category]; done) | rfl
def Q22 (Z : State) (p1 : Int32) (p2 : Int32) (p3 : Int32) (p4 : Int32) (p5 : Int32) (p6 : Int32) (p7 : Int32) (r : Int32) (h0 : Heap) (n0 : Nat) (v : Option Value) (h : Heap) (L : List Loc) : Prop := v = some (.int r) ∧ Fr n0 L ∧ h = h0
set_option maxRecDepth 65536 in
set_option maxHeartbeats 40000000 in
theorem rm22 (l : Launch) (Z : State) (a0 : Array Value) (hw : ∀ d ∈ tables_1, d.before a0 Z = true) (ws : List Jvm.Cond) (p1 : Int32) (p2 : Int32) (p3 : Int32) (p4 : Int32) (p5 : Int32) (p6 : Int32) (p7 : Int32) (r : Int32) (h0 : Heap) (n0 : Nat) (Z0 : n0 ≤ h0.size) (hr : r = own_ref p1 p2 p3 p4 p5 p6 p7) :
    MetFree l (⟨"com/example/darter/darter/ResultBufferIndexOfPinLaw", "ref", "(BBBBIBI)I"⟩ : MethodName) (head1 (Jvm.Cond.code (⟨"com/example/darter/darter/ResultBufferIndexOfPinLaw", "ref", "(BBBBIBI)I"⟩ : MethodName) method_3_code 7 (some .int) :: ws) ({ frames := 0, cells := 0, slots := 0, locals := 0 } : Room)) (fun a U => a = #[(.int p1), (.int p2), (.int p3), (.int p4), (.int p5), (.int p6), (.int p7)] ∧ Z.Warmed39 U.vm ∧ U.heap = h0) (fun _ _ _ _ _ => True) (fun _ U o U' => ∃ v L, o = .returned v ∧ Q22 Z p1 p2 p3 p4 p5 p6 p7 r h0 n0 v U'.heap L ∧ FrameEnd U o U' L ({ frames := 0, cells := 0, slots := 0, locals := 0 } : Room).cells ({ frames := 0, cells := 0, slots := 0, locals := 0 } : Room).slots) := by
  refine MetFree.of_bodySF (plainFor_of_name pn_7) hisR ?_
  intro p e s m args below meth c s₁ Bd hml0 hP hK
  obtain ⟨rfl, hZ, hh⟩ := hP
  have hx := Bd.exec
  have hby := Bd.bytes
  have hml : c.maxLocals = 7 := hml0
  have hown : s.vm.findClass "com/example/darter/darter/ResultBufferIndexOfPinLaw" = some m.cls := findClass_of_methodNamed Bd.named
  have hnm := (name_of_methodNamed Bd.named Bd.method).1
  have X0 : Stand p l e ({ frames := 0, cells := 0, slots := 0, locals := 0 } : Room) s m #[(.int p1), (.int p2), (.int p3), (.int p4), (.int p5), (.int p6), (.int p7)] below meth c s₁ [] 0 0 := Stand.of_body Bd
  have e0 : s₁.heap = h0 := by rw [← hh, Bd.state]; rfl
  have N0 := Fr.nil n0
  have pre0 : ∀ t, Steps p.tables e below (s₁.setTop (mkF m 0 #[.val (.int p1), .val (.int p2), .val (.int p3), .val (.int p4), .val (.int p5), .val (.int p6), .val (.int p7)] [])) t → Steps p.tables e below (s₁.setTop (entryFrame m #[(.int p1), (.int p2), (.int p3), (.int p4), (.int p5), (.int p6), (.int p7)] 7)) t := fun t k => castTop (ef_22 m p1 p2 p3 p4 p5 p6 p7) k
  by_cases c0 : ¬ (0 : Int32) < p7 ∧ (0 : Int32) < p5 ∧ p1 = p6
  · obtain rfl : r = 0 := by rw [hr]; unfold own_ref; rw [if_pos c0]
    have fl124 : ∀ target, Steps p.tables e below (s₁.setTop (mkF m 17 #[.val (.int p1), .val (.int p2), .val (.int p3), .val (.int p4), .val (.int p5), .val (.int p6), .val (.int p7)] [(.int (0 : Int32))])) target → Steps p.tables e below (s₁.setTop (mkF m 0 #[.val (.int p1), .val (.int p2), .val (.int p3), .val (.int p4), .val (.int p5), .val (.int p6), .val (.int p7)] [])) target := fun target kt => by
      show Steps p.tables e below (s₁.setTop (mkF m 0 #[.val (.int p1), .val (.int p2), .val (.int p3), .val (.int p4), .val (.int p5), .val (.int p6), .val (.int p7)] [])) _
      refine XS.iload X0.here hx rfl (hb hby d22_0) rfl ?_
      show Steps p.tables e below (s₁.setTop (mkF m 2 #[.val (.int p1), .val (.int p2), .val (.int p3), .val (.int p4), .val (.int p5), .val (.int p6), .val (.int p7)] [(.int p7)])) _
      refine XS.ifNo X0.here hx rfl (hb hby d22_2) rfl ((if0 _ _).trans (flt (c0.1 : ¬ ((0 : Int32) < p7))).2.2.1) ?_
      show Steps p.tables e below (s₁.setTop (mkF m 5 #[.val (.int p1), .val (.int p2), .val (.int p3), .val (.int p4), .val (.int p5), .val (.int p6), .val (.int p7)] [])) _
      refine XS.iload X0.here hx rfl (hb hby d22_5) rfl ?_
      show Steps p.tables e below (s₁.setTop (mkF m 7 #[.val (.int p1), .val (.int p2), .val (.int p3), .val (.int p4), .val (.int p5), .val (.int p6), .val (.int p7)] [(.int p5)])) _
      refine XS.ifNo X0.here hx rfl (hb hby d22_7) rfl ((if0 _ _).trans (tlt (c0.2.1 : (0 : Int32) < p5)).2.2.2) ?_
      show Steps p.tables e below (s₁.setTop (mkF m 10 #[.val (.int p1), .val (.int p2), .val (.int p3), .val (.int p4), .val (.int p5), .val (.int p6), .val (.int p7)] [])) _
      refine XS.iloadN X0.here hx rfl (hb hby d22_10) rfl ?_
      show Steps p.tables e below (s₁.setTop (mkF m 11 #[.val (.int p1), .val (.int p2), .val (.int p3), .val (.int p4), .val (.int p5), .val (.int p6), .val (.int p7)] [(.int p1)])) _
      refine XS.iload X0.here hx rfl (hb hby d22_11) rfl ?_
      show Steps p.tables e below (s₁.setTop (mkF m 13 #[.val (.int p1), .val (.int p2), .val (.int p3), .val (.int p4), .val (.int p5), .val (.int p6), .val (.int p7)] [(.int p6), (.int p1)])) _
      refine XS.icmpNo X0.here hx rfl (hb hby d22_13) rfl (teq (c0.2.2 : p1 = p6)).2 ?_
      show Steps p.tables e below (s₁.setTop (mkF m 16 #[.val (.int p1), .val (.int p2), .val (.int p3), .val (.int p4), .val (.int p5), .val (.int p6), .val (.int p7)] [])) _
      refine XS.iconst X0.here hx rfl (hb hby d22_16) ?_
      exact kt
    obtain ⟨fs, hrt, hrun, hended, hW, hsame⟩ := X0.leave (v := some (.int (0 : Int32))) (fun h => by rw [Bd.returns] at h; cases h)
    refine ⟨_, _, pre0 _ (fl124 _ ?_), hrun, hended, _, _, rfl, ?_, ⟨_, rfl⟩, hW, hsame.mono (by decide) (by decide)⟩
    · exact retI X0 hx Bd.returns (hb hby d22_17) hrt
    · show Q22 _ _ _ _ _ _ _ _ _ _ _ _ s₁.heap _
      rw [e0]
      exact ⟨rfl, N0, rfl⟩
  · have fl125 : ∀ target, Steps p.tables e below (s₁.setTop (mkF m 18 #[.val (.int p1), .val (.int p2), .val (.int p3), .val (.int p4), .val (.int p5), .val (.int p6), .val (.int p7)] [])) target → Steps p.tables e below (s₁.setTop (mkF m 0 #[.val (.int p1), .val (.int p2), .val (.int p3), .val (.int p4), .val (.int p5), .val (.int p6), .val (.int p7)] [])) target := by
      intro target kt
      rcases own_fail c0 with h | ⟨h, h2⟩ | ⟨h, h2, h3⟩
      · skip
        show Steps p.tables e below (s₁.setTop (mkF m 0 #[.val (.int p1), .val (.int p2), .val (.int p3), .val (.int p4), .val (.int p5), .val (.int p6), .val (.int p7)] [])) _
        refine XS.iload X0.here hx rfl (hb hby d22_0) rfl ?_
        show Steps p.tables e below (s₁.setTop (mkF m 2 #[.val (.int p1), .val (.int p2), .val (.int p3), .val (.int p4), .val (.int p5), .val (.int p6), .val (.int p7)] [(.int p7)])) _
        refine XS.ifYes X0.here hx rfl (pc0 := 2) (pc' := 18) rfl (hb hby d22_2) rfl ((if0 _ _).trans (tlt (h : (0 : Int32) < p7)).2.2.1) (by decide) (by decide) ?_
        exact kt
      · skip
        show Steps p.tables e below (s₁.setTop (mkF m 0 #[.val (.int p1), .val (.int p2), .val (.int p3), .val (.int p4), .val (.int p5), .val (.int p6), .val (.int p7)] [])) _
        refine XS.iload X0.here hx rfl (hb hby d22_0) rfl ?_
        show Steps p.tables e below (s₁.setTop (mkF m 2 #[.val (.int p1), .val (.int p2), .val (.int p3), .val (.int p4), .val (.int p5), .val (.int p6), .val (.int p7)] [(.int p7)])) _
        refine XS.ifNo X0.here hx rfl (hb hby d22_2) rfl ((if0 _ _).trans (flt (h : ¬ ((0 : Int32) < p7))).2.2.1) ?_
        show Steps p.tables e below (s₁.setTop (mkF m 5 #[.val (.int p1), .val (.int p2), .val (.int p3), .val (.int p4), .val (.int p5), .val (.int p6), .val (.int p7)] [])) _
        refine XS.iload X0.here hx rfl (hb hby d22_5) rfl ?_
        show Steps p.tables e below (s₁.setTop (mkF m 7 #[.val (.int p1), .val (.int p2), .val (.int p3), .val (.int p4), .val (.int p5), .val (.int p6), .val (.int p7)] [(.int p5)])) _
        refine XS.ifYes X0.here hx rfl (pc0 := 7) (pc' := 18) rfl (hb hby d22_7) rfl ((if0 _ _).trans (flt (h2 : ¬ ((0 : Int32) < p5))).2.2.2) (by decide) (by decide) ?_
        exact kt
      · skip
        show Steps p.tables e below (s₁.setTop (mkF m 0 #[.val (.int p1), .val (.int p2), .val (.int p3), .val (.int p4), .val (.int p5), .val (.int p6), .val (.int p7)] [])) _
        refine XS.iload X0.here hx rfl (hb hby d22_0) rfl ?_
        show Steps p.tables e below (s₁.setTop (mkF m 2 #[.val (.int p1), .val (.int p2), .val (.int p3), .val (.int p4), .val (.int p5), .val (.int p6), .val (.int p7)] [(.int p7)])) _
        refine XS.ifNo X0.here hx rfl (hb hby d22_2) rfl ((if0 _ _).trans (flt (h : ¬ ((0 : Int32) < p7))).2.2.1) ?_
        show Steps p.tables e below (s₁.setTop (mkF m 5 #[.val (.int p1), .val (.int p2), .val (.int p3), .val (.int p4), .val (.int p5), .val (.int p6), .val (.int p7)] [])) _
        refine XS.iload X0.here hx rfl (hb hby d22_5) rfl ?_
        show Steps p.tables e below (s₁.setTop (mkF m 7 #[.val (.int p1), .val (.int p2), .val (.int p3), .val (.int p4), .val (.int p5), .val (.int p6), .val (.int p7)] [(.int p5)])) _
        refine XS.ifNo X0.here hx rfl (hb hby d22_7) rfl ((if0 _ _).trans (tlt (h2 : (0 : Int32) < p5)).2.2.2) ?_
        show Steps p.tables e below (s₁.setTop (mkF m 10 #[.val (.int p1), .val (.int p2), .val (.int p3), .val (.int p4), .val (.int p5), .val (.int p6), .val (.int p7)] [])) _
        refine XS.iloadN X0.here hx rfl (hb hby d22_10) rfl ?_
        show Steps p.tables e below (s₁.setTop (mkF m 11 #[.val (.int p1), .val (.int p2), .val (.int p3), .val (.int p4), .val (.int p5), .val (.int p6), .val (.int p7)] [(.int p1)])) _
        refine XS.iload X0.here hx rfl (hb hby d22_11) rfl ?_
        show Steps p.tables e below (s₁.setTop (mkF m 13 #[.val (.int p1), .val (.int p2), .val (.int p3), .val (.int p4), .val (.int p5), .val (.int p6), .val (.int p7)] [(.int p6), (.int p1)])) _
        refine XS.icmpYes X0.here hx rfl (pc0 := 13) (pc' := 18) rfl (hb hby d22_13) rfl (feq (h3 : ¬ (p1 = p6))).2 (by decide) (by decide) ?_
        exact kt
    by_cases c1 : ¬ (1 : Int32) < p7 ∧ (1 : Int32) < p5 ∧ p2 = p6
    · obtain rfl : r = 1 := by rw [hr]; unfold own_ref; rw [if_neg c0, if_pos c1]
      have fl126 : ∀ target, Steps p.tables e below (s₁.setTop (mkF m 37 #[.val (.int p1), .val (.int p2), .val (.int p3), .val (.int p4), .val (.int p5), .val (.int p6), .val (.int p7)] [(.int (1 : Int32))])) target → Steps p.tables e below (s₁.setTop (mkF m 18 #[.val (.int p1), .val (.int p2), .val (.int p3), .val (.int p4), .val (.int p5), .val (.int p6), .val (.int p7)] [])) target := fun target kt => by
        show Steps p.tables e below (s₁.setTop (mkF m 18 #[.val (.int p1), .val (.int p2), .val (.int p3), .val (.int p4), .val (.int p5), .val (.int p6), .val (.int p7)] [])) _
        refine XS.iload X0.here hx rfl (hb hby d22_18) rfl ?_
        show Steps p.tables e below (s₁.setTop (mkF m 20 #[.val (.int p1), .val (.int p2), .val (.int p3), .val (.int p4), .val (.int p5), .val (.int p6), .val (.int p7)] [(.int p7)])) _
        refine XS.iconst X0.here hx rfl (hb hby d22_20) ?_
        show Steps p.tables e below (s₁.setTop (mkF m 21 #[.val (.int p1), .val (.int p2), .val (.int p3), .val (.int p4), .val (.int p5), .val (.int p6), .val (.int p7)] [(.int (1 : Int32)), (.int p7)])) _
        refine XS.icmpNo X0.here hx rfl (hb hby d22_21) rfl (flt (c1.1 : ¬ ((1 : Int32) < p7))).2.2.1 ?_
        show Steps p.tables e below (s₁.setTop (mkF m 24 #[.val (.int p1), .val (.int p2), .val (.int p3), .val (.int p4), .val (.int p5), .val (.int p6), .val (.int p7)] [])) _
        refine XS.iload X0.here hx rfl (hb hby d22_24) rfl ?_
        show Steps p.tables e below (s₁.setTop (mkF m 26 #[.val (.int p1), .val (.int p2), .val (.int p3), .val (.int p4), .val (.int p5), .val (.int p6), .val (.int p7)] [(.int p5)])) _
        refine XS.iconst X0.here hx rfl (hb hby d22_26) ?_
        show Steps p.tables e below (s₁.setTop (mkF m 27 #[.val (.int p1), .val (.int p2), .val (.int p3), .val (.int p4), .val (.int p5), .val (.int p6), .val (.int p7)] [(.int (1 : Int32)), (.int p5)])) _
        refine XS.icmpNo X0.here hx rfl (hb hby d22_27) rfl (tlt (c1.2.1 : (1 : Int32) < p5)).2.2.2 ?_
        show Steps p.tables e below (s₁.setTop (mkF m 30 #[.val (.int p1), .val (.int p2), .val (.int p3), .val (.int p4), .val (.int p5), .val (.int p6), .val (.int p7)] [])) _
        refine XS.iloadN X0.here hx rfl (hb hby d22_30) rfl ?_
        show Steps p.tables e below (s₁.setTop (mkF m 31 #[.val (.int p1), .val (.int p2), .val (.int p3), .val (.int p4), .val (.int p5), .val (.int p6), .val (.int p7)] [(.int p2)])) _
        refine XS.iload X0.here hx rfl (hb hby d22_31) rfl ?_
        show Steps p.tables e below (s₁.setTop (mkF m 33 #[.val (.int p1), .val (.int p2), .val (.int p3), .val (.int p4), .val (.int p5), .val (.int p6), .val (.int p7)] [(.int p6), (.int p2)])) _
        refine XS.icmpNo X0.here hx rfl (hb hby d22_33) rfl (teq (c1.2.2 : p2 = p6)).2 ?_
        show Steps p.tables e below (s₁.setTop (mkF m 36 #[.val (.int p1), .val (.int p2), .val (.int p3), .val (.int p4), .val (.int p5), .val (.int p6), .val (.int p7)] [])) _
        refine XS.iconst X0.here hx rfl (hb hby d22_36) ?_
        exact kt
      obtain ⟨fs, hrt, hrun, hended, hW, hsame⟩ := X0.leave (v := some (.int (1 : Int32))) (fun h => by rw [Bd.returns] at h; cases h)
      refine ⟨_, _, pre0 _ (fl125 _ (fl126 _ ?_)), hrun, hended, _, _, rfl, ?_, ⟨_, rfl⟩, hW, hsame.mono (by decide) (by decide)⟩
      · exact retI X0 hx Bd.returns (hb hby d22_37) hrt
      · show Q22 _ _ _ _ _ _ _ _ _ _ _ _ s₁.heap _
        rw [e0]
        exact ⟨rfl, N0, rfl⟩
    · have fl127 : ∀ target, Steps p.tables e below (s₁.setTop (mkF m 38 #[.val (.int p1), .val (.int p2), .val (.int p3), .val (.int p4), .val (.int p5), .val (.int p6), .val (.int p7)] [])) target → Steps p.tables e below (s₁.setTop (mkF m 18 #[.val (.int p1), .val (.int p2), .val (.int p3), .val (.int p4), .val (.int p5), .val (.int p6), .val (.int p7)] [])) target := by
        intro target kt
        rcases own_fail c1 with h | ⟨h, h2⟩ | ⟨h, h2, h3⟩
        · skip
          show Steps p.tables e below (s₁.setTop (mkF m 18 #[.val (.int p1), .val (.int p2), .val (.int p3), .val (.int p4), .val (.int p5), .val (.int p6), .val (.int p7)] [])) _
          refine XS.iload X0.here hx rfl (hb hby d22_18) rfl ?_
          show Steps p.tables e below (s₁.setTop (mkF m 20 #[.val (.int p1), .val (.int p2), .val (.int p3), .val (.int p4), .val (.int p5), .val (.int p6), .val (.int p7)] [(.int p7)])) _
          refine XS.iconst X0.here hx rfl (hb hby d22_20) ?_
          show Steps p.tables e below (s₁.setTop (mkF m 21 #[.val (.int p1), .val (.int p2), .val (.int p3), .val (.int p4), .val (.int p5), .val (.int p6), .val (.int p7)] [(.int (1 : Int32)), (.int p7)])) _
          refine XS.icmpYes X0.here hx rfl (pc0 := 21) (pc' := 38) rfl (hb hby d22_21) rfl (tlt (h : (1 : Int32) < p7)).2.2.1 (by decide) (by decide) ?_
          exact kt
        · skip
          show Steps p.tables e below (s₁.setTop (mkF m 18 #[.val (.int p1), .val (.int p2), .val (.int p3), .val (.int p4), .val (.int p5), .val (.int p6), .val (.int p7)] [])) _
          refine XS.iload X0.here hx rfl (hb hby d22_18) rfl ?_
          show Steps p.tables e below (s₁.setTop (mkF m 20 #[.val (.int p1), .val (.int p2), .val (.int p3), .val (.int p4), .val (.int p5), .val (.int p6), .val (.int p7)] [(.int p7)])) _
          refine XS.iconst X0.here hx rfl (hb hby d22_20) ?_
          show Steps p.tables e below (s₁.setTop (mkF m 21 #[.val (.int p1), .val (.int p2), .val (.int p3), .val (.int p4), .val (.int p5), .val (.int p6), .val (.int p7)] [(.int (1 : Int32)), (.int p7)])) _
          refine XS.icmpNo X0.here hx rfl (hb hby d22_21) rfl (flt (h : ¬ ((1 : Int32) < p7))).2.2.1 ?_
          show Steps p.tables e below (s₁.setTop (mkF m 24 #[.val (.int p1), .val (.int p2), .val (.int p3), .val (.int p4), .val (.int p5), .val (.int p6), .val (.int p7)] [])) _
          refine XS.iload X0.here hx rfl (hb hby d22_24) rfl ?_
          show Steps p.tables e below (s₁.setTop (mkF m 26 #[.val (.int p1), .val (.int p2), .val (.int p3), .val (.int p4), .val (.int p5), .val (.int p6), .val (.int p7)] [(.int p5)])) _
          refine XS.iconst X0.here hx rfl (hb hby d22_26) ?_
          show Steps p.tables e below (s₁.setTop (mkF m 27 #[.val (.int p1), .val (.int p2), .val (.int p3), .val (.int p4), .val (.int p5), .val (.int p6), .val (.int p7)] [(.int (1 : Int32)), (.int p5)])) _
          refine XS.icmpYes X0.here hx rfl (pc0 := 27) (pc' := 38) rfl (hb hby d22_27) rfl (flt (h2 : ¬ ((1 : Int32) < p5))).2.2.2 (by decide) (by decide) ?_
          exact kt
        · skip
          show Steps p.tables e below (s₁.setTop (mkF m 18 #[.val (.int p1), .val (.int p2), .val (.int p3), .val (.int p4), .val (.int p5), .val (.int p6), .val (.int p7)] [])) _
          refine XS.iload X0.here hx rfl (hb hby d22_18) rfl ?_
          show Steps p.tables e below (s₁.setTop (mkF m 20 #[.val (.int p1), .val (.int p2), .val (.int p3), .val (.int p4), .val (.int p5), .val (.int p6), .val (.int p7)] [(.int p7)])) _
          refine XS.iconst X0.here hx rfl (hb hby d22_20) ?_
          show Steps p.tables e below (s₁.setTop (mkF m 21 #[.val (.int p1), .val (.int p2), .val (.int p3), .val (.int p4), .val (.int p5), .val (.int p6), .val (.int p7)] [(.int (1 : Int32)), (.int p7)])) _
          refine XS.icmpNo X0.here hx rfl (hb hby d22_21) rfl (flt (h : ¬ ((1 : Int32) < p7))).2.2.1 ?_
          show Steps p.tables e below (s₁.setTop (mkF m 24 #[.val (.int p1), .val (.int p2), .val (.int p3), .val (.int p4), .val (.int p5), .val (.int p6), .val (.int p7)] [])) _
          refine XS.iload X0.here hx rfl (hb hby d22_24) rfl ?_
          show Steps p.tables e below (s₁.setTop (mkF m 26 #[.val (.int p1), .val (.int p2), .val (.int p3), .val (.int p4), .val (.int p5), .val (.int p6), .val (.int p7)] [(.int p5)])) _
          refine XS.iconst X0.here hx rfl (hb hby d22_26) ?_
          show Steps p.tables e below (s₁.setTop (mkF m 27 #[.val (.int p1), .val (.int p2), .val (.int p3), .val (.int p4), .val (.int p5), .val (.int p6), .val (.int p7)] [(.int (1 : Int32)), (.int p5)])) _
          refine XS.icmpNo X0.here hx rfl (hb hby d22_27) rfl (tlt (h2 : (1 : Int32) < p5)).2.2.2 ?_
          show Steps p.tables e below (s₁.setTop (mkF m 30 #[.val (.int p1), .val (.int p2), .val (.int p3), .val (.int p4), .val (.int p5), .val (.int p6), .val (.int p7)] [])) _
          refine XS.iloadN X0.here hx rfl (hb hby d22_30) rfl ?_
          show Steps p.tables e below (s₁.setTop (mkF m 31 #[.val (.int p1), .val (.int p2), .val (.int p3), .val (.int p4), .val (.int p5), .val (.int p6), .val (.int p7)] [(.int p2)])) _
          refine XS.iload X0.here hx rfl (hb hby d22_31) rfl ?_
          show Steps p.tables e below (s₁.setTop (mkF m 33 #[.val (.int p1), .val (.int p2), .val (.int p3), .val (.int p4), .val (.int p5), .val (.int p6), .val (.int p7)] [(.int p6), (.int p2)])) _
          refine XS.icmpYes X0.here hx rfl (pc0 := 33) (pc' := 38) rfl (hb hby d22_33) rfl (feq (h3 : ¬ (p2 = p6))).2 (by decide) (by decide) ?_
          exact kt
      by_cases c2 : ¬ (2 : Int32) < p7 ∧ (2 : Int32) < p5 ∧ p3 = p6
      · obtain rfl : r = 2 := by rw [hr]; unfold own_ref; rw [if_neg c0, if_neg c1, if_pos c2]
        have fl128 : ∀ target, Steps p.tables e below (s₁.setTop (mkF m 57 #[.val (.int p1), .val (.int p2), .val (.int p3), .val (.int p4), .val (.int p5), .val (.int p6), .val (.int p7)] [(.int (2 : Int32))])) target → Steps p.tables e below (s₁.setTop (mkF m 38 #[.val (.int p1), .val (.int p2), .val (.int p3), .val (.int p4), .val (.int p5), .val (.int p6), .val (.int p7)] [])) target := fun target kt => by
          show Steps p.tables e below (s₁.setTop (mkF m 38 #[.val (.int p1), .val (.int p2), .val (.int p3), .val (.int p4), .val (.int p5), .val (.int p6), .val (.int p7)] [])) _
          refine XS.iload X0.here hx rfl (hb hby d22_38) rfl ?_
          show Steps p.tables e below (s₁.setTop (mkF m 40 #[.val (.int p1), .val (.int p2), .val (.int p3), .val (.int p4), .val (.int p5), .val (.int p6), .val (.int p7)] [(.int p7)])) _
          refine XS.iconst X0.here hx rfl (hb hby d22_40) ?_
          show Steps p.tables e below (s₁.setTop (mkF m 41 #[.val (.int p1), .val (.int p2), .val (.int p3), .val (.int p4), .val (.int p5), .val (.int p6), .val (.int p7)] [(.int (2 : Int32)), (.int p7)])) _
          refine XS.icmpNo X0.here hx rfl (hb hby d22_41) rfl (flt (c2.1 : ¬ ((2 : Int32) < p7))).2.2.1 ?_
          show Steps p.tables e below (s₁.setTop (mkF m 44 #[.val (.int p1), .val (.int p2), .val (.int p3), .val (.int p4), .val (.int p5), .val (.int p6), .val (.int p7)] [])) _
          refine XS.iload X0.here hx rfl (hb hby d22_44) rfl ?_
          show Steps p.tables e below (s₁.setTop (mkF m 46 #[.val (.int p1), .val (.int p2), .val (.int p3), .val (.int p4), .val (.int p5), .val (.int p6), .val (.int p7)] [(.int p5)])) _
          refine XS.iconst X0.here hx rfl (hb hby d22_46) ?_
          show Steps p.tables e below (s₁.setTop (mkF m 47 #[.val (.int p1), .val (.int p2), .val (.int p3), .val (.int p4), .val (.int p5), .val (.int p6), .val (.int p7)] [(.int (2 : Int32)), (.int p5)])) _
          refine XS.icmpNo X0.here hx rfl (hb hby d22_47) rfl (tlt (c2.2.1 : (2 : Int32) < p5)).2.2.2 ?_
          show Steps p.tables e below (s₁.setTop (mkF m 50 #[.val (.int p1), .val (.int p2), .val (.int p3), .val (.int p4), .val (.int p5), .val (.int p6), .val (.int p7)] [])) _
          refine XS.iloadN X0.here hx rfl (hb hby d22_50) rfl ?_
          show Steps p.tables e below (s₁.setTop (mkF m 51 #[.val (.int p1), .val (.int p2), .val (.int p3), .val (.int p4), .val (.int p5), .val (.int p6), .val (.int p7)] [(.int p3)])) _
          refine XS.iload X0.here hx rfl (hb hby d22_51) rfl ?_
          show Steps p.tables e below (s₁.setTop (mkF m 53 #[.val (.int p1), .val (.int p2), .val (.int p3), .val (.int p4), .val (.int p5), .val (.int p6), .val (.int p7)] [(.int p6), (.int p3)])) _
          refine XS.icmpNo X0.here hx rfl (hb hby d22_53) rfl (teq (c2.2.2 : p3 = p6)).2 ?_
          show Steps p.tables e below (s₁.setTop (mkF m 56 #[.val (.int p1), .val (.int p2), .val (.int p3), .val (.int p4), .val (.int p5), .val (.int p6), .val (.int p7)] [])) _
          refine XS.iconst X0.here hx rfl (hb hby d22_56) ?_
          exact kt
        obtain ⟨fs, hrt, hrun, hended, hW, hsame⟩ := X0.leave (v := some (.int (2 : Int32))) (fun h => by rw [Bd.returns] at h; cases h)
        refine ⟨_, _, pre0 _ (fl125 _ (fl127 _ (fl128 _ ?_))), hrun, hended, _, _, rfl, ?_, ⟨_, rfl⟩, hW, hsame.mono (by decide) (by decide)⟩
        · exact retI X0 hx Bd.returns (hb hby d22_57) hrt
        · show Q22 _ _ _ _ _ _ _ _ _ _ _ _ s₁.heap _
          rw [e0]
          exact ⟨rfl, N0, rfl⟩
      · have fl129 : ∀ target, Steps p.tables e below (s₁.setTop (mkF m 58 #[.val (.int p1), .val (.int p2), .val (.int p3), .val (.int p4), .val (.int p5), .val (.int p6), .val (.int p7)] [])) target → Steps p.tables e below (s₁.setTop (mkF m 38 #[.val (.int p1), .val (.int p2), .val (.int p3), .val (.int p4), .val (.int p5), .val (.int p6), .val (.int p7)] [])) target := by
          intro target kt
          rcases own_fail c2 with h | ⟨h, h2⟩ | ⟨h, h2, h3⟩
          · skip
            show Steps p.tables e below (s₁.setTop (mkF m 38 #[.val (.int p1), .val (.int p2), .val (.int p3), .val (.int p4), .val (.int p5), .val (.int p6), .val (.int p7)] [])) _
            refine XS.iload X0.here hx rfl (hb hby d22_38) rfl ?_
            show Steps p.tables e below (s₁.setTop (mkF m 40 #[.val (.int p1), .val (.int p2), .val (.int p3), .val (.int p4), .val (.int p5), .val (.int p6), .val (.int p7)] [(.int p7)])) _
            refine XS.iconst X0.here hx rfl (hb hby d22_40) ?_
            show Steps p.tables e below (s₁.setTop (mkF m 41 #[.val (.int p1), .val (.int p2), .val (.int p3), .val (.int p4), .val (.int p5), .val (.int p6), .val (.int p7)] [(.int (2 : Int32)), (.int p7)])) _
            refine XS.icmpYes X0.here hx rfl (pc0 := 41) (pc' := 58) rfl (hb hby d22_41) rfl (tlt (h : (2 : Int32) < p7)).2.2.1 (by decide) (by decide) ?_
            exact kt
          · skip
            show Steps p.tables e below (s₁.setTop (mkF m 38 #[.val (.int p1), .val (.int p2), .val (.int p3), .val (.int p4), .val (.int p5), .val (.int p6), .val (.int p7)] [])) _
            refine XS.iload X0.here hx rfl (hb hby d22_38) rfl ?_
            show Steps p.tables e below (s₁.setTop (mkF m 40 #[.val (.int p1), .val (.int p2), .val (.int p3), .val (.int p4), .val (.int p5), .val (.int p6), .val (.int p7)] [(.int p7)])) _
            refine XS.iconst X0.here hx rfl (hb hby d22_40) ?_
            show Steps p.tables e below (s₁.setTop (mkF m 41 #[.val (.int p1), .val (.int p2), .val (.int p3), .val (.int p4), .val (.int p5), .val (.int p6), .val (.int p7)] [(.int (2 : Int32)), (.int p7)])) _
            refine XS.icmpNo X0.here hx rfl (hb hby d22_41) rfl (flt (h : ¬ ((2 : Int32) < p7))).2.2.1 ?_
            show Steps p.tables e below (s₁.setTop (mkF m 44 #[.val (.int p1), .val (.int p2), .val (.int p3), .val (.int p4), .val (.int p5), .val (.int p6), .val (.int p7)] [])) _
            refine XS.iload X0.here hx rfl (hb hby d22_44) rfl ?_
            show Steps p.tables e below (s₁.setTop (mkF m 46 #[.val (.int p1), .val (.int p2), .val (.int p3), .val (.int p4), .val (.int p5), .val (.int p6), .val (.int p7)] [(.int p5)])) _
            refine XS.iconst X0.here hx rfl (hb hby d22_46) ?_
            show Steps p.tables e below (s₁.setTop (mkF m 47 #[.val (.int p1), .val (.int p2), .val (.int p3), .val (.int p4), .val (.int p5), .val (.int p6), .val (.int p7)] [(.int (2 : Int32)), (.int p5)])) _
            refine XS.icmpYes X0.here hx rfl (pc0 := 47) (pc' := 58) rfl (hb hby d22_47) rfl (flt (h2 : ¬ ((2 : Int32) < p5))).2.2.2 (by decide) (by decide) ?_
            exact kt
          · skip
            show Steps p.tables e below (s₁.setTop (mkF m 38 #[.val (.int p1), .val (.int p2), .val (.int p3), .val (.int p4), .val (.int p5), .val (.int p6), .val (.int p7)] [])) _
            refine XS.iload X0.here hx rfl (hb hby d22_38) rfl ?_
            show Steps p.tables e below (s₁.setTop (mkF m 40 #[.val (.int p1), .val (.int p2), .val (.int p3), .val (.int p4), .val (.int p5), .val (.int p6), .val (.int p7)] [(.int p7)])) _
            refine XS.iconst X0.here hx rfl (hb hby d22_40) ?_
            show Steps p.tables e below (s₁.setTop (mkF m 41 #[.val (.int p1), .val (.int p2), .val (.int p3), .val (.int p4), .val (.int p5), .val (.int p6), .val (.int p7)] [(.int (2 : Int32)), (.int p7)])) _
            refine XS.icmpNo X0.here hx rfl (hb hby d22_41) rfl (flt (h : ¬ ((2 : Int32) < p7))).2.2.1 ?_
            show Steps p.tables e below (s₁.setTop (mkF m 44 #[.val (.int p1), .val (.int p2), .val (.int p3), .val (.int p4), .val (.int p5), .val (.int p6), .val (.int p7)] [])) _
            refine XS.iload X0.here hx rfl (hb hby d22_44) rfl ?_
            show Steps p.tables e below (s₁.setTop (mkF m 46 #[.val (.int p1), .val (.int p2), .val (.int p3), .val (.int p4), .val (.int p5), .val (.int p6), .val (.int p7)] [(.int p5)])) _
            refine XS.iconst X0.here hx rfl (hb hby d22_46) ?_
            show Steps p.tables e below (s₁.setTop (mkF m 47 #[.val (.int p1), .val (.int p2), .val (.int p3), .val (.int p4), .val (.int p5), .val (.int p6), .val (.int p7)] [(.int (2 : Int32)), (.int p5)])) _
            refine XS.icmpNo X0.here hx rfl (hb hby d22_47) rfl (tlt (h2 : (2 : Int32) < p5)).2.2.2 ?_
            show Steps p.tables e below (s₁.setTop (mkF m 50 #[.val (.int p1), .val (.int p2), .val (.int p3), .val (.int p4), .val (.int p5), .val (.int p6), .val (.int p7)] [])) _
            refine XS.iloadN X0.here hx rfl (hb hby d22_50) rfl ?_
            show Steps p.tables e below (s₁.setTop (mkF m 51 #[.val (.int p1), .val (.int p2), .val (.int p3), .val (.int p4), .val (.int p5), .val (.int p6), .val (.int p7)] [(.int p3)])) _
            refine XS.iload X0.here hx rfl (hb hby d22_51) rfl ?_
            show Steps p.tables e below (s₁.setTop (mkF m 53 #[.val (.int p1), .val (.int p2), .val (.int p3), .val (.int p4), .val (.int p5), .val (.int p6), .val (.int p7)] [(.int p6), (.int p3)])) _
            refine XS.icmpYes X0.here hx rfl (pc0 := 53) (pc' := 58) rfl (hb hby d22_53) rfl (feq (h3 : ¬ (p3 = p6))).2 (by decide) (by decide) ?_
            exact kt
        by_cases c3 : ¬ (3 : Int32) < p7 ∧ (3 : Int32) < p5 ∧ p4 = p6
        · obtain rfl : r = 3 := by rw [hr]; unfold own_ref; rw [if_neg c0, if_neg c1, if_neg c2, if_pos c3]
          have fl130 : ∀ target, Steps p.tables e below (s₁.setTop (mkF m 77 #[.val (.int p1), .val (.int p2), .val (.int p3), .val (.int p4), .val (.int p5), .val (.int p6), .val (.int p7)] [(.int (3 : Int32))])) target → Steps p.tables e below (s₁.setTop (mkF m 58 #[.val (.int p1), .val (.int p2), .val (.int p3), .val (.int p4), .val (.int p5), .val (.int p6), .val (.int p7)] [])) target := fun target kt => by
            show Steps p.tables e below (s₁.setTop (mkF m 58 #[.val (.int p1), .val (.int p2), .val (.int p3), .val (.int p4), .val (.int p5), .val (.int p6), .val (.int p7)] [])) _
            refine XS.iload X0.here hx rfl (hb hby d22_58) rfl ?_
            show Steps p.tables e below (s₁.setTop (mkF m 60 #[.val (.int p1), .val (.int p2), .val (.int p3), .val (.int p4), .val (.int p5), .val (.int p6), .val (.int p7)] [(.int p7)])) _
            refine XS.iconst X0.here hx rfl (hb hby d22_60) ?_
            show Steps p.tables e below (s₁.setTop (mkF m 61 #[.val (.int p1), .val (.int p2), .val (.int p3), .val (.int p4), .val (.int p5), .val (.int p6), .val (.int p7)] [(.int (3 : Int32)), (.int p7)])) _
            refine XS.icmpNo X0.here hx rfl (hb hby d22_61) rfl (flt (c3.1 : ¬ ((3 : Int32) < p7))).2.2.1 ?_
            show Steps p.tables e below (s₁.setTop (mkF m 64 #[.val (.int p1), .val (.int p2), .val (.int p3), .val (.int p4), .val (.int p5), .val (.int p6), .val (.int p7)] [])) _
            refine XS.iload X0.here hx rfl (hb hby d22_64) rfl ?_
            show Steps p.tables e below (s₁.setTop (mkF m 66 #[.val (.int p1), .val (.int p2), .val (.int p3), .val (.int p4), .val (.int p5), .val (.int p6), .val (.int p7)] [(.int p5)])) _
            refine XS.iconst X0.here hx rfl (hb hby d22_66) ?_
            show Steps p.tables e below (s₁.setTop (mkF m 67 #[.val (.int p1), .val (.int p2), .val (.int p3), .val (.int p4), .val (.int p5), .val (.int p6), .val (.int p7)] [(.int (3 : Int32)), (.int p5)])) _
            refine XS.icmpNo X0.here hx rfl (hb hby d22_67) rfl (tlt (c3.2.1 : (3 : Int32) < p5)).2.2.2 ?_
            show Steps p.tables e below (s₁.setTop (mkF m 70 #[.val (.int p1), .val (.int p2), .val (.int p3), .val (.int p4), .val (.int p5), .val (.int p6), .val (.int p7)] [])) _
            refine XS.iloadN X0.here hx rfl (hb hby d22_70) rfl ?_
            show Steps p.tables e below (s₁.setTop (mkF m 71 #[.val (.int p1), .val (.int p2), .val (.int p3), .val (.int p4), .val (.int p5), .val (.int p6), .val (.int p7)] [(.int p4)])) _
            refine XS.iload X0.here hx rfl (hb hby d22_71) rfl ?_
            show Steps p.tables e below (s₁.setTop (mkF m 73 #[.val (.int p1), .val (.int p2), .val (.int p3), .val (.int p4), .val (.int p5), .val (.int p6), .val (.int p7)] [(.int p6), (.int p4)])) _
            refine XS.icmpNo X0.here hx rfl (hb hby d22_73) rfl (teq (c3.2.2 : p4 = p6)).2 ?_
            show Steps p.tables e below (s₁.setTop (mkF m 76 #[.val (.int p1), .val (.int p2), .val (.int p3), .val (.int p4), .val (.int p5), .val (.int p6), .val (.int p7)] [])) _
            refine XS.iconst X0.here hx rfl (hb hby d22_76) ?_
            exact kt
          obtain ⟨fs, hrt, hrun, hended, hW, hsame⟩ := X0.leave (v := some (.int (3 : Int32))) (fun h => by rw [Bd.returns] at h; cases h)
          refine ⟨_, _, pre0 _ (fl125 _ (fl127 _ (fl129 _ (fl130 _ ?_)))), hrun, hended, _, _, rfl, ?_, ⟨_, rfl⟩, hW, hsame.mono (by decide) (by decide)⟩
          · exact retI X0 hx Bd.returns (hb hby d22_77) hrt
          · show Q22 _ _ _ _ _ _ _ _ _ _ _ _ s₁.heap _
            rw [e0]
            exact ⟨rfl, N0, rfl⟩
        · have fl131 : ∀ target, Steps p.tables e below (s₁.setTop (mkF m 78 #[.val (.int p1), .val (.int p2), .val (.int p3), .val (.int p4), .val (.int p5), .val (.int p6), .val (.int p7)] [])) target → Steps p.tables e below (s₁.setTop (mkF m 58 #[.val (.int p1), .val (.int p2), .val (.int p3), .val (.int p4), .val (.int p5), .val (.int p6), .val (.int p7)] [])) target := by
            intro target kt
            rcases own_fail c3 with h | ⟨h, h2⟩ | ⟨h, h2, h3⟩
            · skip
              show Steps p.tables e below (s₁.setTop (mkF m 58 #[.val (.int p1), .val (.int p2), .val (.int p3), .val (.int p4), .val (.int p5), .val (.int p6), .val (.int p7)] [])) _
              refine XS.iload X0.here hx rfl (hb hby d22_58) rfl ?_
              show Steps p.tables e below (s₁.setTop (mkF m 60 #[.val (.int p1), .val (.int p2), .val (.int p3), .val (.int p4), .val (.int p5), .val (.int p6), .val (.int p7)] [(.int p7)])) _
              refine XS.iconst X0.here hx rfl (hb hby d22_60) ?_
              show Steps p.tables e below (s₁.setTop (mkF m 61 #[.val (.int p1), .val (.int p2), .val (.int p3), .val (.int p4), .val (.int p5), .val (.int p6), .val (.int p7)] [(.int (3 : Int32)), (.int p7)])) _
              refine XS.icmpYes X0.here hx rfl (pc0 := 61) (pc' := 78) rfl (hb hby d22_61) rfl (tlt (h : (3 : Int32) < p7)).2.2.1 (by decide) (by decide) ?_
              exact kt
            · skip
              show Steps p.tables e below (s₁.setTop (mkF m 58 #[.val (.int p1), .val (.int p2), .val (.int p3), .val (.int p4), .val (.int p5), .val (.int p6), .val (.int p7)] [])) _
              refine XS.iload X0.here hx rfl (hb hby d22_58) rfl ?_
              show Steps p.tables e below (s₁.setTop (mkF m 60 #[.val (.int p1), .val (.int p2), .val (.int p3), .val (.int p4), .val (.int p5), .val (.int p6), .val (.int p7)] [(.int p7)])) _
              refine XS.iconst X0.here hx rfl (hb hby d22_60) ?_
              show Steps p.tables e below (s₁.setTop (mkF m 61 #[.val (.int p1), .val (.int p2), .val (.int p3), .val (.int p4), .val (.int p5), .val (.int p6), .val (.int p7)] [(.int (3 : Int32)), (.int p7)])) _
              refine XS.icmpNo X0.here hx rfl (hb hby d22_61) rfl (flt (h : ¬ ((3 : Int32) < p7))).2.2.1 ?_
              show Steps p.tables e below (s₁.setTop (mkF m 64 #[.val (.int p1), .val (.int p2), .val (.int p3), .val (.int p4), .val (.int p5), .val (.int p6), .val (.int p7)] [])) _
              refine XS.iload X0.here hx rfl (hb hby d22_64) rfl ?_
              show Steps p.tables e below (s₁.setTop (mkF m 66 #[.val (.int p1), .val (.int p2), .val (.int p3), .val (.int p4), .val (.int p5), .val (.int p6), .val (.int p7)] [(.int p5)])) _
              refine XS.iconst X0.here hx rfl (hb hby d22_66) ?_
              show Steps p.tables e below (s₁.setTop (mkF m 67 #[.val (.int p1), .val (.int p2), .val (.int p3), .val (.int p4), .val (.int p5), .val (.int p6), .val (.int p7)] [(.int (3 : Int32)), (.int p5)])) _
              refine XS.icmpYes X0.here hx rfl (pc0 := 67) (pc' := 78) rfl (hb hby d22_67) rfl (flt (h2 : ¬ ((3 : Int32) < p5))).2.2.2 (by decide) (by decide) ?_
              exact kt
            · skip
              show Steps p.tables e below (s₁.setTop (mkF m 58 #[.val (.int p1), .val (.int p2), .val (.int p3), .val (.int p4), .val (.int p5), .val (.int p6), .val (.int p7)] [])) _
              refine XS.iload X0.here hx rfl (hb hby d22_58) rfl ?_
              show Steps p.tables e below (s₁.setTop (mkF m 60 #[.val (.int p1), .val (.int p2), .val (.int p3), .val (.int p4), .val (.int p5), .val (.int p6), .val (.int p7)] [(.int p7)])) _
              refine XS.iconst X0.here hx rfl (hb hby d22_60) ?_
              show Steps p.tables e below (s₁.setTop (mkF m 61 #[.val (.int p1), .val (.int p2), .val (.int p3), .val (.int p4), .val (.int p5), .val (.int p6), .val (.int p7)] [(.int (3 : Int32)), (.int p7)])) _
              refine XS.icmpNo X0.here hx rfl (hb hby d22_61) rfl (flt (h : ¬ ((3 : Int32) < p7))).2.2.1 ?_
              show Steps p.tables e below (s₁.setTop (mkF m 64 #[.val (.int p1), .val (.int p2), .val (.int p3), .val (.int p4), .val (.int p5), .val (.int p6), .val (.int p7)] [])) _
              refine XS.iload X0.here hx rfl (hb hby d22_64) rfl ?_
              show Steps p.tables e below (s₁.setTop (mkF m 66 #[.val (.int p1), .val (.int p2), .val (.int p3), .val (.int p4), .val (.int p5), .val (.int p6), .val (.int p7)] [(.int p5)])) _
              refine XS.iconst X0.here hx rfl (hb hby d22_66) ?_
              show Steps p.tables e below (s₁.setTop (mkF m 67 #[.val (.int p1), .val (.int p2), .val (.int p3), .val (.int p4), .val (.int p5), .val (.int p6), .val (.int p7)] [(.int (3 : Int32)), (.int p5)])) _
              refine XS.icmpNo X0.here hx rfl (hb hby d22_67) rfl (tlt (h2 : (3 : Int32) < p5)).2.2.2 ?_
              show Steps p.tables e below (s₁.setTop (mkF m 70 #[.val (.int p1), .val (.int p2), .val (.int p3), .val (.int p4), .val (.int p5), .val (.int p6), .val (.int p7)] [])) _
              refine XS.iloadN X0.here hx rfl (hb hby d22_70) rfl ?_
              show Steps p.tables e below (s₁.setTop (mkF m 71 #[.val (.int p1), .val (.int p2), .val (.int p3), .val (.int p4), .val (.int p5), .val (.int p6), .val (.int p7)] [(.int p4)])) _
              refine XS.iload X0.here hx rfl (hb hby d22_71) rfl ?_
              show Steps p.tables e below (s₁.setTop (mkF m 73 #[.val (.int p1), .val (.int p2), .val (.int p3), .val (.int p4), .val (.int p5), .val (.int p6), .val (.int p7)] [(.int p6), (.int p4)])) _
              refine XS.icmpYes X0.here hx rfl (pc0 := 73) (pc' := 78) rfl (hb hby d22_73) rfl (feq (h3 : ¬ (p4 = p6))).2 (by decide) (by decide) ?_
              exact kt
          obtain rfl : r = -1 := by rw [hr]; unfold own_ref; rw [if_neg c0, if_neg c1, if_neg c2, if_neg c3]
          have fl132 : ∀ target, Steps p.tables e below (s₁.setTop (mkF m 79 #[.val (.int p1), .val (.int p2), .val (.int p3), .val (.int p4), .val (.int p5), .val (.int p6), .val (.int p7)] [(.int (-1 : Int32))])) target → Steps p.tables e below (s₁.setTop (mkF m 78 #[.val (.int p1), .val (.int p2), .val (.int p3), .val (.int p4), .val (.int p5), .val (.int p6), .val (.int p7)] [])) target := fun target kt => by
            show Steps p.tables e below (s₁.setTop (mkF m 78 #[.val (.int p1), .val (.int p2), .val (.int p3), .val (.int p4), .val (.int p5), .val (.int p6), .val (.int p7)] [])) _
            refine XS.iconst X0.here hx rfl (hb hby d22_78) ?_
            exact kt
          obtain ⟨fs, hrt, hrun, hended, hW, hsame⟩ := X0.leave (v := some (.int (-1 : Int32))) (fun h => by rw [Bd.returns] at h; cases h)
          refine ⟨_, _, pre0 _ (fl125 _ (fl127 _ (fl129 _ (fl131 _ (fl132 _ ?_))))), hrun, hended, _, _, rfl, ?_, ⟨_, rfl⟩, hW, hsame.mono (by decide) (by decide)⟩
          · exact retI X0 hx Bd.returns (hb hby d22_79) hrt
          · show Q22 _ _ _ _ _ _ _ _ _ _ _ _ s₁.heap _
            rw [e0]
            exact ⟨rfl, N0, rfl⟩
theorem ef_0 (m : MethodId) (x0 : Int32) (x1 : Int32) (x2 : Int32) (x3 : Int32) : entryFrame m #[(.int x0), (.int x1), (.int x2), (.int x3)] maxLocals = mkF m 0 #[.val (.int x0), .val (.int x1), .val (.int x2), .val (.int x3), .unset, .unset, .unset, .unset, .unset, .unset, .unset, .unset] [] := by first | (simp [entryFrame, mkF, argsToLocals, Value.category, maxLocals]; done) | rfl
def Q0 (Z : State) (p1 : Int32) (p2 : Int32) (p3 : Int32) (p4 : Int32) (d0 : Addr) (kD : ClassId) (h0 : Heap) (n0 : Nat) (v : Option Value) (h : Heap) (L : List Loc) : Prop := v = some (.int (1 : Int32)) ∧ Fr n0 L
set_option maxRecDepth 65536 in
set_option maxHeartbeats 40000000 in
theorem rm0 (l : Launch) (Z : State) (a0 : Array Value) (hw : ∀ d ∈ tables_1, d.before a0 Z = true) (ws : List Jvm.Cond) (p1 : Int32) (p2 : Int32) (p3 : Int32) (p4 : Int32) (d0 : Addr) (kD : ClassId) (h0 : Heap) (n0 : Nat) (Z0 : n0 ≤ h0.size) (Dz : own_D Z d0 kD) (Ol : Old Z n0 h0) :
    MetFree l x (head1 (Jvm.Cond.code x code maxLocals ret :: ws) room_1) (fun a U => a = #[(.int p1), (.int p2), (.int p3), (.int p4)] ∧ Z.Warmed39 U.vm ∧ U.heap = h0) (fun _ _ _ _ _ => True) (fun _ U o U' => ∃ v L, o = .returned v ∧ Q0 Z p1 p2 p3 p4 d0 kD h0 n0 v U'.heap L ∧ FrameEnd U o U' L room_1.cells room_1.slots) := by
  refine MetFree.of_bodySF (plainFor_of_name pn_7) hisR ?_
  intro p e s m args below meth c s₁ Bd hml0 hP hK
  obtain ⟨rfl, hZ, hh⟩ := hP
  have hx := Bd.exec
  have hby := Bd.bytes
  have hml : c.maxLocals = 12 := hml0
  have hown : s.vm.findClass "com/example/darter/darter/ResultBufferIndexOfPinLaw" = some m.cls := findClass_of_methodNamed Bd.named
  have hnm := (name_of_methodNamed Bd.named Bd.method).1
  have X0 : Stand p l e room_1 s m #[(.int p1), (.int p2), (.int p3), (.int p4)] below meth c s₁ [] 0 0 := Stand.of_body Bd
  have e0 : s₁.heap = h0 := by rw [← hh, Bd.state]; rfl
  have N0 := Fr.nil n0
  have pre0 : ∀ t, Steps p.tables e below (s₁.setTop (mkF m 0 #[.val (.int p1), .val (.int p2), .val (.int p3), .val (.int p4), .unset, .unset, .unset, .unset, .unset, .unset, .unset, .unset] [])) t → Steps p.tables e below (s₁.setTop (entryFrame m #[(.int p1), (.int p2), (.int p3), (.int p4)] maxLocals)) t := fun t k => castTop (ef_0 m p1 p2 p3 p4) k
  have fl133 : ∀ target, Steps p.tables e below (s₁.setTop (mkF m 6 #[.val (.int p1), .val (.int p2), .val (.int p3), .val (.int p4), .unset, .unset, .unset, .unset, .unset, .unset, .unset, .unset] [(.int ((p2 &&& (7 : Int32)) % (5 : Int32)))])) target → Steps p.tables e below (s₁.setTop (mkF m 0 #[.val (.int p1), .val (.int p2), .val (.int p3), .val (.int p4), .unset, .unset, .unset, .unset, .unset, .unset, .unset, .unset] [])) target := fun target kt => by
    show Steps p.tables e below (s₁.setTop (mkF m 0 #[.val (.int p1), .val (.int p2), .val (.int p3), .val (.int p4), .unset, .unset, .unset, .unset, .unset, .unset, .unset, .unset] [])) _
    refine XS.iloadN X0.here hx rfl (hb hby at_0) rfl ?_
    show Steps p.tables e below (s₁.setTop (mkF m 1 #[.val (.int p1), .val (.int p2), .val (.int p3), .val (.int p4), .unset, .unset, .unset, .unset, .unset, .unset, .unset, .unset] [(.int p2)])) _
    refine XS.bipush X0.here hx rfl (hb hby at_1) ?_
    show Steps p.tables e below (s₁.setTop (mkF m 3 #[.val (.int p1), .val (.int p2), .val (.int p3), .val (.int p4), .unset, .unset, .unset, .unset, .unset, .unset, .unset, .unset] [(.int (7 : Int32)), (.int p2)])) _
    refine XS.iand X0.here hx rfl (hb hby at_3) rfl ?_
    show Steps p.tables e below (s₁.setTop (mkF m 4 #[.val (.int p1), .val (.int p2), .val (.int p3), .val (.int p4), .unset, .unset, .unset, .unset, .unset, .unset, .unset, .unset] [(.int (p2 &&& (7 : Int32)))])) _
    refine XS.iconst X0.here hx rfl (hb hby at_4) ?_
    show Steps p.tables e below (s₁.setTop (mkF m 5 #[.val (.int p1), .val (.int p2), .val (.int p3), .val (.int p4), .unset, .unset, .unset, .unset, .unset, .unset, .unset, .unset] [(.int (5 : Int32)), (.int (p2 &&& (7 : Int32)))])) _
    refine iremM X0 hx rfl (hb hby at_5) rfl (by decide) ?_
    exact kt
  obtain ⟨n, hn⟩ : ∃ z : Int32, ((p2 &&& (7 : Int32)) % (5 : Int32)) = z := ⟨_, rfl⟩
  have bn := own_n p2
  rw [hn] at bn fl133
  have fl134 : ∀ target, Steps p.tables e below (s₁.setTop (mkF m 37 #[.val (.int p1), .val (.int p2), .val (.int p3), .val (.int p4), .val (.int n), .val (.int (p1.toInt8.toInt32)), .val (.int ((p1 >>> ((8 : Int32) &&& 31)).toInt8.toInt32)), .val (.int ((p1 >>> ((16 : Int32) &&& 31)).toInt8.toInt32)), .val (.int ((p1 >>> ((24 : Int32) &&& 31)).toInt8.toInt32)), .val (.int (p3.toInt8.toInt32)), .unset, .unset] [])) target → Steps p.tables e below (s₁.setTop (mkF m 6 #[.val (.int p1), .val (.int p2), .val (.int p3), .val (.int p4), .unset, .unset, .unset, .unset, .unset, .unset, .unset, .unset] [(.int n)])) target := fun target kt => by
    show Steps p.tables e below (s₁.setTop (mkF m 6 #[.val (.int p1), .val (.int p2), .val (.int p3), .val (.int p4), .unset, .unset, .unset, .unset, .unset, .unset, .unset, .unset] [(.int n)])) _
    refine XS.istore X0.here hx rfl (hb hby at_6) rfl (l' := #[.val (.int p1), .val (.int p2), .val (.int p3), .val (.int p4), .val (.int n), .unset, .unset, .unset, .unset, .unset, .unset, .unset]) rfl ?_
    show Steps p.tables e below (s₁.setTop (mkF m 8 #[.val (.int p1), .val (.int p2), .val (.int p3), .val (.int p4), .val (.int n), .unset, .unset, .unset, .unset, .unset, .unset, .unset] [])) _
    refine XS.iloadN X0.here hx rfl (hb hby at_8) rfl ?_
    show Steps p.tables e below (s₁.setTop (mkF m 9 #[.val (.int p1), .val (.int p2), .val (.int p3), .val (.int p4), .val (.int n), .unset, .unset, .unset, .unset, .unset, .unset, .unset] [(.int p1)])) _
    refine XS.i2b X0.here hx rfl (hb hby at_9) rfl ?_
    show Steps p.tables e below (s₁.setTop (mkF m 10 #[.val (.int p1), .val (.int p2), .val (.int p3), .val (.int p4), .val (.int n), .unset, .unset, .unset, .unset, .unset, .unset, .unset] [(.int (p1.toInt8.toInt32))])) _
    refine XS.istore X0.here hx rfl (hb hby at_10) rfl (l' := #[.val (.int p1), .val (.int p2), .val (.int p3), .val (.int p4), .val (.int n), .val (.int (p1.toInt8.toInt32)), .unset, .unset, .unset, .unset, .unset, .unset]) rfl ?_
    show Steps p.tables e below (s₁.setTop (mkF m 12 #[.val (.int p1), .val (.int p2), .val (.int p3), .val (.int p4), .val (.int n), .val (.int (p1.toInt8.toInt32)), .unset, .unset, .unset, .unset, .unset, .unset] [])) _
    refine XS.iloadN X0.here hx rfl (hb hby at_12) rfl ?_
    show Steps p.tables e below (s₁.setTop (mkF m 13 #[.val (.int p1), .val (.int p2), .val (.int p3), .val (.int p4), .val (.int n), .val (.int (p1.toInt8.toInt32)), .unset, .unset, .unset, .unset, .unset, .unset] [(.int p1)])) _
    refine XS.bipush X0.here hx rfl (hb hby at_13) ?_
    show Steps p.tables e below (s₁.setTop (mkF m 15 #[.val (.int p1), .val (.int p2), .val (.int p3), .val (.int p4), .val (.int n), .val (.int (p1.toInt8.toInt32)), .unset, .unset, .unset, .unset, .unset, .unset] [(.int (8 : Int32)), (.int p1)])) _
    refine XS.ishr X0.here hx rfl (hb hby at_15) rfl ?_
    show Steps p.tables e below (s₁.setTop (mkF m 16 #[.val (.int p1), .val (.int p2), .val (.int p3), .val (.int p4), .val (.int n), .val (.int (p1.toInt8.toInt32)), .unset, .unset, .unset, .unset, .unset, .unset] [(.int (p1 >>> ((8 : Int32) &&& 31)))])) _
    refine XS.i2b X0.here hx rfl (hb hby at_16) rfl ?_
    show Steps p.tables e below (s₁.setTop (mkF m 17 #[.val (.int p1), .val (.int p2), .val (.int p3), .val (.int p4), .val (.int n), .val (.int (p1.toInt8.toInt32)), .unset, .unset, .unset, .unset, .unset, .unset] [(.int ((p1 >>> ((8 : Int32) &&& 31)).toInt8.toInt32))])) _
    refine XS.istore X0.here hx rfl (hb hby at_17) rfl (l' := #[.val (.int p1), .val (.int p2), .val (.int p3), .val (.int p4), .val (.int n), .val (.int (p1.toInt8.toInt32)), .val (.int ((p1 >>> ((8 : Int32) &&& 31)).toInt8.toInt32)), .unset, .unset, .unset, .unset, .unset]) rfl ?_
    show Steps p.tables e below (s₁.setTop (mkF m 19 #[.val (.int p1), .val (.int p2), .val (.int p3), .val (.int p4), .val (.int n), .val (.int (p1.toInt8.toInt32)), .val (.int ((p1 >>> ((8 : Int32) &&& 31)).toInt8.toInt32)), .unset, .unset, .unset, .unset, .unset] [])) _
    refine XS.iloadN X0.here hx rfl (hb hby at_19) rfl ?_
    show Steps p.tables e below (s₁.setTop (mkF m 20 #[.val (.int p1), .val (.int p2), .val (.int p3), .val (.int p4), .val (.int n), .val (.int (p1.toInt8.toInt32)), .val (.int ((p1 >>> ((8 : Int32) &&& 31)).toInt8.toInt32)), .unset, .unset, .unset, .unset, .unset] [(.int p1)])) _
    refine XS.bipush X0.here hx rfl (hb hby at_20) ?_
    show Steps p.tables e below (s₁.setTop (mkF m 22 #[.val (.int p1), .val (.int p2), .val (.int p3), .val (.int p4), .val (.int n), .val (.int (p1.toInt8.toInt32)), .val (.int ((p1 >>> ((8 : Int32) &&& 31)).toInt8.toInt32)), .unset, .unset, .unset, .unset, .unset] [(.int (16 : Int32)), (.int p1)])) _
    refine XS.ishr X0.here hx rfl (hb hby at_22) rfl ?_
    show Steps p.tables e below (s₁.setTop (mkF m 23 #[.val (.int p1), .val (.int p2), .val (.int p3), .val (.int p4), .val (.int n), .val (.int (p1.toInt8.toInt32)), .val (.int ((p1 >>> ((8 : Int32) &&& 31)).toInt8.toInt32)), .unset, .unset, .unset, .unset, .unset] [(.int (p1 >>> ((16 : Int32) &&& 31)))])) _
    refine XS.i2b X0.here hx rfl (hb hby at_23) rfl ?_
    show Steps p.tables e below (s₁.setTop (mkF m 24 #[.val (.int p1), .val (.int p2), .val (.int p3), .val (.int p4), .val (.int n), .val (.int (p1.toInt8.toInt32)), .val (.int ((p1 >>> ((8 : Int32) &&& 31)).toInt8.toInt32)), .unset, .unset, .unset, .unset, .unset] [(.int ((p1 >>> ((16 : Int32) &&& 31)).toInt8.toInt32))])) _
    refine XS.istore X0.here hx rfl (hb hby at_24) rfl (l' := #[.val (.int p1), .val (.int p2), .val (.int p3), .val (.int p4), .val (.int n), .val (.int (p1.toInt8.toInt32)), .val (.int ((p1 >>> ((8 : Int32) &&& 31)).toInt8.toInt32)), .val (.int ((p1 >>> ((16 : Int32) &&& 31)).toInt8.toInt32)), .unset, .unset, .unset, .unset]) rfl ?_
    show Steps p.tables e below (s₁.setTop (mkF m 26 #[.val (.int p1), .val (.int p2), .val (.int p3), .val (.int p4), .val (.int n), .val (.int (p1.toInt8.toInt32)), .val (.int ((p1 >>> ((8 : Int32) &&& 31)).toInt8.toInt32)), .val (.int ((p1 >>> ((16 : Int32) &&& 31)).toInt8.toInt32)), .unset, .unset, .unset, .unset] [])) _
    refine XS.iloadN X0.here hx rfl (hb hby at_26) rfl ?_
    show Steps p.tables e below (s₁.setTop (mkF m 27 #[.val (.int p1), .val (.int p2), .val (.int p3), .val (.int p4), .val (.int n), .val (.int (p1.toInt8.toInt32)), .val (.int ((p1 >>> ((8 : Int32) &&& 31)).toInt8.toInt32)), .val (.int ((p1 >>> ((16 : Int32) &&& 31)).toInt8.toInt32)), .unset, .unset, .unset, .unset] [(.int p1)])) _
    refine XS.bipush X0.here hx rfl (hb hby at_27) ?_
    show Steps p.tables e below (s₁.setTop (mkF m 29 #[.val (.int p1), .val (.int p2), .val (.int p3), .val (.int p4), .val (.int n), .val (.int (p1.toInt8.toInt32)), .val (.int ((p1 >>> ((8 : Int32) &&& 31)).toInt8.toInt32)), .val (.int ((p1 >>> ((16 : Int32) &&& 31)).toInt8.toInt32)), .unset, .unset, .unset, .unset] [(.int (24 : Int32)), (.int p1)])) _
    refine XS.ishr X0.here hx rfl (hb hby at_29) rfl ?_
    show Steps p.tables e below (s₁.setTop (mkF m 30 #[.val (.int p1), .val (.int p2), .val (.int p3), .val (.int p4), .val (.int n), .val (.int (p1.toInt8.toInt32)), .val (.int ((p1 >>> ((8 : Int32) &&& 31)).toInt8.toInt32)), .val (.int ((p1 >>> ((16 : Int32) &&& 31)).toInt8.toInt32)), .unset, .unset, .unset, .unset] [(.int (p1 >>> ((24 : Int32) &&& 31)))])) _
    refine XS.i2b X0.here hx rfl (hb hby at_30) rfl ?_
    show Steps p.tables e below (s₁.setTop (mkF m 31 #[.val (.int p1), .val (.int p2), .val (.int p3), .val (.int p4), .val (.int n), .val (.int (p1.toInt8.toInt32)), .val (.int ((p1 >>> ((8 : Int32) &&& 31)).toInt8.toInt32)), .val (.int ((p1 >>> ((16 : Int32) &&& 31)).toInt8.toInt32)), .unset, .unset, .unset, .unset] [(.int ((p1 >>> ((24 : Int32) &&& 31)).toInt8.toInt32))])) _
    refine XS.istore X0.here hx rfl (hb hby at_31) rfl (l' := #[.val (.int p1), .val (.int p2), .val (.int p3), .val (.int p4), .val (.int n), .val (.int (p1.toInt8.toInt32)), .val (.int ((p1 >>> ((8 : Int32) &&& 31)).toInt8.toInt32)), .val (.int ((p1 >>> ((16 : Int32) &&& 31)).toInt8.toInt32)), .val (.int ((p1 >>> ((24 : Int32) &&& 31)).toInt8.toInt32)), .unset, .unset, .unset]) rfl ?_
    show Steps p.tables e below (s₁.setTop (mkF m 33 #[.val (.int p1), .val (.int p2), .val (.int p3), .val (.int p4), .val (.int n), .val (.int (p1.toInt8.toInt32)), .val (.int ((p1 >>> ((8 : Int32) &&& 31)).toInt8.toInt32)), .val (.int ((p1 >>> ((16 : Int32) &&& 31)).toInt8.toInt32)), .val (.int ((p1 >>> ((24 : Int32) &&& 31)).toInt8.toInt32)), .unset, .unset, .unset] [])) _
    refine XS.iloadN X0.here hx rfl (hb hby at_33) rfl ?_
    show Steps p.tables e below (s₁.setTop (mkF m 34 #[.val (.int p1), .val (.int p2), .val (.int p3), .val (.int p4), .val (.int n), .val (.int (p1.toInt8.toInt32)), .val (.int ((p1 >>> ((8 : Int32) &&& 31)).toInt8.toInt32)), .val (.int ((p1 >>> ((16 : Int32) &&& 31)).toInt8.toInt32)), .val (.int ((p1 >>> ((24 : Int32) &&& 31)).toInt8.toInt32)), .unset, .unset, .unset] [(.int p3)])) _
    refine XS.i2b X0.here hx rfl (hb hby at_34) rfl ?_
    show Steps p.tables e below (s₁.setTop (mkF m 35 #[.val (.int p1), .val (.int p2), .val (.int p3), .val (.int p4), .val (.int n), .val (.int (p1.toInt8.toInt32)), .val (.int ((p1 >>> ((8 : Int32) &&& 31)).toInt8.toInt32)), .val (.int ((p1 >>> ((16 : Int32) &&& 31)).toInt8.toInt32)), .val (.int ((p1 >>> ((24 : Int32) &&& 31)).toInt8.toInt32)), .unset, .unset, .unset] [(.int (p3.toInt8.toInt32))])) _
    refine XS.istore X0.here hx rfl (hb hby at_35) rfl (l' := #[.val (.int p1), .val (.int p2), .val (.int p3), .val (.int p4), .val (.int n), .val (.int (p1.toInt8.toInt32)), .val (.int ((p1 >>> ((8 : Int32) &&& 31)).toInt8.toInt32)), .val (.int ((p1 >>> ((16 : Int32) &&& 31)).toInt8.toInt32)), .val (.int ((p1 >>> ((24 : Int32) &&& 31)).toInt8.toInt32)), .val (.int (p3.toInt8.toInt32)), .unset, .unset]) rfl ?_
    exact kt
  obtain ⟨x0, hx0⟩ : ∃ z : Int32, p1.toInt8.toInt32 = z := ⟨_, rfl⟩
  obtain ⟨x1, hx1⟩ : ∃ z : Int32, (p1 >>> ((8 : Int32) &&& 31)).toInt8.toInt32 = z := ⟨_, rfl⟩
  obtain ⟨x2, hx2⟩ : ∃ z : Int32, (p1 >>> ((16 : Int32) &&& 31)).toInt8.toInt32 = z := ⟨_, rfl⟩
  obtain ⟨x3, hx3⟩ : ∃ z : Int32, (p1 >>> ((24 : Int32) &&& 31)).toInt8.toInt32 = z := ⟨_, rfl⟩
  obtain ⟨bb, hbb⟩ : ∃ z : Int32, p3.toInt8.toInt32 = z := ⟨_, rfl⟩
  rw [hx0, hx1, hx2, hx3, hbb] at fl134
  obtain ⟨T135, h135, X135, e135, E135, A135, D135, -, st135⟩ := newO X0 hx hZ hown (hw _ (List.mem_of_getElem? (i := 0) rfl)) (hw _ (List.mem_of_getElem? (i := 1) rfl)) (hw _ (List.mem_of_getElem? (i := 2) rfl)) e0 (g := (mkF m 37 #[.val (.int p1), .val (.int p2), .val (.int p3), .val (.int p4), .val (.int n), .val (.int x0), .val (.int x1), .val (.int x2), .val (.int x3), .val (.int bb), .unset, .unset] [])) rfl (hb hby at_37) (by decide) (by decide)
  obtain ⟨b135, g135⟩ : ∃ z, z = h0.size := ⟨_, rfl⟩
  rw [← g135] at A135 D135 st135
  have g_b135 : n0 ≤ b135 := Nat.le_trans Z0 (Nat.le_of_eq g135.symm)
  have sz_b135 : h0.size ≤ b135 := Nat.le_trans (Keep.refl h0 []).1 (Nat.le_of_eq g135.symm)
  have Ol_135 := Ol.ext E135
  have F135_blocks : Fld Z h135 b135 "com/example/darter/darter/ResultBuffer" "blocks" "Ljava/util/List;" .null := D135 (Or.inr (hw _ (List.mem_of_getElem? (i := 39) rfl))) (ty := (.object "java/util/List")) (by decide)
  have F135_size : Fld Z h135 b135 "com/example/darter/darter/ResultBuffer" "size" "I" (.int (0 : Int32)) := D135 (Or.inl (hw _ (List.mem_of_getElem? (i := 50) rfl))) (ty := .int) (by decide)
  have K135 : Keep h0 h135 [] := (Keep.refl h0 []).ext E135
  have z135 : n0 ≤ h135.size := Nat.le_trans Z0 E135.1
  obtain ⟨_, _, ⟨T136, L136, k136, n136⟩, -, X136, ⟨Lc136, hQ136, l136, y136, z136⟩, st136⟩ := X135.specialBack hx (y := (⟨"com/example/darter/darter/ResultBuffer", "<init>", "()V"⟩ : MethodName)) rfl hown (mvT hZ (hw _ (List.mem_of_getElem? (i := 3) rfl))) (mvT hZ (hw _ (List.mem_of_getElem? (i := 4) rfl))) (mvT hZ (hw _ (List.mem_of_getElem? (i := 5) rfl))) (by decide) (backOf (W := 1) (rm1 l Z a0 hw [] b135 d0 kD h135 n0 z135 Dz Ol_135 A135 F135_blocks F135_size g_b135) hZ (hw _ (List.mem_of_getElem? (i := 5) rfl)) (hw _ (List.mem_of_getElem? (i := 2) rfl)) (by decide) (by decide)) (g := (mkF m 41 #[.val (.int p1), .val (.int p2), .val (.int p3), .val (.int p4), .val (.int n), .val (.int x0), .val (.int x1), .val (.int x2), .val (.int x3), .val (.int bb), .unset, .unset] [(.ref b135), (.ref b135)])) rfl (by rw [hml]; rfl) (Steps.refl _) (a := b135) (argsL := []) (rest := [(.ref b135)]) (lenOf pd_0 rfl) rfl (by show 2 * 0 + _ ≤ _; exact Nat.le_of_eq rfl) (hb hby at_41) (fun _ _ => ⟨rfl, e135, (by decide : 1 + 1 ≤ _), (by decide : 2 + 3 ≤ _)⟩)
  dsimp only [Pt.U, Pt.locs, Pt.cells, Pt.slots] at X136 l136 y136 z136 st136 hQ136
  subst l136 y136 z136
  obtain ⟨al, rfl, N136q, Kc136, RB0, AL0, szal, gal⟩ := hQ136
  have N136 := Fr.app N0 N136q
  have neal : b135 ≠ al := Nat.ne_of_lt (Nat.lt_of_lt_of_le A135.lt szal)
  have sz_al : h0.size ≤ al := Nat.le_trans (K135).1 szal
  have g_al : n0 ≤ al := gal
  have Ol_136 := Ol_135.keep Kc136 (allS g_b135 all0)
  have A135_136 := A135.keep Kc136
  have K136 : Keep h0 T136.heap [] := K135.trans Kc136 (allS (Or.inr sz_b135) (all0))
  have z136z : n0 ≤ T136.heap.size := Nat.le_trans z135 Kc136.1
  have fl137 : ∀ target, Steps p.tables e below (T136.setTop (mkF m 46 #[.val (.int p1), .val (.int p2), .val (.int p3), .val (.int p4), .val (.int n), .val (.int x0), .val (.int x1), .val (.int x2), .val (.int x3), .val (.int bb), .val (.ref b135), .unset] [])) target → Steps p.tables e below (s₁.setTop (mkF m 37 #[.val (.int p1), .val (.int p2), .val (.int p3), .val (.int p4), .val (.int n), .val (.int x0), .val (.int x1), .val (.int x2), .val (.int x3), .val (.int bb), .unset, .unset] [])) target := fun target kt => by
    show Steps p.tables e below (s₁.setTop (mkF m 37 #[.val (.int p1), .val (.int p2), .val (.int p3), .val (.int p4), .val (.int n), .val (.int x0), .val (.int x1), .val (.int x2), .val (.int x3), .val (.int bb), .unset, .unset] [])) _
    refine st135 _ ?_
    show Steps p.tables e below (T135.setTop (mkF m 40 #[.val (.int p1), .val (.int p2), .val (.int p3), .val (.int p4), .val (.int n), .val (.int x0), .val (.int x1), .val (.int x2), .val (.int x3), .val (.int bb), .unset, .unset] [(.ref b135)])) _
    refine XS.dup X135.here hx rfl (hb hby at_40) rfl rfl ?_
    show Steps p.tables e below (T135.setTop (mkF m 41 #[.val (.int p1), .val (.int p2), .val (.int p3), .val (.int p4), .val (.int n), .val (.int x0), .val (.int x1), .val (.int x2), .val (.int x3), .val (.int bb), .unset, .unset] [(.ref b135), (.ref b135)])) _
    refine st136.trans ?_
    show Steps p.tables e below (T136.setTop (mkF m 44 #[.val (.int p1), .val (.int p2), .val (.int p3), .val (.int p4), .val (.int n), .val (.int x0), .val (.int x1), .val (.int x2), .val (.int x3), .val (.int bb), .unset, .unset] [(.ref b135)])) _
    refine XS.astore X136.here hx rfl (hb hby at_44) rfl rfl (l' := #[.val (.int p1), .val (.int p2), .val (.int p3), .val (.int p4), .val (.int n), .val (.int x0), .val (.int x1), .val (.int x2), .val (.int x3), .val (.int bb), .val (.ref b135), .unset]) rfl ?_
    exact kt
  rcases bn with rfl | rfl | rfl | rfl | rfl
  · have hlt : ¬ own_pos p4 < (0 : Int32) := by have z : (0 : Int32).toInt = 0 := rfl; have p0 := own_pos0 p4; rw [own_lti]; omega
    obtain ⟨cq138, kq138, q138a, q138b, q138c⟩ := isOf hZ rfl RB0.1
    obtain ⟨_, _, ⟨T138, L138, k138, n138⟩, -, X138, ⟨Lc138, hQ138, l138, y138, z138⟩, st138⟩ := X136.virtualBack hx (y := (⟨"com/example/darter/darter/ResultBuffer", "indexOf", "(BI)I"⟩ : MethodName)) (z := (⟨"com/example/darter/darter/ResultBuffer", "indexOf", "(BI)I"⟩ : MethodName)) hown (mvT hZ (hw _ (List.mem_of_getElem? (i := 128) rfl))) (mvT hZ (hw _ (List.mem_of_getElem? (i := 129) rfl))) (notFace_of_selects (args := #[]) (mvT hZ (hw _ (List.mem_of_getElem? (i := 131) rfl)))) (mvT hZ (hw _ (List.mem_of_getElem? (i := 131) rfl))) (mvT hZ (hw _ (List.mem_of_getElem? (i := 130) rfl))) (by decide) (backOf (W := 0) (rmI0 l Z a0 hw [] b135 bb p4 al (0 : Int32) (own_pos p4) T136.heap n0 z136z RB0 rfl hlt) hZ (hw _ (List.mem_of_getElem? (i := 132) rfl)) (hw _ (List.mem_of_getElem? (i := 2) rfl)) (by decide) (by decide)) q138a q138c (g := (mkF m 107 #[.val (.int p1), .val (.int p2), .val (.int p3), .val (.int p4), .val (.int (0 : Int32)), .val (.int x0), .val (.int x1), .val (.int x2), .val (.int x3), .val (.int bb), .val (.ref b135), .unset] [(.int p4), (.int bb), (.ref b135)])) rfl (by rw [hml]; rfl) (Steps.refl _) (argsL := [(.int bb), (.int p4)]) (rest := []) (lenOf pd_11 rfl) rfl (by show 2 * 0 + _ ≤ _; exact Nat.le_of_eq rfl) (hb hby at_107) (fun _ _ => ⟨rfl, rfl, (by decide : 2 + 0 ≤ _), (by decide : 5 + 0 ≤ _)⟩)
    dsimp only [Pt.U, Pt.locs, Pt.cells, Pt.slots] at X138 l138 y138 z138 st138 hQ138
    subst l138 y138 z138
    obtain ⟨rfl, N138q, he138⟩ := hQ138
    have N138 := Fr.app N136 N138q
    have Kc138 : Keep T136.heap T138.heap [] := by rw [he138]; exact Keep.refl _ _
    have K138 : Keep h0 T138.heap [] := K136.trans Kc138 all0
    have z138z : n0 ≤ T138.heap.size := Nat.le_trans z136z Kc138.1
    have fl139 : ∀ target, Steps p.tables e below (T138.setTop (mkF m 110 #[.val (.int p1), .val (.int p2), .val (.int p3), .val (.int p4), .val (.int (0 : Int32)), .val (.int x0), .val (.int x1), .val (.int x2), .val (.int x3), .val (.int bb), .val (.ref b135), .unset] [(.int (-1 : Int32))])) target → Steps p.tables e below (T136.setTop (mkF m 46 #[.val (.int p1), .val (.int p2), .val (.int p3), .val (.int p4), .val (.int (0 : Int32)), .val (.int x0), .val (.int x1), .val (.int x2), .val (.int x3), .val (.int bb), .val (.ref b135), .unset] [])) target := fun target kt => by
      show Steps p.tables e below (T136.setTop (mkF m 46 #[.val (.int p1), .val (.int p2), .val (.int p3), .val (.int p4), .val (.int (0 : Int32)), .val (.int x0), .val (.int x1), .val (.int x2), .val (.int x3), .val (.int bb), .val (.ref b135), .unset] [])) _
      refine XS.iload X136.here hx rfl (hb hby at_46) rfl ?_
      show Steps p.tables e below (T136.setTop (mkF m 48 #[.val (.int p1), .val (.int p2), .val (.int p3), .val (.int p4), .val (.int (0 : Int32)), .val (.int x0), .val (.int x1), .val (.int x2), .val (.int x3), .val (.int bb), .val (.ref b135), .unset] [(.int (0 : Int32))])) _
      refine XS.ifYes X136.here hx rfl (pc0 := 48) (pc' := 57) rfl (hb hby at_48) rfl ((if0 _ _).trans (flt (by decide : ¬ ((0 : Int32) < (0 : Int32)))).2.2.2) (by decide) (by decide) ?_
      show Steps p.tables e below (T136.setTop (mkF m 57 #[.val (.int p1), .val (.int p2), .val (.int p3), .val (.int p4), .val (.int (0 : Int32)), .val (.int x0), .val (.int x1), .val (.int x2), .val (.int x3), .val (.int bb), .val (.ref b135), .unset] [])) _
      refine XS.iload X136.here hx rfl (hb hby at_57) rfl ?_
      show Steps p.tables e below (T136.setTop (mkF m 59 #[.val (.int p1), .val (.int p2), .val (.int p3), .val (.int p4), .val (.int (0 : Int32)), .val (.int x0), .val (.int x1), .val (.int x2), .val (.int x3), .val (.int bb), .val (.ref b135), .unset] [(.int (0 : Int32))])) _
      refine XS.iconst X136.here hx rfl (hb hby at_59) ?_
      show Steps p.tables e below (T136.setTop (mkF m 60 #[.val (.int p1), .val (.int p2), .val (.int p3), .val (.int p4), .val (.int (0 : Int32)), .val (.int x0), .val (.int x1), .val (.int x2), .val (.int x3), .val (.int bb), .val (.ref b135), .unset] [(.int (1 : Int32)), (.int (0 : Int32))])) _
      refine XS.icmpYes X136.here hx rfl (pc0 := 60) (pc' := 72) rfl (hb hby at_60) rfl (flt (by decide : ¬ ((1 : Int32) < (0 : Int32)))).2.2.2 (by decide) (by decide) ?_
      show Steps p.tables e below (T136.setTop (mkF m 72 #[.val (.int p1), .val (.int p2), .val (.int p3), .val (.int p4), .val (.int (0 : Int32)), .val (.int x0), .val (.int x1), .val (.int x2), .val (.int x3), .val (.int bb), .val (.ref b135), .unset] [])) _
      refine XS.iload X136.here hx rfl (hb hby at_72) rfl ?_
      show Steps p.tables e below (T136.setTop (mkF m 74 #[.val (.int p1), .val (.int p2), .val (.int p3), .val (.int p4), .val (.int (0 : Int32)), .val (.int x0), .val (.int x1), .val (.int x2), .val (.int x3), .val (.int bb), .val (.ref b135), .unset] [(.int (0 : Int32))])) _
      refine XS.iconst X136.here hx rfl (hb hby at_74) ?_
      show Steps p.tables e below (T136.setTop (mkF m 75 #[.val (.int p1), .val (.int p2), .val (.int p3), .val (.int p4), .val (.int (0 : Int32)), .val (.int x0), .val (.int x1), .val (.int x2), .val (.int x3), .val (.int bb), .val (.ref b135), .unset] [(.int (2 : Int32)), (.int (0 : Int32))])) _
      refine XS.icmpYes X136.here hx rfl (pc0 := 75) (pc' := 87) rfl (hb hby at_75) rfl (flt (by decide : ¬ ((2 : Int32) < (0 : Int32)))).2.2.2 (by decide) (by decide) ?_
      show Steps p.tables e below (T136.setTop (mkF m 87 #[.val (.int p1), .val (.int p2), .val (.int p3), .val (.int p4), .val (.int (0 : Int32)), .val (.int x0), .val (.int x1), .val (.int x2), .val (.int x3), .val (.int bb), .val (.ref b135), .unset] [])) _
      refine XS.iload X136.here hx rfl (hb hby at_87) rfl ?_
      show Steps p.tables e below (T136.setTop (mkF m 89 #[.val (.int p1), .val (.int p2), .val (.int p3), .val (.int p4), .val (.int (0 : Int32)), .val (.int x0), .val (.int x1), .val (.int x2), .val (.int x3), .val (.int bb), .val (.ref b135), .unset] [(.int (0 : Int32))])) _
      refine XS.iconst X136.here hx rfl (hb hby at_89) ?_
      show Steps p.tables e below (T136.setTop (mkF m 90 #[.val (.int p1), .val (.int p2), .val (.int p3), .val (.int p4), .val (.int (0 : Int32)), .val (.int x0), .val (.int x1), .val (.int x2), .val (.int x3), .val (.int bb), .val (.ref b135), .unset] [(.int (3 : Int32)), (.int (0 : Int32))])) _
      refine XS.icmpYes X136.here hx rfl (pc0 := 90) (pc' := 102) rfl (hb hby at_90) rfl (flt (by decide : ¬ ((3 : Int32) < (0 : Int32)))).2.2.2 (by decide) (by decide) ?_
      show Steps p.tables e below (T136.setTop (mkF m 102 #[.val (.int p1), .val (.int p2), .val (.int p3), .val (.int p4), .val (.int (0 : Int32)), .val (.int x0), .val (.int x1), .val (.int x2), .val (.int x3), .val (.int bb), .val (.ref b135), .unset] [])) _
      refine XS.aload X136.here hx rfl (hb hby at_102) rfl rfl ?_
      show Steps p.tables e below (T136.setTop (mkF m 104 #[.val (.int p1), .val (.int p2), .val (.int p3), .val (.int p4), .val (.int (0 : Int32)), .val (.int x0), .val (.int x1), .val (.int x2), .val (.int x3), .val (.int bb), .val (.ref b135), .unset] [(.ref b135)])) _
      refine XS.iload X136.here hx rfl (hb hby at_104) rfl ?_
      show Steps p.tables e below (T136.setTop (mkF m 106 #[.val (.int p1), .val (.int p2), .val (.int p3), .val (.int p4), .val (.int (0 : Int32)), .val (.int x0), .val (.int x1), .val (.int x2), .val (.int x3), .val (.int bb), .val (.ref b135), .unset] [(.int bb), (.ref b135)])) _
      refine XS.iloadN X136.here hx rfl (hb hby at_106) rfl ?_
      show Steps p.tables e below (T136.setTop (mkF m 107 #[.val (.int p1), .val (.int p2), .val (.int p3), .val (.int p4), .val (.int (0 : Int32)), .val (.int x0), .val (.int x1), .val (.int x2), .val (.int x3), .val (.int bb), .val (.ref b135), .unset] [(.int p4), (.int bb), (.ref b135)])) _
      refine st138.trans ?_
      exact kt
    rw [own_far x0 x1 x2 x3 bb p4 (0 : Int32) (by decide) hlt (by decide)] at fl139
    obtain ⟨_, _, ⟨T140, L140, k140, n140⟩, -, X140, ⟨Lc140, hQ140, l140, y140, z140⟩, st140⟩ := Jvm.LawKit.callS X138 hx (y := (⟨"com/example/darter/darter/ResultBufferIndexOfPinLaw", "ref", "(BBBBIBI)I"⟩ : MethodName)) hown (mvT hZ (hw _ (List.mem_of_getElem? (i := 133) rfl))) (mvT hZ (hw _ (List.mem_of_getElem? (i := 134) rfl))) (mvT hZ (hw _ (List.mem_of_getElem? (i := 135) rfl))) (mvT hZ (hw _ (List.mem_of_getElem? (i := 136) rfl))) (by decide) (backOf (W := 1) (rm22 l Z a0 hw [] x0 x1 x2 x3 (0 : Int32) bb p4 (own_ref x0 x1 x2 x3 (0 : Int32) bb p4) T138.heap n0 z138z rfl) hZ (hw _ (List.mem_of_getElem? (i := 136) rfl)) (hw _ (List.mem_of_getElem? (i := 135) rfl)) (by decide) (by decide)) (g := (mkF m 127 #[.val (.int p1), .val (.int p2), .val (.int p3), .val (.int p4), .val (.int (0 : Int32)), .val (.int x0), .val (.int x1), .val (.int x2), .val (.int x3), .val (.int bb), .val (.ref b135), .val (.int (own_ref x0 x1 x2 x3 (0 : Int32) bb p4))] [(.int p4), (.int bb), (.int (0 : Int32)), (.int x3), (.int x2), (.int x1), (.int x0), (.int (own_ref x0 x1 x2 x3 (0 : Int32) bb p4))])) rfl (by rw [hml]; rfl) (argsL := [(.int x0), (.int x1), (.int x2), (.int x3), (.int (0 : Int32)), (.int bb), (.int p4)]) (rest := [(.int (own_ref x0 x1 x2 x3 (0 : Int32) bb p4))]) (lenOf pd_12 rfl) rfl (by show 2 * 0 + _ ≤ _; exact Nat.le_of_eq rfl) (hb hby at_127) (fun _ _ => ⟨rfl, rfl, (by decide : 2 + 0 ≤ _), (by decide : 5 + 0 ≤ _)⟩)
    dsimp only [Pt.U, Pt.locs, Pt.cells, Pt.slots] at X140 l140 y140 z140 st140 hQ140
    subst l140 y140 z140
    obtain ⟨rfl, N140q, he140⟩ := hQ140
    have N140 := Fr.app N138 N140q
    have fl141 : ∀ target, Steps p.tables e below (T140.setTop (mkF m 138 #[.val (.int p1), .val (.int p2), .val (.int p3), .val (.int p4), .val (.int (0 : Int32)), .val (.int x0), .val (.int x1), .val (.int x2), .val (.int x3), .val (.int bb), .val (.ref b135), .val (.int (own_ref x0 x1 x2 x3 (0 : Int32) bb p4))] [(.int (1 : Int32))])) target → Steps p.tables e below (T138.setTop (mkF m 110 #[.val (.int p1), .val (.int p2), .val (.int p3), .val (.int p4), .val (.int (0 : Int32)), .val (.int x0), .val (.int x1), .val (.int x2), .val (.int x3), .val (.int bb), .val (.ref b135), .unset] [(.int (own_ref x0 x1 x2 x3 (0 : Int32) bb p4))])) target := fun target kt => by
      show Steps p.tables e below (T138.setTop (mkF m 110 #[.val (.int p1), .val (.int p2), .val (.int p3), .val (.int p4), .val (.int (0 : Int32)), .val (.int x0), .val (.int x1), .val (.int x2), .val (.int x3), .val (.int bb), .val (.ref b135), .unset] [(.int (own_ref x0 x1 x2 x3 (0 : Int32) bb p4))])) _
      refine XS.istore X138.here hx rfl (hb hby at_110) rfl (l' := #[.val (.int p1), .val (.int p2), .val (.int p3), .val (.int p4), .val (.int (0 : Int32)), .val (.int x0), .val (.int x1), .val (.int x2), .val (.int x3), .val (.int bb), .val (.ref b135), .val (.int (own_ref x0 x1 x2 x3 (0 : Int32) bb p4))]) rfl ?_
      show Steps p.tables e below (T138.setTop (mkF m 112 #[.val (.int p1), .val (.int p2), .val (.int p3), .val (.int p4), .val (.int (0 : Int32)), .val (.int x0), .val (.int x1), .val (.int x2), .val (.int x3), .val (.int bb), .val (.ref b135), .val (.int (own_ref x0 x1 x2 x3 (0 : Int32) bb p4))] [])) _
      refine XS.iload X138.here hx rfl (hb hby at_112) rfl ?_
      show Steps p.tables e below (T138.setTop (mkF m 114 #[.val (.int p1), .val (.int p2), .val (.int p3), .val (.int p4), .val (.int (0 : Int32)), .val (.int x0), .val (.int x1), .val (.int x2), .val (.int x3), .val (.int bb), .val (.ref b135), .val (.int (own_ref x0 x1 x2 x3 (0 : Int32) bb p4))] [(.int (own_ref x0 x1 x2 x3 (0 : Int32) bb p4))])) _
      refine XS.iload X138.here hx rfl (hb hby at_114) rfl ?_
      show Steps p.tables e below (T138.setTop (mkF m 116 #[.val (.int p1), .val (.int p2), .val (.int p3), .val (.int p4), .val (.int (0 : Int32)), .val (.int x0), .val (.int x1), .val (.int x2), .val (.int x3), .val (.int bb), .val (.ref b135), .val (.int (own_ref x0 x1 x2 x3 (0 : Int32) bb p4))] [(.int x0), (.int (own_ref x0 x1 x2 x3 (0 : Int32) bb p4))])) _
      refine XS.iload X138.here hx rfl (hb hby at_116) rfl ?_
      show Steps p.tables e below (T138.setTop (mkF m 118 #[.val (.int p1), .val (.int p2), .val (.int p3), .val (.int p4), .val (.int (0 : Int32)), .val (.int x0), .val (.int x1), .val (.int x2), .val (.int x3), .val (.int bb), .val (.ref b135), .val (.int (own_ref x0 x1 x2 x3 (0 : Int32) bb p4))] [(.int x1), (.int x0), (.int (own_ref x0 x1 x2 x3 (0 : Int32) bb p4))])) _
      refine XS.iload X138.here hx rfl (hb hby at_118) rfl ?_
      show Steps p.tables e below (T138.setTop (mkF m 120 #[.val (.int p1), .val (.int p2), .val (.int p3), .val (.int p4), .val (.int (0 : Int32)), .val (.int x0), .val (.int x1), .val (.int x2), .val (.int x3), .val (.int bb), .val (.ref b135), .val (.int (own_ref x0 x1 x2 x3 (0 : Int32) bb p4))] [(.int x2), (.int x1), (.int x0), (.int (own_ref x0 x1 x2 x3 (0 : Int32) bb p4))])) _
      refine XS.iload X138.here hx rfl (hb hby at_120) rfl ?_
      show Steps p.tables e below (T138.setTop (mkF m 122 #[.val (.int p1), .val (.int p2), .val (.int p3), .val (.int p4), .val (.int (0 : Int32)), .val (.int x0), .val (.int x1), .val (.int x2), .val (.int x3), .val (.int bb), .val (.ref b135), .val (.int (own_ref x0 x1 x2 x3 (0 : Int32) bb p4))] [(.int x3), (.int x2), (.int x1), (.int x0), (.int (own_ref x0 x1 x2 x3 (0 : Int32) bb p4))])) _
      refine XS.iload X138.here hx rfl (hb hby at_122) rfl ?_
      show Steps p.tables e below (T138.setTop (mkF m 124 #[.val (.int p1), .val (.int p2), .val (.int p3), .val (.int p4), .val (.int (0 : Int32)), .val (.int x0), .val (.int x1), .val (.int x2), .val (.int x3), .val (.int bb), .val (.ref b135), .val (.int (own_ref x0 x1 x2 x3 (0 : Int32) bb p4))] [(.int (0 : Int32)), (.int x3), (.int x2), (.int x1), (.int x0), (.int (own_ref x0 x1 x2 x3 (0 : Int32) bb p4))])) _
      refine XS.iload X138.here hx rfl (hb hby at_124) rfl ?_
      show Steps p.tables e below (T138.setTop (mkF m 126 #[.val (.int p1), .val (.int p2), .val (.int p3), .val (.int p4), .val (.int (0 : Int32)), .val (.int x0), .val (.int x1), .val (.int x2), .val (.int x3), .val (.int bb), .val (.ref b135), .val (.int (own_ref x0 x1 x2 x3 (0 : Int32) bb p4))] [(.int bb), (.int (0 : Int32)), (.int x3), (.int x2), (.int x1), (.int x0), (.int (own_ref x0 x1 x2 x3 (0 : Int32) bb p4))])) _
      refine XS.iloadN X138.here hx rfl (hb hby at_126) rfl ?_
      show Steps p.tables e below (T138.setTop (mkF m 127 #[.val (.int p1), .val (.int p2), .val (.int p3), .val (.int p4), .val (.int (0 : Int32)), .val (.int x0), .val (.int x1), .val (.int x2), .val (.int x3), .val (.int bb), .val (.ref b135), .val (.int (own_ref x0 x1 x2 x3 (0 : Int32) bb p4))] [(.int p4), (.int bb), (.int (0 : Int32)), (.int x3), (.int x2), (.int x1), (.int x0), (.int (own_ref x0 x1 x2 x3 (0 : Int32) bb p4))])) _
      refine st140 _ ?_
      show Steps p.tables e below (T140.setTop (mkF m 130 #[.val (.int p1), .val (.int p2), .val (.int p3), .val (.int p4), .val (.int (0 : Int32)), .val (.int x0), .val (.int x1), .val (.int x2), .val (.int x3), .val (.int bb), .val (.ref b135), .val (.int (own_ref x0 x1 x2 x3 (0 : Int32) bb p4))] [(.int (own_ref x0 x1 x2 x3 (0 : Int32) bb p4)), (.int (own_ref x0 x1 x2 x3 (0 : Int32) bb p4))])) _
      refine XS.icmpNo X140.here hx rfl (hb hby at_130) rfl (teq (rfl : (own_ref x0 x1 x2 x3 (0 : Int32) bb p4) = (own_ref x0 x1 x2 x3 (0 : Int32) bb p4))).2 ?_
      show Steps p.tables e below (T140.setTop (mkF m 133 #[.val (.int p1), .val (.int p2), .val (.int p3), .val (.int p4), .val (.int (0 : Int32)), .val (.int x0), .val (.int x1), .val (.int x2), .val (.int x3), .val (.int bb), .val (.ref b135), .val (.int (own_ref x0 x1 x2 x3 (0 : Int32) bb p4))] [])) _
      refine XS.iconst X140.here hx rfl (hb hby at_133) ?_
      show Steps p.tables e below (T140.setTop (mkF m 134 #[.val (.int p1), .val (.int p2), .val (.int p3), .val (.int p4), .val (.int (0 : Int32)), .val (.int x0), .val (.int x1), .val (.int x2), .val (.int x3), .val (.int bb), .val (.ref b135), .val (.int (own_ref x0 x1 x2 x3 (0 : Int32) bb p4))] [(.int (1 : Int32))])) _
      refine XS.goto X140.here hx rfl (pc0 := 134) (pc' := 138) rfl (hb hby at_134) (by decide) (by decide) ?_
      exact kt
    obtain ⟨fs, hrt, hrun, hended, hW, hsame⟩ := X140.leave (v := some (.int (1 : Int32))) (fun h => by rw [Bd.returns] at h; cases h)
    refine ⟨_, _, pre0 _ (fl133 _ (fl134 _ (fl137 _ (fl139 _ (fl141 _ ?_))))), hrun, hended, _, _, rfl, ?_, ⟨_, rfl⟩, hW, hsame.mono (by decide) (by decide)⟩
    · exact retN X140 hx (t := .boolean) Bd.returns (by simp) (hb hby at_138) hrt
    · show Q0 _ _ _ _ _ _ _ _ _ _ T140.heap _
      exact ⟨rfl, N140⟩
  · obtain ⟨cq142, kq142, q142a, q142b, q142c⟩ := isOf hZ rfl RB0.1
    obtain ⟨_, _, ⟨T142, L142, k142, n142⟩, -, X142, ⟨Lc142, hQ142, l142, y142, z142⟩, st142⟩ := X136.virtualBack hx (y := (⟨"com/example/darter/darter/ResultBuffer", "write", "(I)V"⟩ : MethodName)) (z := (⟨"com/example/darter/darter/ResultBuffer", "write", "(I)V"⟩ : MethodName)) hown (mvT hZ (hw _ (List.mem_of_getElem? (i := 40) rfl))) (mvT hZ (hw _ (List.mem_of_getElem? (i := 41) rfl))) (notFace_of_selects (args := #[]) (mvT hZ (hw _ (List.mem_of_getElem? (i := 43) rfl)))) (mvT hZ (hw _ (List.mem_of_getElem? (i := 43) rfl))) (mvT hZ (hw _ (List.mem_of_getElem? (i := 42) rfl))) (by decide) (backOf (W := 0) (rmW0 l Z a0 hw [] b135 p1 d0 kD al 0 T136.heap n0 z136z Dz Ol_136 RB0 AL0 g_b135 gal neal) hZ (hw _ (List.mem_of_getElem? (i := 44) rfl)) (hw _ (List.mem_of_getElem? (i := 2) rfl)) (by decide) (by decide)) q142a q142c (g := (mkF m 54 #[.val (.int p1), .val (.int p2), .val (.int p3), .val (.int p4), .val (.int (1 : Int32)), .val (.int x0), .val (.int x1), .val (.int x2), .val (.int x3), .val (.int bb), .val (.ref b135), .unset] [(.int p1), (.ref b135)])) rfl (by rw [hml]; rfl) (Steps.refl _) (argsL := [(.int p1)]) (rest := []) (lenOf pd_9 rfl) rfl (by show 2 * 0 + _ ≤ _; exact Nat.le_of_eq rfl) (hb hby at_54) (fun _ _ => ⟨rfl, rfl, (by decide : 2 + 2 ≤ _), (by decide : 5 + 266 ≤ _)⟩)
    dsimp only [Pt.U, Pt.locs, Pt.cells, Pt.slots] at X142 l142 y142 z142 st142 hQ142
    subst l142 y142 z142
    obtain ⟨blk, ed, kE, kB, rfl, N142q, Kc142, RB1, On1, szb, gb, sze⟩ := hQ142
    have N142 := Fr.app N136 N142q
    have nab : b135 ≠ blk := Nat.ne_of_lt (Nat.lt_of_lt_of_le RB0.1.lt szb)
    have nae : b135 ≠ ed := Nat.ne_of_lt (Nat.lt_of_lt_of_le RB0.1.lt sze)
    rw [hx0] at On1
    have sz_blk : h0.size ≤ blk := Nat.le_trans (K136).1 szb
    have g_blk : n0 ≤ blk := gb
    have Ol_142 := Ol_136.keep Kc142 (allS g_b135 (allS g_al all0))
    have RB0_1_142 := RB0.1.keep Kc142
    have K142 : Keep h0 T142.heap [] := K136.trans Kc142 (allS (Or.inr sz_b135) (allS (Or.inr sz_al) (all0)))
    have z142z : n0 ≤ T142.heap.size := Nat.le_trans z136z Kc142.1
    by_cases hlt : own_pos p4 < (1 : Int32)
    · have hp4 : own_pos p4 < 4 := by have z : (4 : Int32).toInt = 4 := rfl; have z1 : (1 : Int32).toInt = 1 := rfl; rw [own_lti] at hlt ⊢; omega
      have p0 := own_pos0 p4
      have sm := own_small p0 hp4
      obtain ⟨nn, hnn⟩ : ∃ nn : Nat, (own_pos p4).toInt + nn = (1 : Int32).toInt := ⟨((1 : Int32).toInt - (own_pos p4).toInt).toNat, by rw [own_lti] at hlt; omega⟩
      have hget : ∀ j : Int32, ¬ j < 0 → j < (1 : Int32) → ([.int x0] : List Value).getD j.toNatClampNeg (.int (0 : Int32)) = .int (own_g x0 x1 x2 x3 j) := fun j q1 q2 => by
        have z0 : (0 : Int32).toInt = 0 := rfl
        have zk : (1 : Int32).toInt = 1 := rfl
        have z4 : (4 : Int32).toInt = 4 := rfl
        have q1' := q1
        have q2' := q2
        rw [own_lti] at q1' q2'
        rcases own_lits (x := j) (by omega) (by rw [own_lti]; omega) with rfl | rfl | rfl | rfl <;> first | rfl | exact absurd q2 (by decide)
      obtain ⟨cq143, kq143, q143a, q143b, q143c⟩ := isOf hZ rfl RB1.1
      obtain ⟨_, _, ⟨T143, L143, k143, n143⟩, -, X143, ⟨Lc143, hQ143, l143, y143, z143⟩, st143⟩ := X142.virtualBack hx (y := (⟨"com/example/darter/darter/ResultBuffer", "indexOf", "(BI)I"⟩ : MethodName)) (z := (⟨"com/example/darter/darter/ResultBuffer", "indexOf", "(BI)I"⟩ : MethodName)) hown (mvT hZ (hw _ (List.mem_of_getElem? (i := 128) rfl))) (mvT hZ (hw _ (List.mem_of_getElem? (i := 129) rfl))) (notFace_of_selects (args := #[]) (mvT hZ (hw _ (List.mem_of_getElem? (i := 131) rfl)))) (mvT hZ (hw _ (List.mem_of_getElem? (i := 131) rfl))) (mvT hZ (hw _ (List.mem_of_getElem? (i := 130) rfl))) (by decide) (backOf (W := 0) (rmI1 l Z a0 hw [] b135 bb p4 al ed blk kE kB [.int x0] (1 : Int32) (own_pos p4) (own_g x0 x1 x2 x3) nn (own_ref x0 x1 x2 x3 (1 : Int32) bb p4) T142.heap n0 z142z RB1 On1 rfl hlt sm.1 sm.2 (by decide) (by decide) p0 hnn hget (own_near x0 x1 x2 x3 bb p4 (1 : Int32) nn (by decide) hlt hnn).symm) hZ (hw _ (List.mem_of_getElem? (i := 132) rfl)) (hw _ (List.mem_of_getElem? (i := 2) rfl)) (by decide) (by decide)) q143a q143c (g := (mkF m 107 #[.val (.int p1), .val (.int p2), .val (.int p3), .val (.int p4), .val (.int (1 : Int32)), .val (.int x0), .val (.int x1), .val (.int x2), .val (.int x3), .val (.int bb), .val (.ref b135), .unset] [(.int p4), (.int bb), (.ref b135)])) rfl (by rw [hml]; rfl) (Steps.refl _) (argsL := [(.int bb), (.int p4)]) (rest := []) (lenOf pd_11 rfl) rfl (by show 2 * 0 + _ ≤ _; exact Nat.le_of_eq rfl) (hb hby at_107) (fun _ _ => ⟨rfl, rfl, (by decide : 4 + 0 ≤ _), (by decide : 271 + 0 ≤ _)⟩)
      dsimp only [Pt.U, Pt.locs, Pt.cells, Pt.slots] at X143 l143 y143 z143 st143 hQ143
      subst l143 y143 z143
      obtain ⟨rfl, N143q, he143⟩ := hQ143
      have N143 := Fr.app N142 N143q
      have Kc143 : Keep T142.heap T143.heap [] := by rw [he143]; exact Keep.refl _ _
      have K143 : Keep h0 T143.heap [] := K142.trans Kc143 all0
      have z143z : n0 ≤ T143.heap.size := Nat.le_trans z142z Kc143.1
      obtain ⟨_, _, ⟨T144, L144, k144, n144⟩, -, X144, ⟨Lc144, hQ144, l144, y144, z144⟩, st144⟩ := Jvm.LawKit.callS X143 hx (y := (⟨"com/example/darter/darter/ResultBufferIndexOfPinLaw", "ref", "(BBBBIBI)I"⟩ : MethodName)) hown (mvT hZ (hw _ (List.mem_of_getElem? (i := 133) rfl))) (mvT hZ (hw _ (List.mem_of_getElem? (i := 134) rfl))) (mvT hZ (hw _ (List.mem_of_getElem? (i := 135) rfl))) (mvT hZ (hw _ (List.mem_of_getElem? (i := 136) rfl))) (by decide) (backOf (W := 1) (rm22 l Z a0 hw [] x0 x1 x2 x3 (1 : Int32) bb p4 (own_ref x0 x1 x2 x3 (1 : Int32) bb p4) T143.heap n0 z143z rfl) hZ (hw _ (List.mem_of_getElem? (i := 136) rfl)) (hw _ (List.mem_of_getElem? (i := 135) rfl)) (by decide) (by decide)) (g := (mkF m 127 #[.val (.int p1), .val (.int p2), .val (.int p3), .val (.int p4), .val (.int (1 : Int32)), .val (.int x0), .val (.int x1), .val (.int x2), .val (.int x3), .val (.int bb), .val (.ref b135), .val (.int (own_ref x0 x1 x2 x3 (1 : Int32) bb p4))] [(.int p4), (.int bb), (.int (1 : Int32)), (.int x3), (.int x2), (.int x1), (.int x0), (.int (own_ref x0 x1 x2 x3 (1 : Int32) bb p4))])) rfl (by rw [hml]; rfl) (argsL := [(.int x0), (.int x1), (.int x2), (.int x3), (.int (1 : Int32)), (.int bb), (.int p4)]) (rest := [(.int (own_ref x0 x1 x2 x3 (1 : Int32) bb p4))]) (lenOf pd_12 rfl) rfl (by show 2 * 0 + _ ≤ _; exact Nat.le_of_eq rfl) (hb hby at_127) (fun _ _ => ⟨rfl, rfl, (by decide : 4 + 0 ≤ _), (by decide : 271 + 0 ≤ _)⟩)
      dsimp only [Pt.U, Pt.locs, Pt.cells, Pt.slots] at X144 l144 y144 z144 st144 hQ144
      subst l144 y144 z144
      obtain ⟨rfl, N144q, he144⟩ := hQ144
      have N144 := Fr.app N143 N144q
      have fl145 : ∀ target, Steps p.tables e below (T144.setTop (mkF m 138 #[.val (.int p1), .val (.int p2), .val (.int p3), .val (.int p4), .val (.int (1 : Int32)), .val (.int x0), .val (.int x1), .val (.int x2), .val (.int x3), .val (.int bb), .val (.ref b135), .val (.int (own_ref x0 x1 x2 x3 (1 : Int32) bb p4))] [(.int (1 : Int32))])) target → Steps p.tables e below (T136.setTop (mkF m 46 #[.val (.int p1), .val (.int p2), .val (.int p3), .val (.int p4), .val (.int (1 : Int32)), .val (.int x0), .val (.int x1), .val (.int x2), .val (.int x3), .val (.int bb), .val (.ref b135), .unset] [])) target := fun target kt => by
        show Steps p.tables e below (T136.setTop (mkF m 46 #[.val (.int p1), .val (.int p2), .val (.int p3), .val (.int p4), .val (.int (1 : Int32)), .val (.int x0), .val (.int x1), .val (.int x2), .val (.int x3), .val (.int bb), .val (.ref b135), .unset] [])) _
        refine XS.iload X136.here hx rfl (hb hby at_46) rfl ?_
        show Steps p.tables e below (T136.setTop (mkF m 48 #[.val (.int p1), .val (.int p2), .val (.int p3), .val (.int p4), .val (.int (1 : Int32)), .val (.int x0), .val (.int x1), .val (.int x2), .val (.int x3), .val (.int bb), .val (.ref b135), .unset] [(.int (1 : Int32))])) _
        refine XS.ifNo X136.here hx rfl (hb hby at_48) rfl ((if0 _ _).trans (tlt (by decide : (0 : Int32) < (1 : Int32))).2.2.2) ?_
        show Steps p.tables e below (T136.setTop (mkF m 51 #[.val (.int p1), .val (.int p2), .val (.int p3), .val (.int p4), .val (.int (1 : Int32)), .val (.int x0), .val (.int x1), .val (.int x2), .val (.int x3), .val (.int bb), .val (.ref b135), .unset] [])) _
        refine XS.aload X136.here hx rfl (hb hby at_51) rfl rfl ?_
        show Steps p.tables e below (T136.setTop (mkF m 53 #[.val (.int p1), .val (.int p2), .val (.int p3), .val (.int p4), .val (.int (1 : Int32)), .val (.int x0), .val (.int x1), .val (.int x2), .val (.int x3), .val (.int bb), .val (.ref b135), .unset] [(.ref b135)])) _
        refine XS.iloadN X136.here hx rfl (hb hby at_53) rfl ?_
        show Steps p.tables e below (T136.setTop (mkF m 54 #[.val (.int p1), .val (.int p2), .val (.int p3), .val (.int p4), .val (.int (1 : Int32)), .val (.int x0), .val (.int x1), .val (.int x2), .val (.int x3), .val (.int bb), .val (.ref b135), .unset] [(.int p1), (.ref b135)])) _
        refine st142.trans ?_
        show Steps p.tables e below (T142.setTop (mkF m 57 #[.val (.int p1), .val (.int p2), .val (.int p3), .val (.int p4), .val (.int (1 : Int32)), .val (.int x0), .val (.int x1), .val (.int x2), .val (.int x3), .val (.int bb), .val (.ref b135), .unset] [])) _
        refine XS.iload X142.here hx rfl (hb hby at_57) rfl ?_
        show Steps p.tables e below (T142.setTop (mkF m 59 #[.val (.int p1), .val (.int p2), .val (.int p3), .val (.int p4), .val (.int (1 : Int32)), .val (.int x0), .val (.int x1), .val (.int x2), .val (.int x3), .val (.int bb), .val (.ref b135), .unset] [(.int (1 : Int32))])) _
        refine XS.iconst X142.here hx rfl (hb hby at_59) ?_
        show Steps p.tables e below (T142.setTop (mkF m 60 #[.val (.int p1), .val (.int p2), .val (.int p3), .val (.int p4), .val (.int (1 : Int32)), .val (.int x0), .val (.int x1), .val (.int x2), .val (.int x3), .val (.int bb), .val (.ref b135), .unset] [(.int (1 : Int32)), (.int (1 : Int32))])) _
        refine XS.icmpYes X142.here hx rfl (pc0 := 60) (pc' := 72) rfl (hb hby at_60) rfl (flt (by decide : ¬ ((1 : Int32) < (1 : Int32)))).2.2.2 (by decide) (by decide) ?_
        show Steps p.tables e below (T142.setTop (mkF m 72 #[.val (.int p1), .val (.int p2), .val (.int p3), .val (.int p4), .val (.int (1 : Int32)), .val (.int x0), .val (.int x1), .val (.int x2), .val (.int x3), .val (.int bb), .val (.ref b135), .unset] [])) _
        refine XS.iload X142.here hx rfl (hb hby at_72) rfl ?_
        show Steps p.tables e below (T142.setTop (mkF m 74 #[.val (.int p1), .val (.int p2), .val (.int p3), .val (.int p4), .val (.int (1 : Int32)), .val (.int x0), .val (.int x1), .val (.int x2), .val (.int x3), .val (.int bb), .val (.ref b135), .unset] [(.int (1 : Int32))])) _
        refine XS.iconst X142.here hx rfl (hb hby at_74) ?_
        show Steps p.tables e below (T142.setTop (mkF m 75 #[.val (.int p1), .val (.int p2), .val (.int p3), .val (.int p4), .val (.int (1 : Int32)), .val (.int x0), .val (.int x1), .val (.int x2), .val (.int x3), .val (.int bb), .val (.ref b135), .unset] [(.int (2 : Int32)), (.int (1 : Int32))])) _
        refine XS.icmpYes X142.here hx rfl (pc0 := 75) (pc' := 87) rfl (hb hby at_75) rfl (flt (by decide : ¬ ((2 : Int32) < (1 : Int32)))).2.2.2 (by decide) (by decide) ?_
        show Steps p.tables e below (T142.setTop (mkF m 87 #[.val (.int p1), .val (.int p2), .val (.int p3), .val (.int p4), .val (.int (1 : Int32)), .val (.int x0), .val (.int x1), .val (.int x2), .val (.int x3), .val (.int bb), .val (.ref b135), .unset] [])) _
        refine XS.iload X142.here hx rfl (hb hby at_87) rfl ?_
        show Steps p.tables e below (T142.setTop (mkF m 89 #[.val (.int p1), .val (.int p2), .val (.int p3), .val (.int p4), .val (.int (1 : Int32)), .val (.int x0), .val (.int x1), .val (.int x2), .val (.int x3), .val (.int bb), .val (.ref b135), .unset] [(.int (1 : Int32))])) _
        refine XS.iconst X142.here hx rfl (hb hby at_89) ?_
        show Steps p.tables e below (T142.setTop (mkF m 90 #[.val (.int p1), .val (.int p2), .val (.int p3), .val (.int p4), .val (.int (1 : Int32)), .val (.int x0), .val (.int x1), .val (.int x2), .val (.int x3), .val (.int bb), .val (.ref b135), .unset] [(.int (3 : Int32)), (.int (1 : Int32))])) _
        refine XS.icmpYes X142.here hx rfl (pc0 := 90) (pc' := 102) rfl (hb hby at_90) rfl (flt (by decide : ¬ ((3 : Int32) < (1 : Int32)))).2.2.2 (by decide) (by decide) ?_
        show Steps p.tables e below (T142.setTop (mkF m 102 #[.val (.int p1), .val (.int p2), .val (.int p3), .val (.int p4), .val (.int (1 : Int32)), .val (.int x0), .val (.int x1), .val (.int x2), .val (.int x3), .val (.int bb), .val (.ref b135), .unset] [])) _
        refine XS.aload X142.here hx rfl (hb hby at_102) rfl rfl ?_
        show Steps p.tables e below (T142.setTop (mkF m 104 #[.val (.int p1), .val (.int p2), .val (.int p3), .val (.int p4), .val (.int (1 : Int32)), .val (.int x0), .val (.int x1), .val (.int x2), .val (.int x3), .val (.int bb), .val (.ref b135), .unset] [(.ref b135)])) _
        refine XS.iload X142.here hx rfl (hb hby at_104) rfl ?_
        show Steps p.tables e below (T142.setTop (mkF m 106 #[.val (.int p1), .val (.int p2), .val (.int p3), .val (.int p4), .val (.int (1 : Int32)), .val (.int x0), .val (.int x1), .val (.int x2), .val (.int x3), .val (.int bb), .val (.ref b135), .unset] [(.int bb), (.ref b135)])) _
        refine XS.iloadN X142.here hx rfl (hb hby at_106) rfl ?_
        show Steps p.tables e below (T142.setTop (mkF m 107 #[.val (.int p1), .val (.int p2), .val (.int p3), .val (.int p4), .val (.int (1 : Int32)), .val (.int x0), .val (.int x1), .val (.int x2), .val (.int x3), .val (.int bb), .val (.ref b135), .unset] [(.int p4), (.int bb), (.ref b135)])) _
        refine st143.trans ?_
        show Steps p.tables e below (T143.setTop (mkF m 110 #[.val (.int p1), .val (.int p2), .val (.int p3), .val (.int p4), .val (.int (1 : Int32)), .val (.int x0), .val (.int x1), .val (.int x2), .val (.int x3), .val (.int bb), .val (.ref b135), .unset] [(.int (own_ref x0 x1 x2 x3 (1 : Int32) bb p4))])) _
        refine XS.istore X143.here hx rfl (hb hby at_110) rfl (l' := #[.val (.int p1), .val (.int p2), .val (.int p3), .val (.int p4), .val (.int (1 : Int32)), .val (.int x0), .val (.int x1), .val (.int x2), .val (.int x3), .val (.int bb), .val (.ref b135), .val (.int (own_ref x0 x1 x2 x3 (1 : Int32) bb p4))]) rfl ?_
        show Steps p.tables e below (T143.setTop (mkF m 112 #[.val (.int p1), .val (.int p2), .val (.int p3), .val (.int p4), .val (.int (1 : Int32)), .val (.int x0), .val (.int x1), .val (.int x2), .val (.int x3), .val (.int bb), .val (.ref b135), .val (.int (own_ref x0 x1 x2 x3 (1 : Int32) bb p4))] [])) _
        refine XS.iload X143.here hx rfl (hb hby at_112) rfl ?_
        show Steps p.tables e below (T143.setTop (mkF m 114 #[.val (.int p1), .val (.int p2), .val (.int p3), .val (.int p4), .val (.int (1 : Int32)), .val (.int x0), .val (.int x1), .val (.int x2), .val (.int x3), .val (.int bb), .val (.ref b135), .val (.int (own_ref x0 x1 x2 x3 (1 : Int32) bb p4))] [(.int (own_ref x0 x1 x2 x3 (1 : Int32) bb p4))])) _
        refine XS.iload X143.here hx rfl (hb hby at_114) rfl ?_
        show Steps p.tables e below (T143.setTop (mkF m 116 #[.val (.int p1), .val (.int p2), .val (.int p3), .val (.int p4), .val (.int (1 : Int32)), .val (.int x0), .val (.int x1), .val (.int x2), .val (.int x3), .val (.int bb), .val (.ref b135), .val (.int (own_ref x0 x1 x2 x3 (1 : Int32) bb p4))] [(.int x0), (.int (own_ref x0 x1 x2 x3 (1 : Int32) bb p4))])) _
        refine XS.iload X143.here hx rfl (hb hby at_116) rfl ?_
        show Steps p.tables e below (T143.setTop (mkF m 118 #[.val (.int p1), .val (.int p2), .val (.int p3), .val (.int p4), .val (.int (1 : Int32)), .val (.int x0), .val (.int x1), .val (.int x2), .val (.int x3), .val (.int bb), .val (.ref b135), .val (.int (own_ref x0 x1 x2 x3 (1 : Int32) bb p4))] [(.int x1), (.int x0), (.int (own_ref x0 x1 x2 x3 (1 : Int32) bb p4))])) _
        refine XS.iload X143.here hx rfl (hb hby at_118) rfl ?_
        show Steps p.tables e below (T143.setTop (mkF m 120 #[.val (.int p1), .val (.int p2), .val (.int p3), .val (.int p4), .val (.int (1 : Int32)), .val (.int x0), .val (.int x1), .val (.int x2), .val (.int x3), .val (.int bb), .val (.ref b135), .val (.int (own_ref x0 x1 x2 x3 (1 : Int32) bb p4))] [(.int x2), (.int x1), (.int x0), (.int (own_ref x0 x1 x2 x3 (1 : Int32) bb p4))])) _
        refine XS.iload X143.here hx rfl (hb hby at_120) rfl ?_
        show Steps p.tables e below (T143.setTop (mkF m 122 #[.val (.int p1), .val (.int p2), .val (.int p3), .val (.int p4), .val (.int (1 : Int32)), .val (.int x0), .val (.int x1), .val (.int x2), .val (.int x3), .val (.int bb), .val (.ref b135), .val (.int (own_ref x0 x1 x2 x3 (1 : Int32) bb p4))] [(.int x3), (.int x2), (.int x1), (.int x0), (.int (own_ref x0 x1 x2 x3 (1 : Int32) bb p4))])) _
        refine XS.iload X143.here hx rfl (hb hby at_122) rfl ?_
        show Steps p.tables e below (T143.setTop (mkF m 124 #[.val (.int p1), .val (.int p2), .val (.int p3), .val (.int p4), .val (.int (1 : Int32)), .val (.int x0), .val (.int x1), .val (.int x2), .val (.int x3), .val (.int bb), .val (.ref b135), .val (.int (own_ref x0 x1 x2 x3 (1 : Int32) bb p4))] [(.int (1 : Int32)), (.int x3), (.int x2), (.int x1), (.int x0), (.int (own_ref x0 x1 x2 x3 (1 : Int32) bb p4))])) _
        refine XS.iload X143.here hx rfl (hb hby at_124) rfl ?_
        show Steps p.tables e below (T143.setTop (mkF m 126 #[.val (.int p1), .val (.int p2), .val (.int p3), .val (.int p4), .val (.int (1 : Int32)), .val (.int x0), .val (.int x1), .val (.int x2), .val (.int x3), .val (.int bb), .val (.ref b135), .val (.int (own_ref x0 x1 x2 x3 (1 : Int32) bb p4))] [(.int bb), (.int (1 : Int32)), (.int x3), (.int x2), (.int x1), (.int x0), (.int (own_ref x0 x1 x2 x3 (1 : Int32) bb p4))])) _
        refine XS.iloadN X143.here hx rfl (hb hby at_126) rfl ?_
        show Steps p.tables e below (T143.setTop (mkF m 127 #[.val (.int p1), .val (.int p2), .val (.int p3), .val (.int p4), .val (.int (1 : Int32)), .val (.int x0), .val (.int x1), .val (.int x2), .val (.int x3), .val (.int bb), .val (.ref b135), .val (.int (own_ref x0 x1 x2 x3 (1 : Int32) bb p4))] [(.int p4), (.int bb), (.int (1 : Int32)), (.int x3), (.int x2), (.int x1), (.int x0), (.int (own_ref x0 x1 x2 x3 (1 : Int32) bb p4))])) _
        refine st144 _ ?_
        show Steps p.tables e below (T144.setTop (mkF m 130 #[.val (.int p1), .val (.int p2), .val (.int p3), .val (.int p4), .val (.int (1 : Int32)), .val (.int x0), .val (.int x1), .val (.int x2), .val (.int x3), .val (.int bb), .val (.ref b135), .val (.int (own_ref x0 x1 x2 x3 (1 : Int32) bb p4))] [(.int (own_ref x0 x1 x2 x3 (1 : Int32) bb p4)), (.int (own_ref x0 x1 x2 x3 (1 : Int32) bb p4))])) _
        refine XS.icmpNo X144.here hx rfl (hb hby at_130) rfl (teq (rfl : (own_ref x0 x1 x2 x3 (1 : Int32) bb p4) = (own_ref x0 x1 x2 x3 (1 : Int32) bb p4))).2 ?_
        show Steps p.tables e below (T144.setTop (mkF m 133 #[.val (.int p1), .val (.int p2), .val (.int p3), .val (.int p4), .val (.int (1 : Int32)), .val (.int x0), .val (.int x1), .val (.int x2), .val (.int x3), .val (.int bb), .val (.ref b135), .val (.int (own_ref x0 x1 x2 x3 (1 : Int32) bb p4))] [])) _
        refine XS.iconst X144.here hx rfl (hb hby at_133) ?_
        show Steps p.tables e below (T144.setTop (mkF m 134 #[.val (.int p1), .val (.int p2), .val (.int p3), .val (.int p4), .val (.int (1 : Int32)), .val (.int x0), .val (.int x1), .val (.int x2), .val (.int x3), .val (.int bb), .val (.ref b135), .val (.int (own_ref x0 x1 x2 x3 (1 : Int32) bb p4))] [(.int (1 : Int32))])) _
        refine XS.goto X144.here hx rfl (pc0 := 134) (pc' := 138) rfl (hb hby at_134) (by decide) (by decide) ?_
        exact kt
      obtain ⟨fs, hrt, hrun, hended, hW, hsame⟩ := X144.leave (v := some (.int (1 : Int32))) (fun h => by rw [Bd.returns] at h; cases h)
      refine ⟨_, _, pre0 _ (fl133 _ (fl134 _ (fl137 _ (fl145 _ ?_)))), hrun, hended, _, _, rfl, ?_, ⟨_, rfl⟩, hW, hsame.mono (by decide) (by decide)⟩
      · exact retN X144 hx (t := .boolean) Bd.returns (by simp) (hb hby at_138) hrt
      · show Q0 _ _ _ _ _ _ _ _ _ _ T144.heap _
        exact ⟨rfl, N144⟩
    · obtain ⟨cq146, kq146, q146a, q146b, q146c⟩ := isOf hZ rfl RB1.1
      obtain ⟨_, _, ⟨T146, L146, k146, n146⟩, -, X146, ⟨Lc146, hQ146, l146, y146, z146⟩, st146⟩ := X142.virtualBack hx (y := (⟨"com/example/darter/darter/ResultBuffer", "indexOf", "(BI)I"⟩ : MethodName)) (z := (⟨"com/example/darter/darter/ResultBuffer", "indexOf", "(BI)I"⟩ : MethodName)) hown (mvT hZ (hw _ (List.mem_of_getElem? (i := 128) rfl))) (mvT hZ (hw _ (List.mem_of_getElem? (i := 129) rfl))) (notFace_of_selects (args := #[]) (mvT hZ (hw _ (List.mem_of_getElem? (i := 131) rfl)))) (mvT hZ (hw _ (List.mem_of_getElem? (i := 131) rfl))) (mvT hZ (hw _ (List.mem_of_getElem? (i := 130) rfl))) (by decide) (backOf (W := 0) (rmI0 l Z a0 hw [] b135 bb p4 al (1 : Int32) (own_pos p4) T142.heap n0 z142z RB1 rfl hlt) hZ (hw _ (List.mem_of_getElem? (i := 132) rfl)) (hw _ (List.mem_of_getElem? (i := 2) rfl)) (by decide) (by decide)) q146a q146c (g := (mkF m 107 #[.val (.int p1), .val (.int p2), .val (.int p3), .val (.int p4), .val (.int (1 : Int32)), .val (.int x0), .val (.int x1), .val (.int x2), .val (.int x3), .val (.int bb), .val (.ref b135), .unset] [(.int p4), (.int bb), (.ref b135)])) rfl (by rw [hml]; rfl) (Steps.refl _) (argsL := [(.int bb), (.int p4)]) (rest := []) (lenOf pd_11 rfl) rfl (by show 2 * 0 + _ ≤ _; exact Nat.le_of_eq rfl) (hb hby at_107) (fun _ _ => ⟨rfl, rfl, (by decide : 4 + 0 ≤ _), (by decide : 271 + 0 ≤ _)⟩)
      dsimp only [Pt.U, Pt.locs, Pt.cells, Pt.slots] at X146 l146 y146 z146 st146 hQ146
      subst l146 y146 z146
      obtain ⟨rfl, N146q, he146⟩ := hQ146
      have N146 := Fr.app N142 N146q
      have Kc146 : Keep T142.heap T146.heap [] := by rw [he146]; exact Keep.refl _ _
      have K146 : Keep h0 T146.heap [] := K142.trans Kc146 all0
      have z146z : n0 ≤ T146.heap.size := Nat.le_trans z142z Kc146.1
      have fl147 : ∀ target, Steps p.tables e below (T146.setTop (mkF m 110 #[.val (.int p1), .val (.int p2), .val (.int p3), .val (.int p4), .val (.int (1 : Int32)), .val (.int x0), .val (.int x1), .val (.int x2), .val (.int x3), .val (.int bb), .val (.ref b135), .unset] [(.int (-1 : Int32))])) target → Steps p.tables e below (T136.setTop (mkF m 46 #[.val (.int p1), .val (.int p2), .val (.int p3), .val (.int p4), .val (.int (1 : Int32)), .val (.int x0), .val (.int x1), .val (.int x2), .val (.int x3), .val (.int bb), .val (.ref b135), .unset] [])) target := fun target kt => by
        show Steps p.tables e below (T136.setTop (mkF m 46 #[.val (.int p1), .val (.int p2), .val (.int p3), .val (.int p4), .val (.int (1 : Int32)), .val (.int x0), .val (.int x1), .val (.int x2), .val (.int x3), .val (.int bb), .val (.ref b135), .unset] [])) _
        refine XS.iload X136.here hx rfl (hb hby at_46) rfl ?_
        show Steps p.tables e below (T136.setTop (mkF m 48 #[.val (.int p1), .val (.int p2), .val (.int p3), .val (.int p4), .val (.int (1 : Int32)), .val (.int x0), .val (.int x1), .val (.int x2), .val (.int x3), .val (.int bb), .val (.ref b135), .unset] [(.int (1 : Int32))])) _
        refine XS.ifNo X136.here hx rfl (hb hby at_48) rfl ((if0 _ _).trans (tlt (by decide : (0 : Int32) < (1 : Int32))).2.2.2) ?_
        show Steps p.tables e below (T136.setTop (mkF m 51 #[.val (.int p1), .val (.int p2), .val (.int p3), .val (.int p4), .val (.int (1 : Int32)), .val (.int x0), .val (.int x1), .val (.int x2), .val (.int x3), .val (.int bb), .val (.ref b135), .unset] [])) _
        refine XS.aload X136.here hx rfl (hb hby at_51) rfl rfl ?_
        show Steps p.tables e below (T136.setTop (mkF m 53 #[.val (.int p1), .val (.int p2), .val (.int p3), .val (.int p4), .val (.int (1 : Int32)), .val (.int x0), .val (.int x1), .val (.int x2), .val (.int x3), .val (.int bb), .val (.ref b135), .unset] [(.ref b135)])) _
        refine XS.iloadN X136.here hx rfl (hb hby at_53) rfl ?_
        show Steps p.tables e below (T136.setTop (mkF m 54 #[.val (.int p1), .val (.int p2), .val (.int p3), .val (.int p4), .val (.int (1 : Int32)), .val (.int x0), .val (.int x1), .val (.int x2), .val (.int x3), .val (.int bb), .val (.ref b135), .unset] [(.int p1), (.ref b135)])) _
        refine st142.trans ?_
        show Steps p.tables e below (T142.setTop (mkF m 57 #[.val (.int p1), .val (.int p2), .val (.int p3), .val (.int p4), .val (.int (1 : Int32)), .val (.int x0), .val (.int x1), .val (.int x2), .val (.int x3), .val (.int bb), .val (.ref b135), .unset] [])) _
        refine XS.iload X142.here hx rfl (hb hby at_57) rfl ?_
        show Steps p.tables e below (T142.setTop (mkF m 59 #[.val (.int p1), .val (.int p2), .val (.int p3), .val (.int p4), .val (.int (1 : Int32)), .val (.int x0), .val (.int x1), .val (.int x2), .val (.int x3), .val (.int bb), .val (.ref b135), .unset] [(.int (1 : Int32))])) _
        refine XS.iconst X142.here hx rfl (hb hby at_59) ?_
        show Steps p.tables e below (T142.setTop (mkF m 60 #[.val (.int p1), .val (.int p2), .val (.int p3), .val (.int p4), .val (.int (1 : Int32)), .val (.int x0), .val (.int x1), .val (.int x2), .val (.int x3), .val (.int bb), .val (.ref b135), .unset] [(.int (1 : Int32)), (.int (1 : Int32))])) _
        refine XS.icmpYes X142.here hx rfl (pc0 := 60) (pc' := 72) rfl (hb hby at_60) rfl (flt (by decide : ¬ ((1 : Int32) < (1 : Int32)))).2.2.2 (by decide) (by decide) ?_
        show Steps p.tables e below (T142.setTop (mkF m 72 #[.val (.int p1), .val (.int p2), .val (.int p3), .val (.int p4), .val (.int (1 : Int32)), .val (.int x0), .val (.int x1), .val (.int x2), .val (.int x3), .val (.int bb), .val (.ref b135), .unset] [])) _
        refine XS.iload X142.here hx rfl (hb hby at_72) rfl ?_
        show Steps p.tables e below (T142.setTop (mkF m 74 #[.val (.int p1), .val (.int p2), .val (.int p3), .val (.int p4), .val (.int (1 : Int32)), .val (.int x0), .val (.int x1), .val (.int x2), .val (.int x3), .val (.int bb), .val (.ref b135), .unset] [(.int (1 : Int32))])) _
        refine XS.iconst X142.here hx rfl (hb hby at_74) ?_
        show Steps p.tables e below (T142.setTop (mkF m 75 #[.val (.int p1), .val (.int p2), .val (.int p3), .val (.int p4), .val (.int (1 : Int32)), .val (.int x0), .val (.int x1), .val (.int x2), .val (.int x3), .val (.int bb), .val (.ref b135), .unset] [(.int (2 : Int32)), (.int (1 : Int32))])) _
        refine XS.icmpYes X142.here hx rfl (pc0 := 75) (pc' := 87) rfl (hb hby at_75) rfl (flt (by decide : ¬ ((2 : Int32) < (1 : Int32)))).2.2.2 (by decide) (by decide) ?_
        show Steps p.tables e below (T142.setTop (mkF m 87 #[.val (.int p1), .val (.int p2), .val (.int p3), .val (.int p4), .val (.int (1 : Int32)), .val (.int x0), .val (.int x1), .val (.int x2), .val (.int x3), .val (.int bb), .val (.ref b135), .unset] [])) _
        refine XS.iload X142.here hx rfl (hb hby at_87) rfl ?_
        show Steps p.tables e below (T142.setTop (mkF m 89 #[.val (.int p1), .val (.int p2), .val (.int p3), .val (.int p4), .val (.int (1 : Int32)), .val (.int x0), .val (.int x1), .val (.int x2), .val (.int x3), .val (.int bb), .val (.ref b135), .unset] [(.int (1 : Int32))])) _
        refine XS.iconst X142.here hx rfl (hb hby at_89) ?_
        show Steps p.tables e below (T142.setTop (mkF m 90 #[.val (.int p1), .val (.int p2), .val (.int p3), .val (.int p4), .val (.int (1 : Int32)), .val (.int x0), .val (.int x1), .val (.int x2), .val (.int x3), .val (.int bb), .val (.ref b135), .unset] [(.int (3 : Int32)), (.int (1 : Int32))])) _
        refine XS.icmpYes X142.here hx rfl (pc0 := 90) (pc' := 102) rfl (hb hby at_90) rfl (flt (by decide : ¬ ((3 : Int32) < (1 : Int32)))).2.2.2 (by decide) (by decide) ?_
        show Steps p.tables e below (T142.setTop (mkF m 102 #[.val (.int p1), .val (.int p2), .val (.int p3), .val (.int p4), .val (.int (1 : Int32)), .val (.int x0), .val (.int x1), .val (.int x2), .val (.int x3), .val (.int bb), .val (.ref b135), .unset] [])) _
        refine XS.aload X142.here hx rfl (hb hby at_102) rfl rfl ?_
        show Steps p.tables e below (T142.setTop (mkF m 104 #[.val (.int p1), .val (.int p2), .val (.int p3), .val (.int p4), .val (.int (1 : Int32)), .val (.int x0), .val (.int x1), .val (.int x2), .val (.int x3), .val (.int bb), .val (.ref b135), .unset] [(.ref b135)])) _
        refine XS.iload X142.here hx rfl (hb hby at_104) rfl ?_
        show Steps p.tables e below (T142.setTop (mkF m 106 #[.val (.int p1), .val (.int p2), .val (.int p3), .val (.int p4), .val (.int (1 : Int32)), .val (.int x0), .val (.int x1), .val (.int x2), .val (.int x3), .val (.int bb), .val (.ref b135), .unset] [(.int bb), (.ref b135)])) _
        refine XS.iloadN X142.here hx rfl (hb hby at_106) rfl ?_
        show Steps p.tables e below (T142.setTop (mkF m 107 #[.val (.int p1), .val (.int p2), .val (.int p3), .val (.int p4), .val (.int (1 : Int32)), .val (.int x0), .val (.int x1), .val (.int x2), .val (.int x3), .val (.int bb), .val (.ref b135), .unset] [(.int p4), (.int bb), (.ref b135)])) _
        refine st146.trans ?_
        exact kt
      rw [own_far x0 x1 x2 x3 bb p4 (1 : Int32) (by decide) hlt (by decide)] at fl147
      obtain ⟨_, _, ⟨T148, L148, k148, n148⟩, -, X148, ⟨Lc148, hQ148, l148, y148, z148⟩, st148⟩ := Jvm.LawKit.callS X146 hx (y := (⟨"com/example/darter/darter/ResultBufferIndexOfPinLaw", "ref", "(BBBBIBI)I"⟩ : MethodName)) hown (mvT hZ (hw _ (List.mem_of_getElem? (i := 133) rfl))) (mvT hZ (hw _ (List.mem_of_getElem? (i := 134) rfl))) (mvT hZ (hw _ (List.mem_of_getElem? (i := 135) rfl))) (mvT hZ (hw _ (List.mem_of_getElem? (i := 136) rfl))) (by decide) (backOf (W := 1) (rm22 l Z a0 hw [] x0 x1 x2 x3 (1 : Int32) bb p4 (own_ref x0 x1 x2 x3 (1 : Int32) bb p4) T146.heap n0 z146z rfl) hZ (hw _ (List.mem_of_getElem? (i := 136) rfl)) (hw _ (List.mem_of_getElem? (i := 135) rfl)) (by decide) (by decide)) (g := (mkF m 127 #[.val (.int p1), .val (.int p2), .val (.int p3), .val (.int p4), .val (.int (1 : Int32)), .val (.int x0), .val (.int x1), .val (.int x2), .val (.int x3), .val (.int bb), .val (.ref b135), .val (.int (own_ref x0 x1 x2 x3 (1 : Int32) bb p4))] [(.int p4), (.int bb), (.int (1 : Int32)), (.int x3), (.int x2), (.int x1), (.int x0), (.int (own_ref x0 x1 x2 x3 (1 : Int32) bb p4))])) rfl (by rw [hml]; rfl) (argsL := [(.int x0), (.int x1), (.int x2), (.int x3), (.int (1 : Int32)), (.int bb), (.int p4)]) (rest := [(.int (own_ref x0 x1 x2 x3 (1 : Int32) bb p4))]) (lenOf pd_12 rfl) rfl (by show 2 * 0 + _ ≤ _; exact Nat.le_of_eq rfl) (hb hby at_127) (fun _ _ => ⟨rfl, rfl, (by decide : 4 + 0 ≤ _), (by decide : 271 + 0 ≤ _)⟩)
      dsimp only [Pt.U, Pt.locs, Pt.cells, Pt.slots] at X148 l148 y148 z148 st148 hQ148
      subst l148 y148 z148
      obtain ⟨rfl, N148q, he148⟩ := hQ148
      have N148 := Fr.app N146 N148q
      have fl149 : ∀ target, Steps p.tables e below (T148.setTop (mkF m 138 #[.val (.int p1), .val (.int p2), .val (.int p3), .val (.int p4), .val (.int (1 : Int32)), .val (.int x0), .val (.int x1), .val (.int x2), .val (.int x3), .val (.int bb), .val (.ref b135), .val (.int (own_ref x0 x1 x2 x3 (1 : Int32) bb p4))] [(.int (1 : Int32))])) target → Steps p.tables e below (T146.setTop (mkF m 110 #[.val (.int p1), .val (.int p2), .val (.int p3), .val (.int p4), .val (.int (1 : Int32)), .val (.int x0), .val (.int x1), .val (.int x2), .val (.int x3), .val (.int bb), .val (.ref b135), .unset] [(.int (own_ref x0 x1 x2 x3 (1 : Int32) bb p4))])) target := fun target kt => by
        show Steps p.tables e below (T146.setTop (mkF m 110 #[.val (.int p1), .val (.int p2), .val (.int p3), .val (.int p4), .val (.int (1 : Int32)), .val (.int x0), .val (.int x1), .val (.int x2), .val (.int x3), .val (.int bb), .val (.ref b135), .unset] [(.int (own_ref x0 x1 x2 x3 (1 : Int32) bb p4))])) _
        refine XS.istore X146.here hx rfl (hb hby at_110) rfl (l' := #[.val (.int p1), .val (.int p2), .val (.int p3), .val (.int p4), .val (.int (1 : Int32)), .val (.int x0), .val (.int x1), .val (.int x2), .val (.int x3), .val (.int bb), .val (.ref b135), .val (.int (own_ref x0 x1 x2 x3 (1 : Int32) bb p4))]) rfl ?_
        show Steps p.tables e below (T146.setTop (mkF m 112 #[.val (.int p1), .val (.int p2), .val (.int p3), .val (.int p4), .val (.int (1 : Int32)), .val (.int x0), .val (.int x1), .val (.int x2), .val (.int x3), .val (.int bb), .val (.ref b135), .val (.int (own_ref x0 x1 x2 x3 (1 : Int32) bb p4))] [])) _
        refine XS.iload X146.here hx rfl (hb hby at_112) rfl ?_
        show Steps p.tables e below (T146.setTop (mkF m 114 #[.val (.int p1), .val (.int p2), .val (.int p3), .val (.int p4), .val (.int (1 : Int32)), .val (.int x0), .val (.int x1), .val (.int x2), .val (.int x3), .val (.int bb), .val (.ref b135), .val (.int (own_ref x0 x1 x2 x3 (1 : Int32) bb p4))] [(.int (own_ref x0 x1 x2 x3 (1 : Int32) bb p4))])) _
        refine XS.iload X146.here hx rfl (hb hby at_114) rfl ?_
        show Steps p.tables e below (T146.setTop (mkF m 116 #[.val (.int p1), .val (.int p2), .val (.int p3), .val (.int p4), .val (.int (1 : Int32)), .val (.int x0), .val (.int x1), .val (.int x2), .val (.int x3), .val (.int bb), .val (.ref b135), .val (.int (own_ref x0 x1 x2 x3 (1 : Int32) bb p4))] [(.int x0), (.int (own_ref x0 x1 x2 x3 (1 : Int32) bb p4))])) _
        refine XS.iload X146.here hx rfl (hb hby at_116) rfl ?_
        show Steps p.tables e below (T146.setTop (mkF m 118 #[.val (.int p1), .val (.int p2), .val (.int p3), .val (.int p4), .val (.int (1 : Int32)), .val (.int x0), .val (.int x1), .val (.int x2), .val (.int x3), .val (.int bb), .val (.ref b135), .val (.int (own_ref x0 x1 x2 x3 (1 : Int32) bb p4))] [(.int x1), (.int x0), (.int (own_ref x0 x1 x2 x3 (1 : Int32) bb p4))])) _
        refine XS.iload X146.here hx rfl (hb hby at_118) rfl ?_
        show Steps p.tables e below (T146.setTop (mkF m 120 #[.val (.int p1), .val (.int p2), .val (.int p3), .val (.int p4), .val (.int (1 : Int32)), .val (.int x0), .val (.int x1), .val (.int x2), .val (.int x3), .val (.int bb), .val (.ref b135), .val (.int (own_ref x0 x1 x2 x3 (1 : Int32) bb p4))] [(.int x2), (.int x1), (.int x0), (.int (own_ref x0 x1 x2 x3 (1 : Int32) bb p4))])) _
        refine XS.iload X146.here hx rfl (hb hby at_120) rfl ?_
        show Steps p.tables e below (T146.setTop (mkF m 122 #[.val (.int p1), .val (.int p2), .val (.int p3), .val (.int p4), .val (.int (1 : Int32)), .val (.int x0), .val (.int x1), .val (.int x2), .val (.int x3), .val (.int bb), .val (.ref b135), .val (.int (own_ref x0 x1 x2 x3 (1 : Int32) bb p4))] [(.int x3), (.int x2), (.int x1), (.int x0), (.int (own_ref x0 x1 x2 x3 (1 : Int32) bb p4))])) _
        refine XS.iload X146.here hx rfl (hb hby at_122) rfl ?_
        show Steps p.tables e below (T146.setTop (mkF m 124 #[.val (.int p1), .val (.int p2), .val (.int p3), .val (.int p4), .val (.int (1 : Int32)), .val (.int x0), .val (.int x1), .val (.int x2), .val (.int x3), .val (.int bb), .val (.ref b135), .val (.int (own_ref x0 x1 x2 x3 (1 : Int32) bb p4))] [(.int (1 : Int32)), (.int x3), (.int x2), (.int x1), (.int x0), (.int (own_ref x0 x1 x2 x3 (1 : Int32) bb p4))])) _
        refine XS.iload X146.here hx rfl (hb hby at_124) rfl ?_
        show Steps p.tables e below (T146.setTop (mkF m 126 #[.val (.int p1), .val (.int p2), .val (.int p3), .val (.int p4), .val (.int (1 : Int32)), .val (.int x0), .val (.int x1), .val (.int x2), .val (.int x3), .val (.int bb), .val (.ref b135), .val (.int (own_ref x0 x1 x2 x3 (1 : Int32) bb p4))] [(.int bb), (.int (1 : Int32)), (.int x3), (.int x2), (.int x1), (.int x0), (.int (own_ref x0 x1 x2 x3 (1 : Int32) bb p4))])) _
        refine XS.iloadN X146.here hx rfl (hb hby at_126) rfl ?_
        show Steps p.tables e below (T146.setTop (mkF m 127 #[.val (.int p1), .val (.int p2), .val (.int p3), .val (.int p4), .val (.int (1 : Int32)), .val (.int x0), .val (.int x1), .val (.int x2), .val (.int x3), .val (.int bb), .val (.ref b135), .val (.int (own_ref x0 x1 x2 x3 (1 : Int32) bb p4))] [(.int p4), (.int bb), (.int (1 : Int32)), (.int x3), (.int x2), (.int x1), (.int x0), (.int (own_ref x0 x1 x2 x3 (1 : Int32) bb p4))])) _
        refine st148 _ ?_
        show Steps p.tables e below (T148.setTop (mkF m 130 #[.val (.int p1), .val (.int p2), .val (.int p3), .val (.int p4), .val (.int (1 : Int32)), .val (.int x0), .val (.int x1), .val (.int x2), .val (.int x3), .val (.int bb), .val (.ref b135), .val (.int (own_ref x0 x1 x2 x3 (1 : Int32) bb p4))] [(.int (own_ref x0 x1 x2 x3 (1 : Int32) bb p4)), (.int (own_ref x0 x1 x2 x3 (1 : Int32) bb p4))])) _
        refine XS.icmpNo X148.here hx rfl (hb hby at_130) rfl (teq (rfl : (own_ref x0 x1 x2 x3 (1 : Int32) bb p4) = (own_ref x0 x1 x2 x3 (1 : Int32) bb p4))).2 ?_
        show Steps p.tables e below (T148.setTop (mkF m 133 #[.val (.int p1), .val (.int p2), .val (.int p3), .val (.int p4), .val (.int (1 : Int32)), .val (.int x0), .val (.int x1), .val (.int x2), .val (.int x3), .val (.int bb), .val (.ref b135), .val (.int (own_ref x0 x1 x2 x3 (1 : Int32) bb p4))] [])) _
        refine XS.iconst X148.here hx rfl (hb hby at_133) ?_
        show Steps p.tables e below (T148.setTop (mkF m 134 #[.val (.int p1), .val (.int p2), .val (.int p3), .val (.int p4), .val (.int (1 : Int32)), .val (.int x0), .val (.int x1), .val (.int x2), .val (.int x3), .val (.int bb), .val (.ref b135), .val (.int (own_ref x0 x1 x2 x3 (1 : Int32) bb p4))] [(.int (1 : Int32))])) _
        refine XS.goto X148.here hx rfl (pc0 := 134) (pc' := 138) rfl (hb hby at_134) (by decide) (by decide) ?_
        exact kt
      obtain ⟨fs, hrt, hrun, hended, hW, hsame⟩ := X148.leave (v := some (.int (1 : Int32))) (fun h => by rw [Bd.returns] at h; cases h)
      refine ⟨_, _, pre0 _ (fl133 _ (fl134 _ (fl137 _ (fl147 _ (fl149 _ ?_))))), hrun, hended, _, _, rfl, ?_, ⟨_, rfl⟩, hW, hsame.mono (by decide) (by decide)⟩
      · exact retN X148 hx (t := .boolean) Bd.returns (by simp) (hb hby at_138) hrt
      · show Q0 _ _ _ _ _ _ _ _ _ _ T148.heap _
        exact ⟨rfl, N148⟩
  · obtain ⟨cq150, kq150, q150a, q150b, q150c⟩ := isOf hZ rfl RB0.1
    obtain ⟨_, _, ⟨T150, L150, k150, n150⟩, -, X150, ⟨Lc150, hQ150, l150, y150, z150⟩, st150⟩ := X136.virtualBack hx (y := (⟨"com/example/darter/darter/ResultBuffer", "write", "(I)V"⟩ : MethodName)) (z := (⟨"com/example/darter/darter/ResultBuffer", "write", "(I)V"⟩ : MethodName)) hown (mvT hZ (hw _ (List.mem_of_getElem? (i := 40) rfl))) (mvT hZ (hw _ (List.mem_of_getElem? (i := 41) rfl))) (notFace_of_selects (args := #[]) (mvT hZ (hw _ (List.mem_of_getElem? (i := 43) rfl)))) (mvT hZ (hw _ (List.mem_of_getElem? (i := 43) rfl))) (mvT hZ (hw _ (List.mem_of_getElem? (i := 42) rfl))) (by decide) (backOf (W := 0) (rmW0 l Z a0 hw [] b135 p1 d0 kD al 0 T136.heap n0 z136z Dz Ol_136 RB0 AL0 g_b135 gal neal) hZ (hw _ (List.mem_of_getElem? (i := 44) rfl)) (hw _ (List.mem_of_getElem? (i := 2) rfl)) (by decide) (by decide)) q150a q150c (g := (mkF m 54 #[.val (.int p1), .val (.int p2), .val (.int p3), .val (.int p4), .val (.int (2 : Int32)), .val (.int x0), .val (.int x1), .val (.int x2), .val (.int x3), .val (.int bb), .val (.ref b135), .unset] [(.int p1), (.ref b135)])) rfl (by rw [hml]; rfl) (Steps.refl _) (argsL := [(.int p1)]) (rest := []) (lenOf pd_9 rfl) rfl (by show 2 * 0 + _ ≤ _; exact Nat.le_of_eq rfl) (hb hby at_54) (fun _ _ => ⟨rfl, rfl, (by decide : 2 + 2 ≤ _), (by decide : 5 + 266 ≤ _)⟩)
    dsimp only [Pt.U, Pt.locs, Pt.cells, Pt.slots] at X150 l150 y150 z150 st150 hQ150
    subst l150 y150 z150
    obtain ⟨blk, ed, kE, kB, rfl, N150q, Kc150, RB1, On1, szb, gb, sze⟩ := hQ150
    have N150 := Fr.app N136 N150q
    have nab : b135 ≠ blk := Nat.ne_of_lt (Nat.lt_of_lt_of_le RB0.1.lt szb)
    have nae : b135 ≠ ed := Nat.ne_of_lt (Nat.lt_of_lt_of_le RB0.1.lt sze)
    rw [hx0] at On1
    have sz_blk : h0.size ≤ blk := Nat.le_trans (K136).1 szb
    have g_blk : n0 ≤ blk := gb
    have Ol_150 := Ol_136.keep Kc150 (allS g_b135 (allS g_al all0))
    have RB0_1_150 := RB0.1.keep Kc150
    have K150 : Keep h0 T150.heap [] := K136.trans Kc150 (allS (Or.inr sz_b135) (allS (Or.inr sz_al) (all0)))
    have z150z : n0 ≤ T150.heap.size := Nat.le_trans z136z Kc150.1
    obtain ⟨cq151, kq151, q151a, q151b, q151c⟩ := isOf hZ rfl RB1.1
    obtain ⟨_, _, ⟨T151, L151, k151, n151⟩, -, X151, ⟨Lc151, hQ151, l151, y151, z151⟩, st151⟩ := X150.virtualBack hx (y := (⟨"com/example/darter/darter/ResultBuffer", "write", "(I)V"⟩ : MethodName)) (z := (⟨"com/example/darter/darter/ResultBuffer", "write", "(I)V"⟩ : MethodName)) hown (mvT hZ (hw _ (List.mem_of_getElem? (i := 40) rfl))) (mvT hZ (hw _ (List.mem_of_getElem? (i := 41) rfl))) (notFace_of_selects (args := #[]) (mvT hZ (hw _ (List.mem_of_getElem? (i := 43) rfl)))) (mvT hZ (hw _ (List.mem_of_getElem? (i := 43) rfl))) (mvT hZ (hw _ (List.mem_of_getElem? (i := 42) rfl))) (by decide) (backOf (W := 0) (rmW1 l Z a0 hw [] b135 (p1 >>> ((8 : Int32) &&& 31)) al ed blk kE kB [.int x0] (1 : Int32) (2 : Int32) T150.heap n0 z150z RB1 On1 (by decide) (by decide) (by decide) (by decide) ⟨by decide, by decide⟩ rfl (by decide) g_b135 gb neal nae nab) hZ (hw _ (List.mem_of_getElem? (i := 44) rfl)) (hw _ (List.mem_of_getElem? (i := 2) rfl)) (by decide) (by decide)) q151a q151c (g := (mkF m 69 #[.val (.int p1), .val (.int p2), .val (.int p3), .val (.int p4), .val (.int (2 : Int32)), .val (.int x0), .val (.int x1), .val (.int x2), .val (.int x3), .val (.int bb), .val (.ref b135), .unset] [(.int (p1 >>> ((8 : Int32) &&& 31))), (.ref b135)])) rfl (by rw [hml]; rfl) (Steps.refl _) (argsL := [(.int (p1 >>> ((8 : Int32) &&& 31)))]) (rest := []) (lenOf pd_9 rfl) rfl (by show 2 * 0 + _ ≤ _; exact Nat.le_of_eq rfl) (hb hby at_69) (fun _ _ => ⟨rfl, rfl, (by decide : 4 + 0 ≤ _), (by decide : 271 + 0 ≤ _)⟩)
    dsimp only [Pt.U, Pt.locs, Pt.cells, Pt.slots] at X151 l151 y151 z151 st151 hQ151
    subst l151 y151 z151
    obtain ⟨rfl, N151q, Kc151, RB2, On2⟩ := hQ151
    have N151 := Fr.app N150 N151q
    rw [hx1] at On2
    have Ol_151 := Ol_150.keep Kc151 (allS g_b135 (allS g_blk all0))
    have RB1_1_151 := RB1.1.keep Kc151
    have K151 : Keep h0 T151.heap [] := K150.trans Kc151 (allS (Or.inr sz_b135) (allS (Or.inr sz_blk) (all0)))
    have z151z : n0 ≤ T151.heap.size := Nat.le_trans z150z Kc151.1
    by_cases hlt : own_pos p4 < (2 : Int32)
    · have hp4 : own_pos p4 < 4 := by have z : (4 : Int32).toInt = 4 := rfl; have z2 : (2 : Int32).toInt = 2 := rfl; rw [own_lti] at hlt ⊢; omega
      have p0 := own_pos0 p4
      have sm := own_small p0 hp4
      obtain ⟨nn, hnn⟩ : ∃ nn : Nat, (own_pos p4).toInt + nn = (2 : Int32).toInt := ⟨((2 : Int32).toInt - (own_pos p4).toInt).toNat, by rw [own_lti] at hlt; omega⟩
      have hget : ∀ j : Int32, ¬ j < 0 → j < (2 : Int32) → ([.int x0, .int x1] : List Value).getD j.toNatClampNeg (.int (0 : Int32)) = .int (own_g x0 x1 x2 x3 j) := fun j q1 q2 => by
        have z0 : (0 : Int32).toInt = 0 := rfl
        have zk : (2 : Int32).toInt = 2 := rfl
        have z4 : (4 : Int32).toInt = 4 := rfl
        have q1' := q1
        have q2' := q2
        rw [own_lti] at q1' q2'
        rcases own_lits (x := j) (by omega) (by rw [own_lti]; omega) with rfl | rfl | rfl | rfl <;> first | rfl | exact absurd q2 (by decide)
      obtain ⟨cq152, kq152, q152a, q152b, q152c⟩ := isOf hZ rfl RB2.1
      obtain ⟨_, _, ⟨T152, L152, k152, n152⟩, -, X152, ⟨Lc152, hQ152, l152, y152, z152⟩, st152⟩ := X151.virtualBack hx (y := (⟨"com/example/darter/darter/ResultBuffer", "indexOf", "(BI)I"⟩ : MethodName)) (z := (⟨"com/example/darter/darter/ResultBuffer", "indexOf", "(BI)I"⟩ : MethodName)) hown (mvT hZ (hw _ (List.mem_of_getElem? (i := 128) rfl))) (mvT hZ (hw _ (List.mem_of_getElem? (i := 129) rfl))) (notFace_of_selects (args := #[]) (mvT hZ (hw _ (List.mem_of_getElem? (i := 131) rfl)))) (mvT hZ (hw _ (List.mem_of_getElem? (i := 131) rfl))) (mvT hZ (hw _ (List.mem_of_getElem? (i := 130) rfl))) (by decide) (backOf (W := 0) (rmI1 l Z a0 hw [] b135 bb p4 al ed blk kE kB [.int x0, .int x1] (2 : Int32) (own_pos p4) (own_g x0 x1 x2 x3) nn (own_ref x0 x1 x2 x3 (2 : Int32) bb p4) T151.heap n0 z151z RB2 On2 rfl hlt sm.1 sm.2 (by decide) (by decide) p0 hnn hget (own_near x0 x1 x2 x3 bb p4 (2 : Int32) nn (by decide) hlt hnn).symm) hZ (hw _ (List.mem_of_getElem? (i := 132) rfl)) (hw _ (List.mem_of_getElem? (i := 2) rfl)) (by decide) (by decide)) q152a q152c (g := (mkF m 107 #[.val (.int p1), .val (.int p2), .val (.int p3), .val (.int p4), .val (.int (2 : Int32)), .val (.int x0), .val (.int x1), .val (.int x2), .val (.int x3), .val (.int bb), .val (.ref b135), .unset] [(.int p4), (.int bb), (.ref b135)])) rfl (by rw [hml]; rfl) (Steps.refl _) (argsL := [(.int bb), (.int p4)]) (rest := []) (lenOf pd_11 rfl) rfl (by show 2 * 0 + _ ≤ _; exact Nat.le_of_eq rfl) (hb hby at_107) (fun _ _ => ⟨rfl, rfl, (by decide : 4 + 0 ≤ _), (by decide : 271 + 0 ≤ _)⟩)
      dsimp only [Pt.U, Pt.locs, Pt.cells, Pt.slots] at X152 l152 y152 z152 st152 hQ152
      subst l152 y152 z152
      obtain ⟨rfl, N152q, he152⟩ := hQ152
      have N152 := Fr.app N151 N152q
      have Kc152 : Keep T151.heap T152.heap [] := by rw [he152]; exact Keep.refl _ _
      have K152 : Keep h0 T152.heap [] := K151.trans Kc152 all0
      have z152z : n0 ≤ T152.heap.size := Nat.le_trans z151z Kc152.1
      obtain ⟨_, _, ⟨T153, L153, k153, n153⟩, -, X153, ⟨Lc153, hQ153, l153, y153, z153⟩, st153⟩ := Jvm.LawKit.callS X152 hx (y := (⟨"com/example/darter/darter/ResultBufferIndexOfPinLaw", "ref", "(BBBBIBI)I"⟩ : MethodName)) hown (mvT hZ (hw _ (List.mem_of_getElem? (i := 133) rfl))) (mvT hZ (hw _ (List.mem_of_getElem? (i := 134) rfl))) (mvT hZ (hw _ (List.mem_of_getElem? (i := 135) rfl))) (mvT hZ (hw _ (List.mem_of_getElem? (i := 136) rfl))) (by decide) (backOf (W := 1) (rm22 l Z a0 hw [] x0 x1 x2 x3 (2 : Int32) bb p4 (own_ref x0 x1 x2 x3 (2 : Int32) bb p4) T152.heap n0 z152z rfl) hZ (hw _ (List.mem_of_getElem? (i := 136) rfl)) (hw _ (List.mem_of_getElem? (i := 135) rfl)) (by decide) (by decide)) (g := (mkF m 127 #[.val (.int p1), .val (.int p2), .val (.int p3), .val (.int p4), .val (.int (2 : Int32)), .val (.int x0), .val (.int x1), .val (.int x2), .val (.int x3), .val (.int bb), .val (.ref b135), .val (.int (own_ref x0 x1 x2 x3 (2 : Int32) bb p4))] [(.int p4), (.int bb), (.int (2 : Int32)), (.int x3), (.int x2), (.int x1), (.int x0), (.int (own_ref x0 x1 x2 x3 (2 : Int32) bb p4))])) rfl (by rw [hml]; rfl) (argsL := [(.int x0), (.int x1), (.int x2), (.int x3), (.int (2 : Int32)), (.int bb), (.int p4)]) (rest := [(.int (own_ref x0 x1 x2 x3 (2 : Int32) bb p4))]) (lenOf pd_12 rfl) rfl (by show 2 * 0 + _ ≤ _; exact Nat.le_of_eq rfl) (hb hby at_127) (fun _ _ => ⟨rfl, rfl, (by decide : 4 + 0 ≤ _), (by decide : 271 + 0 ≤ _)⟩)
      dsimp only [Pt.U, Pt.locs, Pt.cells, Pt.slots] at X153 l153 y153 z153 st153 hQ153
      subst l153 y153 z153
      obtain ⟨rfl, N153q, he153⟩ := hQ153
      have N153 := Fr.app N152 N153q
      have fl154 : ∀ target, Steps p.tables e below (T153.setTop (mkF m 138 #[.val (.int p1), .val (.int p2), .val (.int p3), .val (.int p4), .val (.int (2 : Int32)), .val (.int x0), .val (.int x1), .val (.int x2), .val (.int x3), .val (.int bb), .val (.ref b135), .val (.int (own_ref x0 x1 x2 x3 (2 : Int32) bb p4))] [(.int (1 : Int32))])) target → Steps p.tables e below (T136.setTop (mkF m 46 #[.val (.int p1), .val (.int p2), .val (.int p3), .val (.int p4), .val (.int (2 : Int32)), .val (.int x0), .val (.int x1), .val (.int x2), .val (.int x3), .val (.int bb), .val (.ref b135), .unset] [])) target := fun target kt => by
        show Steps p.tables e below (T136.setTop (mkF m 46 #[.val (.int p1), .val (.int p2), .val (.int p3), .val (.int p4), .val (.int (2 : Int32)), .val (.int x0), .val (.int x1), .val (.int x2), .val (.int x3), .val (.int bb), .val (.ref b135), .unset] [])) _
        refine XS.iload X136.here hx rfl (hb hby at_46) rfl ?_
        show Steps p.tables e below (T136.setTop (mkF m 48 #[.val (.int p1), .val (.int p2), .val (.int p3), .val (.int p4), .val (.int (2 : Int32)), .val (.int x0), .val (.int x1), .val (.int x2), .val (.int x3), .val (.int bb), .val (.ref b135), .unset] [(.int (2 : Int32))])) _
        refine XS.ifNo X136.here hx rfl (hb hby at_48) rfl ((if0 _ _).trans (tlt (by decide : (0 : Int32) < (2 : Int32))).2.2.2) ?_
        show Steps p.tables e below (T136.setTop (mkF m 51 #[.val (.int p1), .val (.int p2), .val (.int p3), .val (.int p4), .val (.int (2 : Int32)), .val (.int x0), .val (.int x1), .val (.int x2), .val (.int x3), .val (.int bb), .val (.ref b135), .unset] [])) _
        refine XS.aload X136.here hx rfl (hb hby at_51) rfl rfl ?_
        show Steps p.tables e below (T136.setTop (mkF m 53 #[.val (.int p1), .val (.int p2), .val (.int p3), .val (.int p4), .val (.int (2 : Int32)), .val (.int x0), .val (.int x1), .val (.int x2), .val (.int x3), .val (.int bb), .val (.ref b135), .unset] [(.ref b135)])) _
        refine XS.iloadN X136.here hx rfl (hb hby at_53) rfl ?_
        show Steps p.tables e below (T136.setTop (mkF m 54 #[.val (.int p1), .val (.int p2), .val (.int p3), .val (.int p4), .val (.int (2 : Int32)), .val (.int x0), .val (.int x1), .val (.int x2), .val (.int x3), .val (.int bb), .val (.ref b135), .unset] [(.int p1), (.ref b135)])) _
        refine st150.trans ?_
        show Steps p.tables e below (T150.setTop (mkF m 57 #[.val (.int p1), .val (.int p2), .val (.int p3), .val (.int p4), .val (.int (2 : Int32)), .val (.int x0), .val (.int x1), .val (.int x2), .val (.int x3), .val (.int bb), .val (.ref b135), .unset] [])) _
        refine XS.iload X150.here hx rfl (hb hby at_57) rfl ?_
        show Steps p.tables e below (T150.setTop (mkF m 59 #[.val (.int p1), .val (.int p2), .val (.int p3), .val (.int p4), .val (.int (2 : Int32)), .val (.int x0), .val (.int x1), .val (.int x2), .val (.int x3), .val (.int bb), .val (.ref b135), .unset] [(.int (2 : Int32))])) _
        refine XS.iconst X150.here hx rfl (hb hby at_59) ?_
        show Steps p.tables e below (T150.setTop (mkF m 60 #[.val (.int p1), .val (.int p2), .val (.int p3), .val (.int p4), .val (.int (2 : Int32)), .val (.int x0), .val (.int x1), .val (.int x2), .val (.int x3), .val (.int bb), .val (.ref b135), .unset] [(.int (1 : Int32)), (.int (2 : Int32))])) _
        refine XS.icmpNo X150.here hx rfl (hb hby at_60) rfl (tlt (by decide : (1 : Int32) < (2 : Int32))).2.2.2 ?_
        show Steps p.tables e below (T150.setTop (mkF m 63 #[.val (.int p1), .val (.int p2), .val (.int p3), .val (.int p4), .val (.int (2 : Int32)), .val (.int x0), .val (.int x1), .val (.int x2), .val (.int x3), .val (.int bb), .val (.ref b135), .unset] [])) _
        refine XS.aload X150.here hx rfl (hb hby at_63) rfl rfl ?_
        show Steps p.tables e below (T150.setTop (mkF m 65 #[.val (.int p1), .val (.int p2), .val (.int p3), .val (.int p4), .val (.int (2 : Int32)), .val (.int x0), .val (.int x1), .val (.int x2), .val (.int x3), .val (.int bb), .val (.ref b135), .unset] [(.ref b135)])) _
        refine XS.iloadN X150.here hx rfl (hb hby at_65) rfl ?_
        show Steps p.tables e below (T150.setTop (mkF m 66 #[.val (.int p1), .val (.int p2), .val (.int p3), .val (.int p4), .val (.int (2 : Int32)), .val (.int x0), .val (.int x1), .val (.int x2), .val (.int x3), .val (.int bb), .val (.ref b135), .unset] [(.int p1), (.ref b135)])) _
        refine XS.bipush X150.here hx rfl (hb hby at_66) ?_
        show Steps p.tables e below (T150.setTop (mkF m 68 #[.val (.int p1), .val (.int p2), .val (.int p3), .val (.int p4), .val (.int (2 : Int32)), .val (.int x0), .val (.int x1), .val (.int x2), .val (.int x3), .val (.int bb), .val (.ref b135), .unset] [(.int (8 : Int32)), (.int p1), (.ref b135)])) _
        refine XS.ishr X150.here hx rfl (hb hby at_68) rfl ?_
        show Steps p.tables e below (T150.setTop (mkF m 69 #[.val (.int p1), .val (.int p2), .val (.int p3), .val (.int p4), .val (.int (2 : Int32)), .val (.int x0), .val (.int x1), .val (.int x2), .val (.int x3), .val (.int bb), .val (.ref b135), .unset] [(.int (p1 >>> ((8 : Int32) &&& 31))), (.ref b135)])) _
        refine st151.trans ?_
        show Steps p.tables e below (T151.setTop (mkF m 72 #[.val (.int p1), .val (.int p2), .val (.int p3), .val (.int p4), .val (.int (2 : Int32)), .val (.int x0), .val (.int x1), .val (.int x2), .val (.int x3), .val (.int bb), .val (.ref b135), .unset] [])) _
        refine XS.iload X151.here hx rfl (hb hby at_72) rfl ?_
        show Steps p.tables e below (T151.setTop (mkF m 74 #[.val (.int p1), .val (.int p2), .val (.int p3), .val (.int p4), .val (.int (2 : Int32)), .val (.int x0), .val (.int x1), .val (.int x2), .val (.int x3), .val (.int bb), .val (.ref b135), .unset] [(.int (2 : Int32))])) _
        refine XS.iconst X151.here hx rfl (hb hby at_74) ?_
        show Steps p.tables e below (T151.setTop (mkF m 75 #[.val (.int p1), .val (.int p2), .val (.int p3), .val (.int p4), .val (.int (2 : Int32)), .val (.int x0), .val (.int x1), .val (.int x2), .val (.int x3), .val (.int bb), .val (.ref b135), .unset] [(.int (2 : Int32)), (.int (2 : Int32))])) _
        refine XS.icmpYes X151.here hx rfl (pc0 := 75) (pc' := 87) rfl (hb hby at_75) rfl (flt (by decide : ¬ ((2 : Int32) < (2 : Int32)))).2.2.2 (by decide) (by decide) ?_
        show Steps p.tables e below (T151.setTop (mkF m 87 #[.val (.int p1), .val (.int p2), .val (.int p3), .val (.int p4), .val (.int (2 : Int32)), .val (.int x0), .val (.int x1), .val (.int x2), .val (.int x3), .val (.int bb), .val (.ref b135), .unset] [])) _
        refine XS.iload X151.here hx rfl (hb hby at_87) rfl ?_
        show Steps p.tables e below (T151.setTop (mkF m 89 #[.val (.int p1), .val (.int p2), .val (.int p3), .val (.int p4), .val (.int (2 : Int32)), .val (.int x0), .val (.int x1), .val (.int x2), .val (.int x3), .val (.int bb), .val (.ref b135), .unset] [(.int (2 : Int32))])) _
        refine XS.iconst X151.here hx rfl (hb hby at_89) ?_
        show Steps p.tables e below (T151.setTop (mkF m 90 #[.val (.int p1), .val (.int p2), .val (.int p3), .val (.int p4), .val (.int (2 : Int32)), .val (.int x0), .val (.int x1), .val (.int x2), .val (.int x3), .val (.int bb), .val (.ref b135), .unset] [(.int (3 : Int32)), (.int (2 : Int32))])) _
        refine XS.icmpYes X151.here hx rfl (pc0 := 90) (pc' := 102) rfl (hb hby at_90) rfl (flt (by decide : ¬ ((3 : Int32) < (2 : Int32)))).2.2.2 (by decide) (by decide) ?_
        show Steps p.tables e below (T151.setTop (mkF m 102 #[.val (.int p1), .val (.int p2), .val (.int p3), .val (.int p4), .val (.int (2 : Int32)), .val (.int x0), .val (.int x1), .val (.int x2), .val (.int x3), .val (.int bb), .val (.ref b135), .unset] [])) _
        refine XS.aload X151.here hx rfl (hb hby at_102) rfl rfl ?_
        show Steps p.tables e below (T151.setTop (mkF m 104 #[.val (.int p1), .val (.int p2), .val (.int p3), .val (.int p4), .val (.int (2 : Int32)), .val (.int x0), .val (.int x1), .val (.int x2), .val (.int x3), .val (.int bb), .val (.ref b135), .unset] [(.ref b135)])) _
        refine XS.iload X151.here hx rfl (hb hby at_104) rfl ?_
        show Steps p.tables e below (T151.setTop (mkF m 106 #[.val (.int p1), .val (.int p2), .val (.int p3), .val (.int p4), .val (.int (2 : Int32)), .val (.int x0), .val (.int x1), .val (.int x2), .val (.int x3), .val (.int bb), .val (.ref b135), .unset] [(.int bb), (.ref b135)])) _
        refine XS.iloadN X151.here hx rfl (hb hby at_106) rfl ?_
        show Steps p.tables e below (T151.setTop (mkF m 107 #[.val (.int p1), .val (.int p2), .val (.int p3), .val (.int p4), .val (.int (2 : Int32)), .val (.int x0), .val (.int x1), .val (.int x2), .val (.int x3), .val (.int bb), .val (.ref b135), .unset] [(.int p4), (.int bb), (.ref b135)])) _
        refine st152.trans ?_
        show Steps p.tables e below (T152.setTop (mkF m 110 #[.val (.int p1), .val (.int p2), .val (.int p3), .val (.int p4), .val (.int (2 : Int32)), .val (.int x0), .val (.int x1), .val (.int x2), .val (.int x3), .val (.int bb), .val (.ref b135), .unset] [(.int (own_ref x0 x1 x2 x3 (2 : Int32) bb p4))])) _
        refine XS.istore X152.here hx rfl (hb hby at_110) rfl (l' := #[.val (.int p1), .val (.int p2), .val (.int p3), .val (.int p4), .val (.int (2 : Int32)), .val (.int x0), .val (.int x1), .val (.int x2), .val (.int x3), .val (.int bb), .val (.ref b135), .val (.int (own_ref x0 x1 x2 x3 (2 : Int32) bb p4))]) rfl ?_
        show Steps p.tables e below (T152.setTop (mkF m 112 #[.val (.int p1), .val (.int p2), .val (.int p3), .val (.int p4), .val (.int (2 : Int32)), .val (.int x0), .val (.int x1), .val (.int x2), .val (.int x3), .val (.int bb), .val (.ref b135), .val (.int (own_ref x0 x1 x2 x3 (2 : Int32) bb p4))] [])) _
        refine XS.iload X152.here hx rfl (hb hby at_112) rfl ?_
        show Steps p.tables e below (T152.setTop (mkF m 114 #[.val (.int p1), .val (.int p2), .val (.int p3), .val (.int p4), .val (.int (2 : Int32)), .val (.int x0), .val (.int x1), .val (.int x2), .val (.int x3), .val (.int bb), .val (.ref b135), .val (.int (own_ref x0 x1 x2 x3 (2 : Int32) bb p4))] [(.int (own_ref x0 x1 x2 x3 (2 : Int32) bb p4))])) _
        refine XS.iload X152.here hx rfl (hb hby at_114) rfl ?_
        show Steps p.tables e below (T152.setTop (mkF m 116 #[.val (.int p1), .val (.int p2), .val (.int p3), .val (.int p4), .val (.int (2 : Int32)), .val (.int x0), .val (.int x1), .val (.int x2), .val (.int x3), .val (.int bb), .val (.ref b135), .val (.int (own_ref x0 x1 x2 x3 (2 : Int32) bb p4))] [(.int x0), (.int (own_ref x0 x1 x2 x3 (2 : Int32) bb p4))])) _
        refine XS.iload X152.here hx rfl (hb hby at_116) rfl ?_
        show Steps p.tables e below (T152.setTop (mkF m 118 #[.val (.int p1), .val (.int p2), .val (.int p3), .val (.int p4), .val (.int (2 : Int32)), .val (.int x0), .val (.int x1), .val (.int x2), .val (.int x3), .val (.int bb), .val (.ref b135), .val (.int (own_ref x0 x1 x2 x3 (2 : Int32) bb p4))] [(.int x1), (.int x0), (.int (own_ref x0 x1 x2 x3 (2 : Int32) bb p4))])) _
        refine XS.iload X152.here hx rfl (hb hby at_118) rfl ?_
        show Steps p.tables e below (T152.setTop (mkF m 120 #[.val (.int p1), .val (.int p2), .val (.int p3), .val (.int p4), .val (.int (2 : Int32)), .val (.int x0), .val (.int x1), .val (.int x2), .val (.int x3), .val (.int bb), .val (.ref b135), .val (.int (own_ref x0 x1 x2 x3 (2 : Int32) bb p4))] [(.int x2), (.int x1), (.int x0), (.int (own_ref x0 x1 x2 x3 (2 : Int32) bb p4))])) _
        refine XS.iload X152.here hx rfl (hb hby at_120) rfl ?_
        show Steps p.tables e below (T152.setTop (mkF m 122 #[.val (.int p1), .val (.int p2), .val (.int p3), .val (.int p4), .val (.int (2 : Int32)), .val (.int x0), .val (.int x1), .val (.int x2), .val (.int x3), .val (.int bb), .val (.ref b135), .val (.int (own_ref x0 x1 x2 x3 (2 : Int32) bb p4))] [(.int x3), (.int x2), (.int x1), (.int x0), (.int (own_ref x0 x1 x2 x3 (2 : Int32) bb p4))])) _
        refine XS.iload X152.here hx rfl (hb hby at_122) rfl ?_
        show Steps p.tables e below (T152.setTop (mkF m 124 #[.val (.int p1), .val (.int p2), .val (.int p3), .val (.int p4), .val (.int (2 : Int32)), .val (.int x0), .val (.int x1), .val (.int x2), .val (.int x3), .val (.int bb), .val (.ref b135), .val (.int (own_ref x0 x1 x2 x3 (2 : Int32) bb p4))] [(.int (2 : Int32)), (.int x3), (.int x2), (.int x1), (.int x0), (.int (own_ref x0 x1 x2 x3 (2 : Int32) bb p4))])) _
        refine XS.iload X152.here hx rfl (hb hby at_124) rfl ?_
        show Steps p.tables e below (T152.setTop (mkF m 126 #[.val (.int p1), .val (.int p2), .val (.int p3), .val (.int p4), .val (.int (2 : Int32)), .val (.int x0), .val (.int x1), .val (.int x2), .val (.int x3), .val (.int bb), .val (.ref b135), .val (.int (own_ref x0 x1 x2 x3 (2 : Int32) bb p4))] [(.int bb), (.int (2 : Int32)), (.int x3), (.int x2), (.int x1), (.int x0), (.int (own_ref x0 x1 x2 x3 (2 : Int32) bb p4))])) _
        refine XS.iloadN X152.here hx rfl (hb hby at_126) rfl ?_
        show Steps p.tables e below (T152.setTop (mkF m 127 #[.val (.int p1), .val (.int p2), .val (.int p3), .val (.int p4), .val (.int (2 : Int32)), .val (.int x0), .val (.int x1), .val (.int x2), .val (.int x3), .val (.int bb), .val (.ref b135), .val (.int (own_ref x0 x1 x2 x3 (2 : Int32) bb p4))] [(.int p4), (.int bb), (.int (2 : Int32)), (.int x3), (.int x2), (.int x1), (.int x0), (.int (own_ref x0 x1 x2 x3 (2 : Int32) bb p4))])) _
        refine st153 _ ?_
        show Steps p.tables e below (T153.setTop (mkF m 130 #[.val (.int p1), .val (.int p2), .val (.int p3), .val (.int p4), .val (.int (2 : Int32)), .val (.int x0), .val (.int x1), .val (.int x2), .val (.int x3), .val (.int bb), .val (.ref b135), .val (.int (own_ref x0 x1 x2 x3 (2 : Int32) bb p4))] [(.int (own_ref x0 x1 x2 x3 (2 : Int32) bb p4)), (.int (own_ref x0 x1 x2 x3 (2 : Int32) bb p4))])) _
        refine XS.icmpNo X153.here hx rfl (hb hby at_130) rfl (teq (rfl : (own_ref x0 x1 x2 x3 (2 : Int32) bb p4) = (own_ref x0 x1 x2 x3 (2 : Int32) bb p4))).2 ?_
        show Steps p.tables e below (T153.setTop (mkF m 133 #[.val (.int p1), .val (.int p2), .val (.int p3), .val (.int p4), .val (.int (2 : Int32)), .val (.int x0), .val (.int x1), .val (.int x2), .val (.int x3), .val (.int bb), .val (.ref b135), .val (.int (own_ref x0 x1 x2 x3 (2 : Int32) bb p4))] [])) _
        refine XS.iconst X153.here hx rfl (hb hby at_133) ?_
        show Steps p.tables e below (T153.setTop (mkF m 134 #[.val (.int p1), .val (.int p2), .val (.int p3), .val (.int p4), .val (.int (2 : Int32)), .val (.int x0), .val (.int x1), .val (.int x2), .val (.int x3), .val (.int bb), .val (.ref b135), .val (.int (own_ref x0 x1 x2 x3 (2 : Int32) bb p4))] [(.int (1 : Int32))])) _
        refine XS.goto X153.here hx rfl (pc0 := 134) (pc' := 138) rfl (hb hby at_134) (by decide) (by decide) ?_
        exact kt
      obtain ⟨fs, hrt, hrun, hended, hW, hsame⟩ := X153.leave (v := some (.int (1 : Int32))) (fun h => by rw [Bd.returns] at h; cases h)
      refine ⟨_, _, pre0 _ (fl133 _ (fl134 _ (fl137 _ (fl154 _ ?_)))), hrun, hended, _, _, rfl, ?_, ⟨_, rfl⟩, hW, hsame.mono (by decide) (by decide)⟩
      · exact retN X153 hx (t := .boolean) Bd.returns (by simp) (hb hby at_138) hrt
      · show Q0 _ _ _ _ _ _ _ _ _ _ T153.heap _
        exact ⟨rfl, N153⟩
    · obtain ⟨cq155, kq155, q155a, q155b, q155c⟩ := isOf hZ rfl RB2.1
      obtain ⟨_, _, ⟨T155, L155, k155, n155⟩, -, X155, ⟨Lc155, hQ155, l155, y155, z155⟩, st155⟩ := X151.virtualBack hx (y := (⟨"com/example/darter/darter/ResultBuffer", "indexOf", "(BI)I"⟩ : MethodName)) (z := (⟨"com/example/darter/darter/ResultBuffer", "indexOf", "(BI)I"⟩ : MethodName)) hown (mvT hZ (hw _ (List.mem_of_getElem? (i := 128) rfl))) (mvT hZ (hw _ (List.mem_of_getElem? (i := 129) rfl))) (notFace_of_selects (args := #[]) (mvT hZ (hw _ (List.mem_of_getElem? (i := 131) rfl)))) (mvT hZ (hw _ (List.mem_of_getElem? (i := 131) rfl))) (mvT hZ (hw _ (List.mem_of_getElem? (i := 130) rfl))) (by decide) (backOf (W := 0) (rmI0 l Z a0 hw [] b135 bb p4 al (2 : Int32) (own_pos p4) T151.heap n0 z151z RB2 rfl hlt) hZ (hw _ (List.mem_of_getElem? (i := 132) rfl)) (hw _ (List.mem_of_getElem? (i := 2) rfl)) (by decide) (by decide)) q155a q155c (g := (mkF m 107 #[.val (.int p1), .val (.int p2), .val (.int p3), .val (.int p4), .val (.int (2 : Int32)), .val (.int x0), .val (.int x1), .val (.int x2), .val (.int x3), .val (.int bb), .val (.ref b135), .unset] [(.int p4), (.int bb), (.ref b135)])) rfl (by rw [hml]; rfl) (Steps.refl _) (argsL := [(.int bb), (.int p4)]) (rest := []) (lenOf pd_11 rfl) rfl (by show 2 * 0 + _ ≤ _; exact Nat.le_of_eq rfl) (hb hby at_107) (fun _ _ => ⟨rfl, rfl, (by decide : 4 + 0 ≤ _), (by decide : 271 + 0 ≤ _)⟩)
      dsimp only [Pt.U, Pt.locs, Pt.cells, Pt.slots] at X155 l155 y155 z155 st155 hQ155
      subst l155 y155 z155
      obtain ⟨rfl, N155q, he155⟩ := hQ155
      have N155 := Fr.app N151 N155q
      have Kc155 : Keep T151.heap T155.heap [] := by rw [he155]; exact Keep.refl _ _
      have K155 : Keep h0 T155.heap [] := K151.trans Kc155 all0
      have z155z : n0 ≤ T155.heap.size := Nat.le_trans z151z Kc155.1
      have fl156 : ∀ target, Steps p.tables e below (T155.setTop (mkF m 110 #[.val (.int p1), .val (.int p2), .val (.int p3), .val (.int p4), .val (.int (2 : Int32)), .val (.int x0), .val (.int x1), .val (.int x2), .val (.int x3), .val (.int bb), .val (.ref b135), .unset] [(.int (-1 : Int32))])) target → Steps p.tables e below (T136.setTop (mkF m 46 #[.val (.int p1), .val (.int p2), .val (.int p3), .val (.int p4), .val (.int (2 : Int32)), .val (.int x0), .val (.int x1), .val (.int x2), .val (.int x3), .val (.int bb), .val (.ref b135), .unset] [])) target := fun target kt => by
        show Steps p.tables e below (T136.setTop (mkF m 46 #[.val (.int p1), .val (.int p2), .val (.int p3), .val (.int p4), .val (.int (2 : Int32)), .val (.int x0), .val (.int x1), .val (.int x2), .val (.int x3), .val (.int bb), .val (.ref b135), .unset] [])) _
        refine XS.iload X136.here hx rfl (hb hby at_46) rfl ?_
        show Steps p.tables e below (T136.setTop (mkF m 48 #[.val (.int p1), .val (.int p2), .val (.int p3), .val (.int p4), .val (.int (2 : Int32)), .val (.int x0), .val (.int x1), .val (.int x2), .val (.int x3), .val (.int bb), .val (.ref b135), .unset] [(.int (2 : Int32))])) _
        refine XS.ifNo X136.here hx rfl (hb hby at_48) rfl ((if0 _ _).trans (tlt (by decide : (0 : Int32) < (2 : Int32))).2.2.2) ?_
        show Steps p.tables e below (T136.setTop (mkF m 51 #[.val (.int p1), .val (.int p2), .val (.int p3), .val (.int p4), .val (.int (2 : Int32)), .val (.int x0), .val (.int x1), .val (.int x2), .val (.int x3), .val (.int bb), .val (.ref b135), .unset] [])) _
        refine XS.aload X136.here hx rfl (hb hby at_51) rfl rfl ?_
        show Steps p.tables e below (T136.setTop (mkF m 53 #[.val (.int p1), .val (.int p2), .val (.int p3), .val (.int p4), .val (.int (2 : Int32)), .val (.int x0), .val (.int x1), .val (.int x2), .val (.int x3), .val (.int bb), .val (.ref b135), .unset] [(.ref b135)])) _
        refine XS.iloadN X136.here hx rfl (hb hby at_53) rfl ?_
        show Steps p.tables e below (T136.setTop (mkF m 54 #[.val (.int p1), .val (.int p2), .val (.int p3), .val (.int p4), .val (.int (2 : Int32)), .val (.int x0), .val (.int x1), .val (.int x2), .val (.int x3), .val (.int bb), .val (.ref b135), .unset] [(.int p1), (.ref b135)])) _
        refine st150.trans ?_
        show Steps p.tables e below (T150.setTop (mkF m 57 #[.val (.int p1), .val (.int p2), .val (.int p3), .val (.int p4), .val (.int (2 : Int32)), .val (.int x0), .val (.int x1), .val (.int x2), .val (.int x3), .val (.int bb), .val (.ref b135), .unset] [])) _
        refine XS.iload X150.here hx rfl (hb hby at_57) rfl ?_
        show Steps p.tables e below (T150.setTop (mkF m 59 #[.val (.int p1), .val (.int p2), .val (.int p3), .val (.int p4), .val (.int (2 : Int32)), .val (.int x0), .val (.int x1), .val (.int x2), .val (.int x3), .val (.int bb), .val (.ref b135), .unset] [(.int (2 : Int32))])) _
        refine XS.iconst X150.here hx rfl (hb hby at_59) ?_
        show Steps p.tables e below (T150.setTop (mkF m 60 #[.val (.int p1), .val (.int p2), .val (.int p3), .val (.int p4), .val (.int (2 : Int32)), .val (.int x0), .val (.int x1), .val (.int x2), .val (.int x3), .val (.int bb), .val (.ref b135), .unset] [(.int (1 : Int32)), (.int (2 : Int32))])) _
        refine XS.icmpNo X150.here hx rfl (hb hby at_60) rfl (tlt (by decide : (1 : Int32) < (2 : Int32))).2.2.2 ?_
        show Steps p.tables e below (T150.setTop (mkF m 63 #[.val (.int p1), .val (.int p2), .val (.int p3), .val (.int p4), .val (.int (2 : Int32)), .val (.int x0), .val (.int x1), .val (.int x2), .val (.int x3), .val (.int bb), .val (.ref b135), .unset] [])) _
        refine XS.aload X150.here hx rfl (hb hby at_63) rfl rfl ?_
        show Steps p.tables e below (T150.setTop (mkF m 65 #[.val (.int p1), .val (.int p2), .val (.int p3), .val (.int p4), .val (.int (2 : Int32)), .val (.int x0), .val (.int x1), .val (.int x2), .val (.int x3), .val (.int bb), .val (.ref b135), .unset] [(.ref b135)])) _
        refine XS.iloadN X150.here hx rfl (hb hby at_65) rfl ?_
        show Steps p.tables e below (T150.setTop (mkF m 66 #[.val (.int p1), .val (.int p2), .val (.int p3), .val (.int p4), .val (.int (2 : Int32)), .val (.int x0), .val (.int x1), .val (.int x2), .val (.int x3), .val (.int bb), .val (.ref b135), .unset] [(.int p1), (.ref b135)])) _
        refine XS.bipush X150.here hx rfl (hb hby at_66) ?_
        show Steps p.tables e below (T150.setTop (mkF m 68 #[.val (.int p1), .val (.int p2), .val (.int p3), .val (.int p4), .val (.int (2 : Int32)), .val (.int x0), .val (.int x1), .val (.int x2), .val (.int x3), .val (.int bb), .val (.ref b135), .unset] [(.int (8 : Int32)), (.int p1), (.ref b135)])) _
        refine XS.ishr X150.here hx rfl (hb hby at_68) rfl ?_
        show Steps p.tables e below (T150.setTop (mkF m 69 #[.val (.int p1), .val (.int p2), .val (.int p3), .val (.int p4), .val (.int (2 : Int32)), .val (.int x0), .val (.int x1), .val (.int x2), .val (.int x3), .val (.int bb), .val (.ref b135), .unset] [(.int (p1 >>> ((8 : Int32) &&& 31))), (.ref b135)])) _
        refine st151.trans ?_
        show Steps p.tables e below (T151.setTop (mkF m 72 #[.val (.int p1), .val (.int p2), .val (.int p3), .val (.int p4), .val (.int (2 : Int32)), .val (.int x0), .val (.int x1), .val (.int x2), .val (.int x3), .val (.int bb), .val (.ref b135), .unset] [])) _
        refine XS.iload X151.here hx rfl (hb hby at_72) rfl ?_
        show Steps p.tables e below (T151.setTop (mkF m 74 #[.val (.int p1), .val (.int p2), .val (.int p3), .val (.int p4), .val (.int (2 : Int32)), .val (.int x0), .val (.int x1), .val (.int x2), .val (.int x3), .val (.int bb), .val (.ref b135), .unset] [(.int (2 : Int32))])) _
        refine XS.iconst X151.here hx rfl (hb hby at_74) ?_
        show Steps p.tables e below (T151.setTop (mkF m 75 #[.val (.int p1), .val (.int p2), .val (.int p3), .val (.int p4), .val (.int (2 : Int32)), .val (.int x0), .val (.int x1), .val (.int x2), .val (.int x3), .val (.int bb), .val (.ref b135), .unset] [(.int (2 : Int32)), (.int (2 : Int32))])) _
        refine XS.icmpYes X151.here hx rfl (pc0 := 75) (pc' := 87) rfl (hb hby at_75) rfl (flt (by decide : ¬ ((2 : Int32) < (2 : Int32)))).2.2.2 (by decide) (by decide) ?_
        show Steps p.tables e below (T151.setTop (mkF m 87 #[.val (.int p1), .val (.int p2), .val (.int p3), .val (.int p4), .val (.int (2 : Int32)), .val (.int x0), .val (.int x1), .val (.int x2), .val (.int x3), .val (.int bb), .val (.ref b135), .unset] [])) _
        refine XS.iload X151.here hx rfl (hb hby at_87) rfl ?_
        show Steps p.tables e below (T151.setTop (mkF m 89 #[.val (.int p1), .val (.int p2), .val (.int p3), .val (.int p4), .val (.int (2 : Int32)), .val (.int x0), .val (.int x1), .val (.int x2), .val (.int x3), .val (.int bb), .val (.ref b135), .unset] [(.int (2 : Int32))])) _
        refine XS.iconst X151.here hx rfl (hb hby at_89) ?_
        show Steps p.tables e below (T151.setTop (mkF m 90 #[.val (.int p1), .val (.int p2), .val (.int p3), .val (.int p4), .val (.int (2 : Int32)), .val (.int x0), .val (.int x1), .val (.int x2), .val (.int x3), .val (.int bb), .val (.ref b135), .unset] [(.int (3 : Int32)), (.int (2 : Int32))])) _
        refine XS.icmpYes X151.here hx rfl (pc0 := 90) (pc' := 102) rfl (hb hby at_90) rfl (flt (by decide : ¬ ((3 : Int32) < (2 : Int32)))).2.2.2 (by decide) (by decide) ?_
        show Steps p.tables e below (T151.setTop (mkF m 102 #[.val (.int p1), .val (.int p2), .val (.int p3), .val (.int p4), .val (.int (2 : Int32)), .val (.int x0), .val (.int x1), .val (.int x2), .val (.int x3), .val (.int bb), .val (.ref b135), .unset] [])) _
        refine XS.aload X151.here hx rfl (hb hby at_102) rfl rfl ?_
        show Steps p.tables e below (T151.setTop (mkF m 104 #[.val (.int p1), .val (.int p2), .val (.int p3), .val (.int p4), .val (.int (2 : Int32)), .val (.int x0), .val (.int x1), .val (.int x2), .val (.int x3), .val (.int bb), .val (.ref b135), .unset] [(.ref b135)])) _
        refine XS.iload X151.here hx rfl (hb hby at_104) rfl ?_
        show Steps p.tables e below (T151.setTop (mkF m 106 #[.val (.int p1), .val (.int p2), .val (.int p3), .val (.int p4), .val (.int (2 : Int32)), .val (.int x0), .val (.int x1), .val (.int x2), .val (.int x3), .val (.int bb), .val (.ref b135), .unset] [(.int bb), (.ref b135)])) _
        refine XS.iloadN X151.here hx rfl (hb hby at_106) rfl ?_
        show Steps p.tables e below (T151.setTop (mkF m 107 #[.val (.int p1), .val (.int p2), .val (.int p3), .val (.int p4), .val (.int (2 : Int32)), .val (.int x0), .val (.int x1), .val (.int x2), .val (.int x3), .val (.int bb), .val (.ref b135), .unset] [(.int p4), (.int bb), (.ref b135)])) _
        refine st155.trans ?_
        exact kt
      rw [own_far x0 x1 x2 x3 bb p4 (2 : Int32) (by decide) hlt (by decide)] at fl156
      obtain ⟨_, _, ⟨T157, L157, k157, n157⟩, -, X157, ⟨Lc157, hQ157, l157, y157, z157⟩, st157⟩ := Jvm.LawKit.callS X155 hx (y := (⟨"com/example/darter/darter/ResultBufferIndexOfPinLaw", "ref", "(BBBBIBI)I"⟩ : MethodName)) hown (mvT hZ (hw _ (List.mem_of_getElem? (i := 133) rfl))) (mvT hZ (hw _ (List.mem_of_getElem? (i := 134) rfl))) (mvT hZ (hw _ (List.mem_of_getElem? (i := 135) rfl))) (mvT hZ (hw _ (List.mem_of_getElem? (i := 136) rfl))) (by decide) (backOf (W := 1) (rm22 l Z a0 hw [] x0 x1 x2 x3 (2 : Int32) bb p4 (own_ref x0 x1 x2 x3 (2 : Int32) bb p4) T155.heap n0 z155z rfl) hZ (hw _ (List.mem_of_getElem? (i := 136) rfl)) (hw _ (List.mem_of_getElem? (i := 135) rfl)) (by decide) (by decide)) (g := (mkF m 127 #[.val (.int p1), .val (.int p2), .val (.int p3), .val (.int p4), .val (.int (2 : Int32)), .val (.int x0), .val (.int x1), .val (.int x2), .val (.int x3), .val (.int bb), .val (.ref b135), .val (.int (own_ref x0 x1 x2 x3 (2 : Int32) bb p4))] [(.int p4), (.int bb), (.int (2 : Int32)), (.int x3), (.int x2), (.int x1), (.int x0), (.int (own_ref x0 x1 x2 x3 (2 : Int32) bb p4))])) rfl (by rw [hml]; rfl) (argsL := [(.int x0), (.int x1), (.int x2), (.int x3), (.int (2 : Int32)), (.int bb), (.int p4)]) (rest := [(.int (own_ref x0 x1 x2 x3 (2 : Int32) bb p4))]) (lenOf pd_12 rfl) rfl (by show 2 * 0 + _ ≤ _; exact Nat.le_of_eq rfl) (hb hby at_127) (fun _ _ => ⟨rfl, rfl, (by decide : 4 + 0 ≤ _), (by decide : 271 + 0 ≤ _)⟩)
      dsimp only [Pt.U, Pt.locs, Pt.cells, Pt.slots] at X157 l157 y157 z157 st157 hQ157
      subst l157 y157 z157
      obtain ⟨rfl, N157q, he157⟩ := hQ157
      have N157 := Fr.app N155 N157q
      have fl158 : ∀ target, Steps p.tables e below (T157.setTop (mkF m 138 #[.val (.int p1), .val (.int p2), .val (.int p3), .val (.int p4), .val (.int (2 : Int32)), .val (.int x0), .val (.int x1), .val (.int x2), .val (.int x3), .val (.int bb), .val (.ref b135), .val (.int (own_ref x0 x1 x2 x3 (2 : Int32) bb p4))] [(.int (1 : Int32))])) target → Steps p.tables e below (T155.setTop (mkF m 110 #[.val (.int p1), .val (.int p2), .val (.int p3), .val (.int p4), .val (.int (2 : Int32)), .val (.int x0), .val (.int x1), .val (.int x2), .val (.int x3), .val (.int bb), .val (.ref b135), .unset] [(.int (own_ref x0 x1 x2 x3 (2 : Int32) bb p4))])) target := fun target kt => by
        show Steps p.tables e below (T155.setTop (mkF m 110 #[.val (.int p1), .val (.int p2), .val (.int p3), .val (.int p4), .val (.int (2 : Int32)), .val (.int x0), .val (.int x1), .val (.int x2), .val (.int x3), .val (.int bb), .val (.ref b135), .unset] [(.int (own_ref x0 x1 x2 x3 (2 : Int32) bb p4))])) _
        refine XS.istore X155.here hx rfl (hb hby at_110) rfl (l' := #[.val (.int p1), .val (.int p2), .val (.int p3), .val (.int p4), .val (.int (2 : Int32)), .val (.int x0), .val (.int x1), .val (.int x2), .val (.int x3), .val (.int bb), .val (.ref b135), .val (.int (own_ref x0 x1 x2 x3 (2 : Int32) bb p4))]) rfl ?_
        show Steps p.tables e below (T155.setTop (mkF m 112 #[.val (.int p1), .val (.int p2), .val (.int p3), .val (.int p4), .val (.int (2 : Int32)), .val (.int x0), .val (.int x1), .val (.int x2), .val (.int x3), .val (.int bb), .val (.ref b135), .val (.int (own_ref x0 x1 x2 x3 (2 : Int32) bb p4))] [])) _
        refine XS.iload X155.here hx rfl (hb hby at_112) rfl ?_
        show Steps p.tables e below (T155.setTop (mkF m 114 #[.val (.int p1), .val (.int p2), .val (.int p3), .val (.int p4), .val (.int (2 : Int32)), .val (.int x0), .val (.int x1), .val (.int x2), .val (.int x3), .val (.int bb), .val (.ref b135), .val (.int (own_ref x0 x1 x2 x3 (2 : Int32) bb p4))] [(.int (own_ref x0 x1 x2 x3 (2 : Int32) bb p4))])) _
        refine XS.iload X155.here hx rfl (hb hby at_114) rfl ?_
        show Steps p.tables e below (T155.setTop (mkF m 116 #[.val (.int p1), .val (.int p2), .val (.int p3), .val (.int p4), .val (.int (2 : Int32)), .val (.int x0), .val (.int x1), .val (.int x2), .val (.int x3), .val (.int bb), .val (.ref b135), .val (.int (own_ref x0 x1 x2 x3 (2 : Int32) bb p4))] [(.int x0), (.int (own_ref x0 x1 x2 x3 (2 : Int32) bb p4))])) _
        refine XS.iload X155.here hx rfl (hb hby at_116) rfl ?_
        show Steps p.tables e below (T155.setTop (mkF m 118 #[.val (.int p1), .val (.int p2), .val (.int p3), .val (.int p4), .val (.int (2 : Int32)), .val (.int x0), .val (.int x1), .val (.int x2), .val (.int x3), .val (.int bb), .val (.ref b135), .val (.int (own_ref x0 x1 x2 x3 (2 : Int32) bb p4))] [(.int x1), (.int x0), (.int (own_ref x0 x1 x2 x3 (2 : Int32) bb p4))])) _
        refine XS.iload X155.here hx rfl (hb hby at_118) rfl ?_
        show Steps p.tables e below (T155.setTop (mkF m 120 #[.val (.int p1), .val (.int p2), .val (.int p3), .val (.int p4), .val (.int (2 : Int32)), .val (.int x0), .val (.int x1), .val (.int x2), .val (.int x3), .val (.int bb), .val (.ref b135), .val (.int (own_ref x0 x1 x2 x3 (2 : Int32) bb p4))] [(.int x2), (.int x1), (.int x0), (.int (own_ref x0 x1 x2 x3 (2 : Int32) bb p4))])) _
        refine XS.iload X155.here hx rfl (hb hby at_120) rfl ?_
        show Steps p.tables e below (T155.setTop (mkF m 122 #[.val (.int p1), .val (.int p2), .val (.int p3), .val (.int p4), .val (.int (2 : Int32)), .val (.int x0), .val (.int x1), .val (.int x2), .val (.int x3), .val (.int bb), .val (.ref b135), .val (.int (own_ref x0 x1 x2 x3 (2 : Int32) bb p4))] [(.int x3), (.int x2), (.int x1), (.int x0), (.int (own_ref x0 x1 x2 x3 (2 : Int32) bb p4))])) _
        refine XS.iload X155.here hx rfl (hb hby at_122) rfl ?_
        show Steps p.tables e below (T155.setTop (mkF m 124 #[.val (.int p1), .val (.int p2), .val (.int p3), .val (.int p4), .val (.int (2 : Int32)), .val (.int x0), .val (.int x1), .val (.int x2), .val (.int x3), .val (.int bb), .val (.ref b135), .val (.int (own_ref x0 x1 x2 x3 (2 : Int32) bb p4))] [(.int (2 : Int32)), (.int x3), (.int x2), (.int x1), (.int x0), (.int (own_ref x0 x1 x2 x3 (2 : Int32) bb p4))])) _
        refine XS.iload X155.here hx rfl (hb hby at_124) rfl ?_
        show Steps p.tables e below (T155.setTop (mkF m 126 #[.val (.int p1), .val (.int p2), .val (.int p3), .val (.int p4), .val (.int (2 : Int32)), .val (.int x0), .val (.int x1), .val (.int x2), .val (.int x3), .val (.int bb), .val (.ref b135), .val (.int (own_ref x0 x1 x2 x3 (2 : Int32) bb p4))] [(.int bb), (.int (2 : Int32)), (.int x3), (.int x2), (.int x1), (.int x0), (.int (own_ref x0 x1 x2 x3 (2 : Int32) bb p4))])) _
        refine XS.iloadN X155.here hx rfl (hb hby at_126) rfl ?_
        show Steps p.tables e below (T155.setTop (mkF m 127 #[.val (.int p1), .val (.int p2), .val (.int p3), .val (.int p4), .val (.int (2 : Int32)), .val (.int x0), .val (.int x1), .val (.int x2), .val (.int x3), .val (.int bb), .val (.ref b135), .val (.int (own_ref x0 x1 x2 x3 (2 : Int32) bb p4))] [(.int p4), (.int bb), (.int (2 : Int32)), (.int x3), (.int x2), (.int x1), (.int x0), (.int (own_ref x0 x1 x2 x3 (2 : Int32) bb p4))])) _
        refine st157 _ ?_
        show Steps p.tables e below (T157.setTop (mkF m 130 #[.val (.int p1), .val (.int p2), .val (.int p3), .val (.int p4), .val (.int (2 : Int32)), .val (.int x0), .val (.int x1), .val (.int x2), .val (.int x3), .val (.int bb), .val (.ref b135), .val (.int (own_ref x0 x1 x2 x3 (2 : Int32) bb p4))] [(.int (own_ref x0 x1 x2 x3 (2 : Int32) bb p4)), (.int (own_ref x0 x1 x2 x3 (2 : Int32) bb p4))])) _
        refine XS.icmpNo X157.here hx rfl (hb hby at_130) rfl (teq (rfl : (own_ref x0 x1 x2 x3 (2 : Int32) bb p4) = (own_ref x0 x1 x2 x3 (2 : Int32) bb p4))).2 ?_
        show Steps p.tables e below (T157.setTop (mkF m 133 #[.val (.int p1), .val (.int p2), .val (.int p3), .val (.int p4), .val (.int (2 : Int32)), .val (.int x0), .val (.int x1), .val (.int x2), .val (.int x3), .val (.int bb), .val (.ref b135), .val (.int (own_ref x0 x1 x2 x3 (2 : Int32) bb p4))] [])) _
        refine XS.iconst X157.here hx rfl (hb hby at_133) ?_
        show Steps p.tables e below (T157.setTop (mkF m 134 #[.val (.int p1), .val (.int p2), .val (.int p3), .val (.int p4), .val (.int (2 : Int32)), .val (.int x0), .val (.int x1), .val (.int x2), .val (.int x3), .val (.int bb), .val (.ref b135), .val (.int (own_ref x0 x1 x2 x3 (2 : Int32) bb p4))] [(.int (1 : Int32))])) _
        refine XS.goto X157.here hx rfl (pc0 := 134) (pc' := 138) rfl (hb hby at_134) (by decide) (by decide) ?_
        exact kt
      obtain ⟨fs, hrt, hrun, hended, hW, hsame⟩ := X157.leave (v := some (.int (1 : Int32))) (fun h => by rw [Bd.returns] at h; cases h)
      refine ⟨_, _, pre0 _ (fl133 _ (fl134 _ (fl137 _ (fl156 _ (fl158 _ ?_))))), hrun, hended, _, _, rfl, ?_, ⟨_, rfl⟩, hW, hsame.mono (by decide) (by decide)⟩
      · exact retN X157 hx (t := .boolean) Bd.returns (by simp) (hb hby at_138) hrt
      · show Q0 _ _ _ _ _ _ _ _ _ _ T157.heap _
        exact ⟨rfl, N157⟩
  · obtain ⟨cq159, kq159, q159a, q159b, q159c⟩ := isOf hZ rfl RB0.1
    obtain ⟨_, _, ⟨T159, L159, k159, n159⟩, -, X159, ⟨Lc159, hQ159, l159, y159, z159⟩, st159⟩ := X136.virtualBack hx (y := (⟨"com/example/darter/darter/ResultBuffer", "write", "(I)V"⟩ : MethodName)) (z := (⟨"com/example/darter/darter/ResultBuffer", "write", "(I)V"⟩ : MethodName)) hown (mvT hZ (hw _ (List.mem_of_getElem? (i := 40) rfl))) (mvT hZ (hw _ (List.mem_of_getElem? (i := 41) rfl))) (notFace_of_selects (args := #[]) (mvT hZ (hw _ (List.mem_of_getElem? (i := 43) rfl)))) (mvT hZ (hw _ (List.mem_of_getElem? (i := 43) rfl))) (mvT hZ (hw _ (List.mem_of_getElem? (i := 42) rfl))) (by decide) (backOf (W := 0) (rmW0 l Z a0 hw [] b135 p1 d0 kD al 0 T136.heap n0 z136z Dz Ol_136 RB0 AL0 g_b135 gal neal) hZ (hw _ (List.mem_of_getElem? (i := 44) rfl)) (hw _ (List.mem_of_getElem? (i := 2) rfl)) (by decide) (by decide)) q159a q159c (g := (mkF m 54 #[.val (.int p1), .val (.int p2), .val (.int p3), .val (.int p4), .val (.int (3 : Int32)), .val (.int x0), .val (.int x1), .val (.int x2), .val (.int x3), .val (.int bb), .val (.ref b135), .unset] [(.int p1), (.ref b135)])) rfl (by rw [hml]; rfl) (Steps.refl _) (argsL := [(.int p1)]) (rest := []) (lenOf pd_9 rfl) rfl (by show 2 * 0 + _ ≤ _; exact Nat.le_of_eq rfl) (hb hby at_54) (fun _ _ => ⟨rfl, rfl, (by decide : 2 + 2 ≤ _), (by decide : 5 + 266 ≤ _)⟩)
    dsimp only [Pt.U, Pt.locs, Pt.cells, Pt.slots] at X159 l159 y159 z159 st159 hQ159
    subst l159 y159 z159
    obtain ⟨blk, ed, kE, kB, rfl, N159q, Kc159, RB1, On1, szb, gb, sze⟩ := hQ159
    have N159 := Fr.app N136 N159q
    have nab : b135 ≠ blk := Nat.ne_of_lt (Nat.lt_of_lt_of_le RB0.1.lt szb)
    have nae : b135 ≠ ed := Nat.ne_of_lt (Nat.lt_of_lt_of_le RB0.1.lt sze)
    rw [hx0] at On1
    have sz_blk : h0.size ≤ blk := Nat.le_trans (K136).1 szb
    have g_blk : n0 ≤ blk := gb
    have Ol_159 := Ol_136.keep Kc159 (allS g_b135 (allS g_al all0))
    have RB0_1_159 := RB0.1.keep Kc159
    have K159 : Keep h0 T159.heap [] := K136.trans Kc159 (allS (Or.inr sz_b135) (allS (Or.inr sz_al) (all0)))
    have z159z : n0 ≤ T159.heap.size := Nat.le_trans z136z Kc159.1
    obtain ⟨cq160, kq160, q160a, q160b, q160c⟩ := isOf hZ rfl RB1.1
    obtain ⟨_, _, ⟨T160, L160, k160, n160⟩, -, X160, ⟨Lc160, hQ160, l160, y160, z160⟩, st160⟩ := X159.virtualBack hx (y := (⟨"com/example/darter/darter/ResultBuffer", "write", "(I)V"⟩ : MethodName)) (z := (⟨"com/example/darter/darter/ResultBuffer", "write", "(I)V"⟩ : MethodName)) hown (mvT hZ (hw _ (List.mem_of_getElem? (i := 40) rfl))) (mvT hZ (hw _ (List.mem_of_getElem? (i := 41) rfl))) (notFace_of_selects (args := #[]) (mvT hZ (hw _ (List.mem_of_getElem? (i := 43) rfl)))) (mvT hZ (hw _ (List.mem_of_getElem? (i := 43) rfl))) (mvT hZ (hw _ (List.mem_of_getElem? (i := 42) rfl))) (by decide) (backOf (W := 0) (rmW1 l Z a0 hw [] b135 (p1 >>> ((8 : Int32) &&& 31)) al ed blk kE kB [.int x0] (1 : Int32) (2 : Int32) T159.heap n0 z159z RB1 On1 (by decide) (by decide) (by decide) (by decide) ⟨by decide, by decide⟩ rfl (by decide) g_b135 gb neal nae nab) hZ (hw _ (List.mem_of_getElem? (i := 44) rfl)) (hw _ (List.mem_of_getElem? (i := 2) rfl)) (by decide) (by decide)) q160a q160c (g := (mkF m 69 #[.val (.int p1), .val (.int p2), .val (.int p3), .val (.int p4), .val (.int (3 : Int32)), .val (.int x0), .val (.int x1), .val (.int x2), .val (.int x3), .val (.int bb), .val (.ref b135), .unset] [(.int (p1 >>> ((8 : Int32) &&& 31))), (.ref b135)])) rfl (by rw [hml]; rfl) (Steps.refl _) (argsL := [(.int (p1 >>> ((8 : Int32) &&& 31)))]) (rest := []) (lenOf pd_9 rfl) rfl (by show 2 * 0 + _ ≤ _; exact Nat.le_of_eq rfl) (hb hby at_69) (fun _ _ => ⟨rfl, rfl, (by decide : 4 + 0 ≤ _), (by decide : 271 + 0 ≤ _)⟩)
    dsimp only [Pt.U, Pt.locs, Pt.cells, Pt.slots] at X160 l160 y160 z160 st160 hQ160
    subst l160 y160 z160
    obtain ⟨rfl, N160q, Kc160, RB2, On2⟩ := hQ160
    have N160 := Fr.app N159 N160q
    rw [hx1] at On2
    have Ol_160 := Ol_159.keep Kc160 (allS g_b135 (allS g_blk all0))
    have RB1_1_160 := RB1.1.keep Kc160
    have K160 : Keep h0 T160.heap [] := K159.trans Kc160 (allS (Or.inr sz_b135) (allS (Or.inr sz_blk) (all0)))
    have z160z : n0 ≤ T160.heap.size := Nat.le_trans z159z Kc160.1
    obtain ⟨cq161, kq161, q161a, q161b, q161c⟩ := isOf hZ rfl RB2.1
    obtain ⟨_, _, ⟨T161, L161, k161, n161⟩, -, X161, ⟨Lc161, hQ161, l161, y161, z161⟩, st161⟩ := X160.virtualBack hx (y := (⟨"com/example/darter/darter/ResultBuffer", "write", "(I)V"⟩ : MethodName)) (z := (⟨"com/example/darter/darter/ResultBuffer", "write", "(I)V"⟩ : MethodName)) hown (mvT hZ (hw _ (List.mem_of_getElem? (i := 40) rfl))) (mvT hZ (hw _ (List.mem_of_getElem? (i := 41) rfl))) (notFace_of_selects (args := #[]) (mvT hZ (hw _ (List.mem_of_getElem? (i := 43) rfl)))) (mvT hZ (hw _ (List.mem_of_getElem? (i := 43) rfl))) (mvT hZ (hw _ (List.mem_of_getElem? (i := 42) rfl))) (by decide) (backOf (W := 0) (rmW1 l Z a0 hw [] b135 (p1 >>> ((16 : Int32) &&& 31)) al ed blk kE kB [.int x0, .int x1] (2 : Int32) (3 : Int32) T160.heap n0 z160z RB2 On2 (by decide) (by decide) (by decide) (by decide) ⟨by decide, by decide⟩ rfl (by decide) g_b135 gb neal nae nab) hZ (hw _ (List.mem_of_getElem? (i := 44) rfl)) (hw _ (List.mem_of_getElem? (i := 2) rfl)) (by decide) (by decide)) q161a q161c (g := (mkF m 84 #[.val (.int p1), .val (.int p2), .val (.int p3), .val (.int p4), .val (.int (3 : Int32)), .val (.int x0), .val (.int x1), .val (.int x2), .val (.int x3), .val (.int bb), .val (.ref b135), .unset] [(.int (p1 >>> ((16 : Int32) &&& 31))), (.ref b135)])) rfl (by rw [hml]; rfl) (Steps.refl _) (argsL := [(.int (p1 >>> ((16 : Int32) &&& 31)))]) (rest := []) (lenOf pd_9 rfl) rfl (by show 2 * 0 + _ ≤ _; exact Nat.le_of_eq rfl) (hb hby at_84) (fun _ _ => ⟨rfl, rfl, (by decide : 4 + 0 ≤ _), (by decide : 271 + 0 ≤ _)⟩)
    dsimp only [Pt.U, Pt.locs, Pt.cells, Pt.slots] at X161 l161 y161 z161 st161 hQ161
    subst l161 y161 z161
    obtain ⟨rfl, N161q, Kc161, RB3, On3⟩ := hQ161
    have N161 := Fr.app N160 N161q
    rw [hx2] at On3
    have Ol_161 := Ol_160.keep Kc161 (allS g_b135 (allS g_blk all0))
    have RB2_1_161 := RB2.1.keep Kc161
    have K161 : Keep h0 T161.heap [] := K160.trans Kc161 (allS (Or.inr sz_b135) (allS (Or.inr sz_blk) (all0)))
    have z161z : n0 ≤ T161.heap.size := Nat.le_trans z160z Kc161.1
    by_cases hlt : own_pos p4 < (3 : Int32)
    · have hp4 : own_pos p4 < 4 := by have z : (4 : Int32).toInt = 4 := rfl; have z3 : (3 : Int32).toInt = 3 := rfl; rw [own_lti] at hlt ⊢; omega
      have p0 := own_pos0 p4
      have sm := own_small p0 hp4
      obtain ⟨nn, hnn⟩ : ∃ nn : Nat, (own_pos p4).toInt + nn = (3 : Int32).toInt := ⟨((3 : Int32).toInt - (own_pos p4).toInt).toNat, by rw [own_lti] at hlt; omega⟩
      have hget : ∀ j : Int32, ¬ j < 0 → j < (3 : Int32) → ([.int x0, .int x1, .int x2] : List Value).getD j.toNatClampNeg (.int (0 : Int32)) = .int (own_g x0 x1 x2 x3 j) := fun j q1 q2 => by
        have z0 : (0 : Int32).toInt = 0 := rfl
        have zk : (3 : Int32).toInt = 3 := rfl
        have z4 : (4 : Int32).toInt = 4 := rfl
        have q1' := q1
        have q2' := q2
        rw [own_lti] at q1' q2'
        rcases own_lits (x := j) (by omega) (by rw [own_lti]; omega) with rfl | rfl | rfl | rfl <;> first | rfl | exact absurd q2 (by decide)
      obtain ⟨cq162, kq162, q162a, q162b, q162c⟩ := isOf hZ rfl RB3.1
      obtain ⟨_, _, ⟨T162, L162, k162, n162⟩, -, X162, ⟨Lc162, hQ162, l162, y162, z162⟩, st162⟩ := X161.virtualBack hx (y := (⟨"com/example/darter/darter/ResultBuffer", "indexOf", "(BI)I"⟩ : MethodName)) (z := (⟨"com/example/darter/darter/ResultBuffer", "indexOf", "(BI)I"⟩ : MethodName)) hown (mvT hZ (hw _ (List.mem_of_getElem? (i := 128) rfl))) (mvT hZ (hw _ (List.mem_of_getElem? (i := 129) rfl))) (notFace_of_selects (args := #[]) (mvT hZ (hw _ (List.mem_of_getElem? (i := 131) rfl)))) (mvT hZ (hw _ (List.mem_of_getElem? (i := 131) rfl))) (mvT hZ (hw _ (List.mem_of_getElem? (i := 130) rfl))) (by decide) (backOf (W := 0) (rmI1 l Z a0 hw [] b135 bb p4 al ed blk kE kB [.int x0, .int x1, .int x2] (3 : Int32) (own_pos p4) (own_g x0 x1 x2 x3) nn (own_ref x0 x1 x2 x3 (3 : Int32) bb p4) T161.heap n0 z161z RB3 On3 rfl hlt sm.1 sm.2 (by decide) (by decide) p0 hnn hget (own_near x0 x1 x2 x3 bb p4 (3 : Int32) nn (by decide) hlt hnn).symm) hZ (hw _ (List.mem_of_getElem? (i := 132) rfl)) (hw _ (List.mem_of_getElem? (i := 2) rfl)) (by decide) (by decide)) q162a q162c (g := (mkF m 107 #[.val (.int p1), .val (.int p2), .val (.int p3), .val (.int p4), .val (.int (3 : Int32)), .val (.int x0), .val (.int x1), .val (.int x2), .val (.int x3), .val (.int bb), .val (.ref b135), .unset] [(.int p4), (.int bb), (.ref b135)])) rfl (by rw [hml]; rfl) (Steps.refl _) (argsL := [(.int bb), (.int p4)]) (rest := []) (lenOf pd_11 rfl) rfl (by show 2 * 0 + _ ≤ _; exact Nat.le_of_eq rfl) (hb hby at_107) (fun _ _ => ⟨rfl, rfl, (by decide : 4 + 0 ≤ _), (by decide : 271 + 0 ≤ _)⟩)
      dsimp only [Pt.U, Pt.locs, Pt.cells, Pt.slots] at X162 l162 y162 z162 st162 hQ162
      subst l162 y162 z162
      obtain ⟨rfl, N162q, he162⟩ := hQ162
      have N162 := Fr.app N161 N162q
      have Kc162 : Keep T161.heap T162.heap [] := by rw [he162]; exact Keep.refl _ _
      have K162 : Keep h0 T162.heap [] := K161.trans Kc162 all0
      have z162z : n0 ≤ T162.heap.size := Nat.le_trans z161z Kc162.1
      obtain ⟨_, _, ⟨T163, L163, k163, n163⟩, -, X163, ⟨Lc163, hQ163, l163, y163, z163⟩, st163⟩ := Jvm.LawKit.callS X162 hx (y := (⟨"com/example/darter/darter/ResultBufferIndexOfPinLaw", "ref", "(BBBBIBI)I"⟩ : MethodName)) hown (mvT hZ (hw _ (List.mem_of_getElem? (i := 133) rfl))) (mvT hZ (hw _ (List.mem_of_getElem? (i := 134) rfl))) (mvT hZ (hw _ (List.mem_of_getElem? (i := 135) rfl))) (mvT hZ (hw _ (List.mem_of_getElem? (i := 136) rfl))) (by decide) (backOf (W := 1) (rm22 l Z a0 hw [] x0 x1 x2 x3 (3 : Int32) bb p4 (own_ref x0 x1 x2 x3 (3 : Int32) bb p4) T162.heap n0 z162z rfl) hZ (hw _ (List.mem_of_getElem? (i := 136) rfl)) (hw _ (List.mem_of_getElem? (i := 135) rfl)) (by decide) (by decide)) (g := (mkF m 127 #[.val (.int p1), .val (.int p2), .val (.int p3), .val (.int p4), .val (.int (3 : Int32)), .val (.int x0), .val (.int x1), .val (.int x2), .val (.int x3), .val (.int bb), .val (.ref b135), .val (.int (own_ref x0 x1 x2 x3 (3 : Int32) bb p4))] [(.int p4), (.int bb), (.int (3 : Int32)), (.int x3), (.int x2), (.int x1), (.int x0), (.int (own_ref x0 x1 x2 x3 (3 : Int32) bb p4))])) rfl (by rw [hml]; rfl) (argsL := [(.int x0), (.int x1), (.int x2), (.int x3), (.int (3 : Int32)), (.int bb), (.int p4)]) (rest := [(.int (own_ref x0 x1 x2 x3 (3 : Int32) bb p4))]) (lenOf pd_12 rfl) rfl (by show 2 * 0 + _ ≤ _; exact Nat.le_of_eq rfl) (hb hby at_127) (fun _ _ => ⟨rfl, rfl, (by decide : 4 + 0 ≤ _), (by decide : 271 + 0 ≤ _)⟩)
      dsimp only [Pt.U, Pt.locs, Pt.cells, Pt.slots] at X163 l163 y163 z163 st163 hQ163
      subst l163 y163 z163
      obtain ⟨rfl, N163q, he163⟩ := hQ163
      have N163 := Fr.app N162 N163q
      have fl164 : ∀ target, Steps p.tables e below (T163.setTop (mkF m 138 #[.val (.int p1), .val (.int p2), .val (.int p3), .val (.int p4), .val (.int (3 : Int32)), .val (.int x0), .val (.int x1), .val (.int x2), .val (.int x3), .val (.int bb), .val (.ref b135), .val (.int (own_ref x0 x1 x2 x3 (3 : Int32) bb p4))] [(.int (1 : Int32))])) target → Steps p.tables e below (T136.setTop (mkF m 46 #[.val (.int p1), .val (.int p2), .val (.int p3), .val (.int p4), .val (.int (3 : Int32)), .val (.int x0), .val (.int x1), .val (.int x2), .val (.int x3), .val (.int bb), .val (.ref b135), .unset] [])) target := fun target kt => by
        show Steps p.tables e below (T136.setTop (mkF m 46 #[.val (.int p1), .val (.int p2), .val (.int p3), .val (.int p4), .val (.int (3 : Int32)), .val (.int x0), .val (.int x1), .val (.int x2), .val (.int x3), .val (.int bb), .val (.ref b135), .unset] [])) _
        refine XS.iload X136.here hx rfl (hb hby at_46) rfl ?_
        show Steps p.tables e below (T136.setTop (mkF m 48 #[.val (.int p1), .val (.int p2), .val (.int p3), .val (.int p4), .val (.int (3 : Int32)), .val (.int x0), .val (.int x1), .val (.int x2), .val (.int x3), .val (.int bb), .val (.ref b135), .unset] [(.int (3 : Int32))])) _
        refine XS.ifNo X136.here hx rfl (hb hby at_48) rfl ((if0 _ _).trans (tlt (by decide : (0 : Int32) < (3 : Int32))).2.2.2) ?_
        show Steps p.tables e below (T136.setTop (mkF m 51 #[.val (.int p1), .val (.int p2), .val (.int p3), .val (.int p4), .val (.int (3 : Int32)), .val (.int x0), .val (.int x1), .val (.int x2), .val (.int x3), .val (.int bb), .val (.ref b135), .unset] [])) _
        refine XS.aload X136.here hx rfl (hb hby at_51) rfl rfl ?_
        show Steps p.tables e below (T136.setTop (mkF m 53 #[.val (.int p1), .val (.int p2), .val (.int p3), .val (.int p4), .val (.int (3 : Int32)), .val (.int x0), .val (.int x1), .val (.int x2), .val (.int x3), .val (.int bb), .val (.ref b135), .unset] [(.ref b135)])) _
        refine XS.iloadN X136.here hx rfl (hb hby at_53) rfl ?_
        show Steps p.tables e below (T136.setTop (mkF m 54 #[.val (.int p1), .val (.int p2), .val (.int p3), .val (.int p4), .val (.int (3 : Int32)), .val (.int x0), .val (.int x1), .val (.int x2), .val (.int x3), .val (.int bb), .val (.ref b135), .unset] [(.int p1), (.ref b135)])) _
        refine st159.trans ?_
        show Steps p.tables e below (T159.setTop (mkF m 57 #[.val (.int p1), .val (.int p2), .val (.int p3), .val (.int p4), .val (.int (3 : Int32)), .val (.int x0), .val (.int x1), .val (.int x2), .val (.int x3), .val (.int bb), .val (.ref b135), .unset] [])) _
        refine XS.iload X159.here hx rfl (hb hby at_57) rfl ?_
        show Steps p.tables e below (T159.setTop (mkF m 59 #[.val (.int p1), .val (.int p2), .val (.int p3), .val (.int p4), .val (.int (3 : Int32)), .val (.int x0), .val (.int x1), .val (.int x2), .val (.int x3), .val (.int bb), .val (.ref b135), .unset] [(.int (3 : Int32))])) _
        refine XS.iconst X159.here hx rfl (hb hby at_59) ?_
        show Steps p.tables e below (T159.setTop (mkF m 60 #[.val (.int p1), .val (.int p2), .val (.int p3), .val (.int p4), .val (.int (3 : Int32)), .val (.int x0), .val (.int x1), .val (.int x2), .val (.int x3), .val (.int bb), .val (.ref b135), .unset] [(.int (1 : Int32)), (.int (3 : Int32))])) _
        refine XS.icmpNo X159.here hx rfl (hb hby at_60) rfl (tlt (by decide : (1 : Int32) < (3 : Int32))).2.2.2 ?_
        show Steps p.tables e below (T159.setTop (mkF m 63 #[.val (.int p1), .val (.int p2), .val (.int p3), .val (.int p4), .val (.int (3 : Int32)), .val (.int x0), .val (.int x1), .val (.int x2), .val (.int x3), .val (.int bb), .val (.ref b135), .unset] [])) _
        refine XS.aload X159.here hx rfl (hb hby at_63) rfl rfl ?_
        show Steps p.tables e below (T159.setTop (mkF m 65 #[.val (.int p1), .val (.int p2), .val (.int p3), .val (.int p4), .val (.int (3 : Int32)), .val (.int x0), .val (.int x1), .val (.int x2), .val (.int x3), .val (.int bb), .val (.ref b135), .unset] [(.ref b135)])) _
        refine XS.iloadN X159.here hx rfl (hb hby at_65) rfl ?_
        show Steps p.tables e below (T159.setTop (mkF m 66 #[.val (.int p1), .val (.int p2), .val (.int p3), .val (.int p4), .val (.int (3 : Int32)), .val (.int x0), .val (.int x1), .val (.int x2), .val (.int x3), .val (.int bb), .val (.ref b135), .unset] [(.int p1), (.ref b135)])) _
        refine XS.bipush X159.here hx rfl (hb hby at_66) ?_
        show Steps p.tables e below (T159.setTop (mkF m 68 #[.val (.int p1), .val (.int p2), .val (.int p3), .val (.int p4), .val (.int (3 : Int32)), .val (.int x0), .val (.int x1), .val (.int x2), .val (.int x3), .val (.int bb), .val (.ref b135), .unset] [(.int (8 : Int32)), (.int p1), (.ref b135)])) _
        refine XS.ishr X159.here hx rfl (hb hby at_68) rfl ?_
        show Steps p.tables e below (T159.setTop (mkF m 69 #[.val (.int p1), .val (.int p2), .val (.int p3), .val (.int p4), .val (.int (3 : Int32)), .val (.int x0), .val (.int x1), .val (.int x2), .val (.int x3), .val (.int bb), .val (.ref b135), .unset] [(.int (p1 >>> ((8 : Int32) &&& 31))), (.ref b135)])) _
        refine st160.trans ?_
        show Steps p.tables e below (T160.setTop (mkF m 72 #[.val (.int p1), .val (.int p2), .val (.int p3), .val (.int p4), .val (.int (3 : Int32)), .val (.int x0), .val (.int x1), .val (.int x2), .val (.int x3), .val (.int bb), .val (.ref b135), .unset] [])) _
        refine XS.iload X160.here hx rfl (hb hby at_72) rfl ?_
        show Steps p.tables e below (T160.setTop (mkF m 74 #[.val (.int p1), .val (.int p2), .val (.int p3), .val (.int p4), .val (.int (3 : Int32)), .val (.int x0), .val (.int x1), .val (.int x2), .val (.int x3), .val (.int bb), .val (.ref b135), .unset] [(.int (3 : Int32))])) _
        refine XS.iconst X160.here hx rfl (hb hby at_74) ?_
        show Steps p.tables e below (T160.setTop (mkF m 75 #[.val (.int p1), .val (.int p2), .val (.int p3), .val (.int p4), .val (.int (3 : Int32)), .val (.int x0), .val (.int x1), .val (.int x2), .val (.int x3), .val (.int bb), .val (.ref b135), .unset] [(.int (2 : Int32)), (.int (3 : Int32))])) _
        refine XS.icmpNo X160.here hx rfl (hb hby at_75) rfl (tlt (by decide : (2 : Int32) < (3 : Int32))).2.2.2 ?_
        show Steps p.tables e below (T160.setTop (mkF m 78 #[.val (.int p1), .val (.int p2), .val (.int p3), .val (.int p4), .val (.int (3 : Int32)), .val (.int x0), .val (.int x1), .val (.int x2), .val (.int x3), .val (.int bb), .val (.ref b135), .unset] [])) _
        refine XS.aload X160.here hx rfl (hb hby at_78) rfl rfl ?_
        show Steps p.tables e below (T160.setTop (mkF m 80 #[.val (.int p1), .val (.int p2), .val (.int p3), .val (.int p4), .val (.int (3 : Int32)), .val (.int x0), .val (.int x1), .val (.int x2), .val (.int x3), .val (.int bb), .val (.ref b135), .unset] [(.ref b135)])) _
        refine XS.iloadN X160.here hx rfl (hb hby at_80) rfl ?_
        show Steps p.tables e below (T160.setTop (mkF m 81 #[.val (.int p1), .val (.int p2), .val (.int p3), .val (.int p4), .val (.int (3 : Int32)), .val (.int x0), .val (.int x1), .val (.int x2), .val (.int x3), .val (.int bb), .val (.ref b135), .unset] [(.int p1), (.ref b135)])) _
        refine XS.bipush X160.here hx rfl (hb hby at_81) ?_
        show Steps p.tables e below (T160.setTop (mkF m 83 #[.val (.int p1), .val (.int p2), .val (.int p3), .val (.int p4), .val (.int (3 : Int32)), .val (.int x0), .val (.int x1), .val (.int x2), .val (.int x3), .val (.int bb), .val (.ref b135), .unset] [(.int (16 : Int32)), (.int p1), (.ref b135)])) _
        refine XS.ishr X160.here hx rfl (hb hby at_83) rfl ?_
        show Steps p.tables e below (T160.setTop (mkF m 84 #[.val (.int p1), .val (.int p2), .val (.int p3), .val (.int p4), .val (.int (3 : Int32)), .val (.int x0), .val (.int x1), .val (.int x2), .val (.int x3), .val (.int bb), .val (.ref b135), .unset] [(.int (p1 >>> ((16 : Int32) &&& 31))), (.ref b135)])) _
        refine st161.trans ?_
        show Steps p.tables e below (T161.setTop (mkF m 87 #[.val (.int p1), .val (.int p2), .val (.int p3), .val (.int p4), .val (.int (3 : Int32)), .val (.int x0), .val (.int x1), .val (.int x2), .val (.int x3), .val (.int bb), .val (.ref b135), .unset] [])) _
        refine XS.iload X161.here hx rfl (hb hby at_87) rfl ?_
        show Steps p.tables e below (T161.setTop (mkF m 89 #[.val (.int p1), .val (.int p2), .val (.int p3), .val (.int p4), .val (.int (3 : Int32)), .val (.int x0), .val (.int x1), .val (.int x2), .val (.int x3), .val (.int bb), .val (.ref b135), .unset] [(.int (3 : Int32))])) _
        refine XS.iconst X161.here hx rfl (hb hby at_89) ?_
        show Steps p.tables e below (T161.setTop (mkF m 90 #[.val (.int p1), .val (.int p2), .val (.int p3), .val (.int p4), .val (.int (3 : Int32)), .val (.int x0), .val (.int x1), .val (.int x2), .val (.int x3), .val (.int bb), .val (.ref b135), .unset] [(.int (3 : Int32)), (.int (3 : Int32))])) _
        refine XS.icmpYes X161.here hx rfl (pc0 := 90) (pc' := 102) rfl (hb hby at_90) rfl (flt (by decide : ¬ ((3 : Int32) < (3 : Int32)))).2.2.2 (by decide) (by decide) ?_
        show Steps p.tables e below (T161.setTop (mkF m 102 #[.val (.int p1), .val (.int p2), .val (.int p3), .val (.int p4), .val (.int (3 : Int32)), .val (.int x0), .val (.int x1), .val (.int x2), .val (.int x3), .val (.int bb), .val (.ref b135), .unset] [])) _
        refine XS.aload X161.here hx rfl (hb hby at_102) rfl rfl ?_
        show Steps p.tables e below (T161.setTop (mkF m 104 #[.val (.int p1), .val (.int p2), .val (.int p3), .val (.int p4), .val (.int (3 : Int32)), .val (.int x0), .val (.int x1), .val (.int x2), .val (.int x3), .val (.int bb), .val (.ref b135), .unset] [(.ref b135)])) _
        refine XS.iload X161.here hx rfl (hb hby at_104) rfl ?_
        show Steps p.tables e below (T161.setTop (mkF m 106 #[.val (.int p1), .val (.int p2), .val (.int p3), .val (.int p4), .val (.int (3 : Int32)), .val (.int x0), .val (.int x1), .val (.int x2), .val (.int x3), .val (.int bb), .val (.ref b135), .unset] [(.int bb), (.ref b135)])) _
        refine XS.iloadN X161.here hx rfl (hb hby at_106) rfl ?_
        show Steps p.tables e below (T161.setTop (mkF m 107 #[.val (.int p1), .val (.int p2), .val (.int p3), .val (.int p4), .val (.int (3 : Int32)), .val (.int x0), .val (.int x1), .val (.int x2), .val (.int x3), .val (.int bb), .val (.ref b135), .unset] [(.int p4), (.int bb), (.ref b135)])) _
        refine st162.trans ?_
        show Steps p.tables e below (T162.setTop (mkF m 110 #[.val (.int p1), .val (.int p2), .val (.int p3), .val (.int p4), .val (.int (3 : Int32)), .val (.int x0), .val (.int x1), .val (.int x2), .val (.int x3), .val (.int bb), .val (.ref b135), .unset] [(.int (own_ref x0 x1 x2 x3 (3 : Int32) bb p4))])) _
        refine XS.istore X162.here hx rfl (hb hby at_110) rfl (l' := #[.val (.int p1), .val (.int p2), .val (.int p3), .val (.int p4), .val (.int (3 : Int32)), .val (.int x0), .val (.int x1), .val (.int x2), .val (.int x3), .val (.int bb), .val (.ref b135), .val (.int (own_ref x0 x1 x2 x3 (3 : Int32) bb p4))]) rfl ?_
        show Steps p.tables e below (T162.setTop (mkF m 112 #[.val (.int p1), .val (.int p2), .val (.int p3), .val (.int p4), .val (.int (3 : Int32)), .val (.int x0), .val (.int x1), .val (.int x2), .val (.int x3), .val (.int bb), .val (.ref b135), .val (.int (own_ref x0 x1 x2 x3 (3 : Int32) bb p4))] [])) _
        refine XS.iload X162.here hx rfl (hb hby at_112) rfl ?_
        show Steps p.tables e below (T162.setTop (mkF m 114 #[.val (.int p1), .val (.int p2), .val (.int p3), .val (.int p4), .val (.int (3 : Int32)), .val (.int x0), .val (.int x1), .val (.int x2), .val (.int x3), .val (.int bb), .val (.ref b135), .val (.int (own_ref x0 x1 x2 x3 (3 : Int32) bb p4))] [(.int (own_ref x0 x1 x2 x3 (3 : Int32) bb p4))])) _
        refine XS.iload X162.here hx rfl (hb hby at_114) rfl ?_
        show Steps p.tables e below (T162.setTop (mkF m 116 #[.val (.int p1), .val (.int p2), .val (.int p3), .val (.int p4), .val (.int (3 : Int32)), .val (.int x0), .val (.int x1), .val (.int x2), .val (.int x3), .val (.int bb), .val (.ref b135), .val (.int (own_ref x0 x1 x2 x3 (3 : Int32) bb p4))] [(.int x0), (.int (own_ref x0 x1 x2 x3 (3 : Int32) bb p4))])) _
        refine XS.iload X162.here hx rfl (hb hby at_116) rfl ?_
        show Steps p.tables e below (T162.setTop (mkF m 118 #[.val (.int p1), .val (.int p2), .val (.int p3), .val (.int p4), .val (.int (3 : Int32)), .val (.int x0), .val (.int x1), .val (.int x2), .val (.int x3), .val (.int bb), .val (.ref b135), .val (.int (own_ref x0 x1 x2 x3 (3 : Int32) bb p4))] [(.int x1), (.int x0), (.int (own_ref x0 x1 x2 x3 (3 : Int32) bb p4))])) _
        refine XS.iload X162.here hx rfl (hb hby at_118) rfl ?_
        show Steps p.tables e below (T162.setTop (mkF m 120 #[.val (.int p1), .val (.int p2), .val (.int p3), .val (.int p4), .val (.int (3 : Int32)), .val (.int x0), .val (.int x1), .val (.int x2), .val (.int x3), .val (.int bb), .val (.ref b135), .val (.int (own_ref x0 x1 x2 x3 (3 : Int32) bb p4))] [(.int x2), (.int x1), (.int x0), (.int (own_ref x0 x1 x2 x3 (3 : Int32) bb p4))])) _
        refine XS.iload X162.here hx rfl (hb hby at_120) rfl ?_
        show Steps p.tables e below (T162.setTop (mkF m 122 #[.val (.int p1), .val (.int p2), .val (.int p3), .val (.int p4), .val (.int (3 : Int32)), .val (.int x0), .val (.int x1), .val (.int x2), .val (.int x3), .val (.int bb), .val (.ref b135), .val (.int (own_ref x0 x1 x2 x3 (3 : Int32) bb p4))] [(.int x3), (.int x2), (.int x1), (.int x0), (.int (own_ref x0 x1 x2 x3 (3 : Int32) bb p4))])) _
        refine XS.iload X162.here hx rfl (hb hby at_122) rfl ?_
        show Steps p.tables e below (T162.setTop (mkF m 124 #[.val (.int p1), .val (.int p2), .val (.int p3), .val (.int p4), .val (.int (3 : Int32)), .val (.int x0), .val (.int x1), .val (.int x2), .val (.int x3), .val (.int bb), .val (.ref b135), .val (.int (own_ref x0 x1 x2 x3 (3 : Int32) bb p4))] [(.int (3 : Int32)), (.int x3), (.int x2), (.int x1), (.int x0), (.int (own_ref x0 x1 x2 x3 (3 : Int32) bb p4))])) _
        refine XS.iload X162.here hx rfl (hb hby at_124) rfl ?_
        show Steps p.tables e below (T162.setTop (mkF m 126 #[.val (.int p1), .val (.int p2), .val (.int p3), .val (.int p4), .val (.int (3 : Int32)), .val (.int x0), .val (.int x1), .val (.int x2), .val (.int x3), .val (.int bb), .val (.ref b135), .val (.int (own_ref x0 x1 x2 x3 (3 : Int32) bb p4))] [(.int bb), (.int (3 : Int32)), (.int x3), (.int x2), (.int x1), (.int x0), (.int (own_ref x0 x1 x2 x3 (3 : Int32) bb p4))])) _
        refine XS.iloadN X162.here hx rfl (hb hby at_126) rfl ?_
        show Steps p.tables e below (T162.setTop (mkF m 127 #[.val (.int p1), .val (.int p2), .val (.int p3), .val (.int p4), .val (.int (3 : Int32)), .val (.int x0), .val (.int x1), .val (.int x2), .val (.int x3), .val (.int bb), .val (.ref b135), .val (.int (own_ref x0 x1 x2 x3 (3 : Int32) bb p4))] [(.int p4), (.int bb), (.int (3 : Int32)), (.int x3), (.int x2), (.int x1), (.int x0), (.int (own_ref x0 x1 x2 x3 (3 : Int32) bb p4))])) _
        refine st163 _ ?_
        show Steps p.tables e below (T163.setTop (mkF m 130 #[.val (.int p1), .val (.int p2), .val (.int p3), .val (.int p4), .val (.int (3 : Int32)), .val (.int x0), .val (.int x1), .val (.int x2), .val (.int x3), .val (.int bb), .val (.ref b135), .val (.int (own_ref x0 x1 x2 x3 (3 : Int32) bb p4))] [(.int (own_ref x0 x1 x2 x3 (3 : Int32) bb p4)), (.int (own_ref x0 x1 x2 x3 (3 : Int32) bb p4))])) _
        refine XS.icmpNo X163.here hx rfl (hb hby at_130) rfl (teq (rfl : (own_ref x0 x1 x2 x3 (3 : Int32) bb p4) = (own_ref x0 x1 x2 x3 (3 : Int32) bb p4))).2 ?_
        show Steps p.tables e below (T163.setTop (mkF m 133 #[.val (.int p1), .val (.int p2), .val (.int p3), .val (.int p4), .val (.int (3 : Int32)), .val (.int x0), .val (.int x1), .val (.int x2), .val (.int x3), .val (.int bb), .val (.ref b135), .val (.int (own_ref x0 x1 x2 x3 (3 : Int32) bb p4))] [])) _
        refine XS.iconst X163.here hx rfl (hb hby at_133) ?_
        show Steps p.tables e below (T163.setTop (mkF m 134 #[.val (.int p1), .val (.int p2), .val (.int p3), .val (.int p4), .val (.int (3 : Int32)), .val (.int x0), .val (.int x1), .val (.int x2), .val (.int x3), .val (.int bb), .val (.ref b135), .val (.int (own_ref x0 x1 x2 x3 (3 : Int32) bb p4))] [(.int (1 : Int32))])) _
        refine XS.goto X163.here hx rfl (pc0 := 134) (pc' := 138) rfl (hb hby at_134) (by decide) (by decide) ?_
        exact kt
      obtain ⟨fs, hrt, hrun, hended, hW, hsame⟩ := X163.leave (v := some (.int (1 : Int32))) (fun h => by rw [Bd.returns] at h; cases h)
      refine ⟨_, _, pre0 _ (fl133 _ (fl134 _ (fl137 _ (fl164 _ ?_)))), hrun, hended, _, _, rfl, ?_, ⟨_, rfl⟩, hW, hsame.mono (by decide) (by decide)⟩
      · exact retN X163 hx (t := .boolean) Bd.returns (by simp) (hb hby at_138) hrt
      · show Q0 _ _ _ _ _ _ _ _ _ _ T163.heap _
        exact ⟨rfl, N163⟩
    · obtain ⟨cq165, kq165, q165a, q165b, q165c⟩ := isOf hZ rfl RB3.1
      obtain ⟨_, _, ⟨T165, L165, k165, n165⟩, -, X165, ⟨Lc165, hQ165, l165, y165, z165⟩, st165⟩ := X161.virtualBack hx (y := (⟨"com/example/darter/darter/ResultBuffer", "indexOf", "(BI)I"⟩ : MethodName)) (z := (⟨"com/example/darter/darter/ResultBuffer", "indexOf", "(BI)I"⟩ : MethodName)) hown (mvT hZ (hw _ (List.mem_of_getElem? (i := 128) rfl))) (mvT hZ (hw _ (List.mem_of_getElem? (i := 129) rfl))) (notFace_of_selects (args := #[]) (mvT hZ (hw _ (List.mem_of_getElem? (i := 131) rfl)))) (mvT hZ (hw _ (List.mem_of_getElem? (i := 131) rfl))) (mvT hZ (hw _ (List.mem_of_getElem? (i := 130) rfl))) (by decide) (backOf (W := 0) (rmI0 l Z a0 hw [] b135 bb p4 al (3 : Int32) (own_pos p4) T161.heap n0 z161z RB3 rfl hlt) hZ (hw _ (List.mem_of_getElem? (i := 132) rfl)) (hw _ (List.mem_of_getElem? (i := 2) rfl)) (by decide) (by decide)) q165a q165c (g := (mkF m 107 #[.val (.int p1), .val (.int p2), .val (.int p3), .val (.int p4), .val (.int (3 : Int32)), .val (.int x0), .val (.int x1), .val (.int x2), .val (.int x3), .val (.int bb), .val (.ref b135), .unset] [(.int p4), (.int bb), (.ref b135)])) rfl (by rw [hml]; rfl) (Steps.refl _) (argsL := [(.int bb), (.int p4)]) (rest := []) (lenOf pd_11 rfl) rfl (by show 2 * 0 + _ ≤ _; exact Nat.le_of_eq rfl) (hb hby at_107) (fun _ _ => ⟨rfl, rfl, (by decide : 4 + 0 ≤ _), (by decide : 271 + 0 ≤ _)⟩)
      dsimp only [Pt.U, Pt.locs, Pt.cells, Pt.slots] at X165 l165 y165 z165 st165 hQ165
      subst l165 y165 z165
      obtain ⟨rfl, N165q, he165⟩ := hQ165
      have N165 := Fr.app N161 N165q
      have Kc165 : Keep T161.heap T165.heap [] := by rw [he165]; exact Keep.refl _ _
      have K165 : Keep h0 T165.heap [] := K161.trans Kc165 all0
      have z165z : n0 ≤ T165.heap.size := Nat.le_trans z161z Kc165.1
      have fl166 : ∀ target, Steps p.tables e below (T165.setTop (mkF m 110 #[.val (.int p1), .val (.int p2), .val (.int p3), .val (.int p4), .val (.int (3 : Int32)), .val (.int x0), .val (.int x1), .val (.int x2), .val (.int x3), .val (.int bb), .val (.ref b135), .unset] [(.int (-1 : Int32))])) target → Steps p.tables e below (T136.setTop (mkF m 46 #[.val (.int p1), .val (.int p2), .val (.int p3), .val (.int p4), .val (.int (3 : Int32)), .val (.int x0), .val (.int x1), .val (.int x2), .val (.int x3), .val (.int bb), .val (.ref b135), .unset] [])) target := fun target kt => by
        show Steps p.tables e below (T136.setTop (mkF m 46 #[.val (.int p1), .val (.int p2), .val (.int p3), .val (.int p4), .val (.int (3 : Int32)), .val (.int x0), .val (.int x1), .val (.int x2), .val (.int x3), .val (.int bb), .val (.ref b135), .unset] [])) _
        refine XS.iload X136.here hx rfl (hb hby at_46) rfl ?_
        show Steps p.tables e below (T136.setTop (mkF m 48 #[.val (.int p1), .val (.int p2), .val (.int p3), .val (.int p4), .val (.int (3 : Int32)), .val (.int x0), .val (.int x1), .val (.int x2), .val (.int x3), .val (.int bb), .val (.ref b135), .unset] [(.int (3 : Int32))])) _
        refine XS.ifNo X136.here hx rfl (hb hby at_48) rfl ((if0 _ _).trans (tlt (by decide : (0 : Int32) < (3 : Int32))).2.2.2) ?_
        show Steps p.tables e below (T136.setTop (mkF m 51 #[.val (.int p1), .val (.int p2), .val (.int p3), .val (.int p4), .val (.int (3 : Int32)), .val (.int x0), .val (.int x1), .val (.int x2), .val (.int x3), .val (.int bb), .val (.ref b135), .unset] [])) _
        refine XS.aload X136.here hx rfl (hb hby at_51) rfl rfl ?_
        show Steps p.tables e below (T136.setTop (mkF m 53 #[.val (.int p1), .val (.int p2), .val (.int p3), .val (.int p4), .val (.int (3 : Int32)), .val (.int x0), .val (.int x1), .val (.int x2), .val (.int x3), .val (.int bb), .val (.ref b135), .unset] [(.ref b135)])) _
        refine XS.iloadN X136.here hx rfl (hb hby at_53) rfl ?_
        show Steps p.tables e below (T136.setTop (mkF m 54 #[.val (.int p1), .val (.int p2), .val (.int p3), .val (.int p4), .val (.int (3 : Int32)), .val (.int x0), .val (.int x1), .val (.int x2), .val (.int x3), .val (.int bb), .val (.ref b135), .unset] [(.int p1), (.ref b135)])) _
        refine st159.trans ?_
        show Steps p.tables e below (T159.setTop (mkF m 57 #[.val (.int p1), .val (.int p2), .val (.int p3), .val (.int p4), .val (.int (3 : Int32)), .val (.int x0), .val (.int x1), .val (.int x2), .val (.int x3), .val (.int bb), .val (.ref b135), .unset] [])) _
        refine XS.iload X159.here hx rfl (hb hby at_57) rfl ?_
        show Steps p.tables e below (T159.setTop (mkF m 59 #[.val (.int p1), .val (.int p2), .val (.int p3), .val (.int p4), .val (.int (3 : Int32)), .val (.int x0), .val (.int x1), .val (.int x2), .val (.int x3), .val (.int bb), .val (.ref b135), .unset] [(.int (3 : Int32))])) _
        refine XS.iconst X159.here hx rfl (hb hby at_59) ?_
        show Steps p.tables e below (T159.setTop (mkF m 60 #[.val (.int p1), .val (.int p2), .val (.int p3), .val (.int p4), .val (.int (3 : Int32)), .val (.int x0), .val (.int x1), .val (.int x2), .val (.int x3), .val (.int bb), .val (.ref b135), .unset] [(.int (1 : Int32)), (.int (3 : Int32))])) _
        refine XS.icmpNo X159.here hx rfl (hb hby at_60) rfl (tlt (by decide : (1 : Int32) < (3 : Int32))).2.2.2 ?_
        show Steps p.tables e below (T159.setTop (mkF m 63 #[.val (.int p1), .val (.int p2), .val (.int p3), .val (.int p4), .val (.int (3 : Int32)), .val (.int x0), .val (.int x1), .val (.int x2), .val (.int x3), .val (.int bb), .val (.ref b135), .unset] [])) _
        refine XS.aload X159.here hx rfl (hb hby at_63) rfl rfl ?_
        show Steps p.tables e below (T159.setTop (mkF m 65 #[.val (.int p1), .val (.int p2), .val (.int p3), .val (.int p4), .val (.int (3 : Int32)), .val (.int x0), .val (.int x1), .val (.int x2), .val (.int x3), .val (.int bb), .val (.ref b135), .unset] [(.ref b135)])) _
        refine XS.iloadN X159.here hx rfl (hb hby at_65) rfl ?_
        show Steps p.tables e below (T159.setTop (mkF m 66 #[.val (.int p1), .val (.int p2), .val (.int p3), .val (.int p4), .val (.int (3 : Int32)), .val (.int x0), .val (.int x1), .val (.int x2), .val (.int x3), .val (.int bb), .val (.ref b135), .unset] [(.int p1), (.ref b135)])) _
        refine XS.bipush X159.here hx rfl (hb hby at_66) ?_
        show Steps p.tables e below (T159.setTop (mkF m 68 #[.val (.int p1), .val (.int p2), .val (.int p3), .val (.int p4), .val (.int (3 : Int32)), .val (.int x0), .val (.int x1), .val (.int x2), .val (.int x3), .val (.int bb), .val (.ref b135), .unset] [(.int (8 : Int32)), (.int p1), (.ref b135)])) _
        refine XS.ishr X159.here hx rfl (hb hby at_68) rfl ?_
        show Steps p.tables e below (T159.setTop (mkF m 69 #[.val (.int p1), .val (.int p2), .val (.int p3), .val (.int p4), .val (.int (3 : Int32)), .val (.int x0), .val (.int x1), .val (.int x2), .val (.int x3), .val (.int bb), .val (.ref b135), .unset] [(.int (p1 >>> ((8 : Int32) &&& 31))), (.ref b135)])) _
        refine st160.trans ?_
        show Steps p.tables e below (T160.setTop (mkF m 72 #[.val (.int p1), .val (.int p2), .val (.int p3), .val (.int p4), .val (.int (3 : Int32)), .val (.int x0), .val (.int x1), .val (.int x2), .val (.int x3), .val (.int bb), .val (.ref b135), .unset] [])) _
        refine XS.iload X160.here hx rfl (hb hby at_72) rfl ?_
        show Steps p.tables e below (T160.setTop (mkF m 74 #[.val (.int p1), .val (.int p2), .val (.int p3), .val (.int p4), .val (.int (3 : Int32)), .val (.int x0), .val (.int x1), .val (.int x2), .val (.int x3), .val (.int bb), .val (.ref b135), .unset] [(.int (3 : Int32))])) _
        refine XS.iconst X160.here hx rfl (hb hby at_74) ?_
        show Steps p.tables e below (T160.setTop (mkF m 75 #[.val (.int p1), .val (.int p2), .val (.int p3), .val (.int p4), .val (.int (3 : Int32)), .val (.int x0), .val (.int x1), .val (.int x2), .val (.int x3), .val (.int bb), .val (.ref b135), .unset] [(.int (2 : Int32)), (.int (3 : Int32))])) _
        refine XS.icmpNo X160.here hx rfl (hb hby at_75) rfl (tlt (by decide : (2 : Int32) < (3 : Int32))).2.2.2 ?_
        show Steps p.tables e below (T160.setTop (mkF m 78 #[.val (.int p1), .val (.int p2), .val (.int p3), .val (.int p4), .val (.int (3 : Int32)), .val (.int x0), .val (.int x1), .val (.int x2), .val (.int x3), .val (.int bb), .val (.ref b135), .unset] [])) _
        refine XS.aload X160.here hx rfl (hb hby at_78) rfl rfl ?_
        show Steps p.tables e below (T160.setTop (mkF m 80 #[.val (.int p1), .val (.int p2), .val (.int p3), .val (.int p4), .val (.int (3 : Int32)), .val (.int x0), .val (.int x1), .val (.int x2), .val (.int x3), .val (.int bb), .val (.ref b135), .unset] [(.ref b135)])) _
        refine XS.iloadN X160.here hx rfl (hb hby at_80) rfl ?_
        show Steps p.tables e below (T160.setTop (mkF m 81 #[.val (.int p1), .val (.int p2), .val (.int p3), .val (.int p4), .val (.int (3 : Int32)), .val (.int x0), .val (.int x1), .val (.int x2), .val (.int x3), .val (.int bb), .val (.ref b135), .unset] [(.int p1), (.ref b135)])) _
        refine XS.bipush X160.here hx rfl (hb hby at_81) ?_
        show Steps p.tables e below (T160.setTop (mkF m 83 #[.val (.int p1), .val (.int p2), .val (.int p3), .val (.int p4), .val (.int (3 : Int32)), .val (.int x0), .val (.int x1), .val (.int x2), .val (.int x3), .val (.int bb), .val (.ref b135), .unset] [(.int (16 : Int32)), (.int p1), (.ref b135)])) _
        refine XS.ishr X160.here hx rfl (hb hby at_83) rfl ?_
        show Steps p.tables e below (T160.setTop (mkF m 84 #[.val (.int p1), .val (.int p2), .val (.int p3), .val (.int p4), .val (.int (3 : Int32)), .val (.int x0), .val (.int x1), .val (.int x2), .val (.int x3), .val (.int bb), .val (.ref b135), .unset] [(.int (p1 >>> ((16 : Int32) &&& 31))), (.ref b135)])) _
        refine st161.trans ?_
        show Steps p.tables e below (T161.setTop (mkF m 87 #[.val (.int p1), .val (.int p2), .val (.int p3), .val (.int p4), .val (.int (3 : Int32)), .val (.int x0), .val (.int x1), .val (.int x2), .val (.int x3), .val (.int bb), .val (.ref b135), .unset] [])) _
        refine XS.iload X161.here hx rfl (hb hby at_87) rfl ?_
        show Steps p.tables e below (T161.setTop (mkF m 89 #[.val (.int p1), .val (.int p2), .val (.int p3), .val (.int p4), .val (.int (3 : Int32)), .val (.int x0), .val (.int x1), .val (.int x2), .val (.int x3), .val (.int bb), .val (.ref b135), .unset] [(.int (3 : Int32))])) _
        refine XS.iconst X161.here hx rfl (hb hby at_89) ?_
        show Steps p.tables e below (T161.setTop (mkF m 90 #[.val (.int p1), .val (.int p2), .val (.int p3), .val (.int p4), .val (.int (3 : Int32)), .val (.int x0), .val (.int x1), .val (.int x2), .val (.int x3), .val (.int bb), .val (.ref b135), .unset] [(.int (3 : Int32)), (.int (3 : Int32))])) _
        refine XS.icmpYes X161.here hx rfl (pc0 := 90) (pc' := 102) rfl (hb hby at_90) rfl (flt (by decide : ¬ ((3 : Int32) < (3 : Int32)))).2.2.2 (by decide) (by decide) ?_
        show Steps p.tables e below (T161.setTop (mkF m 102 #[.val (.int p1), .val (.int p2), .val (.int p3), .val (.int p4), .val (.int (3 : Int32)), .val (.int x0), .val (.int x1), .val (.int x2), .val (.int x3), .val (.int bb), .val (.ref b135), .unset] [])) _
        refine XS.aload X161.here hx rfl (hb hby at_102) rfl rfl ?_
        show Steps p.tables e below (T161.setTop (mkF m 104 #[.val (.int p1), .val (.int p2), .val (.int p3), .val (.int p4), .val (.int (3 : Int32)), .val (.int x0), .val (.int x1), .val (.int x2), .val (.int x3), .val (.int bb), .val (.ref b135), .unset] [(.ref b135)])) _
        refine XS.iload X161.here hx rfl (hb hby at_104) rfl ?_
        show Steps p.tables e below (T161.setTop (mkF m 106 #[.val (.int p1), .val (.int p2), .val (.int p3), .val (.int p4), .val (.int (3 : Int32)), .val (.int x0), .val (.int x1), .val (.int x2), .val (.int x3), .val (.int bb), .val (.ref b135), .unset] [(.int bb), (.ref b135)])) _
        refine XS.iloadN X161.here hx rfl (hb hby at_106) rfl ?_
        show Steps p.tables e below (T161.setTop (mkF m 107 #[.val (.int p1), .val (.int p2), .val (.int p3), .val (.int p4), .val (.int (3 : Int32)), .val (.int x0), .val (.int x1), .val (.int x2), .val (.int x3), .val (.int bb), .val (.ref b135), .unset] [(.int p4), (.int bb), (.ref b135)])) _
        refine st165.trans ?_
        exact kt
      rw [own_far x0 x1 x2 x3 bb p4 (3 : Int32) (by decide) hlt (by decide)] at fl166
      obtain ⟨_, _, ⟨T167, L167, k167, n167⟩, -, X167, ⟨Lc167, hQ167, l167, y167, z167⟩, st167⟩ := Jvm.LawKit.callS X165 hx (y := (⟨"com/example/darter/darter/ResultBufferIndexOfPinLaw", "ref", "(BBBBIBI)I"⟩ : MethodName)) hown (mvT hZ (hw _ (List.mem_of_getElem? (i := 133) rfl))) (mvT hZ (hw _ (List.mem_of_getElem? (i := 134) rfl))) (mvT hZ (hw _ (List.mem_of_getElem? (i := 135) rfl))) (mvT hZ (hw _ (List.mem_of_getElem? (i := 136) rfl))) (by decide) (backOf (W := 1) (rm22 l Z a0 hw [] x0 x1 x2 x3 (3 : Int32) bb p4 (own_ref x0 x1 x2 x3 (3 : Int32) bb p4) T165.heap n0 z165z rfl) hZ (hw _ (List.mem_of_getElem? (i := 136) rfl)) (hw _ (List.mem_of_getElem? (i := 135) rfl)) (by decide) (by decide)) (g := (mkF m 127 #[.val (.int p1), .val (.int p2), .val (.int p3), .val (.int p4), .val (.int (3 : Int32)), .val (.int x0), .val (.int x1), .val (.int x2), .val (.int x3), .val (.int bb), .val (.ref b135), .val (.int (own_ref x0 x1 x2 x3 (3 : Int32) bb p4))] [(.int p4), (.int bb), (.int (3 : Int32)), (.int x3), (.int x2), (.int x1), (.int x0), (.int (own_ref x0 x1 x2 x3 (3 : Int32) bb p4))])) rfl (by rw [hml]; rfl) (argsL := [(.int x0), (.int x1), (.int x2), (.int x3), (.int (3 : Int32)), (.int bb), (.int p4)]) (rest := [(.int (own_ref x0 x1 x2 x3 (3 : Int32) bb p4))]) (lenOf pd_12 rfl) rfl (by show 2 * 0 + _ ≤ _; exact Nat.le_of_eq rfl) (hb hby at_127) (fun _ _ => ⟨rfl, rfl, (by decide : 4 + 0 ≤ _), (by decide : 271 + 0 ≤ _)⟩)
      dsimp only [Pt.U, Pt.locs, Pt.cells, Pt.slots] at X167 l167 y167 z167 st167 hQ167
      subst l167 y167 z167
      obtain ⟨rfl, N167q, he167⟩ := hQ167
      have N167 := Fr.app N165 N167q
      have fl168 : ∀ target, Steps p.tables e below (T167.setTop (mkF m 138 #[.val (.int p1), .val (.int p2), .val (.int p3), .val (.int p4), .val (.int (3 : Int32)), .val (.int x0), .val (.int x1), .val (.int x2), .val (.int x3), .val (.int bb), .val (.ref b135), .val (.int (own_ref x0 x1 x2 x3 (3 : Int32) bb p4))] [(.int (1 : Int32))])) target → Steps p.tables e below (T165.setTop (mkF m 110 #[.val (.int p1), .val (.int p2), .val (.int p3), .val (.int p4), .val (.int (3 : Int32)), .val (.int x0), .val (.int x1), .val (.int x2), .val (.int x3), .val (.int bb), .val (.ref b135), .unset] [(.int (own_ref x0 x1 x2 x3 (3 : Int32) bb p4))])) target := fun target kt => by
        show Steps p.tables e below (T165.setTop (mkF m 110 #[.val (.int p1), .val (.int p2), .val (.int p3), .val (.int p4), .val (.int (3 : Int32)), .val (.int x0), .val (.int x1), .val (.int x2), .val (.int x3), .val (.int bb), .val (.ref b135), .unset] [(.int (own_ref x0 x1 x2 x3 (3 : Int32) bb p4))])) _
        refine XS.istore X165.here hx rfl (hb hby at_110) rfl (l' := #[.val (.int p1), .val (.int p2), .val (.int p3), .val (.int p4), .val (.int (3 : Int32)), .val (.int x0), .val (.int x1), .val (.int x2), .val (.int x3), .val (.int bb), .val (.ref b135), .val (.int (own_ref x0 x1 x2 x3 (3 : Int32) bb p4))]) rfl ?_
        show Steps p.tables e below (T165.setTop (mkF m 112 #[.val (.int p1), .val (.int p2), .val (.int p3), .val (.int p4), .val (.int (3 : Int32)), .val (.int x0), .val (.int x1), .val (.int x2), .val (.int x3), .val (.int bb), .val (.ref b135), .val (.int (own_ref x0 x1 x2 x3 (3 : Int32) bb p4))] [])) _
        refine XS.iload X165.here hx rfl (hb hby at_112) rfl ?_
        show Steps p.tables e below (T165.setTop (mkF m 114 #[.val (.int p1), .val (.int p2), .val (.int p3), .val (.int p4), .val (.int (3 : Int32)), .val (.int x0), .val (.int x1), .val (.int x2), .val (.int x3), .val (.int bb), .val (.ref b135), .val (.int (own_ref x0 x1 x2 x3 (3 : Int32) bb p4))] [(.int (own_ref x0 x1 x2 x3 (3 : Int32) bb p4))])) _
        refine XS.iload X165.here hx rfl (hb hby at_114) rfl ?_
        show Steps p.tables e below (T165.setTop (mkF m 116 #[.val (.int p1), .val (.int p2), .val (.int p3), .val (.int p4), .val (.int (3 : Int32)), .val (.int x0), .val (.int x1), .val (.int x2), .val (.int x3), .val (.int bb), .val (.ref b135), .val (.int (own_ref x0 x1 x2 x3 (3 : Int32) bb p4))] [(.int x0), (.int (own_ref x0 x1 x2 x3 (3 : Int32) bb p4))])) _
        refine XS.iload X165.here hx rfl (hb hby at_116) rfl ?_
        show Steps p.tables e below (T165.setTop (mkF m 118 #[.val (.int p1), .val (.int p2), .val (.int p3), .val (.int p4), .val (.int (3 : Int32)), .val (.int x0), .val (.int x1), .val (.int x2), .val (.int x3), .val (.int bb), .val (.ref b135), .val (.int (own_ref x0 x1 x2 x3 (3 : Int32) bb p4))] [(.int x1), (.int x0), (.int (own_ref x0 x1 x2 x3 (3 : Int32) bb p4))])) _
        refine XS.iload X165.here hx rfl (hb hby at_118) rfl ?_
        show Steps p.tables e below (T165.setTop (mkF m 120 #[.val (.int p1), .val (.int p2), .val (.int p3), .val (.int p4), .val (.int (3 : Int32)), .val (.int x0), .val (.int x1), .val (.int x2), .val (.int x3), .val (.int bb), .val (.ref b135), .val (.int (own_ref x0 x1 x2 x3 (3 : Int32) bb p4))] [(.int x2), (.int x1), (.int x0), (.int (own_ref x0 x1 x2 x3 (3 : Int32) bb p4))])) _
        refine XS.iload X165.here hx rfl (hb hby at_120) rfl ?_
        show Steps p.tables e below (T165.setTop (mkF m 122 #[.val (.int p1), .val (.int p2), .val (.int p3), .val (.int p4), .val (.int (3 : Int32)), .val (.int x0), .val (.int x1), .val (.int x2), .val (.int x3), .val (.int bb), .val (.ref b135), .val (.int (own_ref x0 x1 x2 x3 (3 : Int32) bb p4))] [(.int x3), (.int x2), (.int x1), (.int x0), (.int (own_ref x0 x1 x2 x3 (3 : Int32) bb p4))])) _
        refine XS.iload X165.here hx rfl (hb hby at_122) rfl ?_
        show Steps p.tables e below (T165.setTop (mkF m 124 #[.val (.int p1), .val (.int p2), .val (.int p3), .val (.int p4), .val (.int (3 : Int32)), .val (.int x0), .val (.int x1), .val (.int x2), .val (.int x3), .val (.int bb), .val (.ref b135), .val (.int (own_ref x0 x1 x2 x3 (3 : Int32) bb p4))] [(.int (3 : Int32)), (.int x3), (.int x2), (.int x1), (.int x0), (.int (own_ref x0 x1 x2 x3 (3 : Int32) bb p4))])) _
        refine XS.iload X165.here hx rfl (hb hby at_124) rfl ?_
        show Steps p.tables e below (T165.setTop (mkF m 126 #[.val (.int p1), .val (.int p2), .val (.int p3), .val (.int p4), .val (.int (3 : Int32)), .val (.int x0), .val (.int x1), .val (.int x2), .val (.int x3), .val (.int bb), .val (.ref b135), .val (.int (own_ref x0 x1 x2 x3 (3 : Int32) bb p4))] [(.int bb), (.int (3 : Int32)), (.int x3), (.int x2), (.int x1), (.int x0), (.int (own_ref x0 x1 x2 x3 (3 : Int32) bb p4))])) _
        refine XS.iloadN X165.here hx rfl (hb hby at_126) rfl ?_
        show Steps p.tables e below (T165.setTop (mkF m 127 #[.val (.int p1), .val (.int p2), .val (.int p3), .val (.int p4), .val (.int (3 : Int32)), .val (.int x0), .val (.int x1), .val (.int x2), .val (.int x3), .val (.int bb), .val (.ref b135), .val (.int (own_ref x0 x1 x2 x3 (3 : Int32) bb p4))] [(.int p4), (.int bb), (.int (3 : Int32)), (.int x3), (.int x2), (.int x1), (.int x0), (.int (own_ref x0 x1 x2 x3 (3 : Int32) bb p4))])) _
        refine st167 _ ?_
        show Steps p.tables e below (T167.setTop (mkF m 130 #[.val (.int p1), .val (.int p2), .val (.int p3), .val (.int p4), .val (.int (3 : Int32)), .val (.int x0), .val (.int x1), .val (.int x2), .val (.int x3), .val (.int bb), .val (.ref b135), .val (.int (own_ref x0 x1 x2 x3 (3 : Int32) bb p4))] [(.int (own_ref x0 x1 x2 x3 (3 : Int32) bb p4)), (.int (own_ref x0 x1 x2 x3 (3 : Int32) bb p4))])) _
        refine XS.icmpNo X167.here hx rfl (hb hby at_130) rfl (teq (rfl : (own_ref x0 x1 x2 x3 (3 : Int32) bb p4) = (own_ref x0 x1 x2 x3 (3 : Int32) bb p4))).2 ?_
        show Steps p.tables e below (T167.setTop (mkF m 133 #[.val (.int p1), .val (.int p2), .val (.int p3), .val (.int p4), .val (.int (3 : Int32)), .val (.int x0), .val (.int x1), .val (.int x2), .val (.int x3), .val (.int bb), .val (.ref b135), .val (.int (own_ref x0 x1 x2 x3 (3 : Int32) bb p4))] [])) _
        refine XS.iconst X167.here hx rfl (hb hby at_133) ?_
        show Steps p.tables e below (T167.setTop (mkF m 134 #[.val (.int p1), .val (.int p2), .val (.int p3), .val (.int p4), .val (.int (3 : Int32)), .val (.int x0), .val (.int x1), .val (.int x2), .val (.int x3), .val (.int bb), .val (.ref b135), .val (.int (own_ref x0 x1 x2 x3 (3 : Int32) bb p4))] [(.int (1 : Int32))])) _
        refine XS.goto X167.here hx rfl (pc0 := 134) (pc' := 138) rfl (hb hby at_134) (by decide) (by decide) ?_
        exact kt
      obtain ⟨fs, hrt, hrun, hended, hW, hsame⟩ := X167.leave (v := some (.int (1 : Int32))) (fun h => by rw [Bd.returns] at h; cases h)
      refine ⟨_, _, pre0 _ (fl133 _ (fl134 _ (fl137 _ (fl166 _ (fl168 _ ?_))))), hrun, hended, _, _, rfl, ?_, ⟨_, rfl⟩, hW, hsame.mono (by decide) (by decide)⟩
      · exact retN X167 hx (t := .boolean) Bd.returns (by simp) (hb hby at_138) hrt
      · show Q0 _ _ _ _ _ _ _ _ _ _ T167.heap _
        exact ⟨rfl, N167⟩
  · obtain ⟨cq169, kq169, q169a, q169b, q169c⟩ := isOf hZ rfl RB0.1
    obtain ⟨_, _, ⟨T169, L169, k169, n169⟩, -, X169, ⟨Lc169, hQ169, l169, y169, z169⟩, st169⟩ := X136.virtualBack hx (y := (⟨"com/example/darter/darter/ResultBuffer", "write", "(I)V"⟩ : MethodName)) (z := (⟨"com/example/darter/darter/ResultBuffer", "write", "(I)V"⟩ : MethodName)) hown (mvT hZ (hw _ (List.mem_of_getElem? (i := 40) rfl))) (mvT hZ (hw _ (List.mem_of_getElem? (i := 41) rfl))) (notFace_of_selects (args := #[]) (mvT hZ (hw _ (List.mem_of_getElem? (i := 43) rfl)))) (mvT hZ (hw _ (List.mem_of_getElem? (i := 43) rfl))) (mvT hZ (hw _ (List.mem_of_getElem? (i := 42) rfl))) (by decide) (backOf (W := 0) (rmW0 l Z a0 hw [] b135 p1 d0 kD al 0 T136.heap n0 z136z Dz Ol_136 RB0 AL0 g_b135 gal neal) hZ (hw _ (List.mem_of_getElem? (i := 44) rfl)) (hw _ (List.mem_of_getElem? (i := 2) rfl)) (by decide) (by decide)) q169a q169c (g := (mkF m 54 #[.val (.int p1), .val (.int p2), .val (.int p3), .val (.int p4), .val (.int (4 : Int32)), .val (.int x0), .val (.int x1), .val (.int x2), .val (.int x3), .val (.int bb), .val (.ref b135), .unset] [(.int p1), (.ref b135)])) rfl (by rw [hml]; rfl) (Steps.refl _) (argsL := [(.int p1)]) (rest := []) (lenOf pd_9 rfl) rfl (by show 2 * 0 + _ ≤ _; exact Nat.le_of_eq rfl) (hb hby at_54) (fun _ _ => ⟨rfl, rfl, (by decide : 2 + 2 ≤ _), (by decide : 5 + 266 ≤ _)⟩)
    dsimp only [Pt.U, Pt.locs, Pt.cells, Pt.slots] at X169 l169 y169 z169 st169 hQ169
    subst l169 y169 z169
    obtain ⟨blk, ed, kE, kB, rfl, N169q, Kc169, RB1, On1, szb, gb, sze⟩ := hQ169
    have N169 := Fr.app N136 N169q
    have nab : b135 ≠ blk := Nat.ne_of_lt (Nat.lt_of_lt_of_le RB0.1.lt szb)
    have nae : b135 ≠ ed := Nat.ne_of_lt (Nat.lt_of_lt_of_le RB0.1.lt sze)
    rw [hx0] at On1
    have sz_blk : h0.size ≤ blk := Nat.le_trans (K136).1 szb
    have g_blk : n0 ≤ blk := gb
    have Ol_169 := Ol_136.keep Kc169 (allS g_b135 (allS g_al all0))
    have RB0_1_169 := RB0.1.keep Kc169
    have K169 : Keep h0 T169.heap [] := K136.trans Kc169 (allS (Or.inr sz_b135) (allS (Or.inr sz_al) (all0)))
    have z169z : n0 ≤ T169.heap.size := Nat.le_trans z136z Kc169.1
    obtain ⟨cq170, kq170, q170a, q170b, q170c⟩ := isOf hZ rfl RB1.1
    obtain ⟨_, _, ⟨T170, L170, k170, n170⟩, -, X170, ⟨Lc170, hQ170, l170, y170, z170⟩, st170⟩ := X169.virtualBack hx (y := (⟨"com/example/darter/darter/ResultBuffer", "write", "(I)V"⟩ : MethodName)) (z := (⟨"com/example/darter/darter/ResultBuffer", "write", "(I)V"⟩ : MethodName)) hown (mvT hZ (hw _ (List.mem_of_getElem? (i := 40) rfl))) (mvT hZ (hw _ (List.mem_of_getElem? (i := 41) rfl))) (notFace_of_selects (args := #[]) (mvT hZ (hw _ (List.mem_of_getElem? (i := 43) rfl)))) (mvT hZ (hw _ (List.mem_of_getElem? (i := 43) rfl))) (mvT hZ (hw _ (List.mem_of_getElem? (i := 42) rfl))) (by decide) (backOf (W := 0) (rmW1 l Z a0 hw [] b135 (p1 >>> ((8 : Int32) &&& 31)) al ed blk kE kB [.int x0] (1 : Int32) (2 : Int32) T169.heap n0 z169z RB1 On1 (by decide) (by decide) (by decide) (by decide) ⟨by decide, by decide⟩ rfl (by decide) g_b135 gb neal nae nab) hZ (hw _ (List.mem_of_getElem? (i := 44) rfl)) (hw _ (List.mem_of_getElem? (i := 2) rfl)) (by decide) (by decide)) q170a q170c (g := (mkF m 69 #[.val (.int p1), .val (.int p2), .val (.int p3), .val (.int p4), .val (.int (4 : Int32)), .val (.int x0), .val (.int x1), .val (.int x2), .val (.int x3), .val (.int bb), .val (.ref b135), .unset] [(.int (p1 >>> ((8 : Int32) &&& 31))), (.ref b135)])) rfl (by rw [hml]; rfl) (Steps.refl _) (argsL := [(.int (p1 >>> ((8 : Int32) &&& 31)))]) (rest := []) (lenOf pd_9 rfl) rfl (by show 2 * 0 + _ ≤ _; exact Nat.le_of_eq rfl) (hb hby at_69) (fun _ _ => ⟨rfl, rfl, (by decide : 4 + 0 ≤ _), (by decide : 271 + 0 ≤ _)⟩)
    dsimp only [Pt.U, Pt.locs, Pt.cells, Pt.slots] at X170 l170 y170 z170 st170 hQ170
    subst l170 y170 z170
    obtain ⟨rfl, N170q, Kc170, RB2, On2⟩ := hQ170
    have N170 := Fr.app N169 N170q
    rw [hx1] at On2
    have Ol_170 := Ol_169.keep Kc170 (allS g_b135 (allS g_blk all0))
    have RB1_1_170 := RB1.1.keep Kc170
    have K170 : Keep h0 T170.heap [] := K169.trans Kc170 (allS (Or.inr sz_b135) (allS (Or.inr sz_blk) (all0)))
    have z170z : n0 ≤ T170.heap.size := Nat.le_trans z169z Kc170.1
    obtain ⟨cq171, kq171, q171a, q171b, q171c⟩ := isOf hZ rfl RB2.1
    obtain ⟨_, _, ⟨T171, L171, k171, n171⟩, -, X171, ⟨Lc171, hQ171, l171, y171, z171⟩, st171⟩ := X170.virtualBack hx (y := (⟨"com/example/darter/darter/ResultBuffer", "write", "(I)V"⟩ : MethodName)) (z := (⟨"com/example/darter/darter/ResultBuffer", "write", "(I)V"⟩ : MethodName)) hown (mvT hZ (hw _ (List.mem_of_getElem? (i := 40) rfl))) (mvT hZ (hw _ (List.mem_of_getElem? (i := 41) rfl))) (notFace_of_selects (args := #[]) (mvT hZ (hw _ (List.mem_of_getElem? (i := 43) rfl)))) (mvT hZ (hw _ (List.mem_of_getElem? (i := 43) rfl))) (mvT hZ (hw _ (List.mem_of_getElem? (i := 42) rfl))) (by decide) (backOf (W := 0) (rmW1 l Z a0 hw [] b135 (p1 >>> ((16 : Int32) &&& 31)) al ed blk kE kB [.int x0, .int x1] (2 : Int32) (3 : Int32) T170.heap n0 z170z RB2 On2 (by decide) (by decide) (by decide) (by decide) ⟨by decide, by decide⟩ rfl (by decide) g_b135 gb neal nae nab) hZ (hw _ (List.mem_of_getElem? (i := 44) rfl)) (hw _ (List.mem_of_getElem? (i := 2) rfl)) (by decide) (by decide)) q171a q171c (g := (mkF m 84 #[.val (.int p1), .val (.int p2), .val (.int p3), .val (.int p4), .val (.int (4 : Int32)), .val (.int x0), .val (.int x1), .val (.int x2), .val (.int x3), .val (.int bb), .val (.ref b135), .unset] [(.int (p1 >>> ((16 : Int32) &&& 31))), (.ref b135)])) rfl (by rw [hml]; rfl) (Steps.refl _) (argsL := [(.int (p1 >>> ((16 : Int32) &&& 31)))]) (rest := []) (lenOf pd_9 rfl) rfl (by show 2 * 0 + _ ≤ _; exact Nat.le_of_eq rfl) (hb hby at_84) (fun _ _ => ⟨rfl, rfl, (by decide : 4 + 0 ≤ _), (by decide : 271 + 0 ≤ _)⟩)
    dsimp only [Pt.U, Pt.locs, Pt.cells, Pt.slots] at X171 l171 y171 z171 st171 hQ171
    subst l171 y171 z171
    obtain ⟨rfl, N171q, Kc171, RB3, On3⟩ := hQ171
    have N171 := Fr.app N170 N171q
    rw [hx2] at On3
    have Ol_171 := Ol_170.keep Kc171 (allS g_b135 (allS g_blk all0))
    have RB2_1_171 := RB2.1.keep Kc171
    have K171 : Keep h0 T171.heap [] := K170.trans Kc171 (allS (Or.inr sz_b135) (allS (Or.inr sz_blk) (all0)))
    have z171z : n0 ≤ T171.heap.size := Nat.le_trans z170z Kc171.1
    obtain ⟨cq172, kq172, q172a, q172b, q172c⟩ := isOf hZ rfl RB3.1
    obtain ⟨_, _, ⟨T172, L172, k172, n172⟩, -, X172, ⟨Lc172, hQ172, l172, y172, z172⟩, st172⟩ := X171.virtualBack hx (y := (⟨"com/example/darter/darter/ResultBuffer", "write", "(I)V"⟩ : MethodName)) (z := (⟨"com/example/darter/darter/ResultBuffer", "write", "(I)V"⟩ : MethodName)) hown (mvT hZ (hw _ (List.mem_of_getElem? (i := 40) rfl))) (mvT hZ (hw _ (List.mem_of_getElem? (i := 41) rfl))) (notFace_of_selects (args := #[]) (mvT hZ (hw _ (List.mem_of_getElem? (i := 43) rfl)))) (mvT hZ (hw _ (List.mem_of_getElem? (i := 43) rfl))) (mvT hZ (hw _ (List.mem_of_getElem? (i := 42) rfl))) (by decide) (backOf (W := 0) (rmW1 l Z a0 hw [] b135 (p1 >>> ((24 : Int32) &&& 31)) al ed blk kE kB [.int x0, .int x1, .int x2] (3 : Int32) (4 : Int32) T171.heap n0 z171z RB3 On3 (by decide) (by decide) (by decide) (by decide) ⟨by decide, by decide⟩ rfl (by decide) g_b135 gb neal nae nab) hZ (hw _ (List.mem_of_getElem? (i := 44) rfl)) (hw _ (List.mem_of_getElem? (i := 2) rfl)) (by decide) (by decide)) q172a q172c (g := (mkF m 99 #[.val (.int p1), .val (.int p2), .val (.int p3), .val (.int p4), .val (.int (4 : Int32)), .val (.int x0), .val (.int x1), .val (.int x2), .val (.int x3), .val (.int bb), .val (.ref b135), .unset] [(.int (p1 >>> ((24 : Int32) &&& 31))), (.ref b135)])) rfl (by rw [hml]; rfl) (Steps.refl _) (argsL := [(.int (p1 >>> ((24 : Int32) &&& 31)))]) (rest := []) (lenOf pd_9 rfl) rfl (by show 2 * 0 + _ ≤ _; exact Nat.le_of_eq rfl) (hb hby at_99) (fun _ _ => ⟨rfl, rfl, (by decide : 4 + 0 ≤ _), (by decide : 271 + 0 ≤ _)⟩)
    dsimp only [Pt.U, Pt.locs, Pt.cells, Pt.slots] at X172 l172 y172 z172 st172 hQ172
    subst l172 y172 z172
    obtain ⟨rfl, N172q, Kc172, RB4, On4⟩ := hQ172
    have N172 := Fr.app N171 N172q
    rw [hx3] at On4
    have Ol_172 := Ol_171.keep Kc172 (allS g_b135 (allS g_blk all0))
    have RB3_1_172 := RB3.1.keep Kc172
    have K172 : Keep h0 T172.heap [] := K171.trans Kc172 (allS (Or.inr sz_b135) (allS (Or.inr sz_blk) (all0)))
    have z172z : n0 ≤ T172.heap.size := Nat.le_trans z171z Kc172.1
    by_cases hlt : own_pos p4 < (4 : Int32)
    · have hp4 : own_pos p4 < 4 := by have z : (4 : Int32).toInt = 4 := rfl; have z4 : (4 : Int32).toInt = 4 := rfl; rw [own_lti] at hlt ⊢; omega
      have p0 := own_pos0 p4
      have sm := own_small p0 hp4
      obtain ⟨nn, hnn⟩ : ∃ nn : Nat, (own_pos p4).toInt + nn = (4 : Int32).toInt := ⟨((4 : Int32).toInt - (own_pos p4).toInt).toNat, by rw [own_lti] at hlt; omega⟩
      have hget : ∀ j : Int32, ¬ j < 0 → j < (4 : Int32) → ([.int x0, .int x1, .int x2, .int x3] : List Value).getD j.toNatClampNeg (.int (0 : Int32)) = .int (own_g x0 x1 x2 x3 j) := fun j q1 q2 => by
        have z0 : (0 : Int32).toInt = 0 := rfl
        have zk : (4 : Int32).toInt = 4 := rfl
        have z4 : (4 : Int32).toInt = 4 := rfl
        have q1' := q1
        have q2' := q2
        rw [own_lti] at q1' q2'
        rcases own_lits (x := j) (by omega) (by rw [own_lti]; omega) with rfl | rfl | rfl | rfl <;> first | rfl | exact absurd q2 (by decide)
      obtain ⟨cq173, kq173, q173a, q173b, q173c⟩ := isOf hZ rfl RB4.1
      obtain ⟨_, _, ⟨T173, L173, k173, n173⟩, -, X173, ⟨Lc173, hQ173, l173, y173, z173⟩, st173⟩ := X172.virtualBack hx (y := (⟨"com/example/darter/darter/ResultBuffer", "indexOf", "(BI)I"⟩ : MethodName)) (z := (⟨"com/example/darter/darter/ResultBuffer", "indexOf", "(BI)I"⟩ : MethodName)) hown (mvT hZ (hw _ (List.mem_of_getElem? (i := 128) rfl))) (mvT hZ (hw _ (List.mem_of_getElem? (i := 129) rfl))) (notFace_of_selects (args := #[]) (mvT hZ (hw _ (List.mem_of_getElem? (i := 131) rfl)))) (mvT hZ (hw _ (List.mem_of_getElem? (i := 131) rfl))) (mvT hZ (hw _ (List.mem_of_getElem? (i := 130) rfl))) (by decide) (backOf (W := 0) (rmI1 l Z a0 hw [] b135 bb p4 al ed blk kE kB [.int x0, .int x1, .int x2, .int x3] (4 : Int32) (own_pos p4) (own_g x0 x1 x2 x3) nn (own_ref x0 x1 x2 x3 (4 : Int32) bb p4) T172.heap n0 z172z RB4 On4 rfl hlt sm.1 sm.2 (by decide) (by decide) p0 hnn hget (own_near x0 x1 x2 x3 bb p4 (4 : Int32) nn (by decide) hlt hnn).symm) hZ (hw _ (List.mem_of_getElem? (i := 132) rfl)) (hw _ (List.mem_of_getElem? (i := 2) rfl)) (by decide) (by decide)) q173a q173c (g := (mkF m 107 #[.val (.int p1), .val (.int p2), .val (.int p3), .val (.int p4), .val (.int (4 : Int32)), .val (.int x0), .val (.int x1), .val (.int x2), .val (.int x3), .val (.int bb), .val (.ref b135), .unset] [(.int p4), (.int bb), (.ref b135)])) rfl (by rw [hml]; rfl) (Steps.refl _) (argsL := [(.int bb), (.int p4)]) (rest := []) (lenOf pd_11 rfl) rfl (by show 2 * 0 + _ ≤ _; exact Nat.le_of_eq rfl) (hb hby at_107) (fun _ _ => ⟨rfl, rfl, (by decide : 4 + 0 ≤ _), (by decide : 271 + 0 ≤ _)⟩)
      dsimp only [Pt.U, Pt.locs, Pt.cells, Pt.slots] at X173 l173 y173 z173 st173 hQ173
      subst l173 y173 z173
      obtain ⟨rfl, N173q, he173⟩ := hQ173
      have N173 := Fr.app N172 N173q
      have Kc173 : Keep T172.heap T173.heap [] := by rw [he173]; exact Keep.refl _ _
      have K173 : Keep h0 T173.heap [] := K172.trans Kc173 all0
      have z173z : n0 ≤ T173.heap.size := Nat.le_trans z172z Kc173.1
      obtain ⟨_, _, ⟨T174, L174, k174, n174⟩, -, X174, ⟨Lc174, hQ174, l174, y174, z174⟩, st174⟩ := Jvm.LawKit.callS X173 hx (y := (⟨"com/example/darter/darter/ResultBufferIndexOfPinLaw", "ref", "(BBBBIBI)I"⟩ : MethodName)) hown (mvT hZ (hw _ (List.mem_of_getElem? (i := 133) rfl))) (mvT hZ (hw _ (List.mem_of_getElem? (i := 134) rfl))) (mvT hZ (hw _ (List.mem_of_getElem? (i := 135) rfl))) (mvT hZ (hw _ (List.mem_of_getElem? (i := 136) rfl))) (by decide) (backOf (W := 1) (rm22 l Z a0 hw [] x0 x1 x2 x3 (4 : Int32) bb p4 (own_ref x0 x1 x2 x3 (4 : Int32) bb p4) T173.heap n0 z173z rfl) hZ (hw _ (List.mem_of_getElem? (i := 136) rfl)) (hw _ (List.mem_of_getElem? (i := 135) rfl)) (by decide) (by decide)) (g := (mkF m 127 #[.val (.int p1), .val (.int p2), .val (.int p3), .val (.int p4), .val (.int (4 : Int32)), .val (.int x0), .val (.int x1), .val (.int x2), .val (.int x3), .val (.int bb), .val (.ref b135), .val (.int (own_ref x0 x1 x2 x3 (4 : Int32) bb p4))] [(.int p4), (.int bb), (.int (4 : Int32)), (.int x3), (.int x2), (.int x1), (.int x0), (.int (own_ref x0 x1 x2 x3 (4 : Int32) bb p4))])) rfl (by rw [hml]; rfl) (argsL := [(.int x0), (.int x1), (.int x2), (.int x3), (.int (4 : Int32)), (.int bb), (.int p4)]) (rest := [(.int (own_ref x0 x1 x2 x3 (4 : Int32) bb p4))]) (lenOf pd_12 rfl) rfl (by show 2 * 0 + _ ≤ _; exact Nat.le_of_eq rfl) (hb hby at_127) (fun _ _ => ⟨rfl, rfl, (by decide : 4 + 0 ≤ _), (by decide : 271 + 0 ≤ _)⟩)
      dsimp only [Pt.U, Pt.locs, Pt.cells, Pt.slots] at X174 l174 y174 z174 st174 hQ174
      subst l174 y174 z174
      obtain ⟨rfl, N174q, he174⟩ := hQ174
      have N174 := Fr.app N173 N174q
      have fl175 : ∀ target, Steps p.tables e below (T174.setTop (mkF m 138 #[.val (.int p1), .val (.int p2), .val (.int p3), .val (.int p4), .val (.int (4 : Int32)), .val (.int x0), .val (.int x1), .val (.int x2), .val (.int x3), .val (.int bb), .val (.ref b135), .val (.int (own_ref x0 x1 x2 x3 (4 : Int32) bb p4))] [(.int (1 : Int32))])) target → Steps p.tables e below (T136.setTop (mkF m 46 #[.val (.int p1), .val (.int p2), .val (.int p3), .val (.int p4), .val (.int (4 : Int32)), .val (.int x0), .val (.int x1), .val (.int x2), .val (.int x3), .val (.int bb), .val (.ref b135), .unset] [])) target := fun target kt => by
        show Steps p.tables e below (T136.setTop (mkF m 46 #[.val (.int p1), .val (.int p2), .val (.int p3), .val (.int p4), .val (.int (4 : Int32)), .val (.int x0), .val (.int x1), .val (.int x2), .val (.int x3), .val (.int bb), .val (.ref b135), .unset] [])) _
        refine XS.iload X136.here hx rfl (hb hby at_46) rfl ?_
        show Steps p.tables e below (T136.setTop (mkF m 48 #[.val (.int p1), .val (.int p2), .val (.int p3), .val (.int p4), .val (.int (4 : Int32)), .val (.int x0), .val (.int x1), .val (.int x2), .val (.int x3), .val (.int bb), .val (.ref b135), .unset] [(.int (4 : Int32))])) _
        refine XS.ifNo X136.here hx rfl (hb hby at_48) rfl ((if0 _ _).trans (tlt (by decide : (0 : Int32) < (4 : Int32))).2.2.2) ?_
        show Steps p.tables e below (T136.setTop (mkF m 51 #[.val (.int p1), .val (.int p2), .val (.int p3), .val (.int p4), .val (.int (4 : Int32)), .val (.int x0), .val (.int x1), .val (.int x2), .val (.int x3), .val (.int bb), .val (.ref b135), .unset] [])) _
        refine XS.aload X136.here hx rfl (hb hby at_51) rfl rfl ?_
        show Steps p.tables e below (T136.setTop (mkF m 53 #[.val (.int p1), .val (.int p2), .val (.int p3), .val (.int p4), .val (.int (4 : Int32)), .val (.int x0), .val (.int x1), .val (.int x2), .val (.int x3), .val (.int bb), .val (.ref b135), .unset] [(.ref b135)])) _
        refine XS.iloadN X136.here hx rfl (hb hby at_53) rfl ?_
        show Steps p.tables e below (T136.setTop (mkF m 54 #[.val (.int p1), .val (.int p2), .val (.int p3), .val (.int p4), .val (.int (4 : Int32)), .val (.int x0), .val (.int x1), .val (.int x2), .val (.int x3), .val (.int bb), .val (.ref b135), .unset] [(.int p1), (.ref b135)])) _
        refine st169.trans ?_
        show Steps p.tables e below (T169.setTop (mkF m 57 #[.val (.int p1), .val (.int p2), .val (.int p3), .val (.int p4), .val (.int (4 : Int32)), .val (.int x0), .val (.int x1), .val (.int x2), .val (.int x3), .val (.int bb), .val (.ref b135), .unset] [])) _
        refine XS.iload X169.here hx rfl (hb hby at_57) rfl ?_
        show Steps p.tables e below (T169.setTop (mkF m 59 #[.val (.int p1), .val (.int p2), .val (.int p3), .val (.int p4), .val (.int (4 : Int32)), .val (.int x0), .val (.int x1), .val (.int x2), .val (.int x3), .val (.int bb), .val (.ref b135), .unset] [(.int (4 : Int32))])) _
        refine XS.iconst X169.here hx rfl (hb hby at_59) ?_
        show Steps p.tables e below (T169.setTop (mkF m 60 #[.val (.int p1), .val (.int p2), .val (.int p3), .val (.int p4), .val (.int (4 : Int32)), .val (.int x0), .val (.int x1), .val (.int x2), .val (.int x3), .val (.int bb), .val (.ref b135), .unset] [(.int (1 : Int32)), (.int (4 : Int32))])) _
        refine XS.icmpNo X169.here hx rfl (hb hby at_60) rfl (tlt (by decide : (1 : Int32) < (4 : Int32))).2.2.2 ?_
        show Steps p.tables e below (T169.setTop (mkF m 63 #[.val (.int p1), .val (.int p2), .val (.int p3), .val (.int p4), .val (.int (4 : Int32)), .val (.int x0), .val (.int x1), .val (.int x2), .val (.int x3), .val (.int bb), .val (.ref b135), .unset] [])) _
        refine XS.aload X169.here hx rfl (hb hby at_63) rfl rfl ?_
        show Steps p.tables e below (T169.setTop (mkF m 65 #[.val (.int p1), .val (.int p2), .val (.int p3), .val (.int p4), .val (.int (4 : Int32)), .val (.int x0), .val (.int x1), .val (.int x2), .val (.int x3), .val (.int bb), .val (.ref b135), .unset] [(.ref b135)])) _
        refine XS.iloadN X169.here hx rfl (hb hby at_65) rfl ?_
        show Steps p.tables e below (T169.setTop (mkF m 66 #[.val (.int p1), .val (.int p2), .val (.int p3), .val (.int p4), .val (.int (4 : Int32)), .val (.int x0), .val (.int x1), .val (.int x2), .val (.int x3), .val (.int bb), .val (.ref b135), .unset] [(.int p1), (.ref b135)])) _
        refine XS.bipush X169.here hx rfl (hb hby at_66) ?_
        show Steps p.tables e below (T169.setTop (mkF m 68 #[.val (.int p1), .val (.int p2), .val (.int p3), .val (.int p4), .val (.int (4 : Int32)), .val (.int x0), .val (.int x1), .val (.int x2), .val (.int x3), .val (.int bb), .val (.ref b135), .unset] [(.int (8 : Int32)), (.int p1), (.ref b135)])) _
        refine XS.ishr X169.here hx rfl (hb hby at_68) rfl ?_
        show Steps p.tables e below (T169.setTop (mkF m 69 #[.val (.int p1), .val (.int p2), .val (.int p3), .val (.int p4), .val (.int (4 : Int32)), .val (.int x0), .val (.int x1), .val (.int x2), .val (.int x3), .val (.int bb), .val (.ref b135), .unset] [(.int (p1 >>> ((8 : Int32) &&& 31))), (.ref b135)])) _
        refine st170.trans ?_
        show Steps p.tables e below (T170.setTop (mkF m 72 #[.val (.int p1), .val (.int p2), .val (.int p3), .val (.int p4), .val (.int (4 : Int32)), .val (.int x0), .val (.int x1), .val (.int x2), .val (.int x3), .val (.int bb), .val (.ref b135), .unset] [])) _
        refine XS.iload X170.here hx rfl (hb hby at_72) rfl ?_
        show Steps p.tables e below (T170.setTop (mkF m 74 #[.val (.int p1), .val (.int p2), .val (.int p3), .val (.int p4), .val (.int (4 : Int32)), .val (.int x0), .val (.int x1), .val (.int x2), .val (.int x3), .val (.int bb), .val (.ref b135), .unset] [(.int (4 : Int32))])) _
        refine XS.iconst X170.here hx rfl (hb hby at_74) ?_
        show Steps p.tables e below (T170.setTop (mkF m 75 #[.val (.int p1), .val (.int p2), .val (.int p3), .val (.int p4), .val (.int (4 : Int32)), .val (.int x0), .val (.int x1), .val (.int x2), .val (.int x3), .val (.int bb), .val (.ref b135), .unset] [(.int (2 : Int32)), (.int (4 : Int32))])) _
        refine XS.icmpNo X170.here hx rfl (hb hby at_75) rfl (tlt (by decide : (2 : Int32) < (4 : Int32))).2.2.2 ?_
        show Steps p.tables e below (T170.setTop (mkF m 78 #[.val (.int p1), .val (.int p2), .val (.int p3), .val (.int p4), .val (.int (4 : Int32)), .val (.int x0), .val (.int x1), .val (.int x2), .val (.int x3), .val (.int bb), .val (.ref b135), .unset] [])) _
        refine XS.aload X170.here hx rfl (hb hby at_78) rfl rfl ?_
        show Steps p.tables e below (T170.setTop (mkF m 80 #[.val (.int p1), .val (.int p2), .val (.int p3), .val (.int p4), .val (.int (4 : Int32)), .val (.int x0), .val (.int x1), .val (.int x2), .val (.int x3), .val (.int bb), .val (.ref b135), .unset] [(.ref b135)])) _
        refine XS.iloadN X170.here hx rfl (hb hby at_80) rfl ?_
        show Steps p.tables e below (T170.setTop (mkF m 81 #[.val (.int p1), .val (.int p2), .val (.int p3), .val (.int p4), .val (.int (4 : Int32)), .val (.int x0), .val (.int x1), .val (.int x2), .val (.int x3), .val (.int bb), .val (.ref b135), .unset] [(.int p1), (.ref b135)])) _
        refine XS.bipush X170.here hx rfl (hb hby at_81) ?_
        show Steps p.tables e below (T170.setTop (mkF m 83 #[.val (.int p1), .val (.int p2), .val (.int p3), .val (.int p4), .val (.int (4 : Int32)), .val (.int x0), .val (.int x1), .val (.int x2), .val (.int x3), .val (.int bb), .val (.ref b135), .unset] [(.int (16 : Int32)), (.int p1), (.ref b135)])) _
        refine XS.ishr X170.here hx rfl (hb hby at_83) rfl ?_
        show Steps p.tables e below (T170.setTop (mkF m 84 #[.val (.int p1), .val (.int p2), .val (.int p3), .val (.int p4), .val (.int (4 : Int32)), .val (.int x0), .val (.int x1), .val (.int x2), .val (.int x3), .val (.int bb), .val (.ref b135), .unset] [(.int (p1 >>> ((16 : Int32) &&& 31))), (.ref b135)])) _
        refine st171.trans ?_
        show Steps p.tables e below (T171.setTop (mkF m 87 #[.val (.int p1), .val (.int p2), .val (.int p3), .val (.int p4), .val (.int (4 : Int32)), .val (.int x0), .val (.int x1), .val (.int x2), .val (.int x3), .val (.int bb), .val (.ref b135), .unset] [])) _
        refine XS.iload X171.here hx rfl (hb hby at_87) rfl ?_
        show Steps p.tables e below (T171.setTop (mkF m 89 #[.val (.int p1), .val (.int p2), .val (.int p3), .val (.int p4), .val (.int (4 : Int32)), .val (.int x0), .val (.int x1), .val (.int x2), .val (.int x3), .val (.int bb), .val (.ref b135), .unset] [(.int (4 : Int32))])) _
        refine XS.iconst X171.here hx rfl (hb hby at_89) ?_
        show Steps p.tables e below (T171.setTop (mkF m 90 #[.val (.int p1), .val (.int p2), .val (.int p3), .val (.int p4), .val (.int (4 : Int32)), .val (.int x0), .val (.int x1), .val (.int x2), .val (.int x3), .val (.int bb), .val (.ref b135), .unset] [(.int (3 : Int32)), (.int (4 : Int32))])) _
        refine XS.icmpNo X171.here hx rfl (hb hby at_90) rfl (tlt (by decide : (3 : Int32) < (4 : Int32))).2.2.2 ?_
        show Steps p.tables e below (T171.setTop (mkF m 93 #[.val (.int p1), .val (.int p2), .val (.int p3), .val (.int p4), .val (.int (4 : Int32)), .val (.int x0), .val (.int x1), .val (.int x2), .val (.int x3), .val (.int bb), .val (.ref b135), .unset] [])) _
        refine XS.aload X171.here hx rfl (hb hby at_93) rfl rfl ?_
        show Steps p.tables e below (T171.setTop (mkF m 95 #[.val (.int p1), .val (.int p2), .val (.int p3), .val (.int p4), .val (.int (4 : Int32)), .val (.int x0), .val (.int x1), .val (.int x2), .val (.int x3), .val (.int bb), .val (.ref b135), .unset] [(.ref b135)])) _
        refine XS.iloadN X171.here hx rfl (hb hby at_95) rfl ?_
        show Steps p.tables e below (T171.setTop (mkF m 96 #[.val (.int p1), .val (.int p2), .val (.int p3), .val (.int p4), .val (.int (4 : Int32)), .val (.int x0), .val (.int x1), .val (.int x2), .val (.int x3), .val (.int bb), .val (.ref b135), .unset] [(.int p1), (.ref b135)])) _
        refine XS.bipush X171.here hx rfl (hb hby at_96) ?_
        show Steps p.tables e below (T171.setTop (mkF m 98 #[.val (.int p1), .val (.int p2), .val (.int p3), .val (.int p4), .val (.int (4 : Int32)), .val (.int x0), .val (.int x1), .val (.int x2), .val (.int x3), .val (.int bb), .val (.ref b135), .unset] [(.int (24 : Int32)), (.int p1), (.ref b135)])) _
        refine XS.ishr X171.here hx rfl (hb hby at_98) rfl ?_
        show Steps p.tables e below (T171.setTop (mkF m 99 #[.val (.int p1), .val (.int p2), .val (.int p3), .val (.int p4), .val (.int (4 : Int32)), .val (.int x0), .val (.int x1), .val (.int x2), .val (.int x3), .val (.int bb), .val (.ref b135), .unset] [(.int (p1 >>> ((24 : Int32) &&& 31))), (.ref b135)])) _
        refine st172.trans ?_
        show Steps p.tables e below (T172.setTop (mkF m 102 #[.val (.int p1), .val (.int p2), .val (.int p3), .val (.int p4), .val (.int (4 : Int32)), .val (.int x0), .val (.int x1), .val (.int x2), .val (.int x3), .val (.int bb), .val (.ref b135), .unset] [])) _
        refine XS.aload X172.here hx rfl (hb hby at_102) rfl rfl ?_
        show Steps p.tables e below (T172.setTop (mkF m 104 #[.val (.int p1), .val (.int p2), .val (.int p3), .val (.int p4), .val (.int (4 : Int32)), .val (.int x0), .val (.int x1), .val (.int x2), .val (.int x3), .val (.int bb), .val (.ref b135), .unset] [(.ref b135)])) _
        refine XS.iload X172.here hx rfl (hb hby at_104) rfl ?_
        show Steps p.tables e below (T172.setTop (mkF m 106 #[.val (.int p1), .val (.int p2), .val (.int p3), .val (.int p4), .val (.int (4 : Int32)), .val (.int x0), .val (.int x1), .val (.int x2), .val (.int x3), .val (.int bb), .val (.ref b135), .unset] [(.int bb), (.ref b135)])) _
        refine XS.iloadN X172.here hx rfl (hb hby at_106) rfl ?_
        show Steps p.tables e below (T172.setTop (mkF m 107 #[.val (.int p1), .val (.int p2), .val (.int p3), .val (.int p4), .val (.int (4 : Int32)), .val (.int x0), .val (.int x1), .val (.int x2), .val (.int x3), .val (.int bb), .val (.ref b135), .unset] [(.int p4), (.int bb), (.ref b135)])) _
        refine st173.trans ?_
        show Steps p.tables e below (T173.setTop (mkF m 110 #[.val (.int p1), .val (.int p2), .val (.int p3), .val (.int p4), .val (.int (4 : Int32)), .val (.int x0), .val (.int x1), .val (.int x2), .val (.int x3), .val (.int bb), .val (.ref b135), .unset] [(.int (own_ref x0 x1 x2 x3 (4 : Int32) bb p4))])) _
        refine XS.istore X173.here hx rfl (hb hby at_110) rfl (l' := #[.val (.int p1), .val (.int p2), .val (.int p3), .val (.int p4), .val (.int (4 : Int32)), .val (.int x0), .val (.int x1), .val (.int x2), .val (.int x3), .val (.int bb), .val (.ref b135), .val (.int (own_ref x0 x1 x2 x3 (4 : Int32) bb p4))]) rfl ?_
        show Steps p.tables e below (T173.setTop (mkF m 112 #[.val (.int p1), .val (.int p2), .val (.int p3), .val (.int p4), .val (.int (4 : Int32)), .val (.int x0), .val (.int x1), .val (.int x2), .val (.int x3), .val (.int bb), .val (.ref b135), .val (.int (own_ref x0 x1 x2 x3 (4 : Int32) bb p4))] [])) _
        refine XS.iload X173.here hx rfl (hb hby at_112) rfl ?_
        show Steps p.tables e below (T173.setTop (mkF m 114 #[.val (.int p1), .val (.int p2), .val (.int p3), .val (.int p4), .val (.int (4 : Int32)), .val (.int x0), .val (.int x1), .val (.int x2), .val (.int x3), .val (.int bb), .val (.ref b135), .val (.int (own_ref x0 x1 x2 x3 (4 : Int32) bb p4))] [(.int (own_ref x0 x1 x2 x3 (4 : Int32) bb p4))])) _
        refine XS.iload X173.here hx rfl (hb hby at_114) rfl ?_
        show Steps p.tables e below (T173.setTop (mkF m 116 #[.val (.int p1), .val (.int p2), .val (.int p3), .val (.int p4), .val (.int (4 : Int32)), .val (.int x0), .val (.int x1), .val (.int x2), .val (.int x3), .val (.int bb), .val (.ref b135), .val (.int (own_ref x0 x1 x2 x3 (4 : Int32) bb p4))] [(.int x0), (.int (own_ref x0 x1 x2 x3 (4 : Int32) bb p4))])) _
        refine XS.iload X173.here hx rfl (hb hby at_116) rfl ?_
        show Steps p.tables e below (T173.setTop (mkF m 118 #[.val (.int p1), .val (.int p2), .val (.int p3), .val (.int p4), .val (.int (4 : Int32)), .val (.int x0), .val (.int x1), .val (.int x2), .val (.int x3), .val (.int bb), .val (.ref b135), .val (.int (own_ref x0 x1 x2 x3 (4 : Int32) bb p4))] [(.int x1), (.int x0), (.int (own_ref x0 x1 x2 x3 (4 : Int32) bb p4))])) _
        refine XS.iload X173.here hx rfl (hb hby at_118) rfl ?_
        show Steps p.tables e below (T173.setTop (mkF m 120 #[.val (.int p1), .val (.int p2), .val (.int p3), .val (.int p4), .val (.int (4 : Int32)), .val (.int x0), .val (.int x1), .val (.int x2), .val (.int x3), .val (.int bb), .val (.ref b135), .val (.int (own_ref x0 x1 x2 x3 (4 : Int32) bb p4))] [(.int x2), (.int x1), (.int x0), (.int (own_ref x0 x1 x2 x3 (4 : Int32) bb p4))])) _
        refine XS.iload X173.here hx rfl (hb hby at_120) rfl ?_
        show Steps p.tables e below (T173.setTop (mkF m 122 #[.val (.int p1), .val (.int p2), .val (.int p3), .val (.int p4), .val (.int (4 : Int32)), .val (.int x0), .val (.int x1), .val (.int x2), .val (.int x3), .val (.int bb), .val (.ref b135), .val (.int (own_ref x0 x1 x2 x3 (4 : Int32) bb p4))] [(.int x3), (.int x2), (.int x1), (.int x0), (.int (own_ref x0 x1 x2 x3 (4 : Int32) bb p4))])) _
        refine XS.iload X173.here hx rfl (hb hby at_122) rfl ?_
        show Steps p.tables e below (T173.setTop (mkF m 124 #[.val (.int p1), .val (.int p2), .val (.int p3), .val (.int p4), .val (.int (4 : Int32)), .val (.int x0), .val (.int x1), .val (.int x2), .val (.int x3), .val (.int bb), .val (.ref b135), .val (.int (own_ref x0 x1 x2 x3 (4 : Int32) bb p4))] [(.int (4 : Int32)), (.int x3), (.int x2), (.int x1), (.int x0), (.int (own_ref x0 x1 x2 x3 (4 : Int32) bb p4))])) _
        refine XS.iload X173.here hx rfl (hb hby at_124) rfl ?_
        show Steps p.tables e below (T173.setTop (mkF m 126 #[.val (.int p1), .val (.int p2), .val (.int p3), .val (.int p4), .val (.int (4 : Int32)), .val (.int x0), .val (.int x1), .val (.int x2), .val (.int x3), .val (.int bb), .val (.ref b135), .val (.int (own_ref x0 x1 x2 x3 (4 : Int32) bb p4))] [(.int bb), (.int (4 : Int32)), (.int x3), (.int x2), (.int x1), (.int x0), (.int (own_ref x0 x1 x2 x3 (4 : Int32) bb p4))])) _
        refine XS.iloadN X173.here hx rfl (hb hby at_126) rfl ?_
        show Steps p.tables e below (T173.setTop (mkF m 127 #[.val (.int p1), .val (.int p2), .val (.int p3), .val (.int p4), .val (.int (4 : Int32)), .val (.int x0), .val (.int x1), .val (.int x2), .val (.int x3), .val (.int bb), .val (.ref b135), .val (.int (own_ref x0 x1 x2 x3 (4 : Int32) bb p4))] [(.int p4), (.int bb), (.int (4 : Int32)), (.int x3), (.int x2), (.int x1), (.int x0), (.int (own_ref x0 x1 x2 x3 (4 : Int32) bb p4))])) _
        refine st174 _ ?_
        show Steps p.tables e below (T174.setTop (mkF m 130 #[.val (.int p1), .val (.int p2), .val (.int p3), .val (.int p4), .val (.int (4 : Int32)), .val (.int x0), .val (.int x1), .val (.int x2), .val (.int x3), .val (.int bb), .val (.ref b135), .val (.int (own_ref x0 x1 x2 x3 (4 : Int32) bb p4))] [(.int (own_ref x0 x1 x2 x3 (4 : Int32) bb p4)), (.int (own_ref x0 x1 x2 x3 (4 : Int32) bb p4))])) _
        refine XS.icmpNo X174.here hx rfl (hb hby at_130) rfl (teq (rfl : (own_ref x0 x1 x2 x3 (4 : Int32) bb p4) = (own_ref x0 x1 x2 x3 (4 : Int32) bb p4))).2 ?_
        show Steps p.tables e below (T174.setTop (mkF m 133 #[.val (.int p1), .val (.int p2), .val (.int p3), .val (.int p4), .val (.int (4 : Int32)), .val (.int x0), .val (.int x1), .val (.int x2), .val (.int x3), .val (.int bb), .val (.ref b135), .val (.int (own_ref x0 x1 x2 x3 (4 : Int32) bb p4))] [])) _
        refine XS.iconst X174.here hx rfl (hb hby at_133) ?_
        show Steps p.tables e below (T174.setTop (mkF m 134 #[.val (.int p1), .val (.int p2), .val (.int p3), .val (.int p4), .val (.int (4 : Int32)), .val (.int x0), .val (.int x1), .val (.int x2), .val (.int x3), .val (.int bb), .val (.ref b135), .val (.int (own_ref x0 x1 x2 x3 (4 : Int32) bb p4))] [(.int (1 : Int32))])) _
        refine XS.goto X174.here hx rfl (pc0 := 134) (pc' := 138) rfl (hb hby at_134) (by decide) (by decide) ?_
        exact kt
      obtain ⟨fs, hrt, hrun, hended, hW, hsame⟩ := X174.leave (v := some (.int (1 : Int32))) (fun h => by rw [Bd.returns] at h; cases h)
      refine ⟨_, _, pre0 _ (fl133 _ (fl134 _ (fl137 _ (fl175 _ ?_)))), hrun, hended, _, _, rfl, ?_, ⟨_, rfl⟩, hW, hsame.mono (by decide) (by decide)⟩
      · exact retN X174 hx (t := .boolean) Bd.returns (by simp) (hb hby at_138) hrt
      · show Q0 _ _ _ _ _ _ _ _ _ _ T174.heap _
        exact ⟨rfl, N174⟩
    · obtain ⟨cq176, kq176, q176a, q176b, q176c⟩ := isOf hZ rfl RB4.1
      obtain ⟨_, _, ⟨T176, L176, k176, n176⟩, -, X176, ⟨Lc176, hQ176, l176, y176, z176⟩, st176⟩ := X172.virtualBack hx (y := (⟨"com/example/darter/darter/ResultBuffer", "indexOf", "(BI)I"⟩ : MethodName)) (z := (⟨"com/example/darter/darter/ResultBuffer", "indexOf", "(BI)I"⟩ : MethodName)) hown (mvT hZ (hw _ (List.mem_of_getElem? (i := 128) rfl))) (mvT hZ (hw _ (List.mem_of_getElem? (i := 129) rfl))) (notFace_of_selects (args := #[]) (mvT hZ (hw _ (List.mem_of_getElem? (i := 131) rfl)))) (mvT hZ (hw _ (List.mem_of_getElem? (i := 131) rfl))) (mvT hZ (hw _ (List.mem_of_getElem? (i := 130) rfl))) (by decide) (backOf (W := 0) (rmI0 l Z a0 hw [] b135 bb p4 al (4 : Int32) (own_pos p4) T172.heap n0 z172z RB4 rfl hlt) hZ (hw _ (List.mem_of_getElem? (i := 132) rfl)) (hw _ (List.mem_of_getElem? (i := 2) rfl)) (by decide) (by decide)) q176a q176c (g := (mkF m 107 #[.val (.int p1), .val (.int p2), .val (.int p3), .val (.int p4), .val (.int (4 : Int32)), .val (.int x0), .val (.int x1), .val (.int x2), .val (.int x3), .val (.int bb), .val (.ref b135), .unset] [(.int p4), (.int bb), (.ref b135)])) rfl (by rw [hml]; rfl) (Steps.refl _) (argsL := [(.int bb), (.int p4)]) (rest := []) (lenOf pd_11 rfl) rfl (by show 2 * 0 + _ ≤ _; exact Nat.le_of_eq rfl) (hb hby at_107) (fun _ _ => ⟨rfl, rfl, (by decide : 4 + 0 ≤ _), (by decide : 271 + 0 ≤ _)⟩)
      dsimp only [Pt.U, Pt.locs, Pt.cells, Pt.slots] at X176 l176 y176 z176 st176 hQ176
      subst l176 y176 z176
      obtain ⟨rfl, N176q, he176⟩ := hQ176
      have N176 := Fr.app N172 N176q
      have Kc176 : Keep T172.heap T176.heap [] := by rw [he176]; exact Keep.refl _ _
      have K176 : Keep h0 T176.heap [] := K172.trans Kc176 all0
      have z176z : n0 ≤ T176.heap.size := Nat.le_trans z172z Kc176.1
      have fl177 : ∀ target, Steps p.tables e below (T176.setTop (mkF m 110 #[.val (.int p1), .val (.int p2), .val (.int p3), .val (.int p4), .val (.int (4 : Int32)), .val (.int x0), .val (.int x1), .val (.int x2), .val (.int x3), .val (.int bb), .val (.ref b135), .unset] [(.int (-1 : Int32))])) target → Steps p.tables e below (T136.setTop (mkF m 46 #[.val (.int p1), .val (.int p2), .val (.int p3), .val (.int p4), .val (.int (4 : Int32)), .val (.int x0), .val (.int x1), .val (.int x2), .val (.int x3), .val (.int bb), .val (.ref b135), .unset] [])) target := fun target kt => by
        show Steps p.tables e below (T136.setTop (mkF m 46 #[.val (.int p1), .val (.int p2), .val (.int p3), .val (.int p4), .val (.int (4 : Int32)), .val (.int x0), .val (.int x1), .val (.int x2), .val (.int x3), .val (.int bb), .val (.ref b135), .unset] [])) _
        refine XS.iload X136.here hx rfl (hb hby at_46) rfl ?_
        show Steps p.tables e below (T136.setTop (mkF m 48 #[.val (.int p1), .val (.int p2), .val (.int p3), .val (.int p4), .val (.int (4 : Int32)), .val (.int x0), .val (.int x1), .val (.int x2), .val (.int x3), .val (.int bb), .val (.ref b135), .unset] [(.int (4 : Int32))])) _
        refine XS.ifNo X136.here hx rfl (hb hby at_48) rfl ((if0 _ _).trans (tlt (by decide : (0 : Int32) < (4 : Int32))).2.2.2) ?_
        show Steps p.tables e below (T136.setTop (mkF m 51 #[.val (.int p1), .val (.int p2), .val (.int p3), .val (.int p4), .val (.int (4 : Int32)), .val (.int x0), .val (.int x1), .val (.int x2), .val (.int x3), .val (.int bb), .val (.ref b135), .unset] [])) _
        refine XS.aload X136.here hx rfl (hb hby at_51) rfl rfl ?_
        show Steps p.tables e below (T136.setTop (mkF m 53 #[.val (.int p1), .val (.int p2), .val (.int p3), .val (.int p4), .val (.int (4 : Int32)), .val (.int x0), .val (.int x1), .val (.int x2), .val (.int x3), .val (.int bb), .val (.ref b135), .unset] [(.ref b135)])) _
        refine XS.iloadN X136.here hx rfl (hb hby at_53) rfl ?_
        show Steps p.tables e below (T136.setTop (mkF m 54 #[.val (.int p1), .val (.int p2), .val (.int p3), .val (.int p4), .val (.int (4 : Int32)), .val (.int x0), .val (.int x1), .val (.int x2), .val (.int x3), .val (.int bb), .val (.ref b135), .unset] [(.int p1), (.ref b135)])) _
        refine st169.trans ?_
        show Steps p.tables e below (T169.setTop (mkF m 57 #[.val (.int p1), .val (.int p2), .val (.int p3), .val (.int p4), .val (.int (4 : Int32)), .val (.int x0), .val (.int x1), .val (.int x2), .val (.int x3), .val (.int bb), .val (.ref b135), .unset] [])) _
        refine XS.iload X169.here hx rfl (hb hby at_57) rfl ?_
        show Steps p.tables e below (T169.setTop (mkF m 59 #[.val (.int p1), .val (.int p2), .val (.int p3), .val (.int p4), .val (.int (4 : Int32)), .val (.int x0), .val (.int x1), .val (.int x2), .val (.int x3), .val (.int bb), .val (.ref b135), .unset] [(.int (4 : Int32))])) _
        refine XS.iconst X169.here hx rfl (hb hby at_59) ?_
        show Steps p.tables e below (T169.setTop (mkF m 60 #[.val (.int p1), .val (.int p2), .val (.int p3), .val (.int p4), .val (.int (4 : Int32)), .val (.int x0), .val (.int x1), .val (.int x2), .val (.int x3), .val (.int bb), .val (.ref b135), .unset] [(.int (1 : Int32)), (.int (4 : Int32))])) _
        refine XS.icmpNo X169.here hx rfl (hb hby at_60) rfl (tlt (by decide : (1 : Int32) < (4 : Int32))).2.2.2 ?_
        show Steps p.tables e below (T169.setTop (mkF m 63 #[.val (.int p1), .val (.int p2), .val (.int p3), .val (.int p4), .val (.int (4 : Int32)), .val (.int x0), .val (.int x1), .val (.int x2), .val (.int x3), .val (.int bb), .val (.ref b135), .unset] [])) _
        refine XS.aload X169.here hx rfl (hb hby at_63) rfl rfl ?_
        show Steps p.tables e below (T169.setTop (mkF m 65 #[.val (.int p1), .val (.int p2), .val (.int p3), .val (.int p4), .val (.int (4 : Int32)), .val (.int x0), .val (.int x1), .val (.int x2), .val (.int x3), .val (.int bb), .val (.ref b135), .unset] [(.ref b135)])) _
        refine XS.iloadN X169.here hx rfl (hb hby at_65) rfl ?_
        show Steps p.tables e below (T169.setTop (mkF m 66 #[.val (.int p1), .val (.int p2), .val (.int p3), .val (.int p4), .val (.int (4 : Int32)), .val (.int x0), .val (.int x1), .val (.int x2), .val (.int x3), .val (.int bb), .val (.ref b135), .unset] [(.int p1), (.ref b135)])) _
        refine XS.bipush X169.here hx rfl (hb hby at_66) ?_
        show Steps p.tables e below (T169.setTop (mkF m 68 #[.val (.int p1), .val (.int p2), .val (.int p3), .val (.int p4), .val (.int (4 : Int32)), .val (.int x0), .val (.int x1), .val (.int x2), .val (.int x3), .val (.int bb), .val (.ref b135), .unset] [(.int (8 : Int32)), (.int p1), (.ref b135)])) _
        refine XS.ishr X169.here hx rfl (hb hby at_68) rfl ?_
        show Steps p.tables e below (T169.setTop (mkF m 69 #[.val (.int p1), .val (.int p2), .val (.int p3), .val (.int p4), .val (.int (4 : Int32)), .val (.int x0), .val (.int x1), .val (.int x2), .val (.int x3), .val (.int bb), .val (.ref b135), .unset] [(.int (p1 >>> ((8 : Int32) &&& 31))), (.ref b135)])) _
        refine st170.trans ?_
        show Steps p.tables e below (T170.setTop (mkF m 72 #[.val (.int p1), .val (.int p2), .val (.int p3), .val (.int p4), .val (.int (4 : Int32)), .val (.int x0), .val (.int x1), .val (.int x2), .val (.int x3), .val (.int bb), .val (.ref b135), .unset] [])) _
        refine XS.iload X170.here hx rfl (hb hby at_72) rfl ?_
        show Steps p.tables e below (T170.setTop (mkF m 74 #[.val (.int p1), .val (.int p2), .val (.int p3), .val (.int p4), .val (.int (4 : Int32)), .val (.int x0), .val (.int x1), .val (.int x2), .val (.int x3), .val (.int bb), .val (.ref b135), .unset] [(.int (4 : Int32))])) _
        refine XS.iconst X170.here hx rfl (hb hby at_74) ?_
        show Steps p.tables e below (T170.setTop (mkF m 75 #[.val (.int p1), .val (.int p2), .val (.int p3), .val (.int p4), .val (.int (4 : Int32)), .val (.int x0), .val (.int x1), .val (.int x2), .val (.int x3), .val (.int bb), .val (.ref b135), .unset] [(.int (2 : Int32)), (.int (4 : Int32))])) _
        refine XS.icmpNo X170.here hx rfl (hb hby at_75) rfl (tlt (by decide : (2 : Int32) < (4 : Int32))).2.2.2 ?_
        show Steps p.tables e below (T170.setTop (mkF m 78 #[.val (.int p1), .val (.int p2), .val (.int p3), .val (.int p4), .val (.int (4 : Int32)), .val (.int x0), .val (.int x1), .val (.int x2), .val (.int x3), .val (.int bb), .val (.ref b135), .unset] [])) _
        refine XS.aload X170.here hx rfl (hb hby at_78) rfl rfl ?_
        show Steps p.tables e below (T170.setTop (mkF m 80 #[.val (.int p1), .val (.int p2), .val (.int p3), .val (.int p4), .val (.int (4 : Int32)), .val (.int x0), .val (.int x1), .val (.int x2), .val (.int x3), .val (.int bb), .val (.ref b135), .unset] [(.ref b135)])) _
        refine XS.iloadN X170.here hx rfl (hb hby at_80) rfl ?_
        show Steps p.tables e below (T170.setTop (mkF m 81 #[.val (.int p1), .val (.int p2), .val (.int p3), .val (.int p4), .val (.int (4 : Int32)), .val (.int x0), .val (.int x1), .val (.int x2), .val (.int x3), .val (.int bb), .val (.ref b135), .unset] [(.int p1), (.ref b135)])) _
        refine XS.bipush X170.here hx rfl (hb hby at_81) ?_
        show Steps p.tables e below (T170.setTop (mkF m 83 #[.val (.int p1), .val (.int p2), .val (.int p3), .val (.int p4), .val (.int (4 : Int32)), .val (.int x0), .val (.int x1), .val (.int x2), .val (.int x3), .val (.int bb), .val (.ref b135), .unset] [(.int (16 : Int32)), (.int p1), (.ref b135)])) _
        refine XS.ishr X170.here hx rfl (hb hby at_83) rfl ?_
        show Steps p.tables e below (T170.setTop (mkF m 84 #[.val (.int p1), .val (.int p2), .val (.int p3), .val (.int p4), .val (.int (4 : Int32)), .val (.int x0), .val (.int x1), .val (.int x2), .val (.int x3), .val (.int bb), .val (.ref b135), .unset] [(.int (p1 >>> ((16 : Int32) &&& 31))), (.ref b135)])) _
        refine st171.trans ?_
        show Steps p.tables e below (T171.setTop (mkF m 87 #[.val (.int p1), .val (.int p2), .val (.int p3), .val (.int p4), .val (.int (4 : Int32)), .val (.int x0), .val (.int x1), .val (.int x2), .val (.int x3), .val (.int bb), .val (.ref b135), .unset] [])) _
        refine XS.iload X171.here hx rfl (hb hby at_87) rfl ?_
        show Steps p.tables e below (T171.setTop (mkF m 89 #[.val (.int p1), .val (.int p2), .val (.int p3), .val (.int p4), .val (.int (4 : Int32)), .val (.int x0), .val (.int x1), .val (.int x2), .val (.int x3), .val (.int bb), .val (.ref b135), .unset] [(.int (4 : Int32))])) _
        refine XS.iconst X171.here hx rfl (hb hby at_89) ?_
        show Steps p.tables e below (T171.setTop (mkF m 90 #[.val (.int p1), .val (.int p2), .val (.int p3), .val (.int p4), .val (.int (4 : Int32)), .val (.int x0), .val (.int x1), .val (.int x2), .val (.int x3), .val (.int bb), .val (.ref b135), .unset] [(.int (3 : Int32)), (.int (4 : Int32))])) _
        refine XS.icmpNo X171.here hx rfl (hb hby at_90) rfl (tlt (by decide : (3 : Int32) < (4 : Int32))).2.2.2 ?_
        show Steps p.tables e below (T171.setTop (mkF m 93 #[.val (.int p1), .val (.int p2), .val (.int p3), .val (.int p4), .val (.int (4 : Int32)), .val (.int x0), .val (.int x1), .val (.int x2), .val (.int x3), .val (.int bb), .val (.ref b135), .unset] [])) _
        refine XS.aload X171.here hx rfl (hb hby at_93) rfl rfl ?_
        show Steps p.tables e below (T171.setTop (mkF m 95 #[.val (.int p1), .val (.int p2), .val (.int p3), .val (.int p4), .val (.int (4 : Int32)), .val (.int x0), .val (.int x1), .val (.int x2), .val (.int x3), .val (.int bb), .val (.ref b135), .unset] [(.ref b135)])) _
        refine XS.iloadN X171.here hx rfl (hb hby at_95) rfl ?_
        show Steps p.tables e below (T171.setTop (mkF m 96 #[.val (.int p1), .val (.int p2), .val (.int p3), .val (.int p4), .val (.int (4 : Int32)), .val (.int x0), .val (.int x1), .val (.int x2), .val (.int x3), .val (.int bb), .val (.ref b135), .unset] [(.int p1), (.ref b135)])) _
        refine XS.bipush X171.here hx rfl (hb hby at_96) ?_
        show Steps p.tables e below (T171.setTop (mkF m 98 #[.val (.int p1), .val (.int p2), .val (.int p3), .val (.int p4), .val (.int (4 : Int32)), .val (.int x0), .val (.int x1), .val (.int x2), .val (.int x3), .val (.int bb), .val (.ref b135), .unset] [(.int (24 : Int32)), (.int p1), (.ref b135)])) _
        refine XS.ishr X171.here hx rfl (hb hby at_98) rfl ?_
        show Steps p.tables e below (T171.setTop (mkF m 99 #[.val (.int p1), .val (.int p2), .val (.int p3), .val (.int p4), .val (.int (4 : Int32)), .val (.int x0), .val (.int x1), .val (.int x2), .val (.int x3), .val (.int bb), .val (.ref b135), .unset] [(.int (p1 >>> ((24 : Int32) &&& 31))), (.ref b135)])) _
        refine st172.trans ?_
        show Steps p.tables e below (T172.setTop (mkF m 102 #[.val (.int p1), .val (.int p2), .val (.int p3), .val (.int p4), .val (.int (4 : Int32)), .val (.int x0), .val (.int x1), .val (.int x2), .val (.int x3), .val (.int bb), .val (.ref b135), .unset] [])) _
        refine XS.aload X172.here hx rfl (hb hby at_102) rfl rfl ?_
        show Steps p.tables e below (T172.setTop (mkF m 104 #[.val (.int p1), .val (.int p2), .val (.int p3), .val (.int p4), .val (.int (4 : Int32)), .val (.int x0), .val (.int x1), .val (.int x2), .val (.int x3), .val (.int bb), .val (.ref b135), .unset] [(.ref b135)])) _
        refine XS.iload X172.here hx rfl (hb hby at_104) rfl ?_
        show Steps p.tables e below (T172.setTop (mkF m 106 #[.val (.int p1), .val (.int p2), .val (.int p3), .val (.int p4), .val (.int (4 : Int32)), .val (.int x0), .val (.int x1), .val (.int x2), .val (.int x3), .val (.int bb), .val (.ref b135), .unset] [(.int bb), (.ref b135)])) _
        refine XS.iloadN X172.here hx rfl (hb hby at_106) rfl ?_
        show Steps p.tables e below (T172.setTop (mkF m 107 #[.val (.int p1), .val (.int p2), .val (.int p3), .val (.int p4), .val (.int (4 : Int32)), .val (.int x0), .val (.int x1), .val (.int x2), .val (.int x3), .val (.int bb), .val (.ref b135), .unset] [(.int p4), (.int bb), (.ref b135)])) _
        refine st176.trans ?_
        exact kt
      rw [own_far x0 x1 x2 x3 bb p4 (4 : Int32) (by decide) hlt (by decide)] at fl177
      obtain ⟨_, _, ⟨T178, L178, k178, n178⟩, -, X178, ⟨Lc178, hQ178, l178, y178, z178⟩, st178⟩ := Jvm.LawKit.callS X176 hx (y := (⟨"com/example/darter/darter/ResultBufferIndexOfPinLaw", "ref", "(BBBBIBI)I"⟩ : MethodName)) hown (mvT hZ (hw _ (List.mem_of_getElem? (i := 133) rfl))) (mvT hZ (hw _ (List.mem_of_getElem? (i := 134) rfl))) (mvT hZ (hw _ (List.mem_of_getElem? (i := 135) rfl))) (mvT hZ (hw _ (List.mem_of_getElem? (i := 136) rfl))) (by decide) (backOf (W := 1) (rm22 l Z a0 hw [] x0 x1 x2 x3 (4 : Int32) bb p4 (own_ref x0 x1 x2 x3 (4 : Int32) bb p4) T176.heap n0 z176z rfl) hZ (hw _ (List.mem_of_getElem? (i := 136) rfl)) (hw _ (List.mem_of_getElem? (i := 135) rfl)) (by decide) (by decide)) (g := (mkF m 127 #[.val (.int p1), .val (.int p2), .val (.int p3), .val (.int p4), .val (.int (4 : Int32)), .val (.int x0), .val (.int x1), .val (.int x2), .val (.int x3), .val (.int bb), .val (.ref b135), .val (.int (own_ref x0 x1 x2 x3 (4 : Int32) bb p4))] [(.int p4), (.int bb), (.int (4 : Int32)), (.int x3), (.int x2), (.int x1), (.int x0), (.int (own_ref x0 x1 x2 x3 (4 : Int32) bb p4))])) rfl (by rw [hml]; rfl) (argsL := [(.int x0), (.int x1), (.int x2), (.int x3), (.int (4 : Int32)), (.int bb), (.int p4)]) (rest := [(.int (own_ref x0 x1 x2 x3 (4 : Int32) bb p4))]) (lenOf pd_12 rfl) rfl (by show 2 * 0 + _ ≤ _; exact Nat.le_of_eq rfl) (hb hby at_127) (fun _ _ => ⟨rfl, rfl, (by decide : 4 + 0 ≤ _), (by decide : 271 + 0 ≤ _)⟩)
      dsimp only [Pt.U, Pt.locs, Pt.cells, Pt.slots] at X178 l178 y178 z178 st178 hQ178
      subst l178 y178 z178
      obtain ⟨rfl, N178q, he178⟩ := hQ178
      have N178 := Fr.app N176 N178q
      have fl179 : ∀ target, Steps p.tables e below (T178.setTop (mkF m 138 #[.val (.int p1), .val (.int p2), .val (.int p3), .val (.int p4), .val (.int (4 : Int32)), .val (.int x0), .val (.int x1), .val (.int x2), .val (.int x3), .val (.int bb), .val (.ref b135), .val (.int (own_ref x0 x1 x2 x3 (4 : Int32) bb p4))] [(.int (1 : Int32))])) target → Steps p.tables e below (T176.setTop (mkF m 110 #[.val (.int p1), .val (.int p2), .val (.int p3), .val (.int p4), .val (.int (4 : Int32)), .val (.int x0), .val (.int x1), .val (.int x2), .val (.int x3), .val (.int bb), .val (.ref b135), .unset] [(.int (own_ref x0 x1 x2 x3 (4 : Int32) bb p4))])) target := fun target kt => by
        show Steps p.tables e below (T176.setTop (mkF m 110 #[.val (.int p1), .val (.int p2), .val (.int p3), .val (.int p4), .val (.int (4 : Int32)), .val (.int x0), .val (.int x1), .val (.int x2), .val (.int x3), .val (.int bb), .val (.ref b135), .unset] [(.int (own_ref x0 x1 x2 x3 (4 : Int32) bb p4))])) _
        refine XS.istore X176.here hx rfl (hb hby at_110) rfl (l' := #[.val (.int p1), .val (.int p2), .val (.int p3), .val (.int p4), .val (.int (4 : Int32)), .val (.int x0), .val (.int x1), .val (.int x2), .val (.int x3), .val (.int bb), .val (.ref b135), .val (.int (own_ref x0 x1 x2 x3 (4 : Int32) bb p4))]) rfl ?_
        show Steps p.tables e below (T176.setTop (mkF m 112 #[.val (.int p1), .val (.int p2), .val (.int p3), .val (.int p4), .val (.int (4 : Int32)), .val (.int x0), .val (.int x1), .val (.int x2), .val (.int x3), .val (.int bb), .val (.ref b135), .val (.int (own_ref x0 x1 x2 x3 (4 : Int32) bb p4))] [])) _
        refine XS.iload X176.here hx rfl (hb hby at_112) rfl ?_
        show Steps p.tables e below (T176.setTop (mkF m 114 #[.val (.int p1), .val (.int p2), .val (.int p3), .val (.int p4), .val (.int (4 : Int32)), .val (.int x0), .val (.int x1), .val (.int x2), .val (.int x3), .val (.int bb), .val (.ref b135), .val (.int (own_ref x0 x1 x2 x3 (4 : Int32) bb p4))] [(.int (own_ref x0 x1 x2 x3 (4 : Int32) bb p4))])) _
        refine XS.iload X176.here hx rfl (hb hby at_114) rfl ?_
        show Steps p.tables e below (T176.setTop (mkF m 116 #[.val (.int p1), .val (.int p2), .val (.int p3), .val (.int p4), .val (.int (4 : Int32)), .val (.int x0), .val (.int x1), .val (.int x2), .val (.int x3), .val (.int bb), .val (.ref b135), .val (.int (own_ref x0 x1 x2 x3 (4 : Int32) bb p4))] [(.int x0), (.int (own_ref x0 x1 x2 x3 (4 : Int32) bb p4))])) _
        refine XS.iload X176.here hx rfl (hb hby at_116) rfl ?_
        show Steps p.tables e below (T176.setTop (mkF m 118 #[.val (.int p1), .val (.int p2), .val (.int p3), .val (.int p4), .val (.int (4 : Int32)), .val (.int x0), .val (.int x1), .val (.int x2), .val (.int x3), .val (.int bb), .val (.ref b135), .val (.int (own_ref x0 x1 x2 x3 (4 : Int32) bb p4))] [(.int x1), (.int x0), (.int (own_ref x0 x1 x2 x3 (4 : Int32) bb p4))])) _
        refine XS.iload X176.here hx rfl (hb hby at_118) rfl ?_
        show Steps p.tables e below (T176.setTop (mkF m 120 #[.val (.int p1), .val (.int p2), .val (.int p3), .val (.int p4), .val (.int (4 : Int32)), .val (.int x0), .val (.int x1), .val (.int x2), .val (.int x3), .val (.int bb), .val (.ref b135), .val (.int (own_ref x0 x1 x2 x3 (4 : Int32) bb p4))] [(.int x2), (.int x1), (.int x0), (.int (own_ref x0 x1 x2 x3 (4 : Int32) bb p4))])) _
        refine XS.iload X176.here hx rfl (hb hby at_120) rfl ?_
        show Steps p.tables e below (T176.setTop (mkF m 122 #[.val (.int p1), .val (.int p2), .val (.int p3), .val (.int p4), .val (.int (4 : Int32)), .val (.int x0), .val (.int x1), .val (.int x2), .val (.int x3), .val (.int bb), .val (.ref b135), .val (.int (own_ref x0 x1 x2 x3 (4 : Int32) bb p4))] [(.int x3), (.int x2), (.int x1), (.int x0), (.int (own_ref x0 x1 x2 x3 (4 : Int32) bb p4))])) _
        refine XS.iload X176.here hx rfl (hb hby at_122) rfl ?_
        show Steps p.tables e below (T176.setTop (mkF m 124 #[.val (.int p1), .val (.int p2), .val (.int p3), .val (.int p4), .val (.int (4 : Int32)), .val (.int x0), .val (.int x1), .val (.int x2), .val (.int x3), .val (.int bb), .val (.ref b135), .val (.int (own_ref x0 x1 x2 x3 (4 : Int32) bb p4))] [(.int (4 : Int32)), (.int x3), (.int x2), (.int x1), (.int x0), (.int (own_ref x0 x1 x2 x3 (4 : Int32) bb p4))])) _
        refine XS.iload X176.here hx rfl (hb hby at_124) rfl ?_
        show Steps p.tables e below (T176.setTop (mkF m 126 #[.val (.int p1), .val (.int p2), .val (.int p3), .val (.int p4), .val (.int (4 : Int32)), .val (.int x0), .val (.int x1), .val (.int x2), .val (.int x3), .val (.int bb), .val (.ref b135), .val (.int (own_ref x0 x1 x2 x3 (4 : Int32) bb p4))] [(.int bb), (.int (4 : Int32)), (.int x3), (.int x2), (.int x1), (.int x0), (.int (own_ref x0 x1 x2 x3 (4 : Int32) bb p4))])) _
        refine XS.iloadN X176.here hx rfl (hb hby at_126) rfl ?_
        show Steps p.tables e below (T176.setTop (mkF m 127 #[.val (.int p1), .val (.int p2), .val (.int p3), .val (.int p4), .val (.int (4 : Int32)), .val (.int x0), .val (.int x1), .val (.int x2), .val (.int x3), .val (.int bb), .val (.ref b135), .val (.int (own_ref x0 x1 x2 x3 (4 : Int32) bb p4))] [(.int p4), (.int bb), (.int (4 : Int32)), (.int x3), (.int x2), (.int x1), (.int x0), (.int (own_ref x0 x1 x2 x3 (4 : Int32) bb p4))])) _
        refine st178 _ ?_
        show Steps p.tables e below (T178.setTop (mkF m 130 #[.val (.int p1), .val (.int p2), .val (.int p3), .val (.int p4), .val (.int (4 : Int32)), .val (.int x0), .val (.int x1), .val (.int x2), .val (.int x3), .val (.int bb), .val (.ref b135), .val (.int (own_ref x0 x1 x2 x3 (4 : Int32) bb p4))] [(.int (own_ref x0 x1 x2 x3 (4 : Int32) bb p4)), (.int (own_ref x0 x1 x2 x3 (4 : Int32) bb p4))])) _
        refine XS.icmpNo X178.here hx rfl (hb hby at_130) rfl (teq (rfl : (own_ref x0 x1 x2 x3 (4 : Int32) bb p4) = (own_ref x0 x1 x2 x3 (4 : Int32) bb p4))).2 ?_
        show Steps p.tables e below (T178.setTop (mkF m 133 #[.val (.int p1), .val (.int p2), .val (.int p3), .val (.int p4), .val (.int (4 : Int32)), .val (.int x0), .val (.int x1), .val (.int x2), .val (.int x3), .val (.int bb), .val (.ref b135), .val (.int (own_ref x0 x1 x2 x3 (4 : Int32) bb p4))] [])) _
        refine XS.iconst X178.here hx rfl (hb hby at_133) ?_
        show Steps p.tables e below (T178.setTop (mkF m 134 #[.val (.int p1), .val (.int p2), .val (.int p3), .val (.int p4), .val (.int (4 : Int32)), .val (.int x0), .val (.int x1), .val (.int x2), .val (.int x3), .val (.int bb), .val (.ref b135), .val (.int (own_ref x0 x1 x2 x3 (4 : Int32) bb p4))] [(.int (1 : Int32))])) _
        refine XS.goto X178.here hx rfl (pc0 := 134) (pc' := 138) rfl (hb hby at_134) (by decide) (by decide) ?_
        exact kt
      obtain ⟨fs, hrt, hrun, hended, hW, hsame⟩ := X178.leave (v := some (.int (1 : Int32))) (fun h => by rw [Bd.returns] at h; cases h)
      refine ⟨_, _, pre0 _ (fl133 _ (fl134 _ (fl137 _ (fl177 _ (fl179 _ ?_))))), hrun, hended, _, _, rfl, ?_, ⟨_, rfl⟩, hW, hsame.mono (by decide) (by decide)⟩
      · exact retN X178 hx (t := .boolean) Bd.returns (by simp) (hb hby at_138) hrt
      · show Q0 _ _ _ _ _ _ _ _ _ _ T178.heap _
        exact ⟨rfl, N178⟩
set_option maxRecDepth 65536 in
set_option maxHeartbeats 40000000 in
theorem comes_1 {Post : Tables → Env → Array Value → State → Outcome → State → Prop} (hpost : ∀ tb e args s v u, (limb_1_1.after args s (.returned v) u = true ∧ limb_1_2.after args s (.returned v) u = true ∧ True) → FrameEnd s (.returned v) u (Jvm.fieldLocs frame_1_writes args s ++ Jvm.arrayLocs frame_1_arrays args s ++ Jvm.staticLocs frame_1_statics s) 16 640 → Post tb e args s (.returned v) u) :
    ArmFor flags0 classFile x code maxLocals ret World_1 tables_1 room_1 Calls_1 rest_1 Pre_1 Post := by
  intro l hfl _ _ p e ha hc hk s m args below hf hA hF happ hP
  obtain ⟨hcalls, hrest, hpre⟩ := hP
  obtain ⟨-, -, -, hnamed, -, -, -, hat⟩ := (Spec.applies_iff hf).mp happ
  obtain ⟨hg, hn⟩ := and_e (Cond.before_iff.mp (show (Jvm.Cond.and given_1 narrow_1).before args s = true from hpre))
  obtain ⟨ga0, gb0⟩ := and_e hg
  obtain ⟨ga1, gb1⟩ := and_e gb0
  obtain ⟨ga2, gb2⟩ := and_e gb1
  obtain ⟨ga3, gb3⟩ := and_e gb2
  obtain ⟨w0, w1, w2, w3, rfl⟩ : ∃ w0 w1 w2 w3 : Value, args = #[w0, w1, w2, w3] := by
    have hs : args.size = 4 := by simpa [Cond.value, given_1] using ga0
    obtain ⟨L⟩ := args
    match L, hs with
    | [w0, w1, w2, w3], _ => exact ⟨w0, w1, w2, w3, rfl⟩
  have hw := fun d (hd : d ∈ tables_1) => atoms_spec (ws := Jvm.Cond.code x code maxLocals ret :: tables_1) hat d (List.mem_cons_of_mem _ hd)
  obtain ⟨hsets, hown0⟩ := atoms_of _ (rest_1_c_eq ▸ (show rest_1_c.before _ s = true from hrest))
  obtain ⟨i0, ei0⟩ := is_v ga1
  obtain rfl : w0 = (.int i0) := Option.some.inj ei0
  obtain ⟨i1, ei1⟩ := is_v ga2
  obtain rfl : w1 = (.int i1) := Option.some.inj ei1
  obtain ⟨i2, ei2⟩ := is_v ga3
  obtain rfl : w2 = (.int i2) := Option.some.inj ei2
  obtain ⟨i3, ei3⟩ := is_v gb3
  obtain rfl : w3 = (.int i3) := Option.some.inj ei3
  have hfit : Fit s := fun {y c} hc i hi => by
    obtain ⟨ha, rfl⟩ := Array.getElem?_eq_some_iff.mp hc
    have q := List.all_eq_true.mp ((Array.all_eq_true_iff_forall_mem.mp hF) _ (Array.getElem_mem ha)) i (List.mem_range.mpr hi)
    simpa [Array.getElem?_eq_getElem hi] using q
  obtain ⟨d0, eD⟩ := arr_v (Cond.before_iff.mp (hsets _ (List.mem_of_getElem? (i := 6) rfl)))
  obtain ⟨cD, ArD⟩ := Arr.start eD (Cond.before_iff.mp (hsets _ (List.mem_of_getElem? (i := 6) rfl)))
  have S1 := Sta.start eD (Or.inr ⟨hw _ (List.mem_of_getElem? (i := 16) rfl), hsets _ (List.mem_of_getElem? (i := 2) rfl)⟩)
  have hszD := own_len0 eD (ArD.fin (Vm.Alike.refl _)) (Cond.before_iff.mp (hsets _ (List.mem_of_getElem? (i := 8) rfl)))
  have V1 : Arv s s.heap d0 cD.cls (.object "java/lang/Object") (0 : Int32) [] .null := Arv.start hfit ArD hszD.1 hszD.2 (by decide) rfl trivial
  obtain ⟨n, o, h1, h2, h3, _, L, rfl, ⟨rfl, N⟩, hq⟩ := rm0 l s _ hw tables_1 i0 i1 i2 i3 d0 cD.cls s.heap s.heap.size (Nat.le_refl _) ⟨S1, V1⟩ (Old.start s) p e ha hc hk s m _ below hf ((Spec.applies_iff_loose hf).mp happ).1 ⟨rfl, State.Warmed39.refl s, rfl⟩ trivial
  refine ⟨n, _, h1, h2, h3, hpost _ _ _ _ _ _ ⟨Cond.after_iff.mpr rfl, Cond.after_iff.mpr (eq_i res_at (Term.int_eval (1)) rfl), trivial⟩ ⟨hq.1, hq.2.1, (hq.2.2.sift fun y hy => Or.inr (N y hy)).mono (by decide) (by decide)⟩⟩
theorem main_1_1 : Claimed_1_1 := comes_1 fun _ _ _ _ _ _ h hF => ⟨h.1, hF⟩
theorem main_1_2 : Claimed_1_2 := comes_1 fun _ _ _ _ _ _ h hF => ⟨h.2.1, hF⟩
end Jvm.Pilot.@@N@@
namespace Jvm.Pilot.@@N@@
open Jvm Jvm.ClassFile Sem Op Lib Jvm.Free Jvm.Stand Jvm.Pilot.@@N@@.Jvm.D
/-! MADE BY PROGRAM (witnessworld.py) out of the Statement's table words and the real class files: 25 classes; the members and pool entries that the words name. The judged class is class 1, her method 1. -/
namespace start1
open Jvm.ClassFile
def u (s : String) : CpInfo := .utf8 (stringToUtf16 s)
/-- a pool by its gaps: so many unusable entries, then the entry; so many at the end -/
def gap : Nat → List CpInfo → List CpInfo
  | 0, r => r
  | n + 1, r => .unusable :: gap n r
def poolList (es : List (Nat × CpInfo)) (last : Nat) : List CpInfo := es.foldr (fun e r => gap e.1 (e.2 :: r)) (gap last [])
def pool (es : List (Nat × CpInfo)) (last : Nat) : Array CpInfo := ⟨poolList es last⟩
def fileOf (pool : Array CpInfo) (this : Nat) (attrs : Array Attribute := #[]) (ms : Array MethodInfo := #[]) (fl : Nat := 33) (sup : Nat := 0) (ifs : Array Nat := #[]) (fds : Array FieldInfo := #[]) : ClassFile where
  minorVersion := 0
  majorVersion := 65
  constantPool := pool
  accessFlags := fl
  thisClass := this
  superClass := sup
  interfaces := ifs
  fields := fds
  methods := ms
  attributes := attrs
def plain (name : String) (sup : Option ClassId) : Class where
  name := name
  kind := .ordinary
  loader := none
  accessFlags := 33
  super := sup
  interfaces := #[]
  cf := none
  fields := #[]
  methods := #[]
  instanceTypes := #[]
  staticTypes := #[]
  resolved := #[]
  callSites := []
  init := .initialized
  statics := none
  mirror := none

def pool0 : Array CpInfo := pool [(5, u "<init>"), (0, u "()V"), (1, .class_ 10), (1, u "java/lang/Object")] 113

def k0c0 : Code := { maxStack := 0, maxLocals := 1, code := object_method_1_code, exceptionTable := #[], attributes := #[] }
def k0m0 : Method := { name := "<init>", desc := "()V", sig := { parameters := [], returnType := none }, accessFlags := 1, code := some k0c0 }
/-- java/lang/Object -/
def k0 : Class := { plain "java/lang/Object" none with
  accessFlags := 33
  interfaces := #[]
  cf := some (fileOf pool0 8 #[] #[{ accessFlags := 1, nameIndex := 5, descriptorIndex := 6, attributes := #[] }] 33 0 #[] #[])
  fields := #[]
  methods := #[k0m0]
  instanceTypes := #[]
  staticTypes := #[]
  resolved := Array.replicate 124 none
  statics := none }

def pool1 : Array CpInfo := pool [(2, .class_ 4), (0, .nameAndType 5 6), (0, u "java/lang/Object"), (0, u "<init>"), (0, u "()V"), (0, .class_ 8), (0, u "com/example/darter/darter/ResultBuffer"), (0, .methodref 7 3), (0, .methodref 7 11), (0, .nameAndType 12 13), (0, u "write"), (0, u "(I)V"), (0, .methodref 7 15), (0, .nameAndType 16 17), (0, u "indexOf"), (0, u "(BI)I"), (0, .methodref 19 20), (0, .class_ 21), (0, .nameAndType 22 23), (0, u "com/example/darter/darter/ResultBufferIndexOfPinLaw"), (0, u "ref"), (0, u "(BBBBIBI)I"), (2, u "law"), (0, u "(IIII)Z")] 3

def k1m0 : Method := { name := "<init>", desc := "()V", sig := { parameters := [], returnType := none }, accessFlags := 1, code := none }
def k1c1 : Code := { maxStack := 8, maxLocals := 12, code := code, exceptionTable := #[], attributes := #[] }
def k1m1 : Method := { name := "law", desc := "(IIII)Z", sig := { parameters := [.int, .int, .int, .int], returnType := some .boolean }, accessFlags := 9, code := some k1c1 }
def k1c2 : Code := { maxStack := 2, maxLocals := 7, code := method_3_code, exceptionTable := #[], attributes := #[] }
def k1m2 : Method := { name := "ref", desc := "(BBBBIBI)I", sig := { parameters := [.byte, .byte, .byte, .byte, .int, .byte, .int], returnType := some .int }, accessFlags := 10, code := some k1c2 }
/-- com/example/darter/darter/ResultBufferIndexOfPinLaw -/
def k1 : Class := { plain "com/example/darter/darter/ResultBufferIndexOfPinLaw" (some 0) with
  accessFlags := 49
  interfaces := #[]
  cf := some (fileOf pool1 19 #[] #[{ accessFlags := 1, nameIndex := 5, descriptorIndex := 6, attributes := #[] }, { accessFlags := 9, nameIndex := 26, descriptorIndex := 27, attributes := #[] }, { accessFlags := 10, nameIndex := 22, descriptorIndex := 23, attributes := #[] }] 49 2 #[] #[])
  fields := #[]
  methods := #[k1m0, k1m1, k1m2]
  instanceTypes := #[]
  staticTypes := #[]
  resolved := Array.replicate 31 none
  statics := none }

def pool2 : Array CpInfo := pool [(1, .class_ 2), (0, u "java/lang/AutoCloseable"), (0, .class_ 4), (0, u "java/lang/Object")] 7

/-- java/lang/AutoCloseable -/
def k2 : Class := { plain "java/lang/AutoCloseable" (some 0) with
  accessFlags := 1537
  interfaces := #[]
  cf := some (fileOf pool2 1 #[] #[] 1537 3 #[] #[])
  fields := #[]
  methods := #[]
  instanceTypes := #[]
  staticTypes := #[]
  resolved := Array.replicate 12 none
  statics := none }

def pool3 : Array CpInfo := pool [(1, .class_ 2), (0, u "java/io/Closeable"), (0, .class_ 4), (0, u "java/lang/Object"), (0, .class_ 6), (0, u "java/lang/AutoCloseable")] 7

/-- java/io/Closeable -/
def k3 : Class := { plain "java/io/Closeable" (some 0) with
  accessFlags := 1537
  interfaces := #[2]
  cf := some (fileOf pool3 1 #[] #[] 1537 3 #[5] #[])
  fields := #[]
  methods := #[]
  instanceTypes := #[]
  staticTypes := #[]
  resolved := Array.replicate 14 none
  statics := none }

def pool4 : Array CpInfo := pool [(1, .class_ 2), (0, u "java/io/Flushable"), (0, .class_ 4), (0, u "java/lang/Object")] 7

/-- java/io/Flushable -/
def k4 : Class := { plain "java/io/Flushable" (some 0) with
  accessFlags := 1537
  interfaces := #[]
  cf := some (fileOf pool4 1 #[] #[] 1537 3 #[] #[])
  fields := #[]
  methods := #[]
  instanceTypes := #[]
  staticTypes := #[]
  resolved := Array.replicate 12 none
  statics := none }

def pool5 : Array CpInfo := pool [(1, .methodref 2 3), (0, .class_ 4), (0, .nameAndType 5 6), (0, u "java/lang/Object"), (0, u "<init>"), (0, u "()V"), (0, .class_ 8), (0, u "java/io/OutputStream$1"), (2, .class_ 13), (1, u "java/io/OutputStream"), (11, .class_ 26), (0, u "java/io/Closeable"), (0, .class_ 28), (0, u "java/io/Flushable")] 24

def k5c0 : Code := { maxStack := 1, maxLocals := 1, code := jdk_2038_method_1_code, exceptionTable := #[], attributes := #[] }
def k5m0 : Method := { name := "<init>", desc := "()V", sig := { parameters := [], returnType := none }, accessFlags := 1, code := some k5c0 }
/-- java/io/OutputStream -/
def k5 : Class := { plain "java/io/OutputStream" (some 0) with
  accessFlags := 1057
  interfaces := #[3, 4]
  cf := some (fileOf pool5 11 #[.nestMembers #[7]] #[{ accessFlags := 1, nameIndex := 5, descriptorIndex := 6, attributes := #[] }] 1057 2 #[25, 27] #[])
  fields := #[]
  methods := #[k5m0]
  instanceTypes := #[]
  staticTypes := #[]
  resolved := Array.replicate 53 none
  statics := none }

def pool6 : Array CpInfo := pool [(1, .methodref 2 3), (0, .class_ 4), (0, .nameAndType 5 6), (0, u "java/io/OutputStream"), (0, u "<init>"), (0, u "()V"), (0, .class_ 8), (0, u "java/util/ArrayList"), (0, .methodref 7 3), (0, .fieldref 11 12), (0, .class_ 13), (0, .nameAndType 14 15), (0, u "com/example/darter/darter/ResultBuffer"), (0, u "blocks"), (0, u "Ljava/util/List;"), (0, .methodref 11 17), (0, .nameAndType 18 19), (0, u "makeRoom"), (0, u "(I)V"), (0, .methodref 11 21), (0, .nameAndType 22 23), (0, u "blockWithRoom"), (0, u "(I)[B"), (0, .fieldref 11 25), (0, .nameAndType 26 27), (0, u "size"), (0, u "I"), (0, .integer 131072), (6, .methodref 36 37), (0, .class_ 38), (0, .nameAndType 39 40), (0, u "java/lang/Math"), (0, u "min"), (0, u "(II)I"), (6, .methodref 36 48), (0, .nameAndType 49 40), (0, u "max"), (0, .interfaceMethodref 51 52), (0, .class_ 53), (0, .nameAndType 54 55), (0, u "java/util/List"), (0, u "get"), (0, u "(I)Ljava/lang/Object;"), (0, .class_ 57), (0, u "[B"), (9, .interfaceMethodref 51 68), (0, .nameAndType 26 69), (0, u "()I"), (6, .nameAndType 77 78), (0, u "add"), (0, u "(Ljava/lang/Object;)Z"), (17, u "write"), (4, .long 67108864), (1, .class_ 104), (0, u "com/example/darter/darter/ResultBuffer$TooLarge"), (1, .interfaceMethodref 51 76), (8, u "MAX_BYTES"), (2, u "BLOCK_BYTES"), (0, u "FIRST_BYTES"), (6, u "indexOf"), (0, u "(BI)I")] 11

def k6c0 : Code := { maxStack := 3, maxLocals := 1, code := prog_10_method_1_code, exceptionTable := #[], attributes := #[] }
def k6m0 : Method := { name := "<init>", desc := "()V", sig := { parameters := [], returnType := none }, accessFlags := 0, code := some k6c0 }
def k6c1 : Code := { maxStack := 3, maxLocals := 3, code := prog_10_method_2_code, exceptionTable := #[], attributes := #[] }
def k6m1 : Method := { name := "write", desc := "(I)V", sig := { parameters := [.int], returnType := none }, accessFlags := 1, code := some k6c1 }
def k6c2 : Code := { maxStack := 3, maxLocals := 9, code := prog_10_method_5_code, exceptionTable := #[], attributes := #[] }
def k6m2 : Method := { name := "indexOf", desc := "(BI)I", sig := { parameters := [.byte, .int], returnType := some .int }, accessFlags := 0, code := some k6c2 }
def k6c3 : Code := { maxStack := 4, maxLocals := 2, code := prog_10_method_10_code, exceptionTable := #[], attributes := #[] }
def k6m3 : Method := { name := "makeRoom", desc := "(I)V", sig := { parameters := [.int], returnType := none }, accessFlags := 2, code := some k6c3 }
def k6c4 : Code := { maxStack := 4, maxLocals := 5, code := prog_10_method_11_code, exceptionTable := #[], attributes := #[] }
def k6m4 : Method := { name := "blockWithRoom", desc := "(I)[B", sig := { parameters := [.int], returnType := some (.array .byte) }, accessFlags := 2, code := some k6c4 }
/-- com/example/darter/darter/ResultBuffer -/
def k6 : Class := { plain "com/example/darter/darter/ResultBuffer" (some 5) with
  accessFlags := 48
  interfaces := #[]
  cf := some (fileOf pool6 11 #[.nestMembers #[103]] #[{ accessFlags := 0, nameIndex := 5, descriptorIndex := 6, attributes := #[] }, { accessFlags := 1, nameIndex := 96, descriptorIndex := 19, attributes := #[] }, { accessFlags := 0, nameIndex := 126, descriptorIndex := 127, attributes := #[] }, { accessFlags := 2, nameIndex := 18, descriptorIndex := 19, attributes := #[] }, { accessFlags := 2, nameIndex := 22, descriptorIndex := 23, attributes := #[] }] 48 2 #[] #[{ accessFlags := 24, nameIndex := 115, descriptorIndex := 27, attributes := #[] }, { accessFlags := 24, nameIndex := 118, descriptorIndex := 27, attributes := #[] }, { accessFlags := 26, nameIndex := 119, descriptorIndex := 27, attributes := #[] }, { accessFlags := 18, nameIndex := 14, descriptorIndex := 15, attributes := #[] }, { accessFlags := 2, nameIndex := 26, descriptorIndex := 27, attributes := #[] }])
  fields := #[{ name := "MAX_BYTES", type := .int, accessFlags := 24, slot := 0, constantValue := 0 }, { name := "BLOCK_BYTES", type := .int, accessFlags := 24, slot := 1, constantValue := 0 }, { name := "FIRST_BYTES", type := .int, accessFlags := 26, slot := 2, constantValue := 0 }, { name := "blocks", type := (.object "java/util/List"), accessFlags := 18, slot := 0, constantValue := 0 }, { name := "size", type := .int, accessFlags := 2, slot := 1, constantValue := 0 }]
  methods := #[k6m0, k6m1, k6m2, k6m3, k6m4]
  instanceTypes := #[(.object "java/util/List"), .int]
  staticTypes := #[.int, .int, .int]
  resolved := Array.replicate 139 none
  statics := none }

def pool7 : Array CpInfo := pool [(8, .class_ 10), (1, u "java/lang/Iterable"), (24, .class_ 36), (0, u "java/lang/Object")] 25

/-- java/lang/Iterable -/
def k7 : Class := { plain "java/lang/Iterable" (some 0) with
  accessFlags := 1537
  interfaces := #[]
  cf := some (fileOf pool7 8 #[] #[] 1537 35 #[] #[])
  fields := #[]
  methods := #[]
  instanceTypes := #[]
  staticTypes := #[]
  resolved := Array.replicate 62 none
  statics := none }

def pool8 : Array CpInfo := pool [(10, .class_ 12), (1, u "java/util/Collection"), (47, .class_ 61), (0, u "java/lang/Object"), (0, .class_ 63), (0, u "java/lang/Iterable")] 51

/-- java/util/Collection -/
def k8 : Class := { plain "java/util/Collection" (some 0) with
  accessFlags := 1537
  interfaces := #[7]
  cf := some (fileOf pool8 10 #[] #[] 1537 60 #[62] #[])
  fields := #[]
  methods := #[]
  instanceTypes := #[]
  staticTypes := #[]
  resolved := Array.replicate 115 none
  statics := none }

def pool9 : Array CpInfo := pool [(1, .methodref 2 3), (0, .class_ 4), (0, .nameAndType 5 6), (0, u "java/lang/Object"), (0, u "<init>"), (0, u "()V"), (1, .class_ 10), (1, u "java/util/AbstractCollection"), (66, .class_ 78), (0, u "java/util/Collection")] 81

def k9c0 : Code := { maxStack := 1, maxLocals := 1, code := jdk_22_method_1_code, exceptionTable := #[], attributes := #[] }
def k9m0 : Method := { name := "<init>", desc := "()V", sig := { parameters := [], returnType := none }, accessFlags := 4, code := some k9c0 }
/-- java/util/AbstractCollection -/
def k9 : Class := { plain "java/util/AbstractCollection" (some 0) with
  accessFlags := 1057
  interfaces := #[8]
  cf := some (fileOf pool9 8 #[] #[{ accessFlags := 4, nameIndex := 5, descriptorIndex := 6, attributes := #[] }] 1057 2 #[77] #[])
  fields := #[]
  methods := #[k9m0]
  instanceTypes := #[]
  staticTypes := #[]
  resolved := Array.replicate 160 none
  statics := none }

def pool10 : Array CpInfo := pool [(8, .class_ 10), (1, u "java/util/SequencedCollection"), (15, .class_ 27), (0, u "java/lang/Object"), (0, .class_ 29), (0, u "java/util/Collection")] 27

/-- java/util/SequencedCollection -/
def k10 : Class := { plain "java/util/SequencedCollection" (some 0) with
  accessFlags := 1537
  interfaces := #[8]
  cf := some (fileOf pool10 8 #[] #[] 1537 26 #[28] #[])
  fields := #[]
  methods := #[]
  instanceTypes := #[]
  staticTypes := #[]
  resolved := Array.replicate 57 none
  statics := none }

def pool11 : Array CpInfo := pool [(8, .class_ 10), (1, u "java/util/List"), (49, u "add"), (3, u "(Ljava/lang/Object;)Z"), (10, u "get"), (0, u "(I)Ljava/lang/Object;"), (2, u "size"), (0, u "()I"), (22, .class_ 104), (0, u "java/lang/Object"), (15, .class_ 121), (0, u "java/util/SequencedCollection")] 129

def k11m0 : Method := { name := "size", desc := "()I", sig := { parameters := [], returnType := some .int }, accessFlags := 1025, code := none }
def k11m1 : Method := { name := "add", desc := "(Ljava/lang/Object;)Z", sig := { parameters := [(.object "java/lang/Object")], returnType := some .boolean }, accessFlags := 1025, code := none }
def k11m2 : Method := { name := "get", desc := "(I)Ljava/lang/Object;", sig := { parameters := [.int], returnType := some (.object "java/lang/Object") }, accessFlags := 1025, code := none }
/-- java/util/List -/
def k11 : Class := { plain "java/util/List" (some 0) with
  accessFlags := 1537
  interfaces := #[10]
  cf := some (fileOf pool11 8 #[] #[{ accessFlags := 1025, nameIndex := 79, descriptorIndex := 80, attributes := #[] }, { accessFlags := 1025, nameIndex := 60, descriptorIndex := 64, attributes := #[] }, { accessFlags := 1025, nameIndex := 75, descriptorIndex := 76, attributes := #[] }] 1537 103 #[120] #[])
  fields := #[]
  methods := #[k11m0, k11m1, k11m2]
  instanceTypes := #[]
  staticTypes := #[]
  resolved := Array.replicate 251 none
  statics := none }

def pool12 : Array CpInfo := pool [(1, .methodref 2 3), (0, .class_ 4), (0, .nameAndType 5 6), (0, u "java/util/AbstractCollection"), (0, u "<init>"), (0, u "()V"), (0, .fieldref 8 9), (0, .class_ 10), (0, .nameAndType 11 12), (0, u "java/util/AbstractList"), (0, u "modCount"), (0, u "I"), (64, .class_ 78), (0, u "java/util/AbstractList$Itr"), (3, .class_ 83), (0, u "java/util/AbstractList$ListItr"), (9, .class_ 94), (0, u "java/util/AbstractList$RandomAccessSubList"), (3, .class_ 99), (0, u "java/util/AbstractList$SubList"), (33, .class_ 134), (0, u "java/util/List"), (73, .class_ 209), (0, u "java/util/AbstractList$SubList$1"), (0, .class_ 211), (0, u "java/util/AbstractList$RandomAccessSpliterator")] 6

def k12c0 : Code := { maxStack := 2, maxLocals := 1, code := jdk_39_method_1_code, exceptionTable := #[], attributes := #[] }
def k12m0 : Method := { name := "<init>", desc := "()V", sig := { parameters := [], returnType := none }, accessFlags := 4, code := some k12c0 }
/-- java/util/AbstractList -/
def k12 : Class := { plain "java/util/AbstractList" (some 9) with
  accessFlags := 1057
  interfaces := #[11]
  cf := some (fileOf pool12 8 #[.nestMembers #[93, 98, 208, 210, 82, 77]] #[{ accessFlags := 4, nameIndex := 5, descriptorIndex := 6, attributes := #[] }] 1057 2 #[133] #[{ accessFlags := 132, nameIndex := 11, descriptorIndex := 12, attributes := #[] }])
  fields := #[{ name := "modCount", type := .int, accessFlags := 132, slot := 0, constantValue := 0 }]
  methods := #[k12m0]
  instanceTypes := #[.int]
  staticTypes := #[]
  resolved := Array.replicate 218 none
  statics := none }

def pool13 : Array CpInfo := pool [(1, .class_ 2), (0, u "java/util/RandomAccess"), (0, .class_ 4), (0, u "java/lang/Object")] 2

/-- java/util/RandomAccess -/
def k13 : Class := { plain "java/util/RandomAccess" (some 0) with
  accessFlags := 1537
  interfaces := #[]
  cf := some (fileOf pool13 1 #[] #[] 1537 3 #[] #[])
  fields := #[]
  methods := #[]
  instanceTypes := #[]
  staticTypes := #[]
  resolved := Array.replicate 7 none
  statics := none }

def pool14 : Array CpInfo := pool [(1, .class_ 2), (0, u "java/lang/Cloneable"), (0, .class_ 4), (0, u "java/lang/Object")] 2

/-- java/lang/Cloneable -/
def k14 : Class := { plain "java/lang/Cloneable" (some 0) with
  accessFlags := 1537
  interfaces := #[]
  cf := some (fileOf pool14 1 #[] #[] 1537 3 #[] #[])
  fields := #[]
  methods := #[]
  instanceTypes := #[]
  staticTypes := #[]
  resolved := Array.replicate 7 none
  statics := none }

def pool15 : Array CpInfo := pool [(1, .class_ 2), (0, u "java/io/Serializable"), (0, .class_ 4), (0, u "java/lang/Object")] 2

/-- java/io/Serializable -/
def k15 : Class := { plain "java/io/Serializable" (some 0) with
  accessFlags := 1537
  interfaces := #[]
  cf := some (fileOf pool15 1 #[] #[] 1537 3 #[] #[])
  fields := #[]
  methods := #[]
  instanceTypes := #[]
  staticTypes := #[]
  resolved := Array.replicate 7 none
  statics := none }

def pool16 : Array CpInfo := pool [(1, .methodref 2 3), (0, .class_ 4), (0, .nameAndType 5 6), (0, u "java/util/AbstractList"), (0, u "<init>"), (0, u "()V"), (0, .class_ 8), (0, u "java/lang/Object"), (0, .fieldref 10 11), (0, .class_ 12), (0, .nameAndType 13 14), (0, u "java/util/ArrayList"), (0, u "elementData"), (0, u "[Ljava/lang/Object;"), (2, u "EMPTY_ELEMENTDATA"), (21, .fieldref 10 40), (0, .nameAndType 41 14), (0, u "DEFAULTCAPACITY_EMPTY_ELEMENTDATA"), (5, u "()[Ljava/lang/Object;"), (0, .fieldref 10 49), (0, .nameAndType 50 51), (0, u "size"), (0, u "I"), (11, .fieldref 10 64), (0, .nameAndType 65 51), (0, u "modCount"), (3, .methodref 10 70), (0, .nameAndType 71 72), (0, u "grow"), (0, u "(I)[Ljava/lang/Object;"), (6, .methodref 80 81), (0, .class_ 82), (0, .nameAndType 83 84), (0, u "java/lang/Math"), (0, u "max"), (0, u "(II)I"), (11, u "(Ljava/lang/Object;)Z"), (21, .methodref 119 120), (0, .class_ 121), (0, .nameAndType 122 84), (0, u "java/util/Objects"), (0, u "checkIndex"), (0, .methodref 10 124), (0, .nameAndType 13 125), (0, u "(I)Ljava/lang/Object;"), (3, .methodref 10 130), (0, .nameAndType 71 47), (0, .methodref 10 132), (0, .nameAndType 133 134), (0, u "add"), (0, u "(Ljava/lang/Object;[Ljava/lang/Object;I)V"), (13, .class_ 149), (0, u "java/util/List"), (36, u "()I"), (75, .class_ 263), (0, u "java/util/ArrayList$ListItr"), (3, .class_ 268), (0, u "java/util/ArrayList$Itr"), (7, .class_ 277), (0, u "java/util/ArrayList$SubList"), (12, .class_ 291), (0, u "java/util/ArrayList$ArrayListSpliterator"), (37, .class_ 330), (0, u "java/util/RandomAccess"), (0, .class_ 332), (0, u "java/lang/Cloneable"), (0, .class_ 334), (0, u "java/io/Serializable"), (0, u "serialVersionUID"), (0, u "J"), (3, u "DEFAULT_CAPACITY"), (40, u "get"), (118, .class_ 501), (0, u "java/util/ArrayList$SubList$2"), (0, .class_ 503), (0, u "java/util/ArrayList$SubList$1")] 5

def k16c0 : Code := { maxStack := 2, maxLocals := 1, code := jdk_38_method_2_code, exceptionTable := #[], attributes := #[] }
def k16m0 : Method := { name := "<init>", desc := "()V", sig := { parameters := [], returnType := none }, accessFlags := 1, code := some k16c0 }
def k16c1 : Code := { maxStack := 4, maxLocals := 4, code := jdk_38_method_6_code, exceptionTable := #[], attributes := #[] }
def k16m1 : Method := { name := "grow", desc := "(I)[Ljava/lang/Object;", sig := { parameters := [.int], returnType := some (.array (.object "java/lang/Object")) }, accessFlags := 2, code := some k16c1 }
def k16c2 : Code := { maxStack := 3, maxLocals := 1, code := jdk_38_method_7_code, exceptionTable := #[], attributes := #[] }
def k16m2 : Method := { name := "grow", desc := "()[Ljava/lang/Object;", sig := { parameters := [], returnType := some (.array (.object "java/lang/Object")) }, accessFlags := 2, code := some k16c2 }
def k16c3 : Code := { maxStack := 1, maxLocals := 1, code := jdk_38_method_8_code, exceptionTable := #[], attributes := #[] }
def k16m3 : Method := { name := "size", desc := "()I", sig := { parameters := [], returnType := some .int }, accessFlags := 1, code := some k16c3 }
def k16c4 : Code := { maxStack := 2, maxLocals := 2, code := jdk_38_method_18_code, exceptionTable := #[], attributes := #[] }
def k16m4 : Method := { name := "elementData", desc := "(I)Ljava/lang/Object;", sig := { parameters := [.int], returnType := some (.object "java/lang/Object") }, accessFlags := 0, code := some k16c4 }
def k16c5 : Code := { maxStack := 2, maxLocals := 2, code := jdk_38_method_20_code, exceptionTable := #[], attributes := #[] }
def k16m5 : Method := { name := "get", desc := "(I)Ljava/lang/Object;", sig := { parameters := [.int], returnType := some (.object "java/lang/Object") }, accessFlags := 1, code := some k16c5 }
def k16c6 : Code := { maxStack := 3, maxLocals := 4, code := jdk_38_method_24_code, exceptionTable := #[], attributes := #[] }
def k16m6 : Method := { name := "add", desc := "(Ljava/lang/Object;[Ljava/lang/Object;I)V", sig := { parameters := [(.object "java/lang/Object"), (.array (.object "java/lang/Object")), .int], returnType := none }, accessFlags := 2, code := some k16c6 }
def k16c7 : Code := { maxStack := 4, maxLocals := 2, code := jdk_38_method_25_code, exceptionTable := #[], attributes := #[] }
def k16m7 : Method := { name := "add", desc := "(Ljava/lang/Object;)Z", sig := { parameters := [(.object "java/lang/Object")], returnType := some .boolean }, accessFlags := 1, code := some k16c7 }
/-- java/util/ArrayList -/
def k16 : Class := { plain "java/util/ArrayList" (some 12) with
  accessFlags := 33
  interfaces := #[11, 13, 14, 15]
  cf := some (fileOf pool16 10 #[.nestMembers #[290, 276, 500, 502, 262, 267]] #[{ accessFlags := 1, nameIndex := 5, descriptorIndex := 6, attributes := #[] }, { accessFlags := 2, nameIndex := 71, descriptorIndex := 72, attributes := #[] }, { accessFlags := 2, nameIndex := 71, descriptorIndex := 47, attributes := #[] }, { accessFlags := 1, nameIndex := 50, descriptorIndex := 186, attributes := #[] }, { accessFlags := 0, nameIndex := 13, descriptorIndex := 125, attributes := #[] }, { accessFlags := 1, nameIndex := 381, descriptorIndex := 125, attributes := #[] }, { accessFlags := 2, nameIndex := 133, descriptorIndex := 134, attributes := #[] }, { accessFlags := 1, nameIndex := 133, descriptorIndex := 96, attributes := #[] }] 33 2 #[148, 329, 331, 333] #[{ accessFlags := 26, nameIndex := 335, descriptorIndex := 336, attributes := #[] }, { accessFlags := 26, nameIndex := 340, descriptorIndex := 51, attributes := #[] }, { accessFlags := 26, nameIndex := 17, descriptorIndex := 14, attributes := #[] }, { accessFlags := 26, nameIndex := 41, descriptorIndex := 14, attributes := #[] }, { accessFlags := 128, nameIndex := 13, descriptorIndex := 14, attributes := #[] }, { accessFlags := 2, nameIndex := 50, descriptorIndex := 51, attributes := #[] }])
  fields := #[{ name := "serialVersionUID", type := .long, accessFlags := 26, slot := 0, constantValue := 0 }, { name := "DEFAULT_CAPACITY", type := .int, accessFlags := 26, slot := 1, constantValue := 0 }, { name := "EMPTY_ELEMENTDATA", type := (.array (.object "java/lang/Object")), accessFlags := 26, slot := 2, constantValue := 0 }, { name := "DEFAULTCAPACITY_EMPTY_ELEMENTDATA", type := (.array (.object "java/lang/Object")), accessFlags := 26, slot := 3, constantValue := 0 }, { name := "elementData", type := (.array (.object "java/lang/Object")), accessFlags := 128, slot := 1, constantValue := 0 }, { name := "size", type := .int, accessFlags := 2, slot := 2, constantValue := 0 }]
  methods := #[k16m0, k16m1, k16m2, k16m3, k16m4, k16m5, k16m6, k16m7]
  instanceTypes := #[.int, (.array (.object "java/lang/Object")), .int]
  staticTypes := #[.long, .int, (.array (.object "java/lang/Object")), (.array (.object "java/lang/Object"))]
  resolved := Array.replicate 509 none
  statics := some 0 }

def pool17 : Array CpInfo := pool [(1, .class_ 2), (0, u "java/lang/Math"), (1, .class_ 6), (1, u "java/lang/Object"), (0, u "<init>"), (0, u "()V"), (89, .class_ 100), (1, u "java/lang/Math$RandomNumberGeneratorHolder"), (71, u "negativeZeroFloatBits"), (0, u "J"), (2, u "negativeZeroDoubleBits"), (21, u "max"), (2, u "min"), (43, u "$assertionsDisabled"), (0, u "Z"), (88, u "(II)I"), (2, u "twoToTheDoubleScaleDown"), (0, u "D"), (4, u "twoToTheDoubleScaleUp"), (9, u "E"), (3, u "PI"), (2, u "TAU"), (2, u "DEGREES_TO_RADIANS"), (0, u "RADIANS_TO_DEGREES")] 94

def k17m0 : Method := { name := "<init>", desc := "()V", sig := { parameters := [], returnType := none }, accessFlags := 2, code := none }
def k17c1 : Code := { maxStack := 2, maxLocals := 2, code := jdk_29_method_65_code, exceptionTable := #[], attributes := #[] }
def k17m1 : Method := { name := "max", desc := "(II)I", sig := { parameters := [.int, .int], returnType := some .int }, accessFlags := 9, code := some k17c1 }
def k17c2 : Code := { maxStack := 2, maxLocals := 2, code := jdk_29_method_69_code, exceptionTable := #[], attributes := #[] }
def k17m2 : Method := { name := "min", desc := "(II)I", sig := { parameters := [.int, .int], returnType := some .int }, accessFlags := 9, code := some k17c2 }
/-- java/lang/Math -/
def k17 : Class := { plain "java/lang/Math" (some 0) with
  accessFlags := 49
  interfaces := #[]
  cf := some (fileOf pool17 1 #[.nestMembers #[98]] #[{ accessFlags := 2, nameIndex := 7, descriptorIndex := 8, attributes := #[] }, { accessFlags := 9, nameIndex := 198, descriptorIndex := 335, attributes := #[] }, { accessFlags := 9, nameIndex := 201, descriptorIndex := 335, attributes := #[] }] 49 4 #[] #[{ accessFlags := 25, nameIndex := 354, descriptorIndex := 339, attributes := #[] }, { accessFlags := 25, nameIndex := 358, descriptorIndex := 339, attributes := #[] }, { accessFlags := 25, nameIndex := 361, descriptorIndex := 339, attributes := #[] }, { accessFlags := 26, nameIndex := 364, descriptorIndex := 339, attributes := #[] }, { accessFlags := 26, nameIndex := 365, descriptorIndex := 339, attributes := #[] }, { accessFlags := 26, nameIndex := 172, descriptorIndex := 173, attributes := #[] }, { accessFlags := 26, nameIndex := 176, descriptorIndex := 173, attributes := #[] }, { accessFlags := 8, nameIndex := 344, descriptorIndex := 339, attributes := #[] }, { accessFlags := 8, nameIndex := 338, descriptorIndex := 339, attributes := #[] }, { accessFlags := 4120, nameIndex := 245, descriptorIndex := 246, attributes := #[] }])
  fields := #[{ name := "E", type := .double, accessFlags := 25, slot := 0, constantValue := 0 }, { name := "PI", type := .double, accessFlags := 25, slot := 1, constantValue := 0 }, { name := "TAU", type := .double, accessFlags := 25, slot := 2, constantValue := 0 }, { name := "DEGREES_TO_RADIANS", type := .double, accessFlags := 26, slot := 3, constantValue := 0 }, { name := "RADIANS_TO_DEGREES", type := .double, accessFlags := 26, slot := 4, constantValue := 0 }, { name := "negativeZeroFloatBits", type := .long, accessFlags := 26, slot := 5, constantValue := 0 }, { name := "negativeZeroDoubleBits", type := .long, accessFlags := 26, slot := 6, constantValue := 0 }, { name := "twoToTheDoubleScaleUp", type := .double, accessFlags := 8, slot := 7, constantValue := 0 }, { name := "twoToTheDoubleScaleDown", type := .double, accessFlags := 8, slot := 8, constantValue := 0 }, { name := "$assertionsDisabled", type := .boolean, accessFlags := 4120, slot := 9, constantValue := 0 }]
  methods := #[k17m0, k17m1, k17m2]
  instanceTypes := #[]
  staticTypes := #[.double, .double, .double, .double, .double, .long, .long, .double, .double, .boolean]
  resolved := Array.replicate 460 none
  statics := none }

def pool18 : Array CpInfo := pool [(2, .class_ 4), (1, u "java/lang/Object"), (0, u "<init>"), (0, u "()V"), (35, .class_ 44), (1, u "java/util/Objects"), (60, .methodref 106 107), (0, .class_ 108), (0, .nameAndType 109 110), (0, u "jdk/internal/util/Preconditions"), (0, u "checkIndex"), (0, u "(IILjava/util/function/BiFunction;)I"), (60, u "(II)I")] 12

def k18m0 : Method := { name := "<init>", desc := "()V", sig := { parameters := [], returnType := none }, accessFlags := 2, code := none }
def k18c1 : Code := { maxStack := 3, maxLocals := 2, code := jdk_31_method_17_code, exceptionTable := #[], attributes := #[] }
def k18m1 : Method := { name := "checkIndex", desc := "(II)I", sig := { parameters := [.int, .int], returnType := some .int }, accessFlags := 9, code := some k18c1 }
/-- java/util/Objects -/
def k18 : Class := { plain "java/util/Objects" (some 0) with
  accessFlags := 49
  interfaces := #[]
  cf := some (fileOf pool18 42 #[] #[{ accessFlags := 2, nameIndex := 5, descriptorIndex := 6, attributes := #[] }, { accessFlags := 9, nameIndex := 109, descriptorIndex := 171, attributes := #[] }] 49 2 #[] #[])
  fields := #[]
  methods := #[k18m0, k18m1]
  instanceTypes := #[]
  staticTypes := #[]
  resolved := Array.replicate 184 none
  statics := none }

def pool19 : Array CpInfo := pool [(2, .class_ 4), (1, u "java/lang/Object"), (0, u "<init>"), (0, u "()V"), (17, .class_ 26), (1, u "jdk/internal/util/Preconditions"), (6, u "checkIndex"), (21, .class_ 56), (0, u "jdk/internal/util/Preconditions$4"), (57, .class_ 115), (0, u "jdk/internal/util/Preconditions$1"), (7, u "SIOOBE_FORMATTER"), (0, u "Ljava/util/function/BiFunction;"), (0, .class_ 126), (0, u "jdk/internal/util/Preconditions$2"), (3, u "AIOOBE_FORMATTER"), (0, .class_ 132), (0, u "jdk/internal/util/Preconditions$3"), (3, u "IOOBE_FORMATTER"), (41, u "(IILjava/util/function/BiFunction;)I")] 15

def k19m0 : Method := { name := "<init>", desc := "()V", sig := { parameters := [], returnType := none }, accessFlags := 1, code := none }
def k19c1 : Code := { maxStack := 3, maxLocals := 3, code := jdk_41_method_11_code, exceptionTable := #[], attributes := #[] }
def k19m1 : Method := { name := "checkIndex", desc := "(IILjava/util/function/BiFunction;)I", sig := { parameters := [.int, .int, (.object "java/util/function/BiFunction")], returnType := some .int }, accessFlags := 9, code := some k19c1 }
/-- jdk/internal/util/Preconditions -/
def k19 : Class := { plain "jdk/internal/util/Preconditions" (some 0) with
  accessFlags := 33
  interfaces := #[]
  cf := some (fileOf pool19 24 #[.nestMembers #[55, 131, 125, 114]] #[{ accessFlags := 1, nameIndex := 5, descriptorIndex := 6, attributes := #[] }, { accessFlags := 9, nameIndex := 33, descriptorIndex := 178, attributes := #[] }] 33 2 #[] #[{ accessFlags := 25, nameIndex := 123, descriptorIndex := 124, attributes := #[] }, { accessFlags := 25, nameIndex := 130, descriptorIndex := 124, attributes := #[] }, { accessFlags := 25, nameIndex := 136, descriptorIndex := 124, attributes := #[] }])
  fields := #[{ name := "SIOOBE_FORMATTER", type := (.object "java/util/function/BiFunction"), accessFlags := 25, slot := 0, constantValue := 0 }, { name := "AIOOBE_FORMATTER", type := (.object "java/util/function/BiFunction"), accessFlags := 25, slot := 1, constantValue := 0 }, { name := "IOOBE_FORMATTER", type := (.object "java/util/function/BiFunction"), accessFlags := 25, slot := 2, constantValue := 0 }]
  methods := #[k19m0, k19m1]
  instanceTypes := #[]
  staticTypes := #[(.object "java/util/function/BiFunction"), (.object "java/util/function/BiFunction"), (.object "java/util/function/BiFunction")]
  resolved := Array.replicate 194 none
  statics := none }

/-- the primitive byte -/
def k20 : Class := { plain "byte" none with kind := .primitive 'B', accessFlags := 0x411 }
/-- [B -/
def k21 : Class := { plain "[B" (some 0) with kind := .array 20 .byte, interfaces := #[14, 15], accessFlags := 1041 }

/-- the primitive int -/
def k22 : Class := { plain "int" none with kind := .primitive 'I', accessFlags := 0x411 }
/-- [I -/
def k23 : Class := { plain "[I" (some 0) with kind := .array 22 .int, interfaces := #[14, 15], accessFlags := 1041 }

/-- [Ljava/lang/Object; -/
def k24 : Class := { plain "[Ljava/lang/Object;" (some 0) with kind := .array 0 (.object "java/lang/Object"), interfaces := #[14, 15], accessFlags := 1041 }

def heap : Heap := #[{ cls := 16, slots := #[.long 0, .int 0, .ref 1, .ref 2], vm := .statics 16 },
  { cls := 24, slots := #[], vm := .none },
  { cls := 24, slots := #[], vm := .none }]
def classes : Array Class := #[k0, k1, k2, k3, k4, k5, k6, k7, k8, k9, k10, k11, k12, k13, k14, k15, k16, k17, k18, k19, k20, k21, k22, k23, k24]
def interned : List (Array UInt16 × Addr) := []
def slotsUsed : Nat := 4
def theMethod : MethodId := ⟨1, 1⟩
def args0 : Array Value := #[.int 5, .int 2, .int 5, .int 0]
def aboutOver (below : List Frame) : State where
  vm := { classes := classes, interned := interned.toArray }
  heap := heap
  slotsUsed := slotsUsed
  threads := #[{ frames := .invoking theMethod args0 :: below }]
def below0 : List Frame := [.native { method := ⟨0, 0⟩, args := #[] }]
def about1 : State := aboutOver below0
def p0 : Program := .bare "" "" ""
def e0 : Env := launch0.env 0 0 0
theorem w_frames : about1.frames = Frame.invoking theMethod args0 :: below0 := rfl
set_option maxRecDepth 65536 in
theorem w_args : argsFit about1.vm theMethod args0 = true := by decide +kernel
set_option maxRecDepth 65536 in
theorem w_heap : heapFits about1 = true := by decide +kernel
set_option maxRecDepth 65536 in
theorem w_runnable : about1.curStatus? = some .runnable := by decide +kernel
set_option maxRecDepth 65536 in
theorem w_alone : about1.alone = true := by decide +kernel
set_option maxRecDepth 65536 in
theorem w_named : about1.methodNamed? x = some theMethod := by decide +kernel
set_option maxRecDepth 65536 in
theorem w_hears : about1.hears theMethod below0 = true := by decide +kernel
set_option maxRecDepth 65536 in
theorem w_ripe : about1.ripe theMethod args0 below0 = true := by decide +kernel
theorem w_running : about1.status = .running := rfl
set_option maxRecDepth 65536 in
theorem w_room : about1.hasRoom e0.platform room_1 = true :=
  launch0.hasRoom_least _ room_1 (by decide +kernel) (by decide +kernel) (by decide +kernel) (by decide +kernel) (by decide +kernel) (by decide +kernel)
theorem allAtoms_all (ts : List Jvm.Cond) (a : Array Jvm.Value) (st : Jvm.State) : (allAtoms ts).before a st = ts.all (fun c => c.before a st) := by
  induction ts with
  | nil => rfl
  | cons c t ih =>
    show (Jvm.Cond.and c (allAtoms t)).before a st = _
    rw [Jvm.Cond.before_and, ih, List.all_cons]
def words1 : List Jvm.Cond := Jvm.Cond.code x code maxLocals ret :: tables_1
/-- a 'code' word, met by the world's own term for the bytes: nothing is compared byte by byte -/
theorem code_word {y : MethodName} {bytes : ByteArray} {mx : Nat} {rt : Option FieldType} {a : Array Value} {s : State} {m : MethodId} {meth : Method} {c : Code} (h1 : s.methodNamed? y = some m) (h2 : s.vm.method? m = some meth) (h3 : meth.code = some c) (h4 : c.code = bytes)
    (h5 : (c.maxLocals == mx && c.exceptionTable.isEmpty && decide (c.maxStack ≤ mostOperands) && decide (meth.sig.returnType = rt) && !meth.locks && decide (parseMethodDescriptor y.desc = some meth.sig)) = true) : (Jvm.Cond.code y bytes mx rt).before a s = true := by
  simp only [Bool.and_eq_true, beq_iff_eq, Bool.not_eq_true', decide_eq_true_eq] at h5
  obtain ⟨⟨⟨⟨⟨g1, g2⟩, g3⟩, g4⟩, g5⟩, g6⟩ := h5
  simp [Cond.before, Cond.holds, Cond.value, h1, h2, h3, h4, g1, g2, g3, g4, g5, g6]
def isCode : Jvm.Cond → Bool
  | .code _ _ _ _ => true
  | _ => false
theorem all_split {L : List Jvm.Cond} {P : Jvm.Cond → Bool} (h1 : L.all (fun c => isCode c || P c) = true) (h2 : ∀ c ∈ L.filter isCode, P c = true) : L.all P = true := by
  refine List.all_eq_true.mpr fun c hc => ?_
  have h := List.all_eq_true.mp h1 c hc
  rcases Bool.eq_false_or_eq_true (isCode c) with hi | hi
  · exact h2 c (List.mem_filter.mpr ⟨hc, hi⟩)
  · simpa [hi] using h
set_option maxRecDepth 65536 in
theorem w_c0 : (Jvm.Cond.code x code maxLocals ret).before args0 about1 = true := code_word (m := ⟨1, 1⟩) (meth := k1m1) (c := k1c1) (by decide +kernel) rfl rfl rfl (by decide +kernel)
set_option maxRecDepth 65536 in
theorem w_c1 : (Jvm.Cond.code ({ cls := "com/example/darter/darter/ResultBuffer", name := "<init>", desc := "()V" } : Jvm.MethodName) prog_10_method_1_code (1 : Nat) (Option.none : Option Jvm.ClassFile.FieldType)).before args0 about1 = true := code_word (m := ⟨6, 0⟩) (meth := k6m0) (c := k6c0) (by decide +kernel) rfl rfl rfl (by decide +kernel)
set_option maxRecDepth 65536 in
theorem w_c2 : (Jvm.Cond.code ({ cls := "java/io/OutputStream", name := "<init>", desc := "()V" } : Jvm.MethodName) jdk_2038_method_1_code (1 : Nat) (Option.none : Option Jvm.ClassFile.FieldType)).before args0 about1 = true := code_word (m := ⟨5, 0⟩) (meth := k5m0) (c := k5c0) (by decide +kernel) rfl rfl rfl (by decide +kernel)
set_option maxRecDepth 65536 in
theorem w_c3 : (Jvm.Cond.code ({ cls := "java/lang/Object", name := "<init>", desc := "()V" } : Jvm.MethodName) object_method_1_code (1 : Nat) (Option.none : Option Jvm.ClassFile.FieldType)).before args0 about1 = true := code_word (m := ⟨0, 0⟩) (meth := k0m0) (c := k0c0) (by decide +kernel) rfl rfl rfl (by decide +kernel)
set_option maxRecDepth 65536 in
theorem w_c4 : (Jvm.Cond.code ({ cls := "java/util/ArrayList", name := "<init>", desc := "()V" } : Jvm.MethodName) jdk_38_method_2_code (1 : Nat) (Option.none : Option Jvm.ClassFile.FieldType)).before args0 about1 = true := code_word (m := ⟨16, 0⟩) (meth := k16m0) (c := k16c0) (by decide +kernel) rfl rfl rfl (by decide +kernel)
set_option maxRecDepth 65536 in
theorem w_c5 : (Jvm.Cond.code ({ cls := "java/util/AbstractList", name := "<init>", desc := "()V" } : Jvm.MethodName) jdk_39_method_1_code (1 : Nat) (Option.none : Option Jvm.ClassFile.FieldType)).before args0 about1 = true := code_word (m := ⟨12, 0⟩) (meth := k12m0) (c := k12c0) (by decide +kernel) rfl rfl rfl (by decide +kernel)
set_option maxRecDepth 65536 in
theorem w_c6 : (Jvm.Cond.code ({ cls := "java/util/AbstractCollection", name := "<init>", desc := "()V" } : Jvm.MethodName) jdk_22_method_1_code (1 : Nat) (Option.none : Option Jvm.ClassFile.FieldType)).before args0 about1 = true := code_word (m := ⟨9, 0⟩) (meth := k9m0) (c := k9c0) (by decide +kernel) rfl rfl rfl (by decide +kernel)
set_option maxRecDepth 65536 in
theorem w_c7 : (Jvm.Cond.code ({ cls := "com/example/darter/darter/ResultBuffer", name := "write", desc := "(I)V" } : Jvm.MethodName) prog_10_method_2_code (3 : Nat) (Option.none : Option Jvm.ClassFile.FieldType)).before args0 about1 = true := code_word (m := ⟨6, 1⟩) (meth := k6m1) (c := k6c1) (by decide +kernel) rfl rfl rfl (by decide +kernel)
set_option maxRecDepth 65536 in
theorem w_c8 : (Jvm.Cond.code ({ cls := "com/example/darter/darter/ResultBuffer", name := "makeRoom", desc := "(I)V" } : Jvm.MethodName) prog_10_method_10_code (2 : Nat) (Option.none : Option Jvm.ClassFile.FieldType)).before args0 about1 = true := code_word (m := ⟨6, 3⟩) (meth := k6m3) (c := k6c3) (by decide +kernel) rfl rfl rfl (by decide +kernel)
set_option maxRecDepth 65536 in
theorem w_c9 : (Jvm.Cond.code ({ cls := "com/example/darter/darter/ResultBuffer", name := "blockWithRoom", desc := "(I)[B" } : Jvm.MethodName) prog_10_method_11_code (5 : Nat) (Option.some (Jvm.ClassFile.FieldType.array Jvm.ClassFile.FieldType.byte))).before args0 about1 = true := code_word (m := ⟨6, 4⟩) (meth := k6m4) (c := k6c4) (by decide +kernel) rfl rfl rfl (by decide +kernel)
set_option maxRecDepth 65536 in
theorem w_c10 : (Jvm.Cond.code ({ cls := "java/util/ArrayList", name := "size", desc := "()I" } : Jvm.MethodName) jdk_38_method_8_code (1 : Nat) (Option.some Jvm.ClassFile.FieldType.int)).before args0 about1 = true := code_word (m := ⟨16, 3⟩) (meth := k16m3) (c := k16c3) (by decide +kernel) rfl rfl rfl (by decide +kernel)
set_option maxRecDepth 65536 in
theorem w_c11 : (Jvm.Cond.code ({ cls := "java/lang/Math", name := "max", desc := "(II)I" } : Jvm.MethodName) jdk_29_method_65_code (2 : Nat) (Option.some Jvm.ClassFile.FieldType.int)).before args0 about1 = true := code_word (m := ⟨17, 1⟩) (meth := k17m1) (c := k17c1) (by decide +kernel) rfl rfl rfl (by decide +kernel)
set_option maxRecDepth 65536 in
theorem w_c12 : (Jvm.Cond.code ({ cls := "java/lang/Math", name := "min", desc := "(II)I" } : Jvm.MethodName) jdk_29_method_69_code (2 : Nat) (Option.some Jvm.ClassFile.FieldType.int)).before args0 about1 = true := code_word (m := ⟨17, 2⟩) (meth := k17m2) (c := k17c2) (by decide +kernel) rfl rfl rfl (by decide +kernel)
set_option maxRecDepth 65536 in
theorem w_c13 : (Jvm.Cond.code ({ cls := "java/util/ArrayList", name := "add", desc := "(Ljava/lang/Object;)Z" } : Jvm.MethodName) jdk_38_method_25_code (2 : Nat) (Option.some Jvm.ClassFile.FieldType.boolean)).before args0 about1 = true := code_word (m := ⟨16, 7⟩) (meth := k16m7) (c := k16c7) (by decide +kernel) rfl rfl rfl (by decide +kernel)
set_option maxRecDepth 65536 in
theorem w_c14 : (Jvm.Cond.code ({ cls := "java/util/ArrayList", name := "add", desc := "(Ljava/lang/Object;[Ljava/lang/Object;I)V" } : Jvm.MethodName) jdk_38_method_24_code (4 : Nat) (Option.none : Option Jvm.ClassFile.FieldType)).before args0 about1 = true := code_word (m := ⟨16, 6⟩) (meth := k16m6) (c := k16c6) (by decide +kernel) rfl rfl rfl (by decide +kernel)
set_option maxRecDepth 65536 in
theorem w_c15 : (Jvm.Cond.code ({ cls := "java/util/ArrayList", name := "grow", desc := "()[Ljava/lang/Object;" } : Jvm.MethodName) jdk_38_method_7_code (1 : Nat) (Option.some (Jvm.ClassFile.FieldType.array (Jvm.ClassFile.FieldType.object "java/lang/Object")))).before args0 about1 = true := code_word (m := ⟨16, 2⟩) (meth := k16m2) (c := k16c2) (by decide +kernel) rfl rfl rfl (by decide +kernel)
set_option maxRecDepth 65536 in
theorem w_c16 : (Jvm.Cond.code ({ cls := "java/util/ArrayList", name := "grow", desc := "(I)[Ljava/lang/Object;" } : Jvm.MethodName) jdk_38_method_6_code (4 : Nat) (Option.some (Jvm.ClassFile.FieldType.array (Jvm.ClassFile.FieldType.object "java/lang/Object")))).before args0 about1 = true := code_word (m := ⟨16, 1⟩) (meth := k16m1) (c := k16c1) (by decide +kernel) rfl rfl rfl (by decide +kernel)
set_option maxRecDepth 65536 in
theorem w_c17 : (Jvm.Cond.code ({ cls := "java/util/ArrayList", name := "get", desc := "(I)Ljava/lang/Object;" } : Jvm.MethodName) jdk_38_method_20_code (2 : Nat) (Option.some (Jvm.ClassFile.FieldType.object "java/lang/Object"))).before args0 about1 = true := code_word (m := ⟨16, 5⟩) (meth := k16m5) (c := k16c5) (by decide +kernel) rfl rfl rfl (by decide +kernel)
set_option maxRecDepth 65536 in
theorem w_c18 : (Jvm.Cond.code ({ cls := "java/util/Objects", name := "checkIndex", desc := "(II)I" } : Jvm.MethodName) jdk_31_method_17_code (2 : Nat) (Option.some Jvm.ClassFile.FieldType.int)).before args0 about1 = true := code_word (m := ⟨18, 1⟩) (meth := k18m1) (c := k18c1) (by decide +kernel) rfl rfl rfl (by decide +kernel)
set_option maxRecDepth 65536 in
theorem w_c19 : (Jvm.Cond.code ({ cls := "jdk/internal/util/Preconditions", name := "checkIndex", desc := "(IILjava/util/function/BiFunction;)I" } : Jvm.MethodName) jdk_41_method_11_code (3 : Nat) (Option.some Jvm.ClassFile.FieldType.int)).before args0 about1 = true := code_word (m := ⟨19, 1⟩) (meth := k19m1) (c := k19c1) (by decide +kernel) rfl rfl rfl (by decide +kernel)
set_option maxRecDepth 65536 in
theorem w_c20 : (Jvm.Cond.code ({ cls := "java/util/ArrayList", name := "elementData", desc := "(I)Ljava/lang/Object;" } : Jvm.MethodName) jdk_38_method_18_code (2 : Nat) (Option.some (Jvm.ClassFile.FieldType.object "java/lang/Object"))).before args0 about1 = true := code_word (m := ⟨16, 4⟩) (meth := k16m4) (c := k16c4) (by decide +kernel) rfl rfl rfl (by decide +kernel)
set_option maxRecDepth 65536 in
theorem w_c21 : (Jvm.Cond.code ({ cls := "com/example/darter/darter/ResultBuffer", name := "indexOf", desc := "(BI)I" } : Jvm.MethodName) prog_10_method_5_code (9 : Nat) (Option.some Jvm.ClassFile.FieldType.int)).before args0 about1 = true := code_word (m := ⟨6, 2⟩) (meth := k6m2) (c := k6c2) (by decide +kernel) rfl rfl rfl (by decide +kernel)
set_option maxRecDepth 65536 in
theorem w_c22 : (Jvm.Cond.code ({ cls := "com/example/darter/darter/ResultBufferIndexOfPinLaw", name := "ref", desc := "(BBBBIBI)I" } : Jvm.MethodName) method_3_code (7 : Nat) (Option.some Jvm.ClassFile.FieldType.int)).before args0 about1 = true := code_word (m := ⟨1, 2⟩) (meth := k1m2) (c := k1c2) (by decide +kernel) rfl rfl rfl (by decide +kernel)
def codes1 : List Jvm.Cond := [Jvm.Cond.code x code maxLocals ret, Jvm.Cond.code ({ cls := "com/example/darter/darter/ResultBuffer", name := "<init>", desc := "()V" } : Jvm.MethodName) prog_10_method_1_code (1 : Nat) (Option.none : Option Jvm.ClassFile.FieldType), Jvm.Cond.code ({ cls := "java/io/OutputStream", name := "<init>", desc := "()V" } : Jvm.MethodName) jdk_2038_method_1_code (1 : Nat) (Option.none : Option Jvm.ClassFile.FieldType), Jvm.Cond.code ({ cls := "java/lang/Object", name := "<init>", desc := "()V" } : Jvm.MethodName) object_method_1_code (1 : Nat) (Option.none : Option Jvm.ClassFile.FieldType), Jvm.Cond.code ({ cls := "java/util/ArrayList", name := "<init>", desc := "()V" } : Jvm.MethodName) jdk_38_method_2_code (1 : Nat) (Option.none : Option Jvm.ClassFile.FieldType), Jvm.Cond.code ({ cls := "java/util/AbstractList", name := "<init>", desc := "()V" } : Jvm.MethodName) jdk_39_method_1_code (1 : Nat) (Option.none : Option Jvm.ClassFile.FieldType), Jvm.Cond.code ({ cls := "java/util/AbstractCollection", name := "<init>", desc := "()V" } : Jvm.MethodName) jdk_22_method_1_code (1 : Nat) (Option.none : Option Jvm.ClassFile.FieldType), Jvm.Cond.code ({ cls := "com/example/darter/darter/ResultBuffer", name := "write", desc := "(I)V" } : Jvm.MethodName) prog_10_method_2_code (3 : Nat) (Option.none : Option Jvm.ClassFile.FieldType), Jvm.Cond.code ({ cls := "com/example/darter/darter/ResultBuffer", name := "makeRoom", desc := "(I)V" } : Jvm.MethodName) prog_10_method_10_code (2 : Nat) (Option.none : Option Jvm.ClassFile.FieldType), Jvm.Cond.code ({ cls := "com/example/darter/darter/ResultBuffer", name := "blockWithRoom", desc := "(I)[B" } : Jvm.MethodName) prog_10_method_11_code (5 : Nat) (Option.some (Jvm.ClassFile.FieldType.array Jvm.ClassFile.FieldType.byte)), Jvm.Cond.code ({ cls := "java/util/ArrayList", name := "size", desc := "()I" } : Jvm.MethodName) jdk_38_method_8_code (1 : Nat) (Option.some Jvm.ClassFile.FieldType.int), Jvm.Cond.code ({ cls := "java/lang/Math", name := "max", desc := "(II)I" } : Jvm.MethodName) jdk_29_method_65_code (2 : Nat) (Option.some Jvm.ClassFile.FieldType.int), Jvm.Cond.code ({ cls := "java/lang/Math", name := "min", desc := "(II)I" } : Jvm.MethodName) jdk_29_method_69_code (2 : Nat) (Option.some Jvm.ClassFile.FieldType.int), Jvm.Cond.code ({ cls := "java/util/ArrayList", name := "add", desc := "(Ljava/lang/Object;)Z" } : Jvm.MethodName) jdk_38_method_25_code (2 : Nat) (Option.some Jvm.ClassFile.FieldType.boolean), Jvm.Cond.code ({ cls := "java/util/ArrayList", name := "add", desc := "(Ljava/lang/Object;[Ljava/lang/Object;I)V" } : Jvm.MethodName) jdk_38_method_24_code (4 : Nat) (Option.none : Option Jvm.ClassFile.FieldType), Jvm.Cond.code ({ cls := "java/util/ArrayList", name := "grow", desc := "()[Ljava/lang/Object;" } : Jvm.MethodName) jdk_38_method_7_code (1 : Nat) (Option.some (Jvm.ClassFile.FieldType.array (Jvm.ClassFile.FieldType.object "java/lang/Object"))), Jvm.Cond.code ({ cls := "java/util/ArrayList", name := "grow", desc := "(I)[Ljava/lang/Object;" } : Jvm.MethodName) jdk_38_method_6_code (4 : Nat) (Option.some (Jvm.ClassFile.FieldType.array (Jvm.ClassFile.FieldType.object "java/lang/Object"))), Jvm.Cond.code ({ cls := "java/util/ArrayList", name := "get", desc := "(I)Ljava/lang/Object;" } : Jvm.MethodName) jdk_38_method_20_code (2 : Nat) (Option.some (Jvm.ClassFile.FieldType.object "java/lang/Object")), Jvm.Cond.code ({ cls := "java/util/Objects", name := "checkIndex", desc := "(II)I" } : Jvm.MethodName) jdk_31_method_17_code (2 : Nat) (Option.some Jvm.ClassFile.FieldType.int), Jvm.Cond.code ({ cls := "jdk/internal/util/Preconditions", name := "checkIndex", desc := "(IILjava/util/function/BiFunction;)I" } : Jvm.MethodName) jdk_41_method_11_code (3 : Nat) (Option.some Jvm.ClassFile.FieldType.int), Jvm.Cond.code ({ cls := "java/util/ArrayList", name := "elementData", desc := "(I)Ljava/lang/Object;" } : Jvm.MethodName) jdk_38_method_18_code (2 : Nat) (Option.some (Jvm.ClassFile.FieldType.object "java/lang/Object")), Jvm.Cond.code ({ cls := "com/example/darter/darter/ResultBuffer", name := "indexOf", desc := "(BI)I" } : Jvm.MethodName) prog_10_method_5_code (9 : Nat) (Option.some Jvm.ClassFile.FieldType.int), Jvm.Cond.code ({ cls := "com/example/darter/darter/ResultBufferIndexOfPinLaw", name := "ref", desc := "(BBBBIBI)I" } : Jvm.MethodName) method_3_code (7 : Nat) (Option.some Jvm.ClassFile.FieldType.int)]
set_option maxRecDepth 65536 in
theorem codes_eq : words1.filter isCode = codes1 := rfl
theorem w_codes : ∀ c ∈ words1.filter isCode, c.before args0 about1 = true := by
  rw [codes_eq]
  intro c hc
  simp only [codes1, List.mem_cons, List.not_mem_nil, or_false] at hc
  rcases hc with rfl | rfl | rfl | rfl | rfl | rfl | rfl | rfl | rfl | rfl | rfl | rfl | rfl | rfl | rfl | rfl | rfl | rfl | rfl | rfl | rfl | rfl | rfl
  · exact w_c0
  · exact w_c1
  · exact w_c2
  · exact w_c3
  · exact w_c4
  · exact w_c5
  · exact w_c6
  · exact w_c7
  · exact w_c8
  · exact w_c9
  · exact w_c10
  · exact w_c11
  · exact w_c12
  · exact w_c13
  · exact w_c14
  · exact w_c15
  · exact w_c16
  · exact w_c17
  · exact w_c18
  · exact w_c19
  · exact w_c20
  · exact w_c21
  · exact w_c22
set_option maxRecDepth 65536 in
theorem w_t1 : (words1.take 24).all (fun c => isCode c || c.before args0 about1) = true := by decide +kernel
set_option maxRecDepth 65536 in
theorem w_t2 : ((words1.drop 24).take 24).all (fun c => isCode c || c.before args0 about1) = true := by decide +kernel
set_option maxRecDepth 65536 in
theorem w_t3 : (((words1.drop 24).drop 24).take 24).all (fun c => isCode c || c.before args0 about1) = true := by decide +kernel
set_option maxRecDepth 65536 in
theorem w_t4 : ((((words1.drop 24).drop 24).drop 24).take 24).all (fun c => isCode c || c.before args0 about1) = true := by decide +kernel
set_option maxRecDepth 65536 in
theorem w_t5 : (((((words1.drop 24).drop 24).drop 24).drop 24).take 24).all (fun c => isCode c || c.before args0 about1) = true := by decide +kernel
set_option maxRecDepth 65536 in
theorem w_t6 : (((((words1.drop 24).drop 24).drop 24).drop 24).drop 24).all (fun c => isCode c || c.before args0 about1) = true := by decide +kernel
theorem w_tables : (allAtoms (Jvm.Cond.code x code maxLocals ret :: tables_1)).before args0 about1 = true := by
  rw [allAtoms_all]
  show words1.all (fun c => c.before args0 about1) = true
  refine all_split ?_ w_codes
  rw [← List.take_append_drop 24 words1, List.all_append, w_t1, ← List.take_append_drop 24 (words1.drop 24), List.all_append, w_t2, ← List.take_append_drop 24 ((words1.drop 24).drop 24), List.all_append, w_t3, ← List.take_append_drop 24 (((words1.drop 24).drop 24).drop 24), List.all_append, w_t4, ← List.take_append_drop 24 ((((words1.drop 24).drop 24).drop 24).drop 24), List.all_append, w_t5, w_t6]
  rfl
set_option maxRecDepth 65536 in
theorem w_rest : rest_1_c.before args0 about1 = true := by decide +kernel
set_option maxRecDepth 65536 in
theorem w_case : (Jvm.Cond.and given_1 narrow_1).before args0 about1 = true := by decide +kernel
theorem w_applies : (headSpec (Jvm.Cond.code x code maxLocals ret :: tables_1) room_1).applies x e0.platform about1 = true :=
  (Spec.applies_iff w_frames).mpr ⟨w_running, w_runnable, w_alone, w_named, w_hears, w_ripe, w_room, w_tables⟩
theorem atStart : AtStart classFile x code maxLocals ret World_1 tables_1 room_1 Calls_1 rest_1 Pre_1 launch0 p0 e0 about1 theMethod args0 below0 :=
  ⟨lists_1, trivial, launch0.admits_env _ _ _, launch0.least_env, fairChoices_fair.cas, fairChoices_fair.clock, w_frames, w_args, w_heap, w_applies, trivial, w_rest, w_case⟩
end start1
theorem witness_1 : WitnessClaimed_1 := ⟨start1.p0, start1.e0, start1.about1, start1.theMethod, start1.args0, start1.below0, start1.atStart⟩
end Jvm.Pilot.@@N@@
