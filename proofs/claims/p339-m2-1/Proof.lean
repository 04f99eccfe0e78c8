import JvmDerived
import JvmDerived.Pilot.@@N@@Statement
import JvmDerived.Pilot.@@N@@Code
set_option linter.unusedVariables false
set_option linter.unusedSimpArgs false
namespace Jvm.RoadKit
open Sem ClassFile Op Lib Jvm.Stand Jvm.Free Jvm.LawKit
section New
variable {p : Program} {l : Launch} {e : Env} {R : Room} {s : State} {m : MethodId} {args : Array Value} {below : List Frame} {meth : Method} {c : Code} {T : State} {locs : List Loc} {cells slots : Nat}
theorem retI (X : Stand p l e R s m args below meth c T locs cells slots) (hx : p.tables.exec = Jvm.exec) {pc : Nat} {Ls : Array Slot} {z : Int32} {rest : List Value} (hret : meth.sig.returnType = some .int) (hd : decode c.code pc = .ok (.ireturn, 1)) {fs : List Frame}
    (hl : ∀ (f : JFrame) (acts : List Action), f.method = m → f.locked = none → f.entered = [] → (doReturn e (T.setTop f) acts (some (.int z))).1 = T.setFrames fs) : Steps p.tables e below (T.setTop (mkF m pc Ls (.int z :: rest))) (T.setFrames fs) := by
  have hm' : T.vm.method? m = some meth := X.method'
  have hn : narrow .int (.int z) = .int z := rfl
  show Steps p.tables e below (T.setTop { method := m, pc := pc, locals := Ls, stack := _ :: rest, locked := none }) _
  jvm_step X.here [X.here.top, hx, hd, hm', hret, hn]
  first | (intro acts; rw [hl _ acts rfl rfl rfl]) | rw [hl _ _ rfl rfl rfl]
  exact Steps.refl _
end New
end Jvm.RoadKit
namespace Jvm.Pilot.@@N@@
open Jvm Jvm.ClassFile Sem Op Lib Jvm.Free Jvm.Stand Jvm.LawKit Jvm.RoadKit Bundle Jvm.Pilot.@@N@@.Jvm.D
abbrev own_pick (v : Int32) : Int32 := if (v &&& (1 : Int32)) = (0 : Int32) then (v >>> ((1 : Int32) &&& 31)).toInt8.toInt32 else 124
theorem own_b8 (x : Int32) : x.toInt8.toInt32.toInt8.toInt32 = x.toInt8.toInt32 := by simp
theorem own_pick8 (v : Int32) : (own_pick v).toInt8.toInt32 = own_pick v := by
  unfold own_pick; split
  · exact own_b8 _
  · rfl
def own_f (a : Int32) (i : Int32) : Int32 := if i = 0 then own_pick a else if i = 1 then own_pick (a >>> ((8 : Int32) &&& 31)) else if i = 2 then own_pick (a >>> ((16 : Int32) &&& 31)) else own_pick (a >>> ((24 : Int32) &&& 31))
abbrev own_vs (f : Int32 → Int32) : List Value := [.int (f 0), .int (f 1), .int (f 2), .int (f 3)]
abbrev own_BA (Z : State) (h : Heap) (b : Addr) (k : ClassId) (f : Int32 → Int32) : Prop := Arv Z h b k .byte (4 : Int32) (own_vs f) (.int (0 : Int32))
abbrev own_sb (f : Int32 → Int32) (s e i : Int32) : Int32 := if ¬ i < s ∧ i < e ∧ f i = 124 then 1 else 0
abbrev own_cnt (f : Int32 → Int32) (s e : Int32) : Int32 := own_sb f s e 0 + own_sb f s e 1 + own_sb f s e 2 + own_sb f s e 3
abbrev own_fst (f : Int32 → Int32) (s e : Int32) : Int32 := if own_sb f s e 0 = 1 then 0 else if own_sb f s e 1 = 1 then 1 else if own_sb f s e 2 = 1 then 2 else if own_sb f s e 3 = 1 then 3 else -1
abbrev own_lst (f : Int32 → Int32) (s e : Int32) : Int32 := if own_sb f s e 3 = 1 then 3 else if own_sb f s e 2 = 1 then 2 else if own_sb f s e 1 = 1 then 1 else if own_sb f s e 0 = 1 then 0 else -1
abbrev own_trm (f : Int32 → Int32) (s e : Int32) : Int32 := if s < e ∧ f (e - 1) = 124 then 1 else 0
def own_cf (f : Int32 → Int32) (i : Int32) : Nat → Int32
  | 0 => 0
  | n + 1 => (if f i = 124 then 1 else 0) + own_cf f (i + 1) n
def own_ps (f : Int32 → Int32) (i : Int32) : Nat → List Int32
  | 0 => []
  | n + 1 => if f i = 124 then i :: own_ps f (i + 1) n else own_ps f (i + 1) n
theorem own_four {j : Int32} (h : ¬ j < 0 ∧ j < 4) : j = 0 ∨ j = 1 ∨ j = 2 ∨ j = 3 := by
  have z : (0 : Int32).toInt = 0 := rfl
  have z1 : (1 : Int32).toInt = 1 := rfl
  have z2 : (2 : Int32).toInt = 2 := rfl
  have z3 : (3 : Int32).toInt = 3 := rfl
  have z4 : (4 : Int32).toInt = 4 := rfl
  obtain ⟨h1, h2⟩ := h
  rw [Int32.lt_iff_toInt_lt] at h1 h2
  simp only [← Int32.toInt_inj]
  omega
theorem own_get (f : Int32 → Int32) {j : Int32} (h : ¬ j < 0 ∧ j < 4) : (own_vs f).getD j.toNatClampNeg (.int (0 : Int32)) = .int (f j) := by
  rcases own_four h with rfl | rfl | rfl | rfl <;> rfl
theorem own_lti {x y : Int32} : x < y ↔ x.toInt < y.toInt := Int32.lt_iff_toInt_lt
def own_RV (Z : State) (h : Heap) (a b ar : Addr) (st en : Int32) (ln : Int64) (cn fo se : Int32) : Prop := Exa Z h a "com/example/concept_ledger/conceptledger/model/RowView" ∧ Fld Z h a "com/example/concept_ledger/conceptledger/model/RowView" "bytes" "[B" (.ref b) ∧ Fld Z h a "com/example/concept_ledger/conceptledger/model/RowView" "bars" "[I" (.ref ar) ∧ Fld Z h a "com/example/concept_ledger/conceptledger/model/RowView" "start" "I" (.int st) ∧ Fld Z h a "com/example/concept_ledger/conceptledger/model/RowView" "end" "I" (.int en) ∧ Fld Z h a "com/example/concept_ledger/conceptledger/model/RowView" "line" "J" (.long ln) ∧ Fld Z h a "com/example/concept_ledger/conceptledger/model/RowView" "count" "I" (.int cn) ∧ Fld Z h a "com/example/concept_ledger/conceptledger/model/RowView" "found" "I" (.int fo) ∧ Fld Z h a "com/example/concept_ledger/conceptledger/model/RowView" "searched" "I" (.int se)
theorem own_RV.ext {Z : State} {h h' : Heap} {a b ar : Addr} {st en : Int32} {ln : Int64} {cn fo se : Int32} (O : own_RV Z h a b ar st en ln cn fo se) (E : Ext h h') : own_RV Z h' a b ar st en ln cn fo se := ⟨O.1.ext E, O.2.1.ext E, O.2.2.1.ext E, O.2.2.2.1.ext E, O.2.2.2.2.1.ext E, O.2.2.2.2.2.1.ext E, O.2.2.2.2.2.2.1.ext E, O.2.2.2.2.2.2.2.1.ext E, O.2.2.2.2.2.2.2.2.ext E⟩
theorem own_RV.keep {Z : State} {h h' : Heap} {ws : List Addr} {a b ar : Addr} {st en : Int32} {ln : Int64} {cn fo se : Int32} (O : own_RV Z h a b ar st en ln cn fo se) (K : Keep h h' ws) (q : a ∉ ws) : own_RV Z h' a b ar st en ln cn fo se := ⟨O.1.keep K, O.2.1.keep K q, O.2.2.1.keep K q, O.2.2.2.1.keep K q, O.2.2.2.2.1.keep K q, O.2.2.2.2.2.1.keep K q, O.2.2.2.2.2.2.1.keep K q, O.2.2.2.2.2.2.2.1.keep K q, O.2.2.2.2.2.2.2.2.keep K q⟩
def own_Bars (Z : State) (h : Heap) (ar : Addr) (D : List Int32) : Prop := ∃ (k : ClassId) (z : Int32) (vs : List Int32), Arv Z h ar k .int z (vs.map Value.int) (.int (0 : Int32)) ∧ vs.length = z.toNatClampNeg ∧ (z = 0 ∨ z = 1 ∨ z = 2 ∨ z = 4) ∧ D <+: vs
theorem own_Bars.ext {Z : State} {h h' : Heap} {ar : Addr} {D : List Int32} (O : own_Bars Z h ar D) (E : Ext h h') : own_Bars Z h' ar D := by obtain ⟨k, z, vs, V, r⟩ := O; exact ⟨k, z, vs, V.ext E, r⟩
theorem own_Bars.keep {Z : State} {h h' : Heap} {ar : Addr} {ws : List Addr} {D : List Int32} (O : own_Bars Z h ar D) (K : Keep h h' ws) (q : ar ∉ ws) : own_Bars Z h' ar D := by obtain ⟨k, z, vs, V, r⟩ := O; exact ⟨k, z, vs, V.keep K q, r⟩
theorem own_Bars.other {Z : State} {h h' : Heap} {ar a : Addr} {sl : Nat} {v : Value} {D : List Int32} (O : own_Bars Z h ar D) (W : Wr h h' a sl v) (q : ar ≠ a) : own_Bars Z h' ar D := by obtain ⟨k, z, vs, V, r⟩ := O; exact ⟨k, z, vs, V.other W q, r⟩
theorem own_Bars.lt {Z : State} {h : Heap} {ar : Addr} {D : List Int32} (O : own_Bars Z h ar D) : ar < h.size := by obtain ⟨k, z, vs, V, r⟩ := O; exact V.lt
theorem own_Bars.nil {Z : State} {h : Heap} {ar : Addr} {D : List Int32} (O : own_Bars Z h ar D) : own_Bars Z h ar [] := by obtain ⟨k, z, vs, V, r1, r2, r3⟩ := O; exact ⟨k, z, vs, V, r1, r2, List.nil_prefix⟩
abbrev own_se (st en : Int32) : Prop := 0 ≤ st.toInt ∧ st.toInt ≤ en.toInt ∧ en.toInt ≤ 4
theorem own_em1 {st en : Int32} (h : own_se st en) (hc : st < en) : ¬ en - (1 : Int32) < 0 ∧ en - (1 : Int32) < 4 := by
  have z : (0 : Int32).toInt = 0 := rfl
  have z1 : (1 : Int32).toInt = 1 := rfl
  have z4 : (4 : Int32).toInt = 4 := rfl
  have q := c_isub en 1
  have r := rng32 (en - 1)
  rw [own_lti] at hc
  rw [own_lti, own_lti]
  obtain ⟨h1, h2, h3⟩ := h
  omega
theorem own_on {i : Nat} (h : i < 2147483648) : (Int32.ofNat i).toInt = i := Int32.toInt_ofNat_of_lt h
theorem own_onn {i : Nat} (h : i < 2147483648) : (Int32.ofNat i).toNatClampNeg = i := by simp only [Int32.toNatClampNeg, own_on h]; rfl
theorem own_m8 {st en : Int32} (h : own_se st en) {i : Int32} (hi : 0 ≤ i.toInt) : en - (8 : Int32) < i := by
  have z8 : (8 : Int32).toInt = 8 := rfl
  have q := c_isub en 8
  have r := rng32 (en - 8)
  obtain ⟨h1, h2, h3⟩ := h
  rw [own_lti]; omega
theorem own_i1 {i : Int32} (h0 : 0 ≤ i.toInt) (h : i.toInt < 4) : (i + (1 : Int32)).toInt = i.toInt + 1 := by
  have z : (1 : Int32).toInt = 1 := rfl
  have q := c_iadd i 1
  have r := rng32 (i + 1)
  omega
theorem own_in4 {i : Int32} (h0 : 0 ≤ i.toInt) (h : i.toInt < 4) : ¬ i < 0 ∧ i < 4 := by
  have z : (0 : Int32).toInt = 0 := rfl
  have z4 : (4 : Int32).toInt = 4 := rfl
  rw [own_lti, own_lti]; omega
theorem own_pre {D vs : List Int32} {s : Int32} (h : D <+: vs) (hl : D.length < vs.length) : D ++ [s] <+: vs.set D.length s := by
  obtain ⟨t, rfl⟩ := h
  cases t with
  | nil => simp at hl
  | cons x t => exact ⟨t, by simp⟩
theorem own_rd {D vs X P : List Int32} {i : Nat} (h : D <+: vs) (hi : i < D.length) (hP : D ++ X = P) : (vs.map Value.int).getD i (.int (0 : Int32)) = .int (P.getD i 0) := by
  obtain ⟨t, rfl⟩ := h
  subst hP
  rw [List.getD_eq_getElem?_getD, List.getElem?_map, List.getElem?_append_left hi, List.getD_eq_getElem?_getD, List.getElem?_append_left hi, List.getElem?_eq_getElem hi]
  rfl
theorem own_len1 (D : List Int32) (s : Int32) (h : D.length < 2147483647) : Int32.ofNat D.length + (1 : Int32) = Int32.ofNat (D ++ [s]).length := by
  apply Int32.toInt_inj.mp
  have q := c_iadd (Int32.ofNat D.length) 1
  have z : (1 : Int32).toInt = 1 := rfl
  have r := rng32 (Int32.ofNat D.length + 1)
  rw [List.length_append, List.length_singleton, own_on (by omega)]
  rw [own_on (by omega)] at q
  omega
theorem own_cp (vs : List Int32) (z n : Nat) (h : vs.length = z) (hn : z ≤ n) : (([] ++ List.replicate n (Value.int (0 : Int32))).take 0 ++ ((List.range z).map fun i => (vs.map Value.int).getD (0 + i) (.int (0 : Int32))) ++ ([] ++ List.replicate n (Value.int (0 : Int32))).drop (0 + z)) = (vs ++ List.replicate (n - z) 0).map Value.int := by
  subst h
  have e : ((List.range vs.length).map fun i => (vs.map Value.int).getD (0 + i) (.int (0 : Int32))) = vs.map Value.int := by
    apply List.ext_getElem
    · simp
    · intro i h1 h2
      simp at h1
      simp [h1]
  rw [e]
  simp
def own_Room (Z : State) (h : Heap) (ar : Addr) (D : List Int32) : Prop := ∃ (k : ClassId) (z : Int32) (vs : List Int32), Arv Z h ar k .int z (vs.map Value.int) (.int (0 : Int32)) ∧ vs.length = z.toNatClampNeg ∧ (z = 0 ∨ z = 1 ∨ z = 2 ∨ z = 4) ∧ D <+: vs ∧ D.length < vs.length
theorem own_Room.keep {Z : State} {h h' : Heap} {ar : Addr} {ws : List Addr} {D : List Int32} (O : own_Room Z h ar D) (K : Keep h h' ws) (q : ar ∉ ws) : own_Room Z h' ar D := by obtain ⟨k, z, vs, V, r⟩ := O; exact ⟨k, z, vs, V.keep K q, r⟩
theorem own_grow {D vs : List Int32} {z p : Int32} (hl : vs.length = z.toNatClampNeg) (hp : D <+: vs) (hz : z = 0 ∨ z = 1 ∨ z = 2 ∨ z = 4) (hD : D.length ≤ 3) (hpp : p = Int32.ofNat D.length) (hc : z < p + (1 : Int32)) : D.length = z.toNatClampNeg ∧ p = z ∧ (z = 0 ∨ z = 1 ∨ z = 2) := by
  have hle := hp.length_le
  have q := c_iadd p 1
  have z1 : (1 : Int32).toInt = 1 := rfl
  have r := rng32 (p + 1)
  have pv : p.toInt = D.length := by rw [hpp, own_on (by omega)]
  rw [own_lti] at hc
  have zz : z.toNatClampNeg = z.toInt.toNat := rfl
  have e : D.length = z.toNatClampNeg := by omega
  refine ⟨e, Int32.toInt_inj.mp ?_, ?_⟩
  · rcases hz with rfl | rfl | rfl | rfl <;> (have t0 : (0 : Int32).toInt = 0 := rfl; have t2 : (2 : Int32).toInt = 2 := rfl; have t4 : (4 : Int32).toInt = 4 := rfl; omega)
  · rcases hz with rfl | rfl | rfl | rfl
    · exact Or.inl rfl
    · exact Or.inr (Or.inl rfl)
    · exact Or.inr (Or.inr rfl)
    · have t4 : (4 : Int32).toInt = 4 := rfl
      omega
theorem own_nogrow {D vs : List Int32} {z p : Int32} (hl : vs.length = z.toNatClampNeg) (hD : D.length ≤ 3) (hpp : p = Int32.ofNat D.length) (hc : ¬ z < p + (1 : Int32)) : D.length < vs.length := by
  have q := c_iadd p 1
  have z1 : (1 : Int32).toInt = 1 := rfl
  have r := rng32 (p + 1)
  have pv : p.toInt = D.length := by rw [hpp, own_on (by omega)]
  rw [own_lti] at hc
  have zz : z.toNatClampNeg = z.toInt.toNat := rfl
  omega
theorem own_psle (f : Int32 → Int32) : ∀ (n : Nat) (i : Int32), (own_ps f i n).length ≤ n
  | 0, _ => Nat.le_refl _
  | n + 1, i => by
    have q := own_psle f n (i + 1)
    unfold own_ps; split
    · simp; exact q
    · exact Nat.le_succ_of_le q
theorem own_idx {i z : Nat} {w : Int32} (h : i < z) (hw : z = w.toNatClampNeg) (hi : i < 2147483648) : ¬ Int32.ofNat i < 0 ∧ Int32.ofNat i < w := by
  have z0 : (0 : Int32).toInt = 0 := rfl
  have zz : w.toNatClampNeg = w.toInt.toNat := rfl
  rw [own_lti, own_lti, own_on hi]; omega
theorem own_st (x : Int32) : 0 ≤ ((x &&& (7 : Int32)) % (5 : Int32)).toInt ∧ ((x &&& (7 : Int32)) % (5 : Int32)).toInt ≤ 4 := by
  have m := c_mask x 7 3 (by decide) (by decide)
  have q := (c_irem (x &&& 7) 5 5 rfl).1 (by rw [m]; omega)
  rw [q]; omega
theorem own_5st {st : Int32} (h : 0 ≤ st.toInt ∧ st.toInt ≤ 4) : ((5 : Int32) - st).toInt = 5 - st.toInt := by
  have q := c_isub 5 st
  have z : (5 : Int32).toInt = 5 := rfl
  have r := rng32 (5 - st)
  omega
theorem own_5ne {st : Int32} (h : 0 ≤ st.toInt ∧ st.toInt ≤ 4) : ¬ ((5 : Int32) - st) = (0 : Int32) := fun u => by
  have q := own_5st h
  rw [u] at q
  have z : (0 : Int32).toInt = 0 := rfl
  omega
theorem own_en {st : Int32} (x : Int32) (h : 0 ≤ st.toInt ∧ st.toInt ≤ 4) : own_se st (st + ((((x.toUInt32 >>> ((3 : Int32) &&& 31).toUInt32).toInt32) &&& (7 : Int32)) % ((5 : Int32) - st))) := by
  have m := c_mask ((x.toUInt32 >>> ((3 : Int32) &&& 31).toUInt32).toInt32) 7 3 (by decide) (by decide)
  have q5 := own_5st h
  have r := (c_iremV (((x.toUInt32 >>> ((3 : Int32) &&& 31).toUInt32).toInt32) &&& 7) (5 - st)).1 (by rw [m]; omega) (by rw [q5]; omega)
  have a := c_iadd st ((((x.toUInt32 >>> ((3 : Int32) &&& 31).toUInt32).toInt32) &&& 7) % (5 - st))
  have b := rng32 (st + ((((x.toUInt32 >>> ((3 : Int32) &&& 31).toUInt32).toInt32) &&& 7) % (5 - st)))
  refine ⟨h.1, ?_, ?_⟩ <;> omega
theorem own_nn {st en : Int32} (h : own_se st en) : ∃ nn : Nat, st.toInt + nn = en.toInt ∧ nn ≤ 4 := ⟨(en.toInt - st.toInt).toNat, by obtain ⟨h1, h2, h3⟩ := h; omega, by obtain ⟨h1, h2, h3⟩ := h; omega⟩
theorem own_lits {x : Int32} (h : 0 ≤ x.toInt ∧ x.toInt ≤ 4) : x = 0 ∨ x = 1 ∨ x = 2 ∨ x = 3 ∨ x = 4 := by
  have z : (0 : Int32).toInt = 0 := rfl
  have z1 : (1 : Int32).toInt = 1 := rfl
  have z2 : (2 : Int32).toInt = 2 := rfl
  have z3 : (3 : Int32).toInt = 3 := rfl
  have z4 : (4 : Int32).toInt = 4 := rfl
  simp only [← Int32.toInt_inj]
  omega
abbrev own_all (f : Int32 → Int32) (st en : Int32) (nn : Nat) : Prop := own_cnt f st en = own_cf f st nn ∧ own_cnt f st en = Int32.ofNat (own_ps f st nn).length ∧
    (0 < (own_ps f st nn).length → (own_ps f st nn).getD ((own_ps f st nn).length - 1) 0 = own_lst f st en ∧ (own_ps f st nn).getD 0 0 = own_fst f st en)
theorem own_bits (f : Int32 → Int32) (i : Int32) : f i = 124 ∨ ¬ f i = 124 := Classical.em _
set_option maxRecDepth 65536 in
set_option maxHeartbeats 40000000 in
theorem own_nums (f : Int32 → Int32) (st en : Int32) (nn : Nat) (h : own_se st en) (hn : st.toInt + nn = en.toInt) : own_all f st en nn := by
  have z : (0 : Int32).toInt = 0 := rfl
  have z1 : (1 : Int32).toInt = 1 := rfl
  have z2 : (2 : Int32).toInt = 2 := rfl
  have z3 : (3 : Int32).toInt = 3 := rfl
  have z4 : (4 : Int32).toInt = 4 := rfl
  have a1 : (0 : Int32) + 1 = 1 := rfl
  have a2 : (1 : Int32) + 1 = 2 := rfl
  have a3 : (2 : Int32) + 1 = 3 := rfl
  have a4 : (3 : Int32) + 1 = 4 := rfl
  obtain ⟨h1, h2, h3⟩ := h
  have hs := own_lits (x := st) ⟨h1, by omega⟩
  have he := own_lits (x := en) ⟨by omega, h3⟩
  have hn4 : nn = 0 ∨ nn = 1 ∨ nn = 2 ∨ nn = 3 ∨ nn = 4 := by omega
  rcases hs with rfl | rfl | rfl | rfl | rfl <;> rcases he with rfl | rfl | rfl | rfl | rfl <;> rcases hn4 with rfl | rfl | rfl | rfl | rfl <;> first
    | (exfalso; omega)
    | (rcases own_bits f 0 with b0 | b0 <;> rcases own_bits f 1 with b1 | b1 <;> rcases own_bits f 2 with b2 | b2 <;> rcases own_bits f 3 with b3 | b3 <;> simp [own_all, own_cnt, own_cf, own_ps, own_sb, own_lst, own_fst, b0, b1, b2, b3, a1, a2, a3, a4] <;> decide)
theorem own_tc (f : Int32 → Int32) (st en : Int32) : ¬ st < en ∨ (st < en ∧ f (en - (1 : Int32)) = 124) ∨ (st < en ∧ ¬ f (en - (1 : Int32)) = 124) := by
  by_cases h1 : st < en <;> by_cases h2 : f (en - (1 : Int32)) = 124 <;> simp [h1, h2]
theorem own_selp {Z : State} {a0 : Array Value} {C : String} {x y : MethodName} (hx : x.cls = y.cls) (ws : (Jvm.Cond.selects C x x).before a0 Z = true) (wp : (Jvm.Cond.privateMethod y).before a0 Z = true) (wi : (Jvm.Cond.instanceMethod y).before a0 Z = true) (hy : y.cls ≠ "java/lang/invoke/MethodHandle" ∧ y.cls ≠ "java/lang/invoke/VarHandle") : (Jvm.Cond.selects y.cls y y).before a0 Z = true := by
  obtain ⟨c2, r2, m2, -, -, q3, -, kP, hkP, hkPi⟩ := Cond.selects_spec ws
  exact selects_self_of_private (by rw [← hx]; exact findClass_of_methodNamed q3) hkP hkPi (Cond.privateMethod_at wp) wi hy
theorem d1_0 : decode method_3_code 0 = .ok (.iconst 4, 1) := by decide +kernel
theorem d1_1 : decode method_3_code 1 = .ok (.newarray .byte, 2) := by decide +kernel
theorem d1_3 : decode method_3_code 3 = .ok (.astore_n 1, 1) := by decide +kernel
theorem d1_4 : decode method_3_code 4 = .ok (.aload_n 1, 1) := by decide +kernel
theorem d1_5 : decode method_3_code 5 = .ok (.iconst 0, 1) := by decide +kernel
theorem d1_6 : decode method_3_code 6 = .ok (.iload_n 0, 1) := by decide +kernel
theorem d1_7 : decode method_3_code 7 = .ok (.invokestatic 7, 3) := by decide +kernel
theorem d1_10 : decode method_3_code 10 = .ok (.bastore, 1) := by decide +kernel
theorem d1_11 : decode method_3_code 11 = .ok (.aload_n 1, 1) := by decide +kernel
theorem d1_12 : decode method_3_code 12 = .ok (.iconst 1, 1) := by decide +kernel
theorem d1_13 : decode method_3_code 13 = .ok (.iload_n 0, 1) := by decide +kernel
theorem d1_14 : decode method_3_code 14 = .ok (.bipush 8, 2) := by decide +kernel
theorem d1_16 : decode method_3_code 16 = .ok (.ishr, 1) := by decide +kernel
theorem d1_17 : decode method_3_code 17 = .ok (.invokestatic 7, 3) := by decide +kernel
theorem d1_20 : decode method_3_code 20 = .ok (.bastore, 1) := by decide +kernel
theorem d1_21 : decode method_3_code 21 = .ok (.aload_n 1, 1) := by decide +kernel
theorem d1_22 : decode method_3_code 22 = .ok (.iconst 2, 1) := by decide +kernel
theorem d1_23 : decode method_3_code 23 = .ok (.iload_n 0, 1) := by decide +kernel
theorem d1_24 : decode method_3_code 24 = .ok (.bipush 16, 2) := by decide +kernel
theorem d1_26 : decode method_3_code 26 = .ok (.ishr, 1) := by decide +kernel
theorem d1_27 : decode method_3_code 27 = .ok (.invokestatic 7, 3) := by decide +kernel
theorem d1_30 : decode method_3_code 30 = .ok (.bastore, 1) := by decide +kernel
theorem d1_31 : decode method_3_code 31 = .ok (.aload_n 1, 1) := by decide +kernel
theorem d1_32 : decode method_3_code 32 = .ok (.iconst 3, 1) := by decide +kernel
theorem d1_33 : decode method_3_code 33 = .ok (.iload_n 0, 1) := by decide +kernel
theorem d1_34 : decode method_3_code 34 = .ok (.bipush 24, 2) := by decide +kernel
theorem d1_36 : decode method_3_code 36 = .ok (.ishr, 1) := by decide +kernel
theorem d1_37 : decode method_3_code 37 = .ok (.invokestatic 7, 3) := by decide +kernel
theorem d1_40 : decode method_3_code 40 = .ok (.bastore, 1) := by decide +kernel
theorem d1_41 : decode method_3_code 41 = .ok (.aload_n 1, 1) := by decide +kernel
theorem d1_42 : decode method_3_code 42 = .ok (.areturn, 1) := by decide +kernel
theorem d2_0 : decode method_2_code 0 = .ok (.iload_n 0, 1) := by decide +kernel
theorem d2_1 : decode method_2_code 1 = .ok (.iconst 1, 1) := by decide +kernel
theorem d2_2 : decode method_2_code 2 = .ok (.iand, 1) := by decide +kernel
theorem d2_3 : decode method_2_code 3 = .ok (.ifCond .eq 8, 3) := by decide +kernel
theorem d2_6 : decode method_2_code 6 = .ok (.bipush 124, 2) := by decide +kernel
theorem d2_8 : decode method_2_code 8 = .ok (.goto 7, 3) := by decide +kernel
theorem d2_11 : decode method_2_code 11 = .ok (.iload_n 0, 1) := by decide +kernel
theorem d2_12 : decode method_2_code 12 = .ok (.iconst 1, 1) := by decide +kernel
theorem d2_13 : decode method_2_code 13 = .ok (.ishr, 1) := by decide +kernel
theorem d2_14 : decode method_2_code 14 = .ok (.i2b, 1) := by decide +kernel
theorem d2_15 : decode method_2_code 15 = .ok (.ireturn, 1) := by decide +kernel
theorem d3_0 : decode prog_35_method_1_code 0 = .ok (.aload_n 0, 1) := by decide +kernel
theorem d3_1 : decode prog_35_method_1_code 1 = .ok (.invokespecial 1, 3) := by decide +kernel
theorem d3_4 : decode prog_35_method_1_code 4 = .ok (.aload_n 0, 1) := by decide +kernel
theorem d3_5 : decode prog_35_method_1_code 5 = .ok (.iconst 0, 1) := by decide +kernel
theorem d3_6 : decode prog_35_method_1_code 6 = .ok (.newarray .byte, 2) := by decide +kernel
theorem d3_8 : decode prog_35_method_1_code 8 = .ok (.putfield 7, 3) := by decide +kernel
theorem d3_11 : decode prog_35_method_1_code 11 = .ok (.aload_n 0, 1) := by decide +kernel
theorem d3_12 : decode prog_35_method_1_code 12 = .ok (.iconst 0, 1) := by decide +kernel
theorem d3_13 : decode prog_35_method_1_code 13 = .ok (.newarray .int, 2) := by decide +kernel
theorem d3_15 : decode prog_35_method_1_code 15 = .ok (.putfield 13, 3) := by decide +kernel
theorem d3_18 : decode prog_35_method_1_code 18 = .ok (.return_, 1) := by decide +kernel
theorem d5_0 : decode prog_35_method_2_code 0 = .ok (.aload_n 0, 1) := by decide +kernel
theorem d5_1 : decode prog_35_method_2_code 1 = .ok (.aload_n 1, 1) := by decide +kernel
theorem d5_2 : decode prog_35_method_2_code 2 = .ok (.putfield 7, 3) := by decide +kernel
theorem d5_5 : decode prog_35_method_2_code 5 = .ok (.aload_n 0, 1) := by decide +kernel
theorem d5_6 : decode prog_35_method_2_code 6 = .ok (.iload_n 2, 1) := by decide +kernel
theorem d5_7 : decode prog_35_method_2_code 7 = .ok (.putfield 17, 3) := by decide +kernel
theorem d5_10 : decode prog_35_method_2_code 10 = .ok (.aload_n 0, 1) := by decide +kernel
theorem d5_11 : decode prog_35_method_2_code 11 = .ok (.iload_n 3, 1) := by decide +kernel
theorem d5_12 : decode prog_35_method_2_code 12 = .ok (.putfield 21, 3) := by decide +kernel
theorem d5_15 : decode prog_35_method_2_code 15 = .ok (.aload_n 0, 1) := by decide +kernel
theorem d5_16 : decode prog_35_method_2_code 16 = .ok (.lload 4, 2) := by decide +kernel
theorem d5_18 : decode prog_35_method_2_code 18 = .ok (.putfield 24, 3) := by decide +kernel
theorem d5_21 : decode prog_35_method_2_code 21 = .ok (.aload_n 0, 1) := by decide +kernel
theorem d5_22 : decode prog_35_method_2_code 22 = .ok (.iconst (-1), 1) := by decide +kernel
theorem d5_23 : decode prog_35_method_2_code 23 = .ok (.putfield 28, 3) := by decide +kernel
theorem d5_26 : decode prog_35_method_2_code 26 = .ok (.aload_n 0, 1) := by decide +kernel
theorem d5_27 : decode prog_35_method_2_code 27 = .ok (.iconst 0, 1) := by decide +kernel
theorem d5_28 : decode prog_35_method_2_code 28 = .ok (.putfield 31, 3) := by decide +kernel
theorem d5_31 : decode prog_35_method_2_code 31 = .ok (.aload_n 0, 1) := by decide +kernel
theorem d5_32 : decode prog_35_method_2_code 32 = .ok (.iload_n 2, 1) := by decide +kernel
theorem d5_33 : decode prog_35_method_2_code 33 = .ok (.putfield 34, 3) := by decide +kernel
theorem d5_36 : decode prog_35_method_2_code 36 = .ok (.return_, 1) := by decide +kernel
theorem d6_0 : decode prog_35_method_5_code 0 = .ok (.aload_n 0, 1) := by decide +kernel
theorem d6_1 : decode prog_35_method_5_code 1 = .ok (.getfield 28, 3) := by decide +kernel
theorem d6_4 : decode prog_35_method_5_code 4 = .ok (.ifCond .ge 77, 3) := by decide +kernel
theorem d6_7 : decode prog_35_method_5_code 7 = .ok (.iconst 0, 1) := by decide +kernel
theorem d6_8 : decode prog_35_method_5_code 8 = .ok (.istore_n 1, 1) := by decide +kernel
theorem d6_9 : decode prog_35_method_5_code 9 = .ok (.aload_n 0, 1) := by decide +kernel
theorem d6_10 : decode prog_35_method_5_code 10 = .ok (.getfield 17, 3) := by decide +kernel
theorem d6_13 : decode prog_35_method_5_code 13 = .ok (.istore_n 2, 1) := by decide +kernel
theorem d6_14 : decode prog_35_method_5_code 14 = .ok (.iload_n 2, 1) := by decide +kernel
theorem d6_15 : decode prog_35_method_5_code 15 = .ok (.aload_n 0, 1) := by decide +kernel
theorem d6_16 : decode prog_35_method_5_code 16 = .ok (.getfield 21, 3) := by decide +kernel
theorem d6_19 : decode prog_35_method_5_code 19 = .ok (.bipush 8, 2) := by decide +kernel
theorem d6_21 : decode prog_35_method_5_code 21 = .ok (.isub, 1) := by decide +kernel
theorem d6_22 : decode prog_35_method_5_code 22 = .ok (.if_icmp .gt 26, 3) := by decide +kernel
theorem d6_48 : decode prog_35_method_5_code 48 = .ok (.iload_n 2, 1) := by decide +kernel
theorem d6_49 : decode prog_35_method_5_code 49 = .ok (.aload_n 0, 1) := by decide +kernel
theorem d6_50 : decode prog_35_method_5_code 50 = .ok (.getfield 21, 3) := by decide +kernel
theorem d6_53 : decode prog_35_method_5_code 53 = .ok (.if_icmp .ge 23, 3) := by decide +kernel
theorem d6_56 : decode prog_35_method_5_code 56 = .ok (.aload_n 0, 1) := by decide +kernel
theorem d6_57 : decode prog_35_method_5_code 57 = .ok (.getfield 7, 3) := by decide +kernel
theorem d6_60 : decode prog_35_method_5_code 60 = .ok (.iload_n 2, 1) := by decide +kernel
theorem d6_61 : decode prog_35_method_5_code 61 = .ok (.baload, 1) := by decide +kernel
theorem d6_62 : decode prog_35_method_5_code 62 = .ok (.bipush 124, 2) := by decide +kernel
theorem d6_64 : decode prog_35_method_5_code 64 = .ok (.if_icmp .ne 6, 3) := by decide +kernel
theorem d6_67 : decode prog_35_method_5_code 67 = .ok (.iinc 1 1, 3) := by decide +kernel
theorem d6_70 : decode prog_35_method_5_code 70 = .ok (.iinc 2 1, 3) := by decide +kernel
theorem d6_73 : decode prog_35_method_5_code 73 = .ok (.goto (-25), 3) := by decide +kernel
theorem d6_76 : decode prog_35_method_5_code 76 = .ok (.aload_n 0, 1) := by decide +kernel
theorem d6_77 : decode prog_35_method_5_code 77 = .ok (.iload_n 1, 1) := by decide +kernel
theorem d6_78 : decode prog_35_method_5_code 78 = .ok (.putfield 28, 3) := by decide +kernel
theorem d6_81 : decode prog_35_method_5_code 81 = .ok (.aload_n 0, 1) := by decide +kernel
theorem d6_82 : decode prog_35_method_5_code 82 = .ok (.getfield 28, 3) := by decide +kernel
theorem d6_85 : decode prog_35_method_5_code 85 = .ok (.ireturn, 1) := by decide +kernel
theorem d7_0 : decode method_5_code 0 = .ok (.aload_n 0, 1) := by decide +kernel
theorem d7_1 : decode method_5_code 1 = .ok (.iconst 0, 1) := by decide +kernel
theorem d7_2 : decode method_5_code 2 = .ok (.iload_n 1, 1) := by decide +kernel
theorem d7_3 : decode method_5_code 3 = .ok (.iload_n 2, 1) := by decide +kernel
theorem d7_4 : decode method_5_code 4 = .ok (.invokestatic 13, 3) := by decide +kernel
theorem d7_7 : decode method_5_code 7 = .ok (.aload_n 0, 1) := by decide +kernel
theorem d7_8 : decode method_5_code 8 = .ok (.iconst 1, 1) := by decide +kernel
theorem d7_9 : decode method_5_code 9 = .ok (.iload_n 1, 1) := by decide +kernel
theorem d7_10 : decode method_5_code 10 = .ok (.iload_n 2, 1) := by decide +kernel
theorem d7_11 : decode method_5_code 11 = .ok (.invokestatic 13, 3) := by decide +kernel
theorem d7_14 : decode method_5_code 14 = .ok (.iadd, 1) := by decide +kernel
theorem d7_15 : decode method_5_code 15 = .ok (.aload_n 0, 1) := by decide +kernel
theorem d7_16 : decode method_5_code 16 = .ok (.iconst 2, 1) := by decide +kernel
theorem d7_17 : decode method_5_code 17 = .ok (.iload_n 1, 1) := by decide +kernel
theorem d7_18 : decode method_5_code 18 = .ok (.iload_n 2, 1) := by decide +kernel
theorem d7_19 : decode method_5_code 19 = .ok (.invokestatic 13, 3) := by decide +kernel
theorem d7_22 : decode method_5_code 22 = .ok (.iadd, 1) := by decide +kernel
theorem d7_23 : decode method_5_code 23 = .ok (.aload_n 0, 1) := by decide +kernel
theorem d7_24 : decode method_5_code 24 = .ok (.iconst 3, 1) := by decide +kernel
theorem d7_25 : decode method_5_code 25 = .ok (.iload_n 1, 1) := by decide +kernel
theorem d7_26 : decode method_5_code 26 = .ok (.iload_n 2, 1) := by decide +kernel
theorem d7_27 : decode method_5_code 27 = .ok (.invokestatic 13, 3) := by decide +kernel
theorem d7_30 : decode method_5_code 30 = .ok (.iadd, 1) := by decide +kernel
theorem d7_31 : decode method_5_code 31 = .ok (.ireturn, 1) := by decide +kernel
theorem d8_0 : decode method_4_code 0 = .ok (.iload_n 1, 1) := by decide +kernel
theorem d8_1 : decode method_4_code 1 = .ok (.iload_n 2, 1) := by decide +kernel
theorem d8_2 : decode method_4_code 2 = .ok (.if_icmp .lt 20, 3) := by decide +kernel
theorem d8_5 : decode method_4_code 5 = .ok (.iload_n 1, 1) := by decide +kernel
theorem d8_6 : decode method_4_code 6 = .ok (.iload_n 3, 1) := by decide +kernel
theorem d8_7 : decode method_4_code 7 = .ok (.if_icmp .ge 15, 3) := by decide +kernel
theorem d8_10 : decode method_4_code 10 = .ok (.aload_n 0, 1) := by decide +kernel
theorem d8_11 : decode method_4_code 11 = .ok (.iload_n 1, 1) := by decide +kernel
theorem d8_12 : decode method_4_code 12 = .ok (.baload, 1) := by decide +kernel
theorem d8_13 : decode method_4_code 13 = .ok (.bipush 124, 2) := by decide +kernel
theorem d8_15 : decode method_4_code 15 = .ok (.if_icmp .ne 7, 3) := by decide +kernel
theorem d8_18 : decode method_4_code 18 = .ok (.iconst 1, 1) := by decide +kernel
theorem d8_19 : decode method_4_code 19 = .ok (.goto 4, 3) := by decide +kernel
theorem d8_22 : decode method_4_code 22 = .ok (.iconst 0, 1) := by decide +kernel
theorem d8_23 : decode method_4_code 23 = .ok (.ireturn, 1) := by decide +kernel
theorem d9_0 : decode prog_35_method_3_code 0 = .ok (.aload_n 0, 1) := by decide +kernel
theorem d9_1 : decode prog_35_method_3_code 1 = .ok (.getfield 24, 3) := by decide +kernel
theorem d9_4 : decode prog_35_method_3_code 4 = .ok (.lreturn, 1) := by decide +kernel
theorem d10_0 : decode prog_35_method_18_code 0 = .ok (.aload_n 0, 1) := by decide +kernel
theorem d10_1 : decode prog_35_method_18_code 1 = .ok (.getfield 21, 3) := by decide +kernel
theorem d10_4 : decode prog_35_method_18_code 4 = .ok (.aload_n 0, 1) := by decide +kernel
theorem d10_5 : decode prog_35_method_18_code 5 = .ok (.getfield 17, 3) := by decide +kernel
theorem d10_8 : decode prog_35_method_18_code 8 = .ok (.isub, 1) := by decide +kernel
theorem d10_9 : decode prog_35_method_18_code 9 = .ok (.ireturn, 1) := by decide +kernel
theorem d11_0 : decode prog_35_method_4_code 0 = .ok (.aload_n 0, 1) := by decide +kernel
theorem d11_1 : decode prog_35_method_4_code 1 = .ok (.getfield 21, 3) := by decide +kernel
theorem d11_4 : decode prog_35_method_4_code 4 = .ok (.aload_n 0, 1) := by decide +kernel
theorem d11_5 : decode prog_35_method_4_code 5 = .ok (.getfield 17, 3) := by decide +kernel
theorem d11_8 : decode prog_35_method_4_code 8 = .ok (.if_icmp .le 23, 3) := by decide +kernel
theorem d11_11 : decode prog_35_method_4_code 11 = .ok (.aload_n 0, 1) := by decide +kernel
theorem d11_12 : decode prog_35_method_4_code 12 = .ok (.getfield 7, 3) := by decide +kernel
theorem d11_15 : decode prog_35_method_4_code 15 = .ok (.aload_n 0, 1) := by decide +kernel
theorem d11_16 : decode prog_35_method_4_code 16 = .ok (.getfield 21, 3) := by decide +kernel
theorem d11_19 : decode prog_35_method_4_code 19 = .ok (.iconst 1, 1) := by decide +kernel
theorem d11_20 : decode prog_35_method_4_code 20 = .ok (.isub, 1) := by decide +kernel
theorem d11_21 : decode prog_35_method_4_code 21 = .ok (.baload, 1) := by decide +kernel
theorem d11_22 : decode prog_35_method_4_code 22 = .ok (.bipush 124, 2) := by decide +kernel
theorem d11_24 : decode prog_35_method_4_code 24 = .ok (.if_icmp .ne 7, 3) := by decide +kernel
theorem d11_27 : decode prog_35_method_4_code 27 = .ok (.iconst 1, 1) := by decide +kernel
theorem d11_28 : decode prog_35_method_4_code 28 = .ok (.goto 4, 3) := by decide +kernel
theorem d11_31 : decode prog_35_method_4_code 31 = .ok (.iconst 0, 1) := by decide +kernel
theorem d11_32 : decode prog_35_method_4_code 32 = .ok (.ireturn, 1) := by decide +kernel
theorem d12_0 : decode prog_35_method_8_code 0 = .ok (.aload_n 0, 1) := by decide +kernel
theorem d12_1 : decode prog_35_method_8_code 1 = .ok (.iload_n 1, 1) := by decide +kernel
theorem d12_2 : decode prog_35_method_8_code 2 = .ok (.invokevirtual 52, 3) := by decide +kernel
theorem d12_5 : decode prog_35_method_8_code 5 = .ok (.ireturn, 1) := by decide +kernel
theorem d13_0 : decode prog_35_method_27_code 0 = .ok (.iload_n 1, 1) := by decide +kernel
theorem d13_1 : decode prog_35_method_27_code 1 = .ok (.aload_n 0, 1) := by decide +kernel
theorem d13_2 : decode prog_35_method_27_code 2 = .ok (.getfield 31, 3) := by decide +kernel
theorem d13_5 : decode prog_35_method_27_code 5 = .ok (.if_icmp .lt 34, 3) := by decide +kernel
theorem d13_8 : decode prog_35_method_27_code 8 = .ok (.aload_n 0, 1) := by decide +kernel
theorem d13_9 : decode prog_35_method_27_code 9 = .ok (.iload_n 1, 1) := by decide +kernel
theorem d13_10 : decode prog_35_method_27_code 10 = .ok (.invokevirtual 148, 3) := by decide +kernel
theorem d13_13 : decode prog_35_method_27_code 13 = .ok (.iload_n 1, 1) := by decide +kernel
theorem d13_14 : decode prog_35_method_27_code 14 = .ok (.aload_n 0, 1) := by decide +kernel
theorem d13_15 : decode prog_35_method_27_code 15 = .ok (.getfield 31, 3) := by decide +kernel
theorem d13_18 : decode prog_35_method_27_code 18 = .ok (.if_icmp .lt 21, 3) := by decide +kernel
theorem d13_39 : decode prog_35_method_27_code 39 = .ok (.aload_n 0, 1) := by decide +kernel
theorem d13_40 : decode prog_35_method_27_code 40 = .ok (.getfield 13, 3) := by decide +kernel
theorem d13_43 : decode prog_35_method_27_code 43 = .ok (.iload_n 1, 1) := by decide +kernel
theorem d13_44 : decode prog_35_method_27_code 44 = .ok (.iaload, 1) := by decide +kernel
theorem d13_45 : decode prog_35_method_27_code 45 = .ok (.ireturn, 1) := by decide +kernel
theorem d14_0 : decode prog_35_method_28_code 0 = .ok (.aload_n 0, 1) := by decide +kernel
theorem d14_1 : decode prog_35_method_28_code 1 = .ok (.getfield 7, 3) := by decide +kernel
theorem d14_4 : decode prog_35_method_28_code 4 = .ok (.astore_n 2, 1) := by decide +kernel
theorem d14_5 : decode prog_35_method_28_code 5 = .ok (.aload_n 0, 1) := by decide +kernel
theorem d14_6 : decode prog_35_method_28_code 6 = .ok (.getfield 13, 3) := by decide +kernel
theorem d14_9 : decode prog_35_method_28_code 9 = .ok (.astore_n 3, 1) := by decide +kernel
theorem d14_10 : decode prog_35_method_28_code 10 = .ok (.aload_n 0, 1) := by decide +kernel
theorem d14_11 : decode prog_35_method_28_code 11 = .ok (.getfield 31, 3) := by decide +kernel
theorem d14_14 : decode prog_35_method_28_code 14 = .ok (.istore 4, 2) := by decide +kernel
theorem d14_16 : decode prog_35_method_28_code 16 = .ok (.aload_n 0, 1) := by decide +kernel
theorem d14_17 : decode prog_35_method_28_code 17 = .ok (.getfield 34, 3) := by decide +kernel
theorem d14_20 : decode prog_35_method_28_code 20 = .ok (.istore 5, 2) := by decide +kernel
theorem d14_22 : decode prog_35_method_28_code 22 = .ok (.iload 4, 2) := by decide +kernel
theorem d14_24 : decode prog_35_method_28_code 24 = .ok (.iload_n 1, 1) := by decide +kernel
theorem d14_25 : decode prog_35_method_28_code 25 = .ok (.if_icmp .gt 125, 3) := by decide +kernel
theorem d14_28 : decode prog_35_method_28_code 28 = .ok (.iload 5, 2) := by decide +kernel
theorem d14_30 : decode prog_35_method_28_code 30 = .ok (.aload_n 0, 1) := by decide +kernel
theorem d14_31 : decode prog_35_method_28_code 31 = .ok (.getfield 21, 3) := by decide +kernel
theorem d14_34 : decode prog_35_method_28_code 34 = .ok (.if_icmp .ge 116, 3) := by decide +kernel
theorem d14_37 : decode prog_35_method_28_code 37 = .ok (.iload 5, 2) := by decide +kernel
theorem d14_39 : decode prog_35_method_28_code 39 = .ok (.aload_n 0, 1) := by decide +kernel
theorem d14_40 : decode prog_35_method_28_code 40 = .ok (.getfield 21, 3) := by decide +kernel
theorem d14_43 : decode prog_35_method_28_code 43 = .ok (.bipush 8, 2) := by decide +kernel
theorem d14_45 : decode prog_35_method_28_code 45 = .ok (.isub, 1) := by decide +kernel
theorem d14_46 : decode prog_35_method_28_code 46 = .ok (.if_icmp .gt 71, 3) := by decide +kernel
theorem d14_117 : decode prog_35_method_28_code 117 = .ok (.aload_n 2, 1) := by decide +kernel
theorem d14_118 : decode prog_35_method_28_code 118 = .ok (.iload 5, 2) := by decide +kernel
theorem d14_120 : decode prog_35_method_28_code 120 = .ok (.baload, 1) := by decide +kernel
theorem d14_121 : decode prog_35_method_28_code 121 = .ok (.bipush 124, 2) := by decide +kernel
theorem d14_123 : decode prog_35_method_28_code 123 = .ok (.if_icmp .ne 21, 3) := by decide +kernel
theorem d14_126 : decode prog_35_method_28_code 126 = .ok (.aload_n 0, 1) := by decide +kernel
theorem d14_127 : decode prog_35_method_28_code 127 = .ok (.aload_n 3, 1) := by decide +kernel
theorem d14_128 : decode prog_35_method_28_code 128 = .ok (.iload 4, 2) := by decide +kernel
theorem d14_130 : decode prog_35_method_28_code 130 = .ok (.iconst 1, 1) := by decide +kernel
theorem d14_131 : decode prog_35_method_28_code 131 = .ok (.invokevirtual 164, 3) := by decide +kernel
theorem d14_134 : decode prog_35_method_28_code 134 = .ok (.astore_n 3, 1) := by decide +kernel
theorem d14_135 : decode prog_35_method_28_code 135 = .ok (.aload_n 3, 1) := by decide +kernel
theorem d14_136 : decode prog_35_method_28_code 136 = .ok (.iload 4, 2) := by decide +kernel
theorem d14_138 : decode prog_35_method_28_code 138 = .ok (.iinc 4 1, 3) := by decide +kernel
theorem d14_141 : decode prog_35_method_28_code 141 = .ok (.iload 5, 2) := by decide +kernel
theorem d14_143 : decode prog_35_method_28_code 143 = .ok (.iastore, 1) := by decide +kernel
theorem d14_144 : decode prog_35_method_28_code 144 = .ok (.iinc 5 1, 3) := by decide +kernel
theorem d14_147 : decode prog_35_method_28_code 147 = .ok (.goto (-125), 3) := by decide +kernel
theorem d14_150 : decode prog_35_method_28_code 150 = .ok (.aload_n 0, 1) := by decide +kernel
theorem d14_151 : decode prog_35_method_28_code 151 = .ok (.iload 4, 2) := by decide +kernel
theorem d14_153 : decode prog_35_method_28_code 153 = .ok (.putfield 31, 3) := by decide +kernel
theorem d14_156 : decode prog_35_method_28_code 156 = .ok (.aload_n 0, 1) := by decide +kernel
theorem d14_157 : decode prog_35_method_28_code 157 = .ok (.iload 5, 2) := by decide +kernel
theorem d14_159 : decode prog_35_method_28_code 159 = .ok (.putfield 34, 3) := by decide +kernel
theorem d14_162 : decode prog_35_method_28_code 162 = .ok (.return_, 1) := by decide +kernel
theorem d15_0 : decode prog_35_method_29_code 0 = .ok (.iload_n 2, 1) := by decide +kernel
theorem d15_1 : decode prog_35_method_29_code 1 = .ok (.iload_n 3, 1) := by decide +kernel
theorem d15_2 : decode prog_35_method_29_code 2 = .ok (.iadd, 1) := by decide +kernel
theorem d15_3 : decode prog_35_method_29_code 3 = .ok (.aload_n 1, 1) := by decide +kernel
theorem d15_4 : decode prog_35_method_29_code 4 = .ok (.arraylength, 1) := by decide +kernel
theorem d15_5 : decode prog_35_method_29_code 5 = .ok (.if_icmp .gt 5, 3) := by decide +kernel
theorem d15_8 : decode prog_35_method_29_code 8 = .ok (.aload_n 1, 1) := by decide +kernel
theorem d15_9 : decode prog_35_method_29_code 9 = .ok (.areturn, 1) := by decide +kernel
theorem d15_10 : decode prog_35_method_29_code 10 = .ok (.aload_n 0, 1) := by decide +kernel
theorem d15_11 : decode prog_35_method_29_code 11 = .ok (.aload_n 1, 1) := by decide +kernel
theorem d15_12 : decode prog_35_method_29_code 12 = .ok (.iload_n 2, 1) := by decide +kernel
theorem d15_13 : decode prog_35_method_29_code 13 = .ok (.iload_n 3, 1) := by decide +kernel
theorem d15_14 : decode prog_35_method_29_code 14 = .ok (.iadd, 1) := by decide +kernel
theorem d15_15 : decode prog_35_method_29_code 15 = .ok (.iconst 2, 1) := by decide +kernel
theorem d15_16 : decode prog_35_method_29_code 16 = .ok (.aload_n 1, 1) := by decide +kernel
theorem d15_17 : decode prog_35_method_29_code 17 = .ok (.arraylength, 1) := by decide +kernel
theorem d15_18 : decode prog_35_method_29_code 18 = .ok (.imul, 1) := by decide +kernel
theorem d15_19 : decode prog_35_method_29_code 19 = .ok (.invokestatic 171, 3) := by decide +kernel
theorem d15_22 : decode prog_35_method_29_code 22 = .ok (.invokestatic 177, 3) := by decide +kernel
theorem d15_25 : decode prog_35_method_29_code 25 = .ok (.putfield 13, 3) := by decide +kernel
theorem d15_28 : decode prog_35_method_29_code 28 = .ok (.aload_n 0, 1) := by decide +kernel
theorem d15_29 : decode prog_35_method_29_code 29 = .ok (.getfield 13, 3) := by decide +kernel
theorem d15_32 : decode prog_35_method_29_code 32 = .ok (.areturn, 1) := by decide +kernel
theorem d16_0 : decode jdk_29_method_65_code 0 = .ok (.iload_n 0, 1) := by decide +kernel
theorem d16_1 : decode jdk_29_method_65_code 1 = .ok (.iload_n 1, 1) := by decide +kernel
theorem d16_2 : decode jdk_29_method_65_code 2 = .ok (.if_icmp .lt 7, 3) := by decide +kernel
theorem d16_5 : decode jdk_29_method_65_code 5 = .ok (.iload_n 0, 1) := by decide +kernel
theorem d16_6 : decode jdk_29_method_65_code 6 = .ok (.goto 4, 3) := by decide +kernel
theorem d16_9 : decode jdk_29_method_65_code 9 = .ok (.iload_n 1, 1) := by decide +kernel
theorem d16_10 : decode jdk_29_method_65_code 10 = .ok (.ireturn, 1) := by decide +kernel
theorem d17_0 : decode jdk_65_method_123_code 0 = .ok (.iload_n 1, 1) := by decide +kernel
theorem d17_1 : decode jdk_65_method_123_code 1 = .ok (.aload_n 0, 1) := by decide +kernel
theorem d17_2 : decode jdk_65_method_123_code 2 = .ok (.arraylength, 1) := by decide +kernel
theorem d17_3 : decode jdk_65_method_123_code 3 = .ok (.if_icmp .ne 11, 3) := by decide +kernel
theorem d17_14 : decode jdk_65_method_123_code 14 = .ok (.iload_n 1, 1) := by decide +kernel
theorem d17_15 : decode jdk_65_method_123_code 15 = .ok (.newarray .int, 2) := by decide +kernel
theorem d17_17 : decode jdk_65_method_123_code 17 = .ok (.astore_n 2, 1) := by decide +kernel
theorem d17_18 : decode jdk_65_method_123_code 18 = .ok (.aload_n 0, 1) := by decide +kernel
theorem d17_19 : decode jdk_65_method_123_code 19 = .ok (.iconst 0, 1) := by decide +kernel
theorem d17_20 : decode jdk_65_method_123_code 20 = .ok (.aload_n 2, 1) := by decide +kernel
theorem d17_21 : decode jdk_65_method_123_code 21 = .ok (.iconst 0, 1) := by decide +kernel
theorem d17_22 : decode jdk_65_method_123_code 22 = .ok (.aload_n 0, 1) := by decide +kernel
theorem d17_23 : decode jdk_65_method_123_code 23 = .ok (.arraylength, 1) := by decide +kernel
theorem d17_24 : decode jdk_65_method_123_code 24 = .ok (.iload_n 1, 1) := by decide +kernel
theorem d17_25 : decode jdk_65_method_123_code 25 = .ok (.invokestatic 304, 3) := by decide +kernel
theorem d17_28 : decode jdk_65_method_123_code 28 = .ok (.invokestatic 150, 3) := by decide +kernel
theorem d17_31 : decode jdk_65_method_123_code 31 = .ok (.aload_n 2, 1) := by decide +kernel
theorem d17_32 : decode jdk_65_method_123_code 32 = .ok (.areturn, 1) := by decide +kernel
theorem d18_0 : decode jdk_29_method_69_code 0 = .ok (.iload_n 0, 1) := by decide +kernel
theorem d18_1 : decode jdk_29_method_69_code 1 = .ok (.iload_n 1, 1) := by decide +kernel
theorem d18_2 : decode jdk_29_method_69_code 2 = .ok (.if_icmp .gt 7, 3) := by decide +kernel
theorem d18_5 : decode jdk_29_method_69_code 5 = .ok (.iload_n 0, 1) := by decide +kernel
theorem d18_6 : decode jdk_29_method_69_code 6 = .ok (.goto 4, 3) := by decide +kernel
theorem d18_9 : decode jdk_29_method_69_code 9 = .ok (.iload_n 1, 1) := by decide +kernel
theorem d18_10 : decode jdk_29_method_69_code 10 = .ok (.ireturn, 1) := by decide +kernel
theorem d19_0 : decode method_6_code 0 = .ok (.aload_n 0, 1) := by decide +kernel
theorem d19_1 : decode method_6_code 1 = .ok (.iconst 0, 1) := by decide +kernel
theorem d19_2 : decode method_6_code 2 = .ok (.iload_n 1, 1) := by decide +kernel
theorem d19_3 : decode method_6_code 3 = .ok (.iload_n 2, 1) := by decide +kernel
theorem d19_4 : decode method_6_code 4 = .ok (.invokestatic 13, 3) := by decide +kernel
theorem d19_7 : decode method_6_code 7 = .ok (.iconst 1, 1) := by decide +kernel
theorem d19_8 : decode method_6_code 8 = .ok (.if_icmp .ne 5, 3) := by decide +kernel
theorem d19_11 : decode method_6_code 11 = .ok (.iconst 0, 1) := by decide +kernel
theorem d19_12 : decode method_6_code 12 = .ok (.ireturn, 1) := by decide +kernel
theorem d19_13 : decode method_6_code 13 = .ok (.aload_n 0, 1) := by decide +kernel
theorem d19_14 : decode method_6_code 14 = .ok (.iconst 1, 1) := by decide +kernel
theorem d19_15 : decode method_6_code 15 = .ok (.iload_n 1, 1) := by decide +kernel
theorem d19_16 : decode method_6_code 16 = .ok (.iload_n 2, 1) := by decide +kernel
theorem d19_17 : decode method_6_code 17 = .ok (.invokestatic 13, 3) := by decide +kernel
theorem d19_20 : decode method_6_code 20 = .ok (.iconst 1, 1) := by decide +kernel
theorem d19_21 : decode method_6_code 21 = .ok (.if_icmp .ne 5, 3) := by decide +kernel
theorem d19_24 : decode method_6_code 24 = .ok (.iconst 1, 1) := by decide +kernel
theorem d19_25 : decode method_6_code 25 = .ok (.ireturn, 1) := by decide +kernel
theorem d19_26 : decode method_6_code 26 = .ok (.aload_n 0, 1) := by decide +kernel
theorem d19_27 : decode method_6_code 27 = .ok (.iconst 2, 1) := by decide +kernel
theorem d19_28 : decode method_6_code 28 = .ok (.iload_n 1, 1) := by decide +kernel
theorem d19_29 : decode method_6_code 29 = .ok (.iload_n 2, 1) := by decide +kernel
theorem d19_30 : decode method_6_code 30 = .ok (.invokestatic 13, 3) := by decide +kernel
theorem d19_33 : decode method_6_code 33 = .ok (.iconst 1, 1) := by decide +kernel
theorem d19_34 : decode method_6_code 34 = .ok (.if_icmp .ne 5, 3) := by decide +kernel
theorem d19_37 : decode method_6_code 37 = .ok (.iconst 2, 1) := by decide +kernel
theorem d19_38 : decode method_6_code 38 = .ok (.ireturn, 1) := by decide +kernel
theorem d19_39 : decode method_6_code 39 = .ok (.aload_n 0, 1) := by decide +kernel
theorem d19_40 : decode method_6_code 40 = .ok (.iconst 3, 1) := by decide +kernel
theorem d19_41 : decode method_6_code 41 = .ok (.iload_n 1, 1) := by decide +kernel
theorem d19_42 : decode method_6_code 42 = .ok (.iload_n 2, 1) := by decide +kernel
theorem d19_43 : decode method_6_code 43 = .ok (.invokestatic 13, 3) := by decide +kernel
theorem d19_46 : decode method_6_code 46 = .ok (.iconst 1, 1) := by decide +kernel
theorem d19_47 : decode method_6_code 47 = .ok (.if_icmp .ne 5, 3) := by decide +kernel
theorem d19_50 : decode method_6_code 50 = .ok (.iconst 3, 1) := by decide +kernel
theorem d19_51 : decode method_6_code 51 = .ok (.ireturn, 1) := by decide +kernel
theorem d19_52 : decode method_6_code 52 = .ok (.iconst (-1), 1) := by decide +kernel
theorem d19_53 : decode method_6_code 53 = .ok (.ireturn, 1) := by decide +kernel
theorem d20_0 : decode method_7_code 0 = .ok (.aload_n 0, 1) := by decide +kernel
theorem d20_1 : decode method_7_code 1 = .ok (.iconst 3, 1) := by decide +kernel
theorem d20_2 : decode method_7_code 2 = .ok (.iload_n 1, 1) := by decide +kernel
theorem d20_3 : decode method_7_code 3 = .ok (.iload_n 2, 1) := by decide +kernel
theorem d20_4 : decode method_7_code 4 = .ok (.invokestatic 13, 3) := by decide +kernel
theorem d20_7 : decode method_7_code 7 = .ok (.iconst 1, 1) := by decide +kernel
theorem d20_8 : decode method_7_code 8 = .ok (.if_icmp .ne 5, 3) := by decide +kernel
theorem d20_11 : decode method_7_code 11 = .ok (.iconst 3, 1) := by decide +kernel
theorem d20_12 : decode method_7_code 12 = .ok (.ireturn, 1) := by decide +kernel
theorem d20_13 : decode method_7_code 13 = .ok (.aload_n 0, 1) := by decide +kernel
theorem d20_14 : decode method_7_code 14 = .ok (.iconst 2, 1) := by decide +kernel
theorem d20_15 : decode method_7_code 15 = .ok (.iload_n 1, 1) := by decide +kernel
theorem d20_16 : decode method_7_code 16 = .ok (.iload_n 2, 1) := by decide +kernel
theorem d20_17 : decode method_7_code 17 = .ok (.invokestatic 13, 3) := by decide +kernel
theorem d20_20 : decode method_7_code 20 = .ok (.iconst 1, 1) := by decide +kernel
theorem d20_21 : decode method_7_code 21 = .ok (.if_icmp .ne 5, 3) := by decide +kernel
theorem d20_24 : decode method_7_code 24 = .ok (.iconst 2, 1) := by decide +kernel
theorem d20_25 : decode method_7_code 25 = .ok (.ireturn, 1) := by decide +kernel
theorem d20_26 : decode method_7_code 26 = .ok (.aload_n 0, 1) := by decide +kernel
theorem d20_27 : decode method_7_code 27 = .ok (.iconst 1, 1) := by decide +kernel
theorem d20_28 : decode method_7_code 28 = .ok (.iload_n 1, 1) := by decide +kernel
theorem d20_29 : decode method_7_code 29 = .ok (.iload_n 2, 1) := by decide +kernel
theorem d20_30 : decode method_7_code 30 = .ok (.invokestatic 13, 3) := by decide +kernel
theorem d20_33 : decode method_7_code 33 = .ok (.iconst 1, 1) := by decide +kernel
theorem d20_34 : decode method_7_code 34 = .ok (.if_icmp .ne 5, 3) := by decide +kernel
theorem d20_37 : decode method_7_code 37 = .ok (.iconst 1, 1) := by decide +kernel
theorem d20_38 : decode method_7_code 38 = .ok (.ireturn, 1) := by decide +kernel
theorem d20_39 : decode method_7_code 39 = .ok (.aload_n 0, 1) := by decide +kernel
theorem d20_40 : decode method_7_code 40 = .ok (.iconst 0, 1) := by decide +kernel
theorem d20_41 : decode method_7_code 41 = .ok (.iload_n 1, 1) := by decide +kernel
theorem d20_42 : decode method_7_code 42 = .ok (.iload_n 2, 1) := by decide +kernel
theorem d20_43 : decode method_7_code 43 = .ok (.invokestatic 13, 3) := by decide +kernel
theorem d20_46 : decode method_7_code 46 = .ok (.iconst 1, 1) := by decide +kernel
theorem d20_47 : decode method_7_code 47 = .ok (.if_icmp .ne 5, 3) := by decide +kernel
theorem d20_50 : decode method_7_code 50 = .ok (.iconst 0, 1) := by decide +kernel
theorem d20_51 : decode method_7_code 51 = .ok (.ireturn, 1) := by decide +kernel
theorem d20_52 : decode method_7_code 52 = .ok (.iconst (-1), 1) := by decide +kernel
theorem d20_53 : decode method_7_code 53 = .ok (.ireturn, 1) := by decide +kernel
theorem pd_0 : parseMethodDescriptor "(I)B" = some ⟨[.int], some .byte⟩ := by decide +kernel
theorem pd_1 : parseMethodDescriptor "([BIII)I" = some ⟨[(.array .byte), .int, .int, .int], some .int⟩ := by decide +kernel
theorem pd_2 : parseMethodDescriptor "(II)I" = some ⟨[.int, .int], some .int⟩ := by decide +kernel
theorem pd_3 : parseMethodDescriptor "([II)[I" = some ⟨[(.array .int), .int], some (.array .int)⟩ := by decide +kernel
theorem pd_4 : parseMethodDescriptor "([III)[I" = some ⟨[(.array .int), .int, .int], some (.array .int)⟩ := by decide +kernel
theorem pd_5 : parseMethodDescriptor "(I)V" = some ⟨[.int], none⟩ := by decide +kernel
theorem pd_6 : parseMethodDescriptor "(I)I" = some ⟨[.int], some .int⟩ := by decide +kernel
theorem pd_7 : parseMethodDescriptor "([BIIJ)V" = some ⟨[(.array .byte), .int, .int, .long], none⟩ := by decide +kernel
theorem pd_8 : parseMethodDescriptor "([BII)I" = some ⟨[(.array .byte), .int, .int], some .int⟩ := by decide +kernel
theorem pd_9 : parseMethodDescriptor "()J" = some ⟨[], some .long⟩ := by decide +kernel
theorem pd_10 : parseMethodDescriptor "()I" = some ⟨[], some .int⟩ := by decide +kernel
theorem pd_11 : parseMethodDescriptor "()Z" = some ⟨[], some .boolean⟩ := by decide +kernel
theorem pd_12 : parseMethodDescriptor "()V" = some ⟨[], none⟩ := by decide +kernel
theorem pd_13 : parseMethodDescriptor "(I)[B" = some ⟨[.int], some (.array .byte)⟩ := by decide +kernel
theorem pn_0 : plainName "com/example/concept_ledger/conceptledger/model/RowViewSetPinLaw" = true := by first | (simp [plainName, overriddenIn]; done) | decide +kernel
theorem pn_1 : plainName "com/example/concept_ledger/conceptledger/model/RowView" = true := by first | (simp [plainName, overriddenIn]; done) | decide +kernel
theorem pn_2 : plainName "java/util/Arrays" = true := by first | (simp [plainName, overriddenIn]; done) | decide +kernel
theorem ef_2 (m : MethodId) (x0 : Int32) : entryFrame m #[(.int x0)] 1 = mkF m 0 #[.val (.int x0)] [] := by first | (simp [entryFrame, mkF, argsToLocals, Value.category]; done) | rfl
def Q2 (Z : State) (p1 : Int32) (r : Int32) (h0 : Heap) (n0 : Nat) (v : Option Value) (h : Heap) (L : List Loc) : Prop := v = some (.int r) ∧ Fr n0 L ∧ h = h0
set_option maxRecDepth 65536 in
set_option maxHeartbeats 40000000 in
theorem rm2 (l : Launch) (Z : State) (a0 : Array Value) (hw : ∀ d ∈ tables_1, d.before a0 Z = true) (ws : List Jvm.Cond) (p1 : Int32) (r : Int32) (h0 : Heap) (n0 : Nat) (Z0 : n0 ≤ h0.size) (hr : r = own_pick p1) :
    MetFree l (⟨"com/example/concept_ledger/conceptledger/model/RowViewSetPinLaw", "pick", "(I)B"⟩ : MethodName) (head1 (Jvm.Cond.code (⟨"com/example/concept_ledger/conceptledger/model/RowViewSetPinLaw", "pick", "(I)B"⟩ : MethodName) method_2_code 1 (some .byte) :: ws) ({ frames := 0, cells := 0, slots := 0, locals := 0 } : Room)) (fun a U => a = #[(.int p1)] ∧ Z.Warmed39 U.vm ∧ U.heap = h0) (fun _ _ _ _ _ => True) (fun _ U o U' => ∃ v L, o = .returned v ∧ Q2 Z p1 r h0 n0 v U'.heap L ∧ FrameEnd U o U' L ({ frames := 0, cells := 0, slots := 0, locals := 0 } : Room).cells ({ frames := 0, cells := 0, slots := 0, locals := 0 } : Room).slots) := by
  refine MetFree.of_bodySF (plainFor_of_name pn_0) hisR ?_
  intro p e s m args below meth c s₁ Bd hml0 hP hK
  obtain ⟨rfl, hZ, hh⟩ := hP
  have hx := Bd.exec
  have hby := Bd.bytes
  have hml : c.maxLocals = 1 := hml0
  have hown : s.vm.findClass "com/example/concept_ledger/conceptledger/model/RowViewSetPinLaw" = some m.cls := findClass_of_methodNamed Bd.named
  have hnm := (name_of_methodNamed Bd.named Bd.method).1
  have X0 : Stand p l e ({ frames := 0, cells := 0, slots := 0, locals := 0 } : Room) s m #[(.int p1)] below meth c s₁ [] 0 0 := Stand.of_body Bd
  have e0 : s₁.heap = h0 := by rw [← hh, Bd.state]; rfl
  have N0 := Fr.nil n0
  have pre0 : ∀ t, Steps p.tables e below (s₁.setTop (mkF m 0 #[.val (.int p1)] [])) t → Steps p.tables e below (s₁.setTop (entryFrame m #[(.int p1)] 1)) t := fun t k => castTop (ef_2 m p1) k
  by_cases hc : (p1 &&& (1 : Int32)) = (0 : Int32)
  · have q : r = (p1 >>> ((1 : Int32) &&& 31)).toInt8.toInt32 := by rw [hr]; exact if_pos hc
    have fl1 : ∀ target, Steps p.tables e below (s₁.setTop (mkF m 15 #[.val (.int p1)] [(.int ((p1 >>> ((1 : Int32) &&& 31)).toInt8.toInt32))])) target → Steps p.tables e below (s₁.setTop (mkF m 0 #[.val (.int p1)] [])) target := fun target kt => by
      show Steps p.tables e below (s₁.setTop (mkF m 0 #[.val (.int p1)] [])) _
      refine XS.iloadN X0.here hx rfl (hb hby d2_0) rfl ?_
      show Steps p.tables e below (s₁.setTop (mkF m 1 #[.val (.int p1)] [(.int p1)])) _
      refine XS.iconst X0.here hx rfl (hb hby d2_1) ?_
      show Steps p.tables e below (s₁.setTop (mkF m 2 #[.val (.int p1)] [(.int (1 : Int32)), (.int p1)])) _
      refine XS.iand X0.here hx rfl (hb hby d2_2) rfl ?_
      show Steps p.tables e below (s₁.setTop (mkF m 3 #[.val (.int p1)] [(.int (p1 &&& (1 : Int32)))])) _
      refine XS.ifYes X0.here hx rfl (pc0 := 3) (pc' := 11) rfl (hb hby d2_3) rfl ((if0 _ _).trans (teq (hc : (p1 &&& (1 : Int32)) = (0 : Int32))).1) (by decide) (by decide) ?_
      show Steps p.tables e below (s₁.setTop (mkF m 11 #[.val (.int p1)] [])) _
      refine XS.iloadN X0.here hx rfl (hb hby d2_11) rfl ?_
      show Steps p.tables e below (s₁.setTop (mkF m 12 #[.val (.int p1)] [(.int p1)])) _
      refine XS.iconst X0.here hx rfl (hb hby d2_12) ?_
      show Steps p.tables e below (s₁.setTop (mkF m 13 #[.val (.int p1)] [(.int (1 : Int32)), (.int p1)])) _
      refine XS.ishr X0.here hx rfl (hb hby d2_13) rfl ?_
      show Steps p.tables e below (s₁.setTop (mkF m 14 #[.val (.int p1)] [(.int (p1 >>> ((1 : Int32) &&& 31)))])) _
      refine XS.i2b X0.here hx rfl (hb hby d2_14) rfl ?_
      exact kt
    obtain ⟨fs, hrt, hrun, hended, hW, hsame⟩ := X0.leave (v := some (.int (nar .byte (p1 >>> ((1 : Int32) &&& 31)).toInt8.toInt32))) (fun h => by rw [Bd.returns] at h; cases h)
    refine ⟨_, _, pre0 _ (fl1 _ ?_), hrun, hended, _, _, rfl, ?_, ⟨_, rfl⟩, hW, hsame.mono (by decide) (by decide)⟩
    · exact retN X0 hx (t := .byte) Bd.returns (by simp) (hb hby d2_15) hrt
    · show Q2 _ _ _ _ _ _ s₁.heap _
      rw [e0]
      exact ⟨by rw [q]; exact congrArg (fun z => some (Value.int z)) (own_b8 _), N0, rfl⟩
  · obtain rfl : r = 124 := by rw [hr]; exact if_neg hc
    have fl2 : ∀ target, Steps p.tables e below (s₁.setTop (mkF m 15 #[.val (.int p1)] [(.int (124 : Int32))])) target → Steps p.tables e below (s₁.setTop (mkF m 0 #[.val (.int p1)] [])) target := fun target kt => by
      show Steps p.tables e below (s₁.setTop (mkF m 0 #[.val (.int p1)] [])) _
      refine XS.iloadN X0.here hx rfl (hb hby d2_0) rfl ?_
      show Steps p.tables e below (s₁.setTop (mkF m 1 #[.val (.int p1)] [(.int p1)])) _
      refine XS.iconst X0.here hx rfl (hb hby d2_1) ?_
      show Steps p.tables e below (s₁.setTop (mkF m 2 #[.val (.int p1)] [(.int (1 : Int32)), (.int p1)])) _
      refine XS.iand X0.here hx rfl (hb hby d2_2) rfl ?_
      show Steps p.tables e below (s₁.setTop (mkF m 3 #[.val (.int p1)] [(.int (p1 &&& (1 : Int32)))])) _
      refine XS.ifNo X0.here hx rfl (hb hby d2_3) rfl ((if0 _ _).trans (feq (hc : ¬ ((p1 &&& (1 : Int32)) = (0 : Int32)))).1) ?_
      show Steps p.tables e below (s₁.setTop (mkF m 6 #[.val (.int p1)] [])) _
      refine XS.bipush X0.here hx rfl (hb hby d2_6) ?_
      show Steps p.tables e below (s₁.setTop (mkF m 8 #[.val (.int p1)] [(.int (124 : Int32))])) _
      refine XS.goto X0.here hx rfl (pc0 := 8) (pc' := 15) rfl (hb hby d2_8) (by decide) (by decide) ?_
      exact kt
    obtain ⟨fs, hrt, hrun, hended, hW, hsame⟩ := X0.leave (v := some (.int (124 : Int32))) (fun h => by rw [Bd.returns] at h; cases h)
    refine ⟨_, _, pre0 _ (fl2 _ ?_), hrun, hended, _, _, rfl, ?_, ⟨_, rfl⟩, hW, hsame.mono (by decide) (by decide)⟩
    · exact retN X0 hx (t := .byte) Bd.returns (by simp) (hb hby d2_15) hrt
    · show Q2 _ _ _ _ _ _ s₁.heap _
      rw [e0]
      exact ⟨rfl, N0, rfl⟩
theorem ef_1 (m : MethodId) (x0 : Int32) : entryFrame m #[(.int x0)] 2 = mkF m 0 #[.val (.int x0), .unset] [] := by first | (simp [entryFrame, mkF, argsToLocals, Value.category]; done) | rfl
def Q1 (Z : State) (p1 : Int32) (h0 : Heap) (n0 : Nat) (v : Option Value) (h : Heap) (L : List Loc) : Prop := ∃ (b : Addr) (k : ClassId), v = some (.ref b) ∧ Fr n0 L ∧ Keep h0 h [] ∧ own_BA Z h b k (own_f p1) ∧ h0.size ≤ b ∧ n0 ≤ b
set_option maxRecDepth 65536 in
set_option maxHeartbeats 40000000 in
theorem rm1 (l : Launch) (Z : State) (a0 : Array Value) (hw : ∀ d ∈ tables_1, d.before a0 Z = true) (ws : List Jvm.Cond) (p1 : Int32) (h0 : Heap) (n0 : Nat) (Z0 : n0 ≤ h0.size) :
    MetFree l (⟨"com/example/concept_ledger/conceptledger/model/RowViewSetPinLaw", "draw", "(I)[B"⟩ : MethodName) (head1 (Jvm.Cond.code (⟨"com/example/concept_ledger/conceptledger/model/RowViewSetPinLaw", "draw", "(I)[B"⟩ : MethodName) method_3_code 2 (some (.array .byte)) :: ws) ({ frames := 1, cells := 1, slots := 4, locals := 14 } : Room)) (fun a U => a = #[(.int p1)] ∧ Z.Warmed39 U.vm ∧ U.heap = h0) (fun _ _ _ _ _ => True) (fun _ U o U' => ∃ v L, o = .returned v ∧ Q1 Z p1 h0 n0 v U'.heap L ∧ FrameEnd U o U' L ({ frames := 1, cells := 1, slots := 4, locals := 14 } : Room).cells ({ frames := 1, cells := 1, slots := 4, locals := 14 } : Room).slots) := by
  refine MetFree.of_bodySF (plainFor_of_name pn_0) hisR ?_
  intro p e s m args below meth c s₁ Bd hml0 hP hK
  obtain ⟨rfl, hZ, hh⟩ := hP
  have hx := Bd.exec
  have hby := Bd.bytes
  have hml : c.maxLocals = 2 := hml0
  have hown : s.vm.findClass "com/example/concept_ledger/conceptledger/model/RowViewSetPinLaw" = some m.cls := findClass_of_methodNamed Bd.named
  have hnm := (name_of_methodNamed Bd.named Bd.method).1
  have X0 : Stand p l e ({ frames := 1, cells := 1, slots := 4, locals := 14 } : Room) s m #[(.int p1)] below meth c s₁ [] 0 0 := Stand.of_body Bd
  have e0 : s₁.heap = h0 := by rw [← hh, Bd.state]; rfl
  have N0 := Fr.nil n0
  have pre0 : ∀ t, Steps p.tables e below (s₁.setTop (mkF m 0 #[.val (.int p1), .unset] [])) t → Steps p.tables e below (s₁.setTop (entryFrame m #[(.int p1)] 2)) t := fun t k => castTop (ef_1 m p1) k
  obtain ⟨T3, h3, k3, X3, e3, E3, A3, st3⟩ := newP X0 hx hZ (hw _ (List.mem_of_getElem? (i := 4) rfl)) e0 (g := (mkF m 1 #[.val (.int p1), .unset] [(.int (4 : Int32))])) rfl (hb hby d1_1) rfl (by decide) (cap := 4) (by decide) (by decide) (by decide) (by decide)
  obtain ⟨b3, g3⟩ : ∃ z, z = h0.size := ⟨_, rfl⟩
  rw [← g3] at A3 st3
  have g_b3 : n0 ≤ b3 := Nat.le_trans Z0 (Nat.le_of_eq g3.symm)
  have sz_b3 : h0.size ≤ b3 := Nat.le_trans (Keep.refl h0 []).1 (Nat.le_of_eq g3.symm)
  have V3 := Arv.new A3 (by decide)
  have K3 : Keep h0 h3 [] := (Keep.refl h0 []).ext E3
  have z3 : n0 ≤ h3.size := Nat.le_trans Z0 E3.1
  have V0 : Arv Z h3 b3 k3 .byte (4 : Int32) [.int (0 : Int32), .int (0 : Int32), .int (0 : Int32), .int (0 : Int32)] (.int (0 : Int32)) := V3.pad (pad_rep [] (.int (0 : Int32)) 4)
  obtain ⟨_, _, ⟨T4, L4, k4, n4⟩, -, X4, ⟨Lc4, hQ4, l4, y4, z4⟩, st4⟩ := Jvm.LawKit.callS X3 hx (y := (⟨"com/example/concept_ledger/conceptledger/model/RowViewSetPinLaw", "pick", "(I)B"⟩ : MethodName)) hown (mvT hZ (hw _ (List.mem_of_getElem? (i := 5) rfl))) (mvT hZ (hw _ (List.mem_of_getElem? (i := 6) rfl))) (mvT hZ (hw _ (List.mem_of_getElem? (i := 2) rfl))) (mvT hZ (hw _ (List.mem_of_getElem? (i := 7) rfl))) (by decide) (backOf (W := 2) (rm2 l Z a0 hw [] p1 (own_pick p1) h3 n0 z3 rfl) hZ (hw _ (List.mem_of_getElem? (i := 7) rfl)) (hw _ (List.mem_of_getElem? (i := 2) rfl)) (by decide) (by decide)) (g := (mkF m 7 #[.val (.int p1), .val (.ref b3)] [(.int p1), (.int (0 : Int32)), (.ref b3)])) rfl (by rw [hml]; rfl) (argsL := [(.int p1)]) (rest := [(.int (0 : Int32)), (.ref b3)]) (lenOf pd_0 rfl) rfl (by show 2 * 0 + _ ≤ _; exact Nat.le_of_eq rfl) (hb hby d1_7) (fun _ _ => ⟨rfl, e3, (by decide : 1 + 0 ≤ _), (by decide : 4 + 0 ≤ _)⟩)
  dsimp only [Pt.U, Pt.locs, Pt.cells, Pt.slots] at X4 l4 y4 z4 st4 hQ4
  subst l4 y4 z4
  obtain ⟨rfl, N4q, he4⟩ := hQ4
  have N4 := Fr.app N0 N4q
  have Kc4 : Keep h3 T4.heap [] := by rw [he4]; exact Keep.refl _ _
  have V0_4 := V0.keep Kc4 nin0
  have K4 : Keep h0 T4.heap [] := K3.trans Kc4 all0
  have z4z : n0 ≤ T4.heap.size := Nat.le_trans z3 Kc4.1
  obtain ⟨cl0, Ar0, qk0, Sz0, Nz0, Hv0, Gv0⟩ := id V0_4
  have hin0 : ¬ ((0 : Int32) < 0 ∨ cl0.slots.size ≤ (0 : Int32).toNatClampNeg) := inb_of Sz0 ⟨by decide, by decide⟩
  obtain ⟨T5, h5, X5, e5, W5, st5⟩ := stB X4 hx hZ rfl Ar0 (j := (0 : Int32)) hin0 (g := (mkF m 10 #[.val (.int p1), .val (.ref b3)] [(.int (own_pick p1)), (.int (0 : Int32)), (.ref b3)])) rfl rfl (hb hby d1_10)
  have N5 := Fr.snoc X5 N4 g_b3
  have K5 : Keep h0 h5 [] := K4.wr W5 (Or.inr sz_b3)
  have z5 : n0 ≤ h5.size := Nat.le_trans z4z (Keep.of_wr W5).1
  have Vs0 : Arv Z h5 b3 k3 .byte (4 : Int32) [.int (own_pick p1), .int (0 : Int32), .int (0 : Int32), .int (0 : Int32)] (.int (0 : Int32)) := by
    have q := Arv.set Ar0 qk0 Sz0 Nz0 Hv0 Gv0 (fits_nar_byte _) W5 0 rfl (Nat.le_of_ble_eq_true rfl)
    rw [own_pick8 p1] at q
    exact q
  obtain ⟨_, _, ⟨T6, L6, k6, n6⟩, -, X6, ⟨Lc6, hQ6, l6, y6, z6⟩, st6⟩ := Jvm.LawKit.callS X5 hx (y := (⟨"com/example/concept_ledger/conceptledger/model/RowViewSetPinLaw", "pick", "(I)B"⟩ : MethodName)) hown (mvT hZ (hw _ (List.mem_of_getElem? (i := 5) rfl))) (mvT hZ (hw _ (List.mem_of_getElem? (i := 6) rfl))) (mvT hZ (hw _ (List.mem_of_getElem? (i := 2) rfl))) (mvT hZ (hw _ (List.mem_of_getElem? (i := 7) rfl))) (by decide) (backOf (W := 2) (rm2 l Z a0 hw [] (p1 >>> ((8 : Int32) &&& 31)) (own_pick (p1 >>> ((8 : Int32) &&& 31))) h5 n0 z5 rfl) hZ (hw _ (List.mem_of_getElem? (i := 7) rfl)) (hw _ (List.mem_of_getElem? (i := 2) rfl)) (by decide) (by decide)) (g := (mkF m 17 #[.val (.int p1), .val (.ref b3)] [(.int (p1 >>> ((8 : Int32) &&& 31))), (.int (1 : Int32)), (.ref b3)])) rfl (by rw [hml]; rfl) (argsL := [(.int (p1 >>> ((8 : Int32) &&& 31)))]) (rest := [(.int (1 : Int32)), (.ref b3)]) (lenOf pd_0 rfl) rfl (by show 2 * 0 + _ ≤ _; exact Nat.le_of_eq rfl) (hb hby d1_17) (fun _ _ => ⟨rfl, e5, (by decide : 1 + 0 ≤ _), (by decide : 4 + 0 ≤ _)⟩)
  dsimp only [Pt.U, Pt.locs, Pt.cells, Pt.slots] at X6 l6 y6 z6 st6 hQ6
  subst l6 y6 z6
  obtain ⟨rfl, N6q, he6⟩ := hQ6
  have N6 := Fr.app N5 N6q
  have Kc6 : Keep h5 T6.heap [] := by rw [he6]; exact Keep.refl _ _
  have Vs0_6 := Vs0.keep Kc6 nin0
  have K6 : Keep h0 T6.heap [] := K5.trans Kc6 all0
  have z6z : n0 ≤ T6.heap.size := Nat.le_trans z5 Kc6.1
  obtain ⟨cl1, Ar1, qk1, Sz1, Nz1, Hv1, Gv1⟩ := id Vs0_6
  have hin1 : ¬ ((1 : Int32) < 0 ∨ cl1.slots.size ≤ (1 : Int32).toNatClampNeg) := inb_of Sz1 ⟨by decide, by decide⟩
  obtain ⟨T7, h7, X7, e7, W7, st7⟩ := stB X6 hx hZ rfl Ar1 (j := (1 : Int32)) hin1 (g := (mkF m 20 #[.val (.int p1), .val (.ref b3)] [(.int (own_pick (p1 >>> ((8 : Int32) &&& 31)))), (.int (1 : Int32)), (.ref b3)])) rfl rfl (hb hby d1_20)
  have N7 := Fr.snoc X7 N6 g_b3
  have K7 : Keep h0 h7 [] := K6.wr W7 (Or.inr sz_b3)
  have z7 : n0 ≤ h7.size := Nat.le_trans z6z (Keep.of_wr W7).1
  have Vs1 : Arv Z h7 b3 k3 .byte (4 : Int32) [.int (own_pick p1), .int (own_pick (p1 >>> ((8 : Int32) &&& 31))), .int (0 : Int32), .int (0 : Int32)] (.int (0 : Int32)) := by
    have q := Arv.set Ar1 qk1 Sz1 Nz1 Hv1 Gv1 (fits_nar_byte _) W7 1 rfl (Nat.le_of_ble_eq_true rfl)
    rw [own_pick8 (p1 >>> ((8 : Int32) &&& 31))] at q
    exact q
  obtain ⟨_, _, ⟨T8, L8, k8, n8⟩, -, X8, ⟨Lc8, hQ8, l8, y8, z8⟩, st8⟩ := Jvm.LawKit.callS X7 hx (y := (⟨"com/example/concept_ledger/conceptledger/model/RowViewSetPinLaw", "pick", "(I)B"⟩ : MethodName)) hown (mvT hZ (hw _ (List.mem_of_getElem? (i := 5) rfl))) (mvT hZ (hw _ (List.mem_of_getElem? (i := 6) rfl))) (mvT hZ (hw _ (List.mem_of_getElem? (i := 2) rfl))) (mvT hZ (hw _ (List.mem_of_getElem? (i := 7) rfl))) (by decide) (backOf (W := 2) (rm2 l Z a0 hw [] (p1 >>> ((16 : Int32) &&& 31)) (own_pick (p1 >>> ((16 : Int32) &&& 31))) h7 n0 z7 rfl) hZ (hw _ (List.mem_of_getElem? (i := 7) rfl)) (hw _ (List.mem_of_getElem? (i := 2) rfl)) (by decide) (by decide)) (g := (mkF m 27 #[.val (.int p1), .val (.ref b3)] [(.int (p1 >>> ((16 : Int32) &&& 31))), (.int (2 : Int32)), (.ref b3)])) rfl (by rw [hml]; rfl) (argsL := [(.int (p1 >>> ((16 : Int32) &&& 31)))]) (rest := [(.int (2 : Int32)), (.ref b3)]) (lenOf pd_0 rfl) rfl (by show 2 * 0 + _ ≤ _; exact Nat.le_of_eq rfl) (hb hby d1_27) (fun _ _ => ⟨rfl, e7, (by decide : 1 + 0 ≤ _), (by decide : 4 + 0 ≤ _)⟩)
  dsimp only [Pt.U, Pt.locs, Pt.cells, Pt.slots] at X8 l8 y8 z8 st8 hQ8
  subst l8 y8 z8
  obtain ⟨rfl, N8q, he8⟩ := hQ8
  have N8 := Fr.app N7 N8q
  have Kc8 : Keep h7 T8.heap [] := by rw [he8]; exact Keep.refl _ _
  have Vs1_8 := Vs1.keep Kc8 nin0
  have K8 : Keep h0 T8.heap [] := K7.trans Kc8 all0
  have z8z : n0 ≤ T8.heap.size := Nat.le_trans z7 Kc8.1
  obtain ⟨cl2, Ar2, qk2, Sz2, Nz2, Hv2, Gv2⟩ := id Vs1_8
  have hin2 : ¬ ((2 : Int32) < 0 ∨ cl2.slots.size ≤ (2 : Int32).toNatClampNeg) := inb_of Sz2 ⟨by decide, by decide⟩
  obtain ⟨T9, h9, X9, e9, W9, st9⟩ := stB X8 hx hZ rfl Ar2 (j := (2 : Int32)) hin2 (g := (mkF m 30 #[.val (.int p1), .val (.ref b3)] [(.int (own_pick (p1 >>> ((16 : Int32) &&& 31)))), (.int (2 : Int32)), (.ref b3)])) rfl rfl (hb hby d1_30)
  have N9 := Fr.snoc X9 N8 g_b3
  have K9 : Keep h0 h9 [] := K8.wr W9 (Or.inr sz_b3)
  have z9 : n0 ≤ h9.size := Nat.le_trans z8z (Keep.of_wr W9).1
  have Vs2 : Arv Z h9 b3 k3 .byte (4 : Int32) [.int (own_pick p1), .int (own_pick (p1 >>> ((8 : Int32) &&& 31))), .int (own_pick (p1 >>> ((16 : Int32) &&& 31))), .int (0 : Int32)] (.int (0 : Int32)) := by
    have q := Arv.set Ar2 qk2 Sz2 Nz2 Hv2 Gv2 (fits_nar_byte _) W9 2 rfl (Nat.le_of_ble_eq_true rfl)
    rw [own_pick8 (p1 >>> ((16 : Int32) &&& 31))] at q
    exact q
  obtain ⟨_, _, ⟨T10, L10, k10, n10⟩, -, X10, ⟨Lc10, hQ10, l10, y10, z10⟩, st10⟩ := Jvm.LawKit.callS X9 hx (y := (⟨"com/example/concept_ledger/conceptledger/model/RowViewSetPinLaw", "pick", "(I)B"⟩ : MethodName)) hown (mvT hZ (hw _ (List.mem_of_getElem? (i := 5) rfl))) (mvT hZ (hw _ (List.mem_of_getElem? (i := 6) rfl))) (mvT hZ (hw _ (List.mem_of_getElem? (i := 2) rfl))) (mvT hZ (hw _ (List.mem_of_getElem? (i := 7) rfl))) (by decide) (backOf (W := 2) (rm2 l Z a0 hw [] (p1 >>> ((24 : Int32) &&& 31)) (own_pick (p1 >>> ((24 : Int32) &&& 31))) h9 n0 z9 rfl) hZ (hw _ (List.mem_of_getElem? (i := 7) rfl)) (hw _ (List.mem_of_getElem? (i := 2) rfl)) (by decide) (by decide)) (g := (mkF m 37 #[.val (.int p1), .val (.ref b3)] [(.int (p1 >>> ((24 : Int32) &&& 31))), (.int (3 : Int32)), (.ref b3)])) rfl (by rw [hml]; rfl) (argsL := [(.int (p1 >>> ((24 : Int32) &&& 31)))]) (rest := [(.int (3 : Int32)), (.ref b3)]) (lenOf pd_0 rfl) rfl (by show 2 * 0 + _ ≤ _; exact Nat.le_of_eq rfl) (hb hby d1_37) (fun _ _ => ⟨rfl, e9, (by decide : 1 + 0 ≤ _), (by decide : 4 + 0 ≤ _)⟩)
  dsimp only [Pt.U, Pt.locs, Pt.cells, Pt.slots] at X10 l10 y10 z10 st10 hQ10
  subst l10 y10 z10
  obtain ⟨rfl, N10q, he10⟩ := hQ10
  have N10 := Fr.app N9 N10q
  have Kc10 : Keep h9 T10.heap [] := by rw [he10]; exact Keep.refl _ _
  have Vs2_10 := Vs2.keep Kc10 nin0
  have K10 : Keep h0 T10.heap [] := K9.trans Kc10 all0
  have z10z : n0 ≤ T10.heap.size := Nat.le_trans z9 Kc10.1
  obtain ⟨cl3, Ar3, qk3, Sz3, Nz3, Hv3, Gv3⟩ := id Vs2_10
  have hin3 : ¬ ((3 : Int32) < 0 ∨ cl3.slots.size ≤ (3 : Int32).toNatClampNeg) := inb_of Sz3 ⟨by decide, by decide⟩
  obtain ⟨T11, h11, X11, e11, W11, st11⟩ := stB X10 hx hZ rfl Ar3 (j := (3 : Int32)) hin3 (g := (mkF m 40 #[.val (.int p1), .val (.ref b3)] [(.int (own_pick (p1 >>> ((24 : Int32) &&& 31)))), (.int (3 : Int32)), (.ref b3)])) rfl rfl (hb hby d1_40)
  have N11 := Fr.snoc X11 N10 g_b3
  have K11 : Keep h0 h11 [] := K10.wr W11 (Or.inr sz_b3)
  have z11 : n0 ≤ h11.size := Nat.le_trans z10z (Keep.of_wr W11).1
  have Vs3 : Arv Z h11 b3 k3 .byte (4 : Int32) [.int (own_pick p1), .int (own_pick (p1 >>> ((8 : Int32) &&& 31))), .int (own_pick (p1 >>> ((16 : Int32) &&& 31))), .int (own_pick (p1 >>> ((24 : Int32) &&& 31)))] (.int (0 : Int32)) := by
    have q := Arv.set Ar3 qk3 Sz3 Nz3 Hv3 Gv3 (fits_nar_byte _) W11 3 rfl (Nat.le_of_ble_eq_true rfl)
    rw [own_pick8 (p1 >>> ((24 : Int32) &&& 31))] at q
    exact q
  have fl12 : ∀ target, Steps p.tables e below (T11.setTop (mkF m 42 #[.val (.int p1), .val (.ref b3)] [(.ref b3)])) target → Steps p.tables e below (s₁.setTop (mkF m 0 #[.val (.int p1), .unset] [])) target := fun target kt => by
    show Steps p.tables e below (s₁.setTop (mkF m 0 #[.val (.int p1), .unset] [])) _
    refine XS.iconst X0.here hx rfl (hb hby d1_0) ?_
    show Steps p.tables e below (s₁.setTop (mkF m 1 #[.val (.int p1), .unset] [(.int (4 : Int32))])) _
    refine st3 _ ?_
    show Steps p.tables e below (T3.setTop (mkF m 3 #[.val (.int p1), .unset] [(.ref b3)])) _
    refine XS.astoreN X3.here hx rfl (hb hby d1_3) rfl rfl (l' := #[.val (.int p1), .val (.ref b3)]) rfl ?_
    show Steps p.tables e below (T3.setTop (mkF m 4 #[.val (.int p1), .val (.ref b3)] [])) _
    refine XS.aloadN X3.here hx rfl (hb hby d1_4) rfl rfl ?_
    show Steps p.tables e below (T3.setTop (mkF m 5 #[.val (.int p1), .val (.ref b3)] [(.ref b3)])) _
    refine XS.iconst X3.here hx rfl (hb hby d1_5) ?_
    show Steps p.tables e below (T3.setTop (mkF m 6 #[.val (.int p1), .val (.ref b3)] [(.int (0 : Int32)), (.ref b3)])) _
    refine XS.iloadN X3.here hx rfl (hb hby d1_6) rfl ?_
    show Steps p.tables e below (T3.setTop (mkF m 7 #[.val (.int p1), .val (.ref b3)] [(.int p1), (.int (0 : Int32)), (.ref b3)])) _
    refine st4 _ ?_
    show Steps p.tables e below (T4.setTop (mkF m 10 #[.val (.int p1), .val (.ref b3)] [(.int (own_pick p1)), (.int (0 : Int32)), (.ref b3)])) _
    refine st5 _ ?_
    show Steps p.tables e below (T5.setTop (mkF m 11 #[.val (.int p1), .val (.ref b3)] [])) _
    refine XS.aloadN X5.here hx rfl (hb hby d1_11) rfl rfl ?_
    show Steps p.tables e below (T5.setTop (mkF m 12 #[.val (.int p1), .val (.ref b3)] [(.ref b3)])) _
    refine XS.iconst X5.here hx rfl (hb hby d1_12) ?_
    show Steps p.tables e below (T5.setTop (mkF m 13 #[.val (.int p1), .val (.ref b3)] [(.int (1 : Int32)), (.ref b3)])) _
    refine XS.iloadN X5.here hx rfl (hb hby d1_13) rfl ?_
    show Steps p.tables e below (T5.setTop (mkF m 14 #[.val (.int p1), .val (.ref b3)] [(.int p1), (.int (1 : Int32)), (.ref b3)])) _
    refine XS.bipush X5.here hx rfl (hb hby d1_14) ?_
    show Steps p.tables e below (T5.setTop (mkF m 16 #[.val (.int p1), .val (.ref b3)] [(.int (8 : Int32)), (.int p1), (.int (1 : Int32)), (.ref b3)])) _
    refine XS.ishr X5.here hx rfl (hb hby d1_16) rfl ?_
    show Steps p.tables e below (T5.setTop (mkF m 17 #[.val (.int p1), .val (.ref b3)] [(.int (p1 >>> ((8 : Int32) &&& 31))), (.int (1 : Int32)), (.ref b3)])) _
    refine st6 _ ?_
    show Steps p.tables e below (T6.setTop (mkF m 20 #[.val (.int p1), .val (.ref b3)] [(.int (own_pick (p1 >>> ((8 : Int32) &&& 31)))), (.int (1 : Int32)), (.ref b3)])) _
    refine st7 _ ?_
    show Steps p.tables e below (T7.setTop (mkF m 21 #[.val (.int p1), .val (.ref b3)] [])) _
    refine XS.aloadN X7.here hx rfl (hb hby d1_21) rfl rfl ?_
    show Steps p.tables e below (T7.setTop (mkF m 22 #[.val (.int p1), .val (.ref b3)] [(.ref b3)])) _
    refine XS.iconst X7.here hx rfl (hb hby d1_22) ?_
    show Steps p.tables e below (T7.setTop (mkF m 23 #[.val (.int p1), .val (.ref b3)] [(.int (2 : Int32)), (.ref b3)])) _
    refine XS.iloadN X7.here hx rfl (hb hby d1_23) rfl ?_
    show Steps p.tables e below (T7.setTop (mkF m 24 #[.val (.int p1), .val (.ref b3)] [(.int p1), (.int (2 : Int32)), (.ref b3)])) _
    refine XS.bipush X7.here hx rfl (hb hby d1_24) ?_
    show Steps p.tables e below (T7.setTop (mkF m 26 #[.val (.int p1), .val (.ref b3)] [(.int (16 : Int32)), (.int p1), (.int (2 : Int32)), (.ref b3)])) _
    refine XS.ishr X7.here hx rfl (hb hby d1_26) rfl ?_
    show Steps p.tables e below (T7.setTop (mkF m 27 #[.val (.int p1), .val (.ref b3)] [(.int (p1 >>> ((16 : Int32) &&& 31))), (.int (2 : Int32)), (.ref b3)])) _
    refine st8 _ ?_
    show Steps p.tables e below (T8.setTop (mkF m 30 #[.val (.int p1), .val (.ref b3)] [(.int (own_pick (p1 >>> ((16 : Int32) &&& 31)))), (.int (2 : Int32)), (.ref b3)])) _
    refine st9 _ ?_
    show Steps p.tables e below (T9.setTop (mkF m 31 #[.val (.int p1), .val (.ref b3)] [])) _
    refine XS.aloadN X9.here hx rfl (hb hby d1_31) rfl rfl ?_
    show Steps p.tables e below (T9.setTop (mkF m 32 #[.val (.int p1), .val (.ref b3)] [(.ref b3)])) _
    refine XS.iconst X9.here hx rfl (hb hby d1_32) ?_
    show Steps p.tables e below (T9.setTop (mkF m 33 #[.val (.int p1), .val (.ref b3)] [(.int (3 : Int32)), (.ref b3)])) _
    refine XS.iloadN X9.here hx rfl (hb hby d1_33) rfl ?_
    show Steps p.tables e below (T9.setTop (mkF m 34 #[.val (.int p1), .val (.ref b3)] [(.int p1), (.int (3 : Int32)), (.ref b3)])) _
    refine XS.bipush X9.here hx rfl (hb hby d1_34) ?_
    show Steps p.tables e below (T9.setTop (mkF m 36 #[.val (.int p1), .val (.ref b3)] [(.int (24 : Int32)), (.int p1), (.int (3 : Int32)), (.ref b3)])) _
    refine XS.ishr X9.here hx rfl (hb hby d1_36) rfl ?_
    show Steps p.tables e below (T9.setTop (mkF m 37 #[.val (.int p1), .val (.ref b3)] [(.int (p1 >>> ((24 : Int32) &&& 31))), (.int (3 : Int32)), (.ref b3)])) _
    refine st10 _ ?_
    show Steps p.tables e below (T10.setTop (mkF m 40 #[.val (.int p1), .val (.ref b3)] [(.int (own_pick (p1 >>> ((24 : Int32) &&& 31)))), (.int (3 : Int32)), (.ref b3)])) _
    refine st11 _ ?_
    show Steps p.tables e below (T11.setTop (mkF m 41 #[.val (.int p1), .val (.ref b3)] [])) _
    refine XS.aloadN X11.here hx rfl (hb hby d1_41) rfl rfl ?_
    exact kt
  obtain ⟨fs, hrt, hrun, hended, hW, hsame⟩ := X11.leave (v := some (.ref b3)) (fun h => by rw [Bd.returns] at h; cases h)
  refine ⟨_, _, pre0 _ (fl12 _ ?_), hrun, hended, _, _, rfl, ?_, ⟨_, rfl⟩, hW, hsame.mono (by decide) (by decide)⟩
  · jvm_step X11.here [X11.here.top, hx, (hb hby d1_42), X11.method', Bd.returns, Value.isRef, FieldType.isReference]
    first | (intro acts; rw [hrt _ acts rfl rfl rfl]) | rw [hrt _ _ rfl rfl rfl]
    exact Steps.refl _
  · show Q1 _ _ _ _ _ T11.heap _
    rw [e11]
    exact ⟨b3, k3, rfl, N11, K11, Vs3, sz_b3, g_b3⟩
theorem ef_8 (m : MethodId) (x0 : Addr) (x1 : Int32) (x2 : Int32) (x3 : Int32) : entryFrame m #[(.ref x0), (.int x1), (.int x2), (.int x3)] 4 = mkF m 0 #[.val (.ref x0), .val (.int x1), .val (.int x2), .val (.int x3)] [] := by first | (simp [entryFrame, mkF, argsToLocals, Value.category]; done) | rfl
def Q8 (Z : State) (a1 : Addr) (p2 : Int32) (p3 : Int32) (p4 : Int32) (kb : ClassId) (f : Int32 → Int32) (r : Int32) (h0 : Heap) (n0 : Nat) (v : Option Value) (h : Heap) (L : List Loc) : Prop := v = some (.int r) ∧ Fr n0 L ∧ h = h0
set_option maxRecDepth 65536 in
set_option maxHeartbeats 40000000 in
theorem rm8 (l : Launch) (Z : State) (a0 : Array Value) (hw : ∀ d ∈ tables_1, d.before a0 Z = true) (ws : List Jvm.Cond) (a1 : Addr) (p2 : Int32) (p3 : Int32) (p4 : Int32) (kb : ClassId) (f : Int32 → Int32) (r : Int32) (h0 : Heap) (n0 : Nat) (Z0 : n0 ≤ h0.size) (BA : own_BA Z h0 a1 kb f) (hj : ¬ p2 < 0 ∧ p2 < (4 : Int32)) (hr : r = own_sb f p3 p4 p2) :
    MetFree l (⟨"com/example/concept_ledger/conceptledger/model/RowViewSetPinLaw", "bar", "([BIII)I"⟩ : MethodName) (head1 (Jvm.Cond.code (⟨"com/example/concept_ledger/conceptledger/model/RowViewSetPinLaw", "bar", "([BIII)I"⟩ : MethodName) method_4_code 4 (some .int) :: ws) ({ frames := 0, cells := 0, slots := 0, locals := 0 } : Room)) (fun a U => a = #[(.ref a1), (.int p2), (.int p3), (.int p4)] ∧ Z.Warmed39 U.vm ∧ U.heap = h0) (fun _ _ _ _ _ => True) (fun _ U o U' => ∃ v L, o = .returned v ∧ Q8 Z a1 p2 p3 p4 kb f r h0 n0 v U'.heap L ∧ FrameEnd U o U' L ({ frames := 0, cells := 0, slots := 0, locals := 0 } : Room).cells ({ frames := 0, cells := 0, slots := 0, locals := 0 } : Room).slots) := by
  refine MetFree.of_bodySF (plainFor_of_name pn_0) hisR ?_
  intro p e s m args below meth c s₁ Bd hml0 hP hK
  obtain ⟨rfl, hZ, hh⟩ := hP
  have hx := Bd.exec
  have hby := Bd.bytes
  have hml : c.maxLocals = 4 := hml0
  have hown : s.vm.findClass "com/example/concept_ledger/conceptledger/model/RowViewSetPinLaw" = some m.cls := findClass_of_methodNamed Bd.named
  have hnm := (name_of_methodNamed Bd.named Bd.method).1
  have X0 : Stand p l e ({ frames := 0, cells := 0, slots := 0, locals := 0 } : Room) s m #[(.ref a1), (.int p2), (.int p3), (.int p4)] below meth c s₁ [] 0 0 := Stand.of_body Bd
  have e0 : s₁.heap = h0 := by rw [← hh, Bd.state]; rfl
  have N0 := Fr.nil n0
  have pre0 : ∀ t, Steps p.tables e below (s₁.setTop (mkF m 0 #[.val (.ref a1), .val (.int p2), .val (.int p3), .val (.int p4)] [])) t → Steps p.tables e below (s₁.setTop (entryFrame m #[(.ref a1), (.int p2), (.int p3), (.int p4)] 4)) t := fun t k => castTop (ef_8 m a1 p2 p3 p4) k
  obtain ⟨clx, Ar, -, Sz, Nz, Hv, -⟩ := id BA
  have hin := inb_of Sz hj
  have hat := Hv.at hin (own_get f hj)
  by_cases h1 : p2 < p3
  · obtain rfl : r = 0 := by rw [hr]; exact if_neg (fun u => u.1 h1)
    have fl13 : ∀ target, Steps p.tables e below (s₁.setTop (mkF m 23 #[.val (.ref a1), .val (.int p2), .val (.int p3), .val (.int p4)] [(.int (0 : Int32))])) target → Steps p.tables e below (s₁.setTop (mkF m 0 #[.val (.ref a1), .val (.int p2), .val (.int p3), .val (.int p4)] [])) target := fun target kt => by
      show Steps p.tables e below (s₁.setTop (mkF m 0 #[.val (.ref a1), .val (.int p2), .val (.int p3), .val (.int p4)] [])) _
      refine XS.iloadN X0.here hx rfl (hb hby d8_0) rfl ?_
      show Steps p.tables e below (s₁.setTop (mkF m 1 #[.val (.ref a1), .val (.int p2), .val (.int p3), .val (.int p4)] [(.int p2)])) _
      refine XS.iloadN X0.here hx rfl (hb hby d8_1) rfl ?_
      show Steps p.tables e below (s₁.setTop (mkF m 2 #[.val (.ref a1), .val (.int p2), .val (.int p3), .val (.int p4)] [(.int p3), (.int p2)])) _
      refine XS.icmpYes X0.here hx rfl (pc0 := 2) (pc' := 22) rfl (hb hby d8_2) rfl (tlt (h1 : p2 < p3)).1 (by decide) (by decide) ?_
      show Steps p.tables e below (s₁.setTop (mkF m 22 #[.val (.ref a1), .val (.int p2), .val (.int p3), .val (.int p4)] [])) _
      refine XS.iconst X0.here hx rfl (hb hby d8_22) ?_
      exact kt
    obtain ⟨fs, hrt, hrun, hended, hW, hsame⟩ := X0.leave (v := some (.int (0 : Int32))) (fun h => by rw [Bd.returns] at h; cases h)
    refine ⟨_, _, pre0 _ (fl13 _ ?_), hrun, hended, _, _, rfl, ?_, ⟨_, rfl⟩, hW, hsame.mono (by decide) (by decide)⟩
    · exact retI X0 hx Bd.returns (hb hby d8_23) hrt
    · show Q8 _ _ _ _ _ _ _ _ _ _ _ s₁.heap _
      rw [e0]
      exact ⟨rfl, N0, rfl⟩
  · by_cases h2 : p2 < p4
    · by_cases h3 : f p2 = 124
      · obtain rfl : r = 1 := by rw [hr]; exact if_pos ⟨h1, h2, h3⟩
        have fl14 : ∀ target, Steps p.tables e below (s₁.setTop (mkF m 23 #[.val (.ref a1), .val (.int p2), .val (.int p3), .val (.int p4)] [(.int (1 : Int32))])) target → Steps p.tables e below (s₁.setTop (mkF m 0 #[.val (.ref a1), .val (.int p2), .val (.int p3), .val (.int p4)] [])) target := fun target kt => by
          show Steps p.tables e below (s₁.setTop (mkF m 0 #[.val (.ref a1), .val (.int p2), .val (.int p3), .val (.int p4)] [])) _
          refine XS.iloadN X0.here hx rfl (hb hby d8_0) rfl ?_
          show Steps p.tables e below (s₁.setTop (mkF m 1 #[.val (.ref a1), .val (.int p2), .val (.int p3), .val (.int p4)] [(.int p2)])) _
          refine XS.iloadN X0.here hx rfl (hb hby d8_1) rfl ?_
          show Steps p.tables e below (s₁.setTop (mkF m 2 #[.val (.ref a1), .val (.int p2), .val (.int p3), .val (.int p4)] [(.int p3), (.int p2)])) _
          refine XS.icmpNo X0.here hx rfl (hb hby d8_2) rfl (flt (h1 : ¬ (p2 < p3))).1 ?_
          show Steps p.tables e below (s₁.setTop (mkF m 5 #[.val (.ref a1), .val (.int p2), .val (.int p3), .val (.int p4)] [])) _
          refine XS.iloadN X0.here hx rfl (hb hby d8_5) rfl ?_
          show Steps p.tables e below (s₁.setTop (mkF m 6 #[.val (.ref a1), .val (.int p2), .val (.int p3), .val (.int p4)] [(.int p2)])) _
          refine XS.iloadN X0.here hx rfl (hb hby d8_6) rfl ?_
          show Steps p.tables e below (s₁.setTop (mkF m 7 #[.val (.ref a1), .val (.int p2), .val (.int p3), .val (.int p4)] [(.int p4), (.int p2)])) _
          refine XS.icmpNo X0.here hx rfl (hb hby d8_7) rfl (tlt (h2 : p2 < p4)).2.1 ?_
          show Steps p.tables e below (s₁.setTop (mkF m 10 #[.val (.ref a1), .val (.int p2), .val (.int p3), .val (.int p4)] [])) _
          refine XS.aloadN X0.here hx rfl (hb hby d8_10) rfl rfl ?_
          show Steps p.tables e below (s₁.setTop (mkF m 11 #[.val (.ref a1), .val (.int p2), .val (.int p3), .val (.int p4)] [(.ref a1)])) _
          refine XS.iloadN X0.here hx rfl (hb hby d8_11) rfl ?_
          show Steps p.tables e below (s₁.setTop (mkF m 12 #[.val (.ref a1), .val (.int p2), .val (.int p3), .val (.int p4)] [(.int p2), (.ref a1)])) _
          refine X0.baloadBytes hx (j := p2) (v := (.int (f p2))) (by rw [e0]; exact Ar.1) (State.isArrayOf_alike hZ.alike Ar.2.1) Ar.2.2 hin hat (g := (mkF m 12 #[.val (.ref a1), .val (.int p2), .val (.int p3), .val (.int p4)] [(.int p2), (.ref a1)])) rfl rfl (hb hby d8_12) _ ?_
          show Steps p.tables e below (s₁.setTop (mkF m 13 #[.val (.ref a1), .val (.int p2), .val (.int p3), .val (.int p4)] [(.int (f p2))])) _
          refine XS.bipush X0.here hx rfl (hb hby d8_13) ?_
          show Steps p.tables e below (s₁.setTop (mkF m 15 #[.val (.ref a1), .val (.int p2), .val (.int p3), .val (.int p4)] [(.int (124 : Int32)), (.int (f p2))])) _
          refine XS.icmpNo X0.here hx rfl (hb hby d8_15) rfl (teq (h3 : (f p2) = (124 : Int32))).2 ?_
          show Steps p.tables e below (s₁.setTop (mkF m 18 #[.val (.ref a1), .val (.int p2), .val (.int p3), .val (.int p4)] [])) _
          refine XS.iconst X0.here hx rfl (hb hby d8_18) ?_
          show Steps p.tables e below (s₁.setTop (mkF m 19 #[.val (.ref a1), .val (.int p2), .val (.int p3), .val (.int p4)] [(.int (1 : Int32))])) _
          refine XS.goto X0.here hx rfl (pc0 := 19) (pc' := 23) rfl (hb hby d8_19) (by decide) (by decide) ?_
          exact kt
        obtain ⟨fs, hrt, hrun, hended, hW, hsame⟩ := X0.leave (v := some (.int (1 : Int32))) (fun h => by rw [Bd.returns] at h; cases h)
        refine ⟨_, _, pre0 _ (fl14 _ ?_), hrun, hended, _, _, rfl, ?_, ⟨_, rfl⟩, hW, hsame.mono (by decide) (by decide)⟩
        · exact retI X0 hx Bd.returns (hb hby d8_23) hrt
        · show Q8 _ _ _ _ _ _ _ _ _ _ _ s₁.heap _
          rw [e0]
          exact ⟨rfl, N0, rfl⟩
      · obtain rfl : r = 0 := by rw [hr]; exact if_neg (fun u => h3 u.2.2)
        have fl15 : ∀ target, Steps p.tables e below (s₁.setTop (mkF m 23 #[.val (.ref a1), .val (.int p2), .val (.int p3), .val (.int p4)] [(.int (0 : Int32))])) target → Steps p.tables e below (s₁.setTop (mkF m 0 #[.val (.ref a1), .val (.int p2), .val (.int p3), .val (.int p4)] [])) target := fun target kt => by
          show Steps p.tables e below (s₁.setTop (mkF m 0 #[.val (.ref a1), .val (.int p2), .val (.int p3), .val (.int p4)] [])) _
          refine XS.iloadN X0.here hx rfl (hb hby d8_0) rfl ?_
          show Steps p.tables e below (s₁.setTop (mkF m 1 #[.val (.ref a1), .val (.int p2), .val (.int p3), .val (.int p4)] [(.int p2)])) _
          refine XS.iloadN X0.here hx rfl (hb hby d8_1) rfl ?_
          show Steps p.tables e below (s₁.setTop (mkF m 2 #[.val (.ref a1), .val (.int p2), .val (.int p3), .val (.int p4)] [(.int p3), (.int p2)])) _
          refine XS.icmpNo X0.here hx rfl (hb hby d8_2) rfl (flt (h1 : ¬ (p2 < p3))).1 ?_
          show Steps p.tables e below (s₁.setTop (mkF m 5 #[.val (.ref a1), .val (.int p2), .val (.int p3), .val (.int p4)] [])) _
          refine XS.iloadN X0.here hx rfl (hb hby d8_5) rfl ?_
          show Steps p.tables e below (s₁.setTop (mkF m 6 #[.val (.ref a1), .val (.int p2), .val (.int p3), .val (.int p4)] [(.int p2)])) _
          refine XS.iloadN X0.here hx rfl (hb hby d8_6) rfl ?_
          show Steps p.tables e below (s₁.setTop (mkF m 7 #[.val (.ref a1), .val (.int p2), .val (.int p3), .val (.int p4)] [(.int p4), (.int p2)])) _
          refine XS.icmpNo X0.here hx rfl (hb hby d8_7) rfl (tlt (h2 : p2 < p4)).2.1 ?_
          show Steps p.tables e below (s₁.setTop (mkF m 10 #[.val (.ref a1), .val (.int p2), .val (.int p3), .val (.int p4)] [])) _
          refine XS.aloadN X0.here hx rfl (hb hby d8_10) rfl rfl ?_
          show Steps p.tables e below (s₁.setTop (mkF m 11 #[.val (.ref a1), .val (.int p2), .val (.int p3), .val (.int p4)] [(.ref a1)])) _
          refine XS.iloadN X0.here hx rfl (hb hby d8_11) rfl ?_
          show Steps p.tables e below (s₁.setTop (mkF m 12 #[.val (.ref a1), .val (.int p2), .val (.int p3), .val (.int p4)] [(.int p2), (.ref a1)])) _
          refine X0.baloadBytes hx (j := p2) (v := (.int (f p2))) (by rw [e0]; exact Ar.1) (State.isArrayOf_alike hZ.alike Ar.2.1) Ar.2.2 hin hat (g := (mkF m 12 #[.val (.ref a1), .val (.int p2), .val (.int p3), .val (.int p4)] [(.int p2), (.ref a1)])) rfl rfl (hb hby d8_12) _ ?_
          show Steps p.tables e below (s₁.setTop (mkF m 13 #[.val (.ref a1), .val (.int p2), .val (.int p3), .val (.int p4)] [(.int (f p2))])) _
          refine XS.bipush X0.here hx rfl (hb hby d8_13) ?_
          show Steps p.tables e below (s₁.setTop (mkF m 15 #[.val (.ref a1), .val (.int p2), .val (.int p3), .val (.int p4)] [(.int (124 : Int32)), (.int (f p2))])) _
          refine XS.icmpYes X0.here hx rfl (pc0 := 15) (pc' := 22) rfl (hb hby d8_15) rfl (feq (h3 : ¬ ((f p2) = (124 : Int32)))).2 (by decide) (by decide) ?_
          show Steps p.tables e below (s₁.setTop (mkF m 22 #[.val (.ref a1), .val (.int p2), .val (.int p3), .val (.int p4)] [])) _
          refine XS.iconst X0.here hx rfl (hb hby d8_22) ?_
          exact kt
        obtain ⟨fs, hrt, hrun, hended, hW, hsame⟩ := X0.leave (v := some (.int (0 : Int32))) (fun h => by rw [Bd.returns] at h; cases h)
        refine ⟨_, _, pre0 _ (fl15 _ ?_), hrun, hended, _, _, rfl, ?_, ⟨_, rfl⟩, hW, hsame.mono (by decide) (by decide)⟩
        · exact retI X0 hx Bd.returns (hb hby d8_23) hrt
        · show Q8 _ _ _ _ _ _ _ _ _ _ _ s₁.heap _
          rw [e0]
          exact ⟨rfl, N0, rfl⟩
    · obtain rfl : r = 0 := by rw [hr]; exact if_neg (fun u => h2 u.2.1)
      have fl16 : ∀ target, Steps p.tables e below (s₁.setTop (mkF m 23 #[.val (.ref a1), .val (.int p2), .val (.int p3), .val (.int p4)] [(.int (0 : Int32))])) target → Steps p.tables e below (s₁.setTop (mkF m 0 #[.val (.ref a1), .val (.int p2), .val (.int p3), .val (.int p4)] [])) target := fun target kt => by
        show Steps p.tables e below (s₁.setTop (mkF m 0 #[.val (.ref a1), .val (.int p2), .val (.int p3), .val (.int p4)] [])) _
        refine XS.iloadN X0.here hx rfl (hb hby d8_0) rfl ?_
        show Steps p.tables e below (s₁.setTop (mkF m 1 #[.val (.ref a1), .val (.int p2), .val (.int p3), .val (.int p4)] [(.int p2)])) _
        refine XS.iloadN X0.here hx rfl (hb hby d8_1) rfl ?_
        show Steps p.tables e below (s₁.setTop (mkF m 2 #[.val (.ref a1), .val (.int p2), .val (.int p3), .val (.int p4)] [(.int p3), (.int p2)])) _
        refine XS.icmpNo X0.here hx rfl (hb hby d8_2) rfl (flt (h1 : ¬ (p2 < p3))).1 ?_
        show Steps p.tables e below (s₁.setTop (mkF m 5 #[.val (.ref a1), .val (.int p2), .val (.int p3), .val (.int p4)] [])) _
        refine XS.iloadN X0.here hx rfl (hb hby d8_5) rfl ?_
        show Steps p.tables e below (s₁.setTop (mkF m 6 #[.val (.ref a1), .val (.int p2), .val (.int p3), .val (.int p4)] [(.int p2)])) _
        refine XS.iloadN X0.here hx rfl (hb hby d8_6) rfl ?_
        show Steps p.tables e below (s₁.setTop (mkF m 7 #[.val (.ref a1), .val (.int p2), .val (.int p3), .val (.int p4)] [(.int p4), (.int p2)])) _
        refine XS.icmpYes X0.here hx rfl (pc0 := 7) (pc' := 22) rfl (hb hby d8_7) rfl (flt (h2 : ¬ (p2 < p4))).2.1 (by decide) (by decide) ?_
        show Steps p.tables e below (s₁.setTop (mkF m 22 #[.val (.ref a1), .val (.int p2), .val (.int p3), .val (.int p4)] [])) _
        refine XS.iconst X0.here hx rfl (hb hby d8_22) ?_
        exact kt
      obtain ⟨fs, hrt, hrun, hended, hW, hsame⟩ := X0.leave (v := some (.int (0 : Int32))) (fun h => by rw [Bd.returns] at h; cases h)
      refine ⟨_, _, pre0 _ (fl16 _ ?_), hrun, hended, _, _, rfl, ?_, ⟨_, rfl⟩, hW, hsame.mono (by decide) (by decide)⟩
      · exact retI X0 hx Bd.returns (hb hby d8_23) hrt
      · show Q8 _ _ _ _ _ _ _ _ _ _ _ s₁.heap _
        rw [e0]
        exact ⟨rfl, N0, rfl⟩
theorem ef_7 (m : MethodId) (x0 : Addr) (x1 : Int32) (x2 : Int32) : entryFrame m #[(.ref x0), (.int x1), (.int x2)] 3 = mkF m 0 #[.val (.ref x0), .val (.int x1), .val (.int x2)] [] := by first | (simp [entryFrame, mkF, argsToLocals, Value.category]; done) | rfl
def Q7 (Z : State) (a1 : Addr) (p2 : Int32) (p3 : Int32) (kb : ClassId) (f : Int32 → Int32) (r : Int32) (h0 : Heap) (n0 : Nat) (v : Option Value) (h : Heap) (L : List Loc) : Prop := v = some (.int r) ∧ Fr n0 L ∧ h = h0
set_option maxRecDepth 65536 in
set_option maxHeartbeats 40000000 in
theorem rm7 (l : Launch) (Z : State) (a0 : Array Value) (hw : ∀ d ∈ tables_1, d.before a0 Z = true) (ws : List Jvm.Cond) (a1 : Addr) (p2 : Int32) (p3 : Int32) (kb : ClassId) (f : Int32 → Int32) (r : Int32) (h0 : Heap) (n0 : Nat) (Z0 : n0 ≤ h0.size) (BA : own_BA Z h0 a1 kb f) (hr : r = own_cnt f p2 p3) :
    MetFree l (⟨"com/example/concept_ledger/conceptledger/model/RowViewSetPinLaw", "count", "([BII)I"⟩ : MethodName) (head1 (Jvm.Cond.code (⟨"com/example/concept_ledger/conceptledger/model/RowViewSetPinLaw", "count", "([BII)I"⟩ : MethodName) method_5_code 3 (some .int) :: ws) ({ frames := 1, cells := 0, slots := 0, locals := 16 } : Room)) (fun a U => a = #[(.ref a1), (.int p2), (.int p3)] ∧ Z.Warmed39 U.vm ∧ U.heap = h0) (fun _ _ _ _ _ => True) (fun _ U o U' => ∃ v L, o = .returned v ∧ Q7 Z a1 p2 p3 kb f r h0 n0 v U'.heap L ∧ FrameEnd U o U' L ({ frames := 1, cells := 0, slots := 0, locals := 16 } : Room).cells ({ frames := 1, cells := 0, slots := 0, locals := 16 } : Room).slots) := by
  refine MetFree.of_bodySF (plainFor_of_name pn_0) hisR ?_
  intro p e s m args below meth c s₁ Bd hml0 hP hK
  obtain ⟨rfl, hZ, hh⟩ := hP
  have hx := Bd.exec
  have hby := Bd.bytes
  have hml : c.maxLocals = 3 := hml0
  have hown : s.vm.findClass "com/example/concept_ledger/conceptledger/model/RowViewSetPinLaw" = some m.cls := findClass_of_methodNamed Bd.named
  have hnm := (name_of_methodNamed Bd.named Bd.method).1
  have X0 : Stand p l e ({ frames := 1, cells := 0, slots := 0, locals := 16 } : Room) s m #[(.ref a1), (.int p2), (.int p3)] below meth c s₁ [] 0 0 := Stand.of_body Bd
  have e0 : s₁.heap = h0 := by rw [← hh, Bd.state]; rfl
  have N0 := Fr.nil n0
  have pre0 : ∀ t, Steps p.tables e below (s₁.setTop (mkF m 0 #[.val (.ref a1), .val (.int p2), .val (.int p3)] [])) t → Steps p.tables e below (s₁.setTop (entryFrame m #[(.ref a1), (.int p2), (.int p3)] 3)) t := fun t k => castTop (ef_7 m a1 p2 p3) k
  obtain ⟨_, _, ⟨T17, L17, k17, n17⟩, -, X17, ⟨Lc17, hQ17, l17, y17, z17⟩, st17⟩ := Jvm.LawKit.callS X0 hx (y := (⟨"com/example/concept_ledger/conceptledger/model/RowViewSetPinLaw", "bar", "([BIII)I"⟩ : MethodName)) hown (mvT hZ (hw _ (List.mem_of_getElem? (i := 47) rfl))) (mvT hZ (hw _ (List.mem_of_getElem? (i := 48) rfl))) (mvT hZ (hw _ (List.mem_of_getElem? (i := 2) rfl))) (mvT hZ (hw _ (List.mem_of_getElem? (i := 49) rfl))) (by decide) (backOf (W := 0) (rm8 l Z a0 hw [] a1 (0 : Int32) p2 p3 kb f (own_sb f p2 p3 (0 : Int32)) h0 n0 Z0 BA ⟨by decide, by decide⟩ rfl) hZ (hw _ (List.mem_of_getElem? (i := 49) rfl)) (hw _ (List.mem_of_getElem? (i := 2) rfl)) (by decide) (by decide)) (g := (mkF m 4 #[.val (.ref a1), .val (.int p2), .val (.int p3)] [(.int p3), (.int p2), (.int (0 : Int32)), (.ref a1)])) rfl (by rw [hml]; rfl) (argsL := [(.ref a1), (.int (0 : Int32)), (.int p2), (.int p3)]) (rest := []) (lenOf pd_1 rfl) rfl (by show 2 * 0 + _ ≤ _; exact Nat.le_of_eq rfl) (hb hby d7_4) (fun _ _ => ⟨rfl, e0, (by decide : 0 + 0 ≤ _), (by decide : 0 + 0 ≤ _)⟩)
  dsimp only [Pt.U, Pt.locs, Pt.cells, Pt.slots] at X17 l17 y17 z17 st17 hQ17
  subst l17 y17 z17
  obtain ⟨rfl, N17q, he17⟩ := hQ17
  have N17 := Fr.app N0 N17q
  have Kc17 : Keep h0 T17.heap [] := by rw [he17]; exact Keep.refl _ _
  have BA_17 := BA.keep Kc17 nin0
  have K17 : Keep h0 T17.heap [] := (Keep.refl h0 []).trans Kc17 all0
  have z17z : n0 ≤ T17.heap.size := Nat.le_trans Z0 Kc17.1
  obtain ⟨_, _, ⟨T18, L18, k18, n18⟩, -, X18, ⟨Lc18, hQ18, l18, y18, z18⟩, st18⟩ := Jvm.LawKit.callS X17 hx (y := (⟨"com/example/concept_ledger/conceptledger/model/RowViewSetPinLaw", "bar", "([BIII)I"⟩ : MethodName)) hown (mvT hZ (hw _ (List.mem_of_getElem? (i := 47) rfl))) (mvT hZ (hw _ (List.mem_of_getElem? (i := 48) rfl))) (mvT hZ (hw _ (List.mem_of_getElem? (i := 2) rfl))) (mvT hZ (hw _ (List.mem_of_getElem? (i := 49) rfl))) (by decide) (backOf (W := 1) (rm8 l Z a0 hw [] a1 (1 : Int32) p2 p3 kb f (own_sb f p2 p3 (1 : Int32)) T17.heap n0 z17z BA_17 ⟨by decide, by decide⟩ rfl) hZ (hw _ (List.mem_of_getElem? (i := 49) rfl)) (hw _ (List.mem_of_getElem? (i := 2) rfl)) (by decide) (by decide)) (g := (mkF m 11 #[.val (.ref a1), .val (.int p2), .val (.int p3)] [(.int p3), (.int p2), (.int (1 : Int32)), (.ref a1), (.int (own_sb f p2 p3 (0 : Int32)))])) rfl (by rw [hml]; rfl) (argsL := [(.ref a1), (.int (1 : Int32)), (.int p2), (.int p3)]) (rest := [(.int (own_sb f p2 p3 (0 : Int32)))]) (lenOf pd_1 rfl) rfl (by show 2 * 0 + _ ≤ _; exact Nat.le_of_eq rfl) (hb hby d7_11) (fun _ _ => ⟨rfl, rfl, (by decide : 0 + 0 ≤ _), (by decide : 0 + 0 ≤ _)⟩)
  dsimp only [Pt.U, Pt.locs, Pt.cells, Pt.slots] at X18 l18 y18 z18 st18 hQ18
  subst l18 y18 z18
  obtain ⟨rfl, N18q, he18⟩ := hQ18
  have N18 := Fr.app N17 N18q
  have Kc18 : Keep T17.heap T18.heap [] := by rw [he18]; exact Keep.refl _ _
  have BA_18 := BA_17.keep Kc18 nin0
  have K18 : Keep h0 T18.heap [] := K17.trans Kc18 all0
  have z18z : n0 ≤ T18.heap.size := Nat.le_trans z17z Kc18.1
  obtain ⟨_, _, ⟨T19, L19, k19, n19⟩, -, X19, ⟨Lc19, hQ19, l19, y19, z19⟩, st19⟩ := Jvm.LawKit.callS X18 hx (y := (⟨"com/example/concept_ledger/conceptledger/model/RowViewSetPinLaw", "bar", "([BIII)I"⟩ : MethodName)) hown (mvT hZ (hw _ (List.mem_of_getElem? (i := 47) rfl))) (mvT hZ (hw _ (List.mem_of_getElem? (i := 48) rfl))) (mvT hZ (hw _ (List.mem_of_getElem? (i := 2) rfl))) (mvT hZ (hw _ (List.mem_of_getElem? (i := 49) rfl))) (by decide) (backOf (W := 1) (rm8 l Z a0 hw [] a1 (2 : Int32) p2 p3 kb f (own_sb f p2 p3 (2 : Int32)) T18.heap n0 z18z BA_18 ⟨by decide, by decide⟩ rfl) hZ (hw _ (List.mem_of_getElem? (i := 49) rfl)) (hw _ (List.mem_of_getElem? (i := 2) rfl)) (by decide) (by decide)) (g := (mkF m 19 #[.val (.ref a1), .val (.int p2), .val (.int p3)] [(.int p3), (.int p2), (.int (2 : Int32)), (.ref a1), (.int ((own_sb f p2 p3 (0 : Int32)) + (own_sb f p2 p3 (1 : Int32))))])) rfl (by rw [hml]; rfl) (argsL := [(.ref a1), (.int (2 : Int32)), (.int p2), (.int p3)]) (rest := [(.int ((own_sb f p2 p3 (0 : Int32)) + (own_sb f p2 p3 (1 : Int32))))]) (lenOf pd_1 rfl) rfl (by show 2 * 0 + _ ≤ _; exact Nat.le_of_eq rfl) (hb hby d7_19) (fun _ _ => ⟨rfl, rfl, (by decide : 0 + 0 ≤ _), (by decide : 0 + 0 ≤ _)⟩)
  dsimp only [Pt.U, Pt.locs, Pt.cells, Pt.slots] at X19 l19 y19 z19 st19 hQ19
  subst l19 y19 z19
  obtain ⟨rfl, N19q, he19⟩ := hQ19
  have N19 := Fr.app N18 N19q
  have Kc19 : Keep T18.heap T19.heap [] := by rw [he19]; exact Keep.refl _ _
  have BA_19 := BA_18.keep Kc19 nin0
  have K19 : Keep h0 T19.heap [] := K18.trans Kc19 all0
  have z19z : n0 ≤ T19.heap.size := Nat.le_trans z18z Kc19.1
  obtain ⟨_, _, ⟨T20, L20, k20, n20⟩, -, X20, ⟨Lc20, hQ20, l20, y20, z20⟩, st20⟩ := Jvm.LawKit.callS X19 hx (y := (⟨"com/example/concept_ledger/conceptledger/model/RowViewSetPinLaw", "bar", "([BIII)I"⟩ : MethodName)) hown (mvT hZ (hw _ (List.mem_of_getElem? (i := 47) rfl))) (mvT hZ (hw _ (List.mem_of_getElem? (i := 48) rfl))) (mvT hZ (hw _ (List.mem_of_getElem? (i := 2) rfl))) (mvT hZ (hw _ (List.mem_of_getElem? (i := 49) rfl))) (by decide) (backOf (W := 1) (rm8 l Z a0 hw [] a1 (3 : Int32) p2 p3 kb f (own_sb f p2 p3 (3 : Int32)) T19.heap n0 z19z BA_19 ⟨by decide, by decide⟩ rfl) hZ (hw _ (List.mem_of_getElem? (i := 49) rfl)) (hw _ (List.mem_of_getElem? (i := 2) rfl)) (by decide) (by decide)) (g := (mkF m 27 #[.val (.ref a1), .val (.int p2), .val (.int p3)] [(.int p3), (.int p2), (.int (3 : Int32)), (.ref a1), (.int (((own_sb f p2 p3 (0 : Int32)) + (own_sb f p2 p3 (1 : Int32))) + (own_sb f p2 p3 (2 : Int32))))])) rfl (by rw [hml]; rfl) (argsL := [(.ref a1), (.int (3 : Int32)), (.int p2), (.int p3)]) (rest := [(.int (((own_sb f p2 p3 (0 : Int32)) + (own_sb f p2 p3 (1 : Int32))) + (own_sb f p2 p3 (2 : Int32))))]) (lenOf pd_1 rfl) rfl (by show 2 * 0 + _ ≤ _; exact Nat.le_of_eq rfl) (hb hby d7_27) (fun _ _ => ⟨rfl, rfl, (by decide : 0 + 0 ≤ _), (by decide : 0 + 0 ≤ _)⟩)
  dsimp only [Pt.U, Pt.locs, Pt.cells, Pt.slots] at X20 l20 y20 z20 st20 hQ20
  subst l20 y20 z20
  obtain ⟨rfl, N20q, he20⟩ := hQ20
  have N20 := Fr.app N19 N20q
  have Kc20 : Keep T19.heap T20.heap [] := by rw [he20]; exact Keep.refl _ _
  have BA_20 := BA_19.keep Kc20 nin0
  have K20 : Keep h0 T20.heap [] := K19.trans Kc20 all0
  have z20z : n0 ≤ T20.heap.size := Nat.le_trans z19z Kc20.1
  have fl21 : ∀ target, Steps p.tables e below (T20.setTop (mkF m 31 #[.val (.ref a1), .val (.int p2), .val (.int p3)] [(.int ((((own_sb f p2 p3 (0 : Int32)) + (own_sb f p2 p3 (1 : Int32))) + (own_sb f p2 p3 (2 : Int32))) + (own_sb f p2 p3 (3 : Int32))))])) target → Steps p.tables e below (s₁.setTop (mkF m 0 #[.val (.ref a1), .val (.int p2), .val (.int p3)] [])) target := fun target kt => by
    show Steps p.tables e below (s₁.setTop (mkF m 0 #[.val (.ref a1), .val (.int p2), .val (.int p3)] [])) _
    refine XS.aloadN X0.here hx rfl (hb hby d7_0) rfl rfl ?_
    show Steps p.tables e below (s₁.setTop (mkF m 1 #[.val (.ref a1), .val (.int p2), .val (.int p3)] [(.ref a1)])) _
    refine XS.iconst X0.here hx rfl (hb hby d7_1) ?_
    show Steps p.tables e below (s₁.setTop (mkF m 2 #[.val (.ref a1), .val (.int p2), .val (.int p3)] [(.int (0 : Int32)), (.ref a1)])) _
    refine XS.iloadN X0.here hx rfl (hb hby d7_2) rfl ?_
    show Steps p.tables e below (s₁.setTop (mkF m 3 #[.val (.ref a1), .val (.int p2), .val (.int p3)] [(.int p2), (.int (0 : Int32)), (.ref a1)])) _
    refine XS.iloadN X0.here hx rfl (hb hby d7_3) rfl ?_
    show Steps p.tables e below (s₁.setTop (mkF m 4 #[.val (.ref a1), .val (.int p2), .val (.int p3)] [(.int p3), (.int p2), (.int (0 : Int32)), (.ref a1)])) _
    refine st17 _ ?_
    show Steps p.tables e below (T17.setTop (mkF m 7 #[.val (.ref a1), .val (.int p2), .val (.int p3)] [(.int (own_sb f p2 p3 (0 : Int32)))])) _
    refine XS.aloadN X17.here hx rfl (hb hby d7_7) rfl rfl ?_
    show Steps p.tables e below (T17.setTop (mkF m 8 #[.val (.ref a1), .val (.int p2), .val (.int p3)] [(.ref a1), (.int (own_sb f p2 p3 (0 : Int32)))])) _
    refine XS.iconst X17.here hx rfl (hb hby d7_8) ?_
    show Steps p.tables e below (T17.setTop (mkF m 9 #[.val (.ref a1), .val (.int p2), .val (.int p3)] [(.int (1 : Int32)), (.ref a1), (.int (own_sb f p2 p3 (0 : Int32)))])) _
    refine XS.iloadN X17.here hx rfl (hb hby d7_9) rfl ?_
    show Steps p.tables e below (T17.setTop (mkF m 10 #[.val (.ref a1), .val (.int p2), .val (.int p3)] [(.int p2), (.int (1 : Int32)), (.ref a1), (.int (own_sb f p2 p3 (0 : Int32)))])) _
    refine XS.iloadN X17.here hx rfl (hb hby d7_10) rfl ?_
    show Steps p.tables e below (T17.setTop (mkF m 11 #[.val (.ref a1), .val (.int p2), .val (.int p3)] [(.int p3), (.int p2), (.int (1 : Int32)), (.ref a1), (.int (own_sb f p2 p3 (0 : Int32)))])) _
    refine st18 _ ?_
    show Steps p.tables e below (T18.setTop (mkF m 14 #[.val (.ref a1), .val (.int p2), .val (.int p3)] [(.int (own_sb f p2 p3 (1 : Int32))), (.int (own_sb f p2 p3 (0 : Int32)))])) _
    refine XS.iadd X18.here hx rfl (hb hby d7_14) rfl ?_
    show Steps p.tables e below (T18.setTop (mkF m 15 #[.val (.ref a1), .val (.int p2), .val (.int p3)] [(.int ((own_sb f p2 p3 (0 : Int32)) + (own_sb f p2 p3 (1 : Int32))))])) _
    refine XS.aloadN X18.here hx rfl (hb hby d7_15) rfl rfl ?_
    show Steps p.tables e below (T18.setTop (mkF m 16 #[.val (.ref a1), .val (.int p2), .val (.int p3)] [(.ref a1), (.int ((own_sb f p2 p3 (0 : Int32)) + (own_sb f p2 p3 (1 : Int32))))])) _
    refine XS.iconst X18.here hx rfl (hb hby d7_16) ?_
    show Steps p.tables e below (T18.setTop (mkF m 17 #[.val (.ref a1), .val (.int p2), .val (.int p3)] [(.int (2 : Int32)), (.ref a1), (.int ((own_sb f p2 p3 (0 : Int32)) + (own_sb f p2 p3 (1 : Int32))))])) _
    refine XS.iloadN X18.here hx rfl (hb hby d7_17) rfl ?_
    show Steps p.tables e below (T18.setTop (mkF m 18 #[.val (.ref a1), .val (.int p2), .val (.int p3)] [(.int p2), (.int (2 : Int32)), (.ref a1), (.int ((own_sb f p2 p3 (0 : Int32)) + (own_sb f p2 p3 (1 : Int32))))])) _
    refine XS.iloadN X18.here hx rfl (hb hby d7_18) rfl ?_
    show Steps p.tables e below (T18.setTop (mkF m 19 #[.val (.ref a1), .val (.int p2), .val (.int p3)] [(.int p3), (.int p2), (.int (2 : Int32)), (.ref a1), (.int ((own_sb f p2 p3 (0 : Int32)) + (own_sb f p2 p3 (1 : Int32))))])) _
    refine st19 _ ?_
    show Steps p.tables e below (T19.setTop (mkF m 22 #[.val (.ref a1), .val (.int p2), .val (.int p3)] [(.int (own_sb f p2 p3 (2 : Int32))), (.int ((own_sb f p2 p3 (0 : Int32)) + (own_sb f p2 p3 (1 : Int32))))])) _
    refine XS.iadd X19.here hx rfl (hb hby d7_22) rfl ?_
    show Steps p.tables e below (T19.setTop (mkF m 23 #[.val (.ref a1), .val (.int p2), .val (.int p3)] [(.int (((own_sb f p2 p3 (0 : Int32)) + (own_sb f p2 p3 (1 : Int32))) + (own_sb f p2 p3 (2 : Int32))))])) _
    refine XS.aloadN X19.here hx rfl (hb hby d7_23) rfl rfl ?_
    show Steps p.tables e below (T19.setTop (mkF m 24 #[.val (.ref a1), .val (.int p2), .val (.int p3)] [(.ref a1), (.int (((own_sb f p2 p3 (0 : Int32)) + (own_sb f p2 p3 (1 : Int32))) + (own_sb f p2 p3 (2 : Int32))))])) _
    refine XS.iconst X19.here hx rfl (hb hby d7_24) ?_
    show Steps p.tables e below (T19.setTop (mkF m 25 #[.val (.ref a1), .val (.int p2), .val (.int p3)] [(.int (3 : Int32)), (.ref a1), (.int (((own_sb f p2 p3 (0 : Int32)) + (own_sb f p2 p3 (1 : Int32))) + (own_sb f p2 p3 (2 : Int32))))])) _
    refine XS.iloadN X19.here hx rfl (hb hby d7_25) rfl ?_
    show Steps p.tables e below (T19.setTop (mkF m 26 #[.val (.ref a1), .val (.int p2), .val (.int p3)] [(.int p2), (.int (3 : Int32)), (.ref a1), (.int (((own_sb f p2 p3 (0 : Int32)) + (own_sb f p2 p3 (1 : Int32))) + (own_sb f p2 p3 (2 : Int32))))])) _
    refine XS.iloadN X19.here hx rfl (hb hby d7_26) rfl ?_
    show Steps p.tables e below (T19.setTop (mkF m 27 #[.val (.ref a1), .val (.int p2), .val (.int p3)] [(.int p3), (.int p2), (.int (3 : Int32)), (.ref a1), (.int (((own_sb f p2 p3 (0 : Int32)) + (own_sb f p2 p3 (1 : Int32))) + (own_sb f p2 p3 (2 : Int32))))])) _
    refine st20 _ ?_
    show Steps p.tables e below (T20.setTop (mkF m 30 #[.val (.ref a1), .val (.int p2), .val (.int p3)] [(.int (own_sb f p2 p3 (3 : Int32))), (.int (((own_sb f p2 p3 (0 : Int32)) + (own_sb f p2 p3 (1 : Int32))) + (own_sb f p2 p3 (2 : Int32))))])) _
    refine XS.iadd X20.here hx rfl (hb hby d7_30) rfl ?_
    exact kt
  obtain ⟨fs, hrt, hrun, hended, hW, hsame⟩ := X20.leave (v := some (.int ((((own_sb f p2 p3 (0 : Int32)) + (own_sb f p2 p3 (1 : Int32))) + (own_sb f p2 p3 (2 : Int32))) + (own_sb f p2 p3 (3 : Int32))))) (fun h => by rw [Bd.returns] at h; cases h)
  refine ⟨_, _, pre0 _ (fl21 _ ?_), hrun, hended, _, _, rfl, ?_, ⟨_, rfl⟩, hW, hsame.mono (by decide) (by decide)⟩
  · exact retI X20 hx Bd.returns (hb hby d7_31) hrt
  · show Q7 _ _ _ _ _ _ _ _ _ _ T20.heap _
    exact ⟨by rw [hr], N20, he20.trans (he19.trans (he18.trans (he17)))⟩
theorem ef_19 (m : MethodId) (x0 : Addr) (x1 : Int32) (x2 : Int32) : entryFrame m #[(.ref x0), (.int x1), (.int x2)] 3 = mkF m 0 #[.val (.ref x0), .val (.int x1), .val (.int x2)] [] := by first | (simp [entryFrame, mkF, argsToLocals, Value.category]; done) | rfl
def Q19 (Z : State) (a1 : Addr) (p2 : Int32) (p3 : Int32) (kb : ClassId) (f : Int32 → Int32) (r : Int32) (h0 : Heap) (n0 : Nat) (v : Option Value) (h : Heap) (L : List Loc) : Prop := v = some (.int r) ∧ Fr n0 L ∧ h = h0
set_option maxRecDepth 65536 in
set_option maxHeartbeats 40000000 in
theorem rm19 (l : Launch) (Z : State) (a0 : Array Value) (hw : ∀ d ∈ tables_1, d.before a0 Z = true) (ws : List Jvm.Cond) (a1 : Addr) (p2 : Int32) (p3 : Int32) (kb : ClassId) (f : Int32 → Int32) (r : Int32) (h0 : Heap) (n0 : Nat) (Z0 : n0 ≤ h0.size) (BA : own_BA Z h0 a1 kb f) (hr : r = own_fst f p2 p3) :
    MetFree l (⟨"com/example/concept_ledger/conceptledger/model/RowViewSetPinLaw", "firstBar", "([BII)I"⟩ : MethodName) (head1 (Jvm.Cond.code (⟨"com/example/concept_ledger/conceptledger/model/RowViewSetPinLaw", "firstBar", "([BII)I"⟩ : MethodName) method_6_code 3 (some .int) :: ws) ({ frames := 1, cells := 0, slots := 0, locals := 15 } : Room)) (fun a U => a = #[(.ref a1), (.int p2), (.int p3)] ∧ Z.Warmed39 U.vm ∧ U.heap = h0) (fun _ _ _ _ _ => True) (fun _ U o U' => ∃ v L, o = .returned v ∧ Q19 Z a1 p2 p3 kb f r h0 n0 v U'.heap L ∧ FrameEnd U o U' L ({ frames := 1, cells := 0, slots := 0, locals := 15 } : Room).cells ({ frames := 1, cells := 0, slots := 0, locals := 15 } : Room).slots) := by
  refine MetFree.of_bodySF (plainFor_of_name pn_0) hisR ?_
  intro p e s m args below meth c s₁ Bd hml0 hP hK
  obtain ⟨rfl, hZ, hh⟩ := hP
  have hx := Bd.exec
  have hby := Bd.bytes
  have hml : c.maxLocals = 3 := hml0
  have hown : s.vm.findClass "com/example/concept_ledger/conceptledger/model/RowViewSetPinLaw" = some m.cls := findClass_of_methodNamed Bd.named
  have hnm := (name_of_methodNamed Bd.named Bd.method).1
  have X0 : Stand p l e ({ frames := 1, cells := 0, slots := 0, locals := 15 } : Room) s m #[(.ref a1), (.int p2), (.int p3)] below meth c s₁ [] 0 0 := Stand.of_body Bd
  have e0 : s₁.heap = h0 := by rw [← hh, Bd.state]; rfl
  have N0 := Fr.nil n0
  have pre0 : ∀ t, Steps p.tables e below (s₁.setTop (mkF m 0 #[.val (.ref a1), .val (.int p2), .val (.int p3)] [])) t → Steps p.tables e below (s₁.setTop (entryFrame m #[(.ref a1), (.int p2), (.int p3)] 3)) t := fun t k => castTop (ef_19 m a1 p2 p3) k
  obtain ⟨_, _, ⟨T22, L22, k22, n22⟩, -, X22, ⟨Lc22, hQ22, l22, y22, z22⟩, st22⟩ := Jvm.LawKit.callS X0 hx (y := (⟨"com/example/concept_ledger/conceptledger/model/RowViewSetPinLaw", "bar", "([BIII)I"⟩ : MethodName)) hown (mvT hZ (hw _ (List.mem_of_getElem? (i := 47) rfl))) (mvT hZ (hw _ (List.mem_of_getElem? (i := 48) rfl))) (mvT hZ (hw _ (List.mem_of_getElem? (i := 2) rfl))) (mvT hZ (hw _ (List.mem_of_getElem? (i := 49) rfl))) (by decide) (backOf (W := 0) (rm8 l Z a0 hw [] a1 (0 : Int32) p2 p3 kb f (own_sb f p2 p3 (0 : Int32)) h0 n0 Z0 BA ⟨by decide, by decide⟩ rfl) hZ (hw _ (List.mem_of_getElem? (i := 49) rfl)) (hw _ (List.mem_of_getElem? (i := 2) rfl)) (by decide) (by decide)) (g := (mkF m 4 #[.val (.ref a1), .val (.int p2), .val (.int p3)] [(.int p3), (.int p2), (.int (0 : Int32)), (.ref a1)])) rfl (by rw [hml]; rfl) (argsL := [(.ref a1), (.int (0 : Int32)), (.int p2), (.int p3)]) (rest := []) (lenOf pd_1 rfl) rfl (by show 2 * 0 + _ ≤ _; exact Nat.le_of_eq rfl) (hb hby d19_4) (fun _ _ => ⟨rfl, e0, (by decide : 0 + 0 ≤ _), (by decide : 0 + 0 ≤ _)⟩)
  dsimp only [Pt.U, Pt.locs, Pt.cells, Pt.slots] at X22 l22 y22 z22 st22 hQ22
  subst l22 y22 z22
  obtain ⟨rfl, N22q, he22⟩ := hQ22
  have N22 := Fr.app N0 N22q
  have Kc22 : Keep h0 T22.heap [] := by rw [he22]; exact Keep.refl _ _
  have BA_22 := BA.keep Kc22 nin0
  have K22 : Keep h0 T22.heap [] := (Keep.refl h0 []).trans Kc22 all0
  have z22z : n0 ≤ T22.heap.size := Nat.le_trans Z0 Kc22.1
  by_cases y0 : own_sb f p2 p3 (0 : Int32) = (1 : Int32)
  · obtain rfl : r = 0 := by rw [hr]; unfold own_fst; rw [if_pos y0]
    have fl23 : ∀ target, Steps p.tables e below (T22.setTop (mkF m 12 #[.val (.ref a1), .val (.int p2), .val (.int p3)] [(.int (0 : Int32))])) target → Steps p.tables e below (s₁.setTop (mkF m 0 #[.val (.ref a1), .val (.int p2), .val (.int p3)] [])) target := fun target kt => by
      show Steps p.tables e below (s₁.setTop (mkF m 0 #[.val (.ref a1), .val (.int p2), .val (.int p3)] [])) _
      refine XS.aloadN X0.here hx rfl (hb hby d19_0) rfl rfl ?_
      show Steps p.tables e below (s₁.setTop (mkF m 1 #[.val (.ref a1), .val (.int p2), .val (.int p3)] [(.ref a1)])) _
      refine XS.iconst X0.here hx rfl (hb hby d19_1) ?_
      show Steps p.tables e below (s₁.setTop (mkF m 2 #[.val (.ref a1), .val (.int p2), .val (.int p3)] [(.int (0 : Int32)), (.ref a1)])) _
      refine XS.iloadN X0.here hx rfl (hb hby d19_2) rfl ?_
      show Steps p.tables e below (s₁.setTop (mkF m 3 #[.val (.ref a1), .val (.int p2), .val (.int p3)] [(.int p2), (.int (0 : Int32)), (.ref a1)])) _
      refine XS.iloadN X0.here hx rfl (hb hby d19_3) rfl ?_
      show Steps p.tables e below (s₁.setTop (mkF m 4 #[.val (.ref a1), .val (.int p2), .val (.int p3)] [(.int p3), (.int p2), (.int (0 : Int32)), (.ref a1)])) _
      refine st22 _ ?_
      show Steps p.tables e below (T22.setTop (mkF m 7 #[.val (.ref a1), .val (.int p2), .val (.int p3)] [(.int (own_sb f p2 p3 (0 : Int32)))])) _
      refine XS.iconst X22.here hx rfl (hb hby d19_7) ?_
      show Steps p.tables e below (T22.setTop (mkF m 8 #[.val (.ref a1), .val (.int p2), .val (.int p3)] [(.int (1 : Int32)), (.int (own_sb f p2 p3 (0 : Int32)))])) _
      refine XS.icmpNo X22.here hx rfl (hb hby d19_8) rfl (teq (y0 : (own_sb f p2 p3 (0 : Int32)) = (1 : Int32))).2 ?_
      show Steps p.tables e below (T22.setTop (mkF m 11 #[.val (.ref a1), .val (.int p2), .val (.int p3)] [])) _
      refine XS.iconst X22.here hx rfl (hb hby d19_11) ?_
      exact kt
    obtain ⟨fs, hrt, hrun, hended, hW, hsame⟩ := X22.leave (v := some (.int (0 : Int32))) (fun h => by rw [Bd.returns] at h; cases h)
    refine ⟨_, _, pre0 _ (fl23 _ ?_), hrun, hended, _, _, rfl, ?_, ⟨_, rfl⟩, hW, hsame.mono (by decide) (by decide)⟩
    · exact retI X22 hx Bd.returns (hb hby d19_12) hrt
    · show Q19 _ _ _ _ _ _ _ _ _ _ T22.heap _
      exact ⟨rfl, N22, he22⟩
  · obtain ⟨_, _, ⟨T24, L24, k24, n24⟩, -, X24, ⟨Lc24, hQ24, l24, y24, z24⟩, st24⟩ := Jvm.LawKit.callS X22 hx (y := (⟨"com/example/concept_ledger/conceptledger/model/RowViewSetPinLaw", "bar", "([BIII)I"⟩ : MethodName)) hown (mvT hZ (hw _ (List.mem_of_getElem? (i := 47) rfl))) (mvT hZ (hw _ (List.mem_of_getElem? (i := 48) rfl))) (mvT hZ (hw _ (List.mem_of_getElem? (i := 2) rfl))) (mvT hZ (hw _ (List.mem_of_getElem? (i := 49) rfl))) (by decide) (backOf (W := 0) (rm8 l Z a0 hw [] a1 (1 : Int32) p2 p3 kb f (own_sb f p2 p3 (1 : Int32)) T22.heap n0 z22z BA_22 ⟨by decide, by decide⟩ rfl) hZ (hw _ (List.mem_of_getElem? (i := 49) rfl)) (hw _ (List.mem_of_getElem? (i := 2) rfl)) (by decide) (by decide)) (g := (mkF m 17 #[.val (.ref a1), .val (.int p2), .val (.int p3)] [(.int p3), (.int p2), (.int (1 : Int32)), (.ref a1)])) rfl (by rw [hml]; rfl) (argsL := [(.ref a1), (.int (1 : Int32)), (.int p2), (.int p3)]) (rest := []) (lenOf pd_1 rfl) rfl (by show 2 * 0 + _ ≤ _; exact Nat.le_of_eq rfl) (hb hby d19_17) (fun _ _ => ⟨rfl, rfl, (by decide : 0 + 0 ≤ _), (by decide : 0 + 0 ≤ _)⟩)
    dsimp only [Pt.U, Pt.locs, Pt.cells, Pt.slots] at X24 l24 y24 z24 st24 hQ24
    subst l24 y24 z24
    obtain ⟨rfl, N24q, he24⟩ := hQ24
    have N24 := Fr.app N22 N24q
    have Kc24 : Keep T22.heap T24.heap [] := by rw [he24]; exact Keep.refl _ _
    have BA_24 := BA_22.keep Kc24 nin0
    have K24 : Keep h0 T24.heap [] := K22.trans Kc24 all0
    have z24z : n0 ≤ T24.heap.size := Nat.le_trans z22z Kc24.1
    by_cases y1 : own_sb f p2 p3 (1 : Int32) = (1 : Int32)
    · obtain rfl : r = 1 := by rw [hr]; unfold own_fst; rw [if_neg y0, if_pos y1]
      have fl25 : ∀ target, Steps p.tables e below (T24.setTop (mkF m 25 #[.val (.ref a1), .val (.int p2), .val (.int p3)] [(.int (1 : Int32))])) target → Steps p.tables e below (s₁.setTop (mkF m 0 #[.val (.ref a1), .val (.int p2), .val (.int p3)] [])) target := fun target kt => by
        show Steps p.tables e below (s₁.setTop (mkF m 0 #[.val (.ref a1), .val (.int p2), .val (.int p3)] [])) _
        refine XS.aloadN X0.here hx rfl (hb hby d19_0) rfl rfl ?_
        show Steps p.tables e below (s₁.setTop (mkF m 1 #[.val (.ref a1), .val (.int p2), .val (.int p3)] [(.ref a1)])) _
        refine XS.iconst X0.here hx rfl (hb hby d19_1) ?_
        show Steps p.tables e below (s₁.setTop (mkF m 2 #[.val (.ref a1), .val (.int p2), .val (.int p3)] [(.int (0 : Int32)), (.ref a1)])) _
        refine XS.iloadN X0.here hx rfl (hb hby d19_2) rfl ?_
        show Steps p.tables e below (s₁.setTop (mkF m 3 #[.val (.ref a1), .val (.int p2), .val (.int p3)] [(.int p2), (.int (0 : Int32)), (.ref a1)])) _
        refine XS.iloadN X0.here hx rfl (hb hby d19_3) rfl ?_
        show Steps p.tables e below (s₁.setTop (mkF m 4 #[.val (.ref a1), .val (.int p2), .val (.int p3)] [(.int p3), (.int p2), (.int (0 : Int32)), (.ref a1)])) _
        refine st22 _ ?_
        show Steps p.tables e below (T22.setTop (mkF m 7 #[.val (.ref a1), .val (.int p2), .val (.int p3)] [(.int (own_sb f p2 p3 (0 : Int32)))])) _
        refine XS.iconst X22.here hx rfl (hb hby d19_7) ?_
        show Steps p.tables e below (T22.setTop (mkF m 8 #[.val (.ref a1), .val (.int p2), .val (.int p3)] [(.int (1 : Int32)), (.int (own_sb f p2 p3 (0 : Int32)))])) _
        refine XS.icmpYes X22.here hx rfl (pc0 := 8) (pc' := 13) rfl (hb hby d19_8) rfl (feq (y0 : ¬ ((own_sb f p2 p3 (0 : Int32)) = (1 : Int32)))).2 (by decide) (by decide) ?_
        show Steps p.tables e below (T22.setTop (mkF m 13 #[.val (.ref a1), .val (.int p2), .val (.int p3)] [])) _
        refine XS.aloadN X22.here hx rfl (hb hby d19_13) rfl rfl ?_
        show Steps p.tables e below (T22.setTop (mkF m 14 #[.val (.ref a1), .val (.int p2), .val (.int p3)] [(.ref a1)])) _
        refine XS.iconst X22.here hx rfl (hb hby d19_14) ?_
        show Steps p.tables e below (T22.setTop (mkF m 15 #[.val (.ref a1), .val (.int p2), .val (.int p3)] [(.int (1 : Int32)), (.ref a1)])) _
        refine XS.iloadN X22.here hx rfl (hb hby d19_15) rfl ?_
        show Steps p.tables e below (T22.setTop (mkF m 16 #[.val (.ref a1), .val (.int p2), .val (.int p3)] [(.int p2), (.int (1 : Int32)), (.ref a1)])) _
        refine XS.iloadN X22.here hx rfl (hb hby d19_16) rfl ?_
        show Steps p.tables e below (T22.setTop (mkF m 17 #[.val (.ref a1), .val (.int p2), .val (.int p3)] [(.int p3), (.int p2), (.int (1 : Int32)), (.ref a1)])) _
        refine st24 _ ?_
        show Steps p.tables e below (T24.setTop (mkF m 20 #[.val (.ref a1), .val (.int p2), .val (.int p3)] [(.int (own_sb f p2 p3 (1 : Int32)))])) _
        refine XS.iconst X24.here hx rfl (hb hby d19_20) ?_
        show Steps p.tables e below (T24.setTop (mkF m 21 #[.val (.ref a1), .val (.int p2), .val (.int p3)] [(.int (1 : Int32)), (.int (own_sb f p2 p3 (1 : Int32)))])) _
        refine XS.icmpNo X24.here hx rfl (hb hby d19_21) rfl (teq (y1 : (own_sb f p2 p3 (1 : Int32)) = (1 : Int32))).2 ?_
        show Steps p.tables e below (T24.setTop (mkF m 24 #[.val (.ref a1), .val (.int p2), .val (.int p3)] [])) _
        refine XS.iconst X24.here hx rfl (hb hby d19_24) ?_
        exact kt
      obtain ⟨fs, hrt, hrun, hended, hW, hsame⟩ := X24.leave (v := some (.int (1 : Int32))) (fun h => by rw [Bd.returns] at h; cases h)
      refine ⟨_, _, pre0 _ (fl25 _ ?_), hrun, hended, _, _, rfl, ?_, ⟨_, rfl⟩, hW, hsame.mono (by decide) (by decide)⟩
      · exact retI X24 hx Bd.returns (hb hby d19_25) hrt
      · show Q19 _ _ _ _ _ _ _ _ _ _ T24.heap _
        exact ⟨rfl, N24, he24.trans (he22)⟩
    · obtain ⟨_, _, ⟨T26, L26, k26, n26⟩, -, X26, ⟨Lc26, hQ26, l26, y26, z26⟩, st26⟩ := Jvm.LawKit.callS X24 hx (y := (⟨"com/example/concept_ledger/conceptledger/model/RowViewSetPinLaw", "bar", "([BIII)I"⟩ : MethodName)) hown (mvT hZ (hw _ (List.mem_of_getElem? (i := 47) rfl))) (mvT hZ (hw _ (List.mem_of_getElem? (i := 48) rfl))) (mvT hZ (hw _ (List.mem_of_getElem? (i := 2) rfl))) (mvT hZ (hw _ (List.mem_of_getElem? (i := 49) rfl))) (by decide) (backOf (W := 0) (rm8 l Z a0 hw [] a1 (2 : Int32) p2 p3 kb f (own_sb f p2 p3 (2 : Int32)) T24.heap n0 z24z BA_24 ⟨by decide, by decide⟩ rfl) hZ (hw _ (List.mem_of_getElem? (i := 49) rfl)) (hw _ (List.mem_of_getElem? (i := 2) rfl)) (by decide) (by decide)) (g := (mkF m 30 #[.val (.ref a1), .val (.int p2), .val (.int p3)] [(.int p3), (.int p2), (.int (2 : Int32)), (.ref a1)])) rfl (by rw [hml]; rfl) (argsL := [(.ref a1), (.int (2 : Int32)), (.int p2), (.int p3)]) (rest := []) (lenOf pd_1 rfl) rfl (by show 2 * 0 + _ ≤ _; exact Nat.le_of_eq rfl) (hb hby d19_30) (fun _ _ => ⟨rfl, rfl, (by decide : 0 + 0 ≤ _), (by decide : 0 + 0 ≤ _)⟩)
      dsimp only [Pt.U, Pt.locs, Pt.cells, Pt.slots] at X26 l26 y26 z26 st26 hQ26
      subst l26 y26 z26
      obtain ⟨rfl, N26q, he26⟩ := hQ26
      have N26 := Fr.app N24 N26q
      have Kc26 : Keep T24.heap T26.heap [] := by rw [he26]; exact Keep.refl _ _
      have BA_26 := BA_24.keep Kc26 nin0
      have K26 : Keep h0 T26.heap [] := K24.trans Kc26 all0
      have z26z : n0 ≤ T26.heap.size := Nat.le_trans z24z Kc26.1
      by_cases y2 : own_sb f p2 p3 (2 : Int32) = (1 : Int32)
      · obtain rfl : r = 2 := by rw [hr]; unfold own_fst; rw [if_neg y0, if_neg y1, if_pos y2]
        have fl27 : ∀ target, Steps p.tables e below (T26.setTop (mkF m 38 #[.val (.ref a1), .val (.int p2), .val (.int p3)] [(.int (2 : Int32))])) target → Steps p.tables e below (s₁.setTop (mkF m 0 #[.val (.ref a1), .val (.int p2), .val (.int p3)] [])) target := fun target kt => by
          show Steps p.tables e below (s₁.setTop (mkF m 0 #[.val (.ref a1), .val (.int p2), .val (.int p3)] [])) _
          refine XS.aloadN X0.here hx rfl (hb hby d19_0) rfl rfl ?_
          show Steps p.tables e below (s₁.setTop (mkF m 1 #[.val (.ref a1), .val (.int p2), .val (.int p3)] [(.ref a1)])) _
          refine XS.iconst X0.here hx rfl (hb hby d19_1) ?_
          show Steps p.tables e below (s₁.setTop (mkF m 2 #[.val (.ref a1), .val (.int p2), .val (.int p3)] [(.int (0 : Int32)), (.ref a1)])) _
          refine XS.iloadN X0.here hx rfl (hb hby d19_2) rfl ?_
          show Steps p.tables e below (s₁.setTop (mkF m 3 #[.val (.ref a1), .val (.int p2), .val (.int p3)] [(.int p2), (.int (0 : Int32)), (.ref a1)])) _
          refine XS.iloadN X0.here hx rfl (hb hby d19_3) rfl ?_
          show Steps p.tables e below (s₁.setTop (mkF m 4 #[.val (.ref a1), .val (.int p2), .val (.int p3)] [(.int p3), (.int p2), (.int (0 : Int32)), (.ref a1)])) _
          refine st22 _ ?_
          show Steps p.tables e below (T22.setTop (mkF m 7 #[.val (.ref a1), .val (.int p2), .val (.int p3)] [(.int (own_sb f p2 p3 (0 : Int32)))])) _
          refine XS.iconst X22.here hx rfl (hb hby d19_7) ?_
          show Steps p.tables e below (T22.setTop (mkF m 8 #[.val (.ref a1), .val (.int p2), .val (.int p3)] [(.int (1 : Int32)), (.int (own_sb f p2 p3 (0 : Int32)))])) _
          refine XS.icmpYes X22.here hx rfl (pc0 := 8) (pc' := 13) rfl (hb hby d19_8) rfl (feq (y0 : ¬ ((own_sb f p2 p3 (0 : Int32)) = (1 : Int32)))).2 (by decide) (by decide) ?_
          show Steps p.tables e below (T22.setTop (mkF m 13 #[.val (.ref a1), .val (.int p2), .val (.int p3)] [])) _
          refine XS.aloadN X22.here hx rfl (hb hby d19_13) rfl rfl ?_
          show Steps p.tables e below (T22.setTop (mkF m 14 #[.val (.ref a1), .val (.int p2), .val (.int p3)] [(.ref a1)])) _
          refine XS.iconst X22.here hx rfl (hb hby d19_14) ?_
          show Steps p.tables e below (T22.setTop (mkF m 15 #[.val (.ref a1), .val (.int p2), .val (.int p3)] [(.int (1 : Int32)), (.ref a1)])) _
          refine XS.iloadN X22.here hx rfl (hb hby d19_15) rfl ?_
          show Steps p.tables e below (T22.setTop (mkF m 16 #[.val (.ref a1), .val (.int p2), .val (.int p3)] [(.int p2), (.int (1 : Int32)), (.ref a1)])) _
          refine XS.iloadN X22.here hx rfl (hb hby d19_16) rfl ?_
          show Steps p.tables e below (T22.setTop (mkF m 17 #[.val (.ref a1), .val (.int p2), .val (.int p3)] [(.int p3), (.int p2), (.int (1 : Int32)), (.ref a1)])) _
          refine st24 _ ?_
          show Steps p.tables e below (T24.setTop (mkF m 20 #[.val (.ref a1), .val (.int p2), .val (.int p3)] [(.int (own_sb f p2 p3 (1 : Int32)))])) _
          refine XS.iconst X24.here hx rfl (hb hby d19_20) ?_
          show Steps p.tables e below (T24.setTop (mkF m 21 #[.val (.ref a1), .val (.int p2), .val (.int p3)] [(.int (1 : Int32)), (.int (own_sb f p2 p3 (1 : Int32)))])) _
          refine XS.icmpYes X24.here hx rfl (pc0 := 21) (pc' := 26) rfl (hb hby d19_21) rfl (feq (y1 : ¬ ((own_sb f p2 p3 (1 : Int32)) = (1 : Int32)))).2 (by decide) (by decide) ?_
          show Steps p.tables e below (T24.setTop (mkF m 26 #[.val (.ref a1), .val (.int p2), .val (.int p3)] [])) _
          refine XS.aloadN X24.here hx rfl (hb hby d19_26) rfl rfl ?_
          show Steps p.tables e below (T24.setTop (mkF m 27 #[.val (.ref a1), .val (.int p2), .val (.int p3)] [(.ref a1)])) _
          refine XS.iconst X24.here hx rfl (hb hby d19_27) ?_
          show Steps p.tables e below (T24.setTop (mkF m 28 #[.val (.ref a1), .val (.int p2), .val (.int p3)] [(.int (2 : Int32)), (.ref a1)])) _
          refine XS.iloadN X24.here hx rfl (hb hby d19_28) rfl ?_
          show Steps p.tables e below (T24.setTop (mkF m 29 #[.val (.ref a1), .val (.int p2), .val (.int p3)] [(.int p2), (.int (2 : Int32)), (.ref a1)])) _
          refine XS.iloadN X24.here hx rfl (hb hby d19_29) rfl ?_
          show Steps p.tables e below (T24.setTop (mkF m 30 #[.val (.ref a1), .val (.int p2), .val (.int p3)] [(.int p3), (.int p2), (.int (2 : Int32)), (.ref a1)])) _
          refine st26 _ ?_
          show Steps p.tables e below (T26.setTop (mkF m 33 #[.val (.ref a1), .val (.int p2), .val (.int p3)] [(.int (own_sb f p2 p3 (2 : Int32)))])) _
          refine XS.iconst X26.here hx rfl (hb hby d19_33) ?_
          show Steps p.tables e below (T26.setTop (mkF m 34 #[.val (.ref a1), .val (.int p2), .val (.int p3)] [(.int (1 : Int32)), (.int (own_sb f p2 p3 (2 : Int32)))])) _
          refine XS.icmpNo X26.here hx rfl (hb hby d19_34) rfl (teq (y2 : (own_sb f p2 p3 (2 : Int32)) = (1 : Int32))).2 ?_
          show Steps p.tables e below (T26.setTop (mkF m 37 #[.val (.ref a1), .val (.int p2), .val (.int p3)] [])) _
          refine XS.iconst X26.here hx rfl (hb hby d19_37) ?_
          exact kt
        obtain ⟨fs, hrt, hrun, hended, hW, hsame⟩ := X26.leave (v := some (.int (2 : Int32))) (fun h => by rw [Bd.returns] at h; cases h)
        refine ⟨_, _, pre0 _ (fl27 _ ?_), hrun, hended, _, _, rfl, ?_, ⟨_, rfl⟩, hW, hsame.mono (by decide) (by decide)⟩
        · exact retI X26 hx Bd.returns (hb hby d19_38) hrt
        · show Q19 _ _ _ _ _ _ _ _ _ _ T26.heap _
          exact ⟨rfl, N26, he26.trans (he24.trans (he22))⟩
      · obtain ⟨_, _, ⟨T28, L28, k28, n28⟩, -, X28, ⟨Lc28, hQ28, l28, y28, z28⟩, st28⟩ := Jvm.LawKit.callS X26 hx (y := (⟨"com/example/concept_ledger/conceptledger/model/RowViewSetPinLaw", "bar", "([BIII)I"⟩ : MethodName)) hown (mvT hZ (hw _ (List.mem_of_getElem? (i := 47) rfl))) (mvT hZ (hw _ (List.mem_of_getElem? (i := 48) rfl))) (mvT hZ (hw _ (List.mem_of_getElem? (i := 2) rfl))) (mvT hZ (hw _ (List.mem_of_getElem? (i := 49) rfl))) (by decide) (backOf (W := 0) (rm8 l Z a0 hw [] a1 (3 : Int32) p2 p3 kb f (own_sb f p2 p3 (3 : Int32)) T26.heap n0 z26z BA_26 ⟨by decide, by decide⟩ rfl) hZ (hw _ (List.mem_of_getElem? (i := 49) rfl)) (hw _ (List.mem_of_getElem? (i := 2) rfl)) (by decide) (by decide)) (g := (mkF m 43 #[.val (.ref a1), .val (.int p2), .val (.int p3)] [(.int p3), (.int p2), (.int (3 : Int32)), (.ref a1)])) rfl (by rw [hml]; rfl) (argsL := [(.ref a1), (.int (3 : Int32)), (.int p2), (.int p3)]) (rest := []) (lenOf pd_1 rfl) rfl (by show 2 * 0 + _ ≤ _; exact Nat.le_of_eq rfl) (hb hby d19_43) (fun _ _ => ⟨rfl, rfl, (by decide : 0 + 0 ≤ _), (by decide : 0 + 0 ≤ _)⟩)
        dsimp only [Pt.U, Pt.locs, Pt.cells, Pt.slots] at X28 l28 y28 z28 st28 hQ28
        subst l28 y28 z28
        obtain ⟨rfl, N28q, he28⟩ := hQ28
        have N28 := Fr.app N26 N28q
        have Kc28 : Keep T26.heap T28.heap [] := by rw [he28]; exact Keep.refl _ _
        have BA_28 := BA_26.keep Kc28 nin0
        have K28 : Keep h0 T28.heap [] := K26.trans Kc28 all0
        have z28z : n0 ≤ T28.heap.size := Nat.le_trans z26z Kc28.1
        by_cases y3 : own_sb f p2 p3 (3 : Int32) = (1 : Int32)
        · obtain rfl : r = 3 := by rw [hr]; unfold own_fst; rw [if_neg y0, if_neg y1, if_neg y2, if_pos y3]
          have fl29 : ∀ target, Steps p.tables e below (T28.setTop (mkF m 51 #[.val (.ref a1), .val (.int p2), .val (.int p3)] [(.int (3 : Int32))])) target → Steps p.tables e below (s₁.setTop (mkF m 0 #[.val (.ref a1), .val (.int p2), .val (.int p3)] [])) target := fun target kt => by
            show Steps p.tables e below (s₁.setTop (mkF m 0 #[.val (.ref a1), .val (.int p2), .val (.int p3)] [])) _
            refine XS.aloadN X0.here hx rfl (hb hby d19_0) rfl rfl ?_
            show Steps p.tables e below (s₁.setTop (mkF m 1 #[.val (.ref a1), .val (.int p2), .val (.int p3)] [(.ref a1)])) _
            refine XS.iconst X0.here hx rfl (hb hby d19_1) ?_
            show Steps p.tables e below (s₁.setTop (mkF m 2 #[.val (.ref a1), .val (.int p2), .val (.int p3)] [(.int (0 : Int32)), (.ref a1)])) _
            refine XS.iloadN X0.here hx rfl (hb hby d19_2) rfl ?_
            show Steps p.tables e below (s₁.setTop (mkF m 3 #[.val (.ref a1), .val (.int p2), .val (.int p3)] [(.int p2), (.int (0 : Int32)), (.ref a1)])) _
            refine XS.iloadN X0.here hx rfl (hb hby d19_3) rfl ?_
            show Steps p.tables e below (s₁.setTop (mkF m 4 #[.val (.ref a1), .val (.int p2), .val (.int p3)] [(.int p3), (.int p2), (.int (0 : Int32)), (.ref a1)])) _
            refine st22 _ ?_
            show Steps p.tables e below (T22.setTop (mkF m 7 #[.val (.ref a1), .val (.int p2), .val (.int p3)] [(.int (own_sb f p2 p3 (0 : Int32)))])) _
            refine XS.iconst X22.here hx rfl (hb hby d19_7) ?_
            show Steps p.tables e below (T22.setTop (mkF m 8 #[.val (.ref a1), .val (.int p2), .val (.int p3)] [(.int (1 : Int32)), (.int (own_sb f p2 p3 (0 : Int32)))])) _
            refine XS.icmpYes X22.here hx rfl (pc0 := 8) (pc' := 13) rfl (hb hby d19_8) rfl (feq (y0 : ¬ ((own_sb f p2 p3 (0 : Int32)) = (1 : Int32)))).2 (by decide) (by decide) ?_
            show Steps p.tables e below (T22.setTop (mkF m 13 #[.val (.ref a1), .val (.int p2), .val (.int p3)] [])) _
            refine XS.aloadN X22.here hx rfl (hb hby d19_13) rfl rfl ?_
            show Steps p.tables e below (T22.setTop (mkF m 14 #[.val (.ref a1), .val (.int p2), .val (.int p3)] [(.ref a1)])) _
            refine XS.iconst X22.here hx rfl (hb hby d19_14) ?_
            show Steps p.tables e below (T22.setTop (mkF m 15 #[.val (.ref a1), .val (.int p2), .val (.int p3)] [(.int (1 : Int32)), (.ref a1)])) _
            refine XS.iloadN X22.here hx rfl (hb hby d19_15) rfl ?_
            show Steps p.tables e below (T22.setTop (mkF m 16 #[.val (.ref a1), .val (.int p2), .val (.int p3)] [(.int p2), (.int (1 : Int32)), (.ref a1)])) _
            refine XS.iloadN X22.here hx rfl (hb hby d19_16) rfl ?_
            show Steps p.tables e below (T22.setTop (mkF m 17 #[.val (.ref a1), .val (.int p2), .val (.int p3)] [(.int p3), (.int p2), (.int (1 : Int32)), (.ref a1)])) _
            refine st24 _ ?_
            show Steps p.tables e below (T24.setTop (mkF m 20 #[.val (.ref a1), .val (.int p2), .val (.int p3)] [(.int (own_sb f p2 p3 (1 : Int32)))])) _
            refine XS.iconst X24.here hx rfl (hb hby d19_20) ?_
            show Steps p.tables e below (T24.setTop (mkF m 21 #[.val (.ref a1), .val (.int p2), .val (.int p3)] [(.int (1 : Int32)), (.int (own_sb f p2 p3 (1 : Int32)))])) _
            refine XS.icmpYes X24.here hx rfl (pc0 := 21) (pc' := 26) rfl (hb hby d19_21) rfl (feq (y1 : ¬ ((own_sb f p2 p3 (1 : Int32)) = (1 : Int32)))).2 (by decide) (by decide) ?_
            show Steps p.tables e below (T24.setTop (mkF m 26 #[.val (.ref a1), .val (.int p2), .val (.int p3)] [])) _
            refine XS.aloadN X24.here hx rfl (hb hby d19_26) rfl rfl ?_
            show Steps p.tables e below (T24.setTop (mkF m 27 #[.val (.ref a1), .val (.int p2), .val (.int p3)] [(.ref a1)])) _
            refine XS.iconst X24.here hx rfl (hb hby d19_27) ?_
            show Steps p.tables e below (T24.setTop (mkF m 28 #[.val (.ref a1), .val (.int p2), .val (.int p3)] [(.int (2 : Int32)), (.ref a1)])) _
            refine XS.iloadN X24.here hx rfl (hb hby d19_28) rfl ?_
            show Steps p.tables e below (T24.setTop (mkF m 29 #[.val (.ref a1), .val (.int p2), .val (.int p3)] [(.int p2), (.int (2 : Int32)), (.ref a1)])) _
            refine XS.iloadN X24.here hx rfl (hb hby d19_29) rfl ?_
            show Steps p.tables e below (T24.setTop (mkF m 30 #[.val (.ref a1), .val (.int p2), .val (.int p3)] [(.int p3), (.int p2), (.int (2 : Int32)), (.ref a1)])) _
            refine st26 _ ?_
            show Steps p.tables e below (T26.setTop (mkF m 33 #[.val (.ref a1), .val (.int p2), .val (.int p3)] [(.int (own_sb f p2 p3 (2 : Int32)))])) _
            refine XS.iconst X26.here hx rfl (hb hby d19_33) ?_
            show Steps p.tables e below (T26.setTop (mkF m 34 #[.val (.ref a1), .val (.int p2), .val (.int p3)] [(.int (1 : Int32)), (.int (own_sb f p2 p3 (2 : Int32)))])) _
            refine XS.icmpYes X26.here hx rfl (pc0 := 34) (pc' := 39) rfl (hb hby d19_34) rfl (feq (y2 : ¬ ((own_sb f p2 p3 (2 : Int32)) = (1 : Int32)))).2 (by decide) (by decide) ?_
            show Steps p.tables e below (T26.setTop (mkF m 39 #[.val (.ref a1), .val (.int p2), .val (.int p3)] [])) _
            refine XS.aloadN X26.here hx rfl (hb hby d19_39) rfl rfl ?_
            show Steps p.tables e below (T26.setTop (mkF m 40 #[.val (.ref a1), .val (.int p2), .val (.int p3)] [(.ref a1)])) _
            refine XS.iconst X26.here hx rfl (hb hby d19_40) ?_
            show Steps p.tables e below (T26.setTop (mkF m 41 #[.val (.ref a1), .val (.int p2), .val (.int p3)] [(.int (3 : Int32)), (.ref a1)])) _
            refine XS.iloadN X26.here hx rfl (hb hby d19_41) rfl ?_
            show Steps p.tables e below (T26.setTop (mkF m 42 #[.val (.ref a1), .val (.int p2), .val (.int p3)] [(.int p2), (.int (3 : Int32)), (.ref a1)])) _
            refine XS.iloadN X26.here hx rfl (hb hby d19_42) rfl ?_
            show Steps p.tables e below (T26.setTop (mkF m 43 #[.val (.ref a1), .val (.int p2), .val (.int p3)] [(.int p3), (.int p2), (.int (3 : Int32)), (.ref a1)])) _
            refine st28 _ ?_
            show Steps p.tables e below (T28.setTop (mkF m 46 #[.val (.ref a1), .val (.int p2), .val (.int p3)] [(.int (own_sb f p2 p3 (3 : Int32)))])) _
            refine XS.iconst X28.here hx rfl (hb hby d19_46) ?_
            show Steps p.tables e below (T28.setTop (mkF m 47 #[.val (.ref a1), .val (.int p2), .val (.int p3)] [(.int (1 : Int32)), (.int (own_sb f p2 p3 (3 : Int32)))])) _
            refine XS.icmpNo X28.here hx rfl (hb hby d19_47) rfl (teq (y3 : (own_sb f p2 p3 (3 : Int32)) = (1 : Int32))).2 ?_
            show Steps p.tables e below (T28.setTop (mkF m 50 #[.val (.ref a1), .val (.int p2), .val (.int p3)] [])) _
            refine XS.iconst X28.here hx rfl (hb hby d19_50) ?_
            exact kt
          obtain ⟨fs, hrt, hrun, hended, hW, hsame⟩ := X28.leave (v := some (.int (3 : Int32))) (fun h => by rw [Bd.returns] at h; cases h)
          refine ⟨_, _, pre0 _ (fl29 _ ?_), hrun, hended, _, _, rfl, ?_, ⟨_, rfl⟩, hW, hsame.mono (by decide) (by decide)⟩
          · exact retI X28 hx Bd.returns (hb hby d19_51) hrt
          · show Q19 _ _ _ _ _ _ _ _ _ _ T28.heap _
            exact ⟨rfl, N28, he28.trans (he26.trans (he24.trans (he22)))⟩
        · obtain rfl : r = -1 := by rw [hr]; unfold own_fst; rw [if_neg y0, if_neg y1, if_neg y2, if_neg y3]
          have fl30 : ∀ target, Steps p.tables e below (T28.setTop (mkF m 53 #[.val (.ref a1), .val (.int p2), .val (.int p3)] [(.int (-1 : Int32))])) target → Steps p.tables e below (s₁.setTop (mkF m 0 #[.val (.ref a1), .val (.int p2), .val (.int p3)] [])) target := fun target kt => by
            show Steps p.tables e below (s₁.setTop (mkF m 0 #[.val (.ref a1), .val (.int p2), .val (.int p3)] [])) _
            refine XS.aloadN X0.here hx rfl (hb hby d19_0) rfl rfl ?_
            show Steps p.tables e below (s₁.setTop (mkF m 1 #[.val (.ref a1), .val (.int p2), .val (.int p3)] [(.ref a1)])) _
            refine XS.iconst X0.here hx rfl (hb hby d19_1) ?_
            show Steps p.tables e below (s₁.setTop (mkF m 2 #[.val (.ref a1), .val (.int p2), .val (.int p3)] [(.int (0 : Int32)), (.ref a1)])) _
            refine XS.iloadN X0.here hx rfl (hb hby d19_2) rfl ?_
            show Steps p.tables e below (s₁.setTop (mkF m 3 #[.val (.ref a1), .val (.int p2), .val (.int p3)] [(.int p2), (.int (0 : Int32)), (.ref a1)])) _
            refine XS.iloadN X0.here hx rfl (hb hby d19_3) rfl ?_
            show Steps p.tables e below (s₁.setTop (mkF m 4 #[.val (.ref a1), .val (.int p2), .val (.int p3)] [(.int p3), (.int p2), (.int (0 : Int32)), (.ref a1)])) _
            refine st22 _ ?_
            show Steps p.tables e below (T22.setTop (mkF m 7 #[.val (.ref a1), .val (.int p2), .val (.int p3)] [(.int (own_sb f p2 p3 (0 : Int32)))])) _
            refine XS.iconst X22.here hx rfl (hb hby d19_7) ?_
            show Steps p.tables e below (T22.setTop (mkF m 8 #[.val (.ref a1), .val (.int p2), .val (.int p3)] [(.int (1 : Int32)), (.int (own_sb f p2 p3 (0 : Int32)))])) _
            refine XS.icmpYes X22.here hx rfl (pc0 := 8) (pc' := 13) rfl (hb hby d19_8) rfl (feq (y0 : ¬ ((own_sb f p2 p3 (0 : Int32)) = (1 : Int32)))).2 (by decide) (by decide) ?_
            show Steps p.tables e below (T22.setTop (mkF m 13 #[.val (.ref a1), .val (.int p2), .val (.int p3)] [])) _
            refine XS.aloadN X22.here hx rfl (hb hby d19_13) rfl rfl ?_
            show Steps p.tables e below (T22.setTop (mkF m 14 #[.val (.ref a1), .val (.int p2), .val (.int p3)] [(.ref a1)])) _
            refine XS.iconst X22.here hx rfl (hb hby d19_14) ?_
            show Steps p.tables e below (T22.setTop (mkF m 15 #[.val (.ref a1), .val (.int p2), .val (.int p3)] [(.int (1 : Int32)), (.ref a1)])) _
            refine XS.iloadN X22.here hx rfl (hb hby d19_15) rfl ?_
            show Steps p.tables e below (T22.setTop (mkF m 16 #[.val (.ref a1), .val (.int p2), .val (.int p3)] [(.int p2), (.int (1 : Int32)), (.ref a1)])) _
            refine XS.iloadN X22.here hx rfl (hb hby d19_16) rfl ?_
            show Steps p.tables e below (T22.setTop (mkF m 17 #[.val (.ref a1), .val (.int p2), .val (.int p3)] [(.int p3), (.int p2), (.int (1 : Int32)), (.ref a1)])) _
            refine st24 _ ?_
            show Steps p.tables e below (T24.setTop (mkF m 20 #[.val (.ref a1), .val (.int p2), .val (.int p3)] [(.int (own_sb f p2 p3 (1 : Int32)))])) _
            refine XS.iconst X24.here hx rfl (hb hby d19_20) ?_
            show Steps p.tables e below (T24.setTop (mkF m 21 #[.val (.ref a1), .val (.int p2), .val (.int p3)] [(.int (1 : Int32)), (.int (own_sb f p2 p3 (1 : Int32)))])) _
            refine XS.icmpYes X24.here hx rfl (pc0 := 21) (pc' := 26) rfl (hb hby d19_21) rfl (feq (y1 : ¬ ((own_sb f p2 p3 (1 : Int32)) = (1 : Int32)))).2 (by decide) (by decide) ?_
            show Steps p.tables e below (T24.setTop (mkF m 26 #[.val (.ref a1), .val (.int p2), .val (.int p3)] [])) _
            refine XS.aloadN X24.here hx rfl (hb hby d19_26) rfl rfl ?_
            show Steps p.tables e below (T24.setTop (mkF m 27 #[.val (.ref a1), .val (.int p2), .val (.int p3)] [(.ref a1)])) _
            refine XS.iconst X24.here hx rfl (hb hby d19_27) ?_
            show Steps p.tables e below (T24.setTop (mkF m 28 #[.val (.ref a1), .val (.int p2), .val (.int p3)] [(.int (2 : Int32)), (.ref a1)])) _
            refine XS.iloadN X24.here hx rfl (hb hby d19_28) rfl ?_
            show Steps p.tables e below (T24.setTop (mkF m 29 #[.val (.ref a1), .val (.int p2), .val (.int p3)] [(.int p2), (.int (2 : Int32)), (.ref a1)])) _
            refine XS.iloadN X24.here hx rfl (hb hby d19_29) rfl ?_
            show Steps p.tables e below (T24.setTop (mkF m 30 #[.val (.ref a1), .val (.int p2), .val (.int p3)] [(.int p3), (.int p2), (.int (2 : Int32)), (.ref a1)])) _
            refine st26 _ ?_
            show Steps p.tables e below (T26.setTop (mkF m 33 #[.val (.ref a1), .val (.int p2), .val (.int p3)] [(.int (own_sb f p2 p3 (2 : Int32)))])) _
            refine XS.iconst X26.here hx rfl (hb hby d19_33) ?_
            show Steps p.tables e below (T26.setTop (mkF m 34 #[.val (.ref a1), .val (.int p2), .val (.int p3)] [(.int (1 : Int32)), (.int (own_sb f p2 p3 (2 : Int32)))])) _
            refine XS.icmpYes X26.here hx rfl (pc0 := 34) (pc' := 39) rfl (hb hby d19_34) rfl (feq (y2 : ¬ ((own_sb f p2 p3 (2 : Int32)) = (1 : Int32)))).2 (by decide) (by decide) ?_
            show Steps p.tables e below (T26.setTop (mkF m 39 #[.val (.ref a1), .val (.int p2), .val (.int p3)] [])) _
            refine XS.aloadN X26.here hx rfl (hb hby d19_39) rfl rfl ?_
            show Steps p.tables e below (T26.setTop (mkF m 40 #[.val (.ref a1), .val (.int p2), .val (.int p3)] [(.ref a1)])) _
            refine XS.iconst X26.here hx rfl (hb hby d19_40) ?_
            show Steps p.tables e below (T26.setTop (mkF m 41 #[.val (.ref a1), .val (.int p2), .val (.int p3)] [(.int (3 : Int32)), (.ref a1)])) _
            refine XS.iloadN X26.here hx rfl (hb hby d19_41) rfl ?_
            show Steps p.tables e below (T26.setTop (mkF m 42 #[.val (.ref a1), .val (.int p2), .val (.int p3)] [(.int p2), (.int (3 : Int32)), (.ref a1)])) _
            refine XS.iloadN X26.here hx rfl (hb hby d19_42) rfl ?_
            show Steps p.tables e below (T26.setTop (mkF m 43 #[.val (.ref a1), .val (.int p2), .val (.int p3)] [(.int p3), (.int p2), (.int (3 : Int32)), (.ref a1)])) _
            refine st28 _ ?_
            show Steps p.tables e below (T28.setTop (mkF m 46 #[.val (.ref a1), .val (.int p2), .val (.int p3)] [(.int (own_sb f p2 p3 (3 : Int32)))])) _
            refine XS.iconst X28.here hx rfl (hb hby d19_46) ?_
            show Steps p.tables e below (T28.setTop (mkF m 47 #[.val (.ref a1), .val (.int p2), .val (.int p3)] [(.int (1 : Int32)), (.int (own_sb f p2 p3 (3 : Int32)))])) _
            refine XS.icmpYes X28.here hx rfl (pc0 := 47) (pc' := 52) rfl (hb hby d19_47) rfl (feq (y3 : ¬ ((own_sb f p2 p3 (3 : Int32)) = (1 : Int32)))).2 (by decide) (by decide) ?_
            show Steps p.tables e below (T28.setTop (mkF m 52 #[.val (.ref a1), .val (.int p2), .val (.int p3)] [])) _
            refine XS.iconst X28.here hx rfl (hb hby d19_52) ?_
            exact kt
          obtain ⟨fs, hrt, hrun, hended, hW, hsame⟩ := X28.leave (v := some (.int (-1 : Int32))) (fun h => by rw [Bd.returns] at h; cases h)
          refine ⟨_, _, pre0 _ (fl30 _ ?_), hrun, hended, _, _, rfl, ?_, ⟨_, rfl⟩, hW, hsame.mono (by decide) (by decide)⟩
          · exact retI X28 hx Bd.returns (hb hby d19_53) hrt
          · show Q19 _ _ _ _ _ _ _ _ _ _ T28.heap _
            exact ⟨rfl, N28, he28.trans (he26.trans (he24.trans (he22)))⟩
theorem ef_20 (m : MethodId) (x0 : Addr) (x1 : Int32) (x2 : Int32) : entryFrame m #[(.ref x0), (.int x1), (.int x2)] 3 = mkF m 0 #[.val (.ref x0), .val (.int x1), .val (.int x2)] [] := by first | (simp [entryFrame, mkF, argsToLocals, Value.category]; done) | rfl
def Q20 (Z : State) (a1 : Addr) (p2 : Int32) (p3 : Int32) (kb : ClassId) (f : Int32 → Int32) (r : Int32) (h0 : Heap) (n0 : Nat) (v : Option Value) (h : Heap) (L : List Loc) : Prop := v = some (.int r) ∧ Fr n0 L ∧ h = h0
set_option maxRecDepth 65536 in
set_option maxHeartbeats 40000000 in
theorem rm20 (l : Launch) (Z : State) (a0 : Array Value) (hw : ∀ d ∈ tables_1, d.before a0 Z = true) (ws : List Jvm.Cond) (a1 : Addr) (p2 : Int32) (p3 : Int32) (kb : ClassId) (f : Int32 → Int32) (r : Int32) (h0 : Heap) (n0 : Nat) (Z0 : n0 ≤ h0.size) (BA : own_BA Z h0 a1 kb f) (hr : r = own_lst f p2 p3) :
    MetFree l (⟨"com/example/concept_ledger/conceptledger/model/RowViewSetPinLaw", "lastBar", "([BII)I"⟩ : MethodName) (head1 (Jvm.Cond.code (⟨"com/example/concept_ledger/conceptledger/model/RowViewSetPinLaw", "lastBar", "([BII)I"⟩ : MethodName) method_7_code 3 (some .int) :: ws) ({ frames := 1, cells := 0, slots := 0, locals := 15 } : Room)) (fun a U => a = #[(.ref a1), (.int p2), (.int p3)] ∧ Z.Warmed39 U.vm ∧ U.heap = h0) (fun _ _ _ _ _ => True) (fun _ U o U' => ∃ v L, o = .returned v ∧ Q20 Z a1 p2 p3 kb f r h0 n0 v U'.heap L ∧ FrameEnd U o U' L ({ frames := 1, cells := 0, slots := 0, locals := 15 } : Room).cells ({ frames := 1, cells := 0, slots := 0, locals := 15 } : Room).slots) := by
  refine MetFree.of_bodySF (plainFor_of_name pn_0) hisR ?_
  intro p e s m args below meth c s₁ Bd hml0 hP hK
  obtain ⟨rfl, hZ, hh⟩ := hP
  have hx := Bd.exec
  have hby := Bd.bytes
  have hml : c.maxLocals = 3 := hml0
  have hown : s.vm.findClass "com/example/concept_ledger/conceptledger/model/RowViewSetPinLaw" = some m.cls := findClass_of_methodNamed Bd.named
  have hnm := (name_of_methodNamed Bd.named Bd.method).1
  have X0 : Stand p l e ({ frames := 1, cells := 0, slots := 0, locals := 15 } : Room) s m #[(.ref a1), (.int p2), (.int p3)] below meth c s₁ [] 0 0 := Stand.of_body Bd
  have e0 : s₁.heap = h0 := by rw [← hh, Bd.state]; rfl
  have N0 := Fr.nil n0
  have pre0 : ∀ t, Steps p.tables e below (s₁.setTop (mkF m 0 #[.val (.ref a1), .val (.int p2), .val (.int p3)] [])) t → Steps p.tables e below (s₁.setTop (entryFrame m #[(.ref a1), (.int p2), (.int p3)] 3)) t := fun t k => castTop (ef_20 m a1 p2 p3) k
  obtain ⟨_, _, ⟨T31, L31, k31, n31⟩, -, X31, ⟨Lc31, hQ31, l31, y31, z31⟩, st31⟩ := Jvm.LawKit.callS X0 hx (y := (⟨"com/example/concept_ledger/conceptledger/model/RowViewSetPinLaw", "bar", "([BIII)I"⟩ : MethodName)) hown (mvT hZ (hw _ (List.mem_of_getElem? (i := 47) rfl))) (mvT hZ (hw _ (List.mem_of_getElem? (i := 48) rfl))) (mvT hZ (hw _ (List.mem_of_getElem? (i := 2) rfl))) (mvT hZ (hw _ (List.mem_of_getElem? (i := 49) rfl))) (by decide) (backOf (W := 0) (rm8 l Z a0 hw [] a1 (3 : Int32) p2 p3 kb f (own_sb f p2 p3 (3 : Int32)) h0 n0 Z0 BA ⟨by decide, by decide⟩ rfl) hZ (hw _ (List.mem_of_getElem? (i := 49) rfl)) (hw _ (List.mem_of_getElem? (i := 2) rfl)) (by decide) (by decide)) (g := (mkF m 4 #[.val (.ref a1), .val (.int p2), .val (.int p3)] [(.int p3), (.int p2), (.int (3 : Int32)), (.ref a1)])) rfl (by rw [hml]; rfl) (argsL := [(.ref a1), (.int (3 : Int32)), (.int p2), (.int p3)]) (rest := []) (lenOf pd_1 rfl) rfl (by show 2 * 0 + _ ≤ _; exact Nat.le_of_eq rfl) (hb hby d20_4) (fun _ _ => ⟨rfl, e0, (by decide : 0 + 0 ≤ _), (by decide : 0 + 0 ≤ _)⟩)
  dsimp only [Pt.U, Pt.locs, Pt.cells, Pt.slots] at X31 l31 y31 z31 st31 hQ31
  subst l31 y31 z31
  obtain ⟨rfl, N31q, he31⟩ := hQ31
  have N31 := Fr.app N0 N31q
  have Kc31 : Keep h0 T31.heap [] := by rw [he31]; exact Keep.refl _ _
  have BA_31 := BA.keep Kc31 nin0
  have K31 : Keep h0 T31.heap [] := (Keep.refl h0 []).trans Kc31 all0
  have z31z : n0 ≤ T31.heap.size := Nat.le_trans Z0 Kc31.1
  by_cases y0 : own_sb f p2 p3 (3 : Int32) = (1 : Int32)
  · obtain rfl : r = 3 := by rw [hr]; unfold own_lst; rw [if_pos y0]
    have fl32 : ∀ target, Steps p.tables e below (T31.setTop (mkF m 12 #[.val (.ref a1), .val (.int p2), .val (.int p3)] [(.int (3 : Int32))])) target → Steps p.tables e below (s₁.setTop (mkF m 0 #[.val (.ref a1), .val (.int p2), .val (.int p3)] [])) target := fun target kt => by
      show Steps p.tables e below (s₁.setTop (mkF m 0 #[.val (.ref a1), .val (.int p2), .val (.int p3)] [])) _
      refine XS.aloadN X0.here hx rfl (hb hby d20_0) rfl rfl ?_
      show Steps p.tables e below (s₁.setTop (mkF m 1 #[.val (.ref a1), .val (.int p2), .val (.int p3)] [(.ref a1)])) _
      refine XS.iconst X0.here hx rfl (hb hby d20_1) ?_
      show Steps p.tables e below (s₁.setTop (mkF m 2 #[.val (.ref a1), .val (.int p2), .val (.int p3)] [(.int (3 : Int32)), (.ref a1)])) _
      refine XS.iloadN X0.here hx rfl (hb hby d20_2) rfl ?_
      show Steps p.tables e below (s₁.setTop (mkF m 3 #[.val (.ref a1), .val (.int p2), .val (.int p3)] [(.int p2), (.int (3 : Int32)), (.ref a1)])) _
      refine XS.iloadN X0.here hx rfl (hb hby d20_3) rfl ?_
      show Steps p.tables e below (s₁.setTop (mkF m 4 #[.val (.ref a1), .val (.int p2), .val (.int p3)] [(.int p3), (.int p2), (.int (3 : Int32)), (.ref a1)])) _
      refine st31 _ ?_
      show Steps p.tables e below (T31.setTop (mkF m 7 #[.val (.ref a1), .val (.int p2), .val (.int p3)] [(.int (own_sb f p2 p3 (3 : Int32)))])) _
      refine XS.iconst X31.here hx rfl (hb hby d20_7) ?_
      show Steps p.tables e below (T31.setTop (mkF m 8 #[.val (.ref a1), .val (.int p2), .val (.int p3)] [(.int (1 : Int32)), (.int (own_sb f p2 p3 (3 : Int32)))])) _
      refine XS.icmpNo X31.here hx rfl (hb hby d20_8) rfl (teq (y0 : (own_sb f p2 p3 (3 : Int32)) = (1 : Int32))).2 ?_
      show Steps p.tables e below (T31.setTop (mkF m 11 #[.val (.ref a1), .val (.int p2), .val (.int p3)] [])) _
      refine XS.iconst X31.here hx rfl (hb hby d20_11) ?_
      exact kt
    obtain ⟨fs, hrt, hrun, hended, hW, hsame⟩ := X31.leave (v := some (.int (3 : Int32))) (fun h => by rw [Bd.returns] at h; cases h)
    refine ⟨_, _, pre0 _ (fl32 _ ?_), hrun, hended, _, _, rfl, ?_, ⟨_, rfl⟩, hW, hsame.mono (by decide) (by decide)⟩
    · exact retI X31 hx Bd.returns (hb hby d20_12) hrt
    · show Q20 _ _ _ _ _ _ _ _ _ _ T31.heap _
      exact ⟨rfl, N31, he31⟩
  · obtain ⟨_, _, ⟨T33, L33, k33, n33⟩, -, X33, ⟨Lc33, hQ33, l33, y33, z33⟩, st33⟩ := Jvm.LawKit.callS X31 hx (y := (⟨"com/example/concept_ledger/conceptledger/model/RowViewSetPinLaw", "bar", "([BIII)I"⟩ : MethodName)) hown (mvT hZ (hw _ (List.mem_of_getElem? (i := 47) rfl))) (mvT hZ (hw _ (List.mem_of_getElem? (i := 48) rfl))) (mvT hZ (hw _ (List.mem_of_getElem? (i := 2) rfl))) (mvT hZ (hw _ (List.mem_of_getElem? (i := 49) rfl))) (by decide) (backOf (W := 0) (rm8 l Z a0 hw [] a1 (2 : Int32) p2 p3 kb f (own_sb f p2 p3 (2 : Int32)) T31.heap n0 z31z BA_31 ⟨by decide, by decide⟩ rfl) hZ (hw _ (List.mem_of_getElem? (i := 49) rfl)) (hw _ (List.mem_of_getElem? (i := 2) rfl)) (by decide) (by decide)) (g := (mkF m 17 #[.val (.ref a1), .val (.int p2), .val (.int p3)] [(.int p3), (.int p2), (.int (2 : Int32)), (.ref a1)])) rfl (by rw [hml]; rfl) (argsL := [(.ref a1), (.int (2 : Int32)), (.int p2), (.int p3)]) (rest := []) (lenOf pd_1 rfl) rfl (by show 2 * 0 + _ ≤ _; exact Nat.le_of_eq rfl) (hb hby d20_17) (fun _ _ => ⟨rfl, rfl, (by decide : 0 + 0 ≤ _), (by decide : 0 + 0 ≤ _)⟩)
    dsimp only [Pt.U, Pt.locs, Pt.cells, Pt.slots] at X33 l33 y33 z33 st33 hQ33
    subst l33 y33 z33
    obtain ⟨rfl, N33q, he33⟩ := hQ33
    have N33 := Fr.app N31 N33q
    have Kc33 : Keep T31.heap T33.heap [] := by rw [he33]; exact Keep.refl _ _
    have BA_33 := BA_31.keep Kc33 nin0
    have K33 : Keep h0 T33.heap [] := K31.trans Kc33 all0
    have z33z : n0 ≤ T33.heap.size := Nat.le_trans z31z Kc33.1
    by_cases y1 : own_sb f p2 p3 (2 : Int32) = (1 : Int32)
    · obtain rfl : r = 2 := by rw [hr]; unfold own_lst; rw [if_neg y0, if_pos y1]
      have fl34 : ∀ target, Steps p.tables e below (T33.setTop (mkF m 25 #[.val (.ref a1), .val (.int p2), .val (.int p3)] [(.int (2 : Int32))])) target → Steps p.tables e below (s₁.setTop (mkF m 0 #[.val (.ref a1), .val (.int p2), .val (.int p3)] [])) target := fun target kt => by
        show Steps p.tables e below (s₁.setTop (mkF m 0 #[.val (.ref a1), .val (.int p2), .val (.int p3)] [])) _
        refine XS.aloadN X0.here hx rfl (hb hby d20_0) rfl rfl ?_
        show Steps p.tables e below (s₁.setTop (mkF m 1 #[.val (.ref a1), .val (.int p2), .val (.int p3)] [(.ref a1)])) _
        refine XS.iconst X0.here hx rfl (hb hby d20_1) ?_
        show Steps p.tables e below (s₁.setTop (mkF m 2 #[.val (.ref a1), .val (.int p2), .val (.int p3)] [(.int (3 : Int32)), (.ref a1)])) _
        refine XS.iloadN X0.here hx rfl (hb hby d20_2) rfl ?_
        show Steps p.tables e below (s₁.setTop (mkF m 3 #[.val (.ref a1), .val (.int p2), .val (.int p3)] [(.int p2), (.int (3 : Int32)), (.ref a1)])) _
        refine XS.iloadN X0.here hx rfl (hb hby d20_3) rfl ?_
        show Steps p.tables e below (s₁.setTop (mkF m 4 #[.val (.ref a1), .val (.int p2), .val (.int p3)] [(.int p3), (.int p2), (.int (3 : Int32)), (.ref a1)])) _
        refine st31 _ ?_
        show Steps p.tables e below (T31.setTop (mkF m 7 #[.val (.ref a1), .val (.int p2), .val (.int p3)] [(.int (own_sb f p2 p3 (3 : Int32)))])) _
        refine XS.iconst X31.here hx rfl (hb hby d20_7) ?_
        show Steps p.tables e below (T31.setTop (mkF m 8 #[.val (.ref a1), .val (.int p2), .val (.int p3)] [(.int (1 : Int32)), (.int (own_sb f p2 p3 (3 : Int32)))])) _
        refine XS.icmpYes X31.here hx rfl (pc0 := 8) (pc' := 13) rfl (hb hby d20_8) rfl (feq (y0 : ¬ ((own_sb f p2 p3 (3 : Int32)) = (1 : Int32)))).2 (by decide) (by decide) ?_
        show Steps p.tables e below (T31.setTop (mkF m 13 #[.val (.ref a1), .val (.int p2), .val (.int p3)] [])) _
        refine XS.aloadN X31.here hx rfl (hb hby d20_13) rfl rfl ?_
        show Steps p.tables e below (T31.setTop (mkF m 14 #[.val (.ref a1), .val (.int p2), .val (.int p3)] [(.ref a1)])) _
        refine XS.iconst X31.here hx rfl (hb hby d20_14) ?_
        show Steps p.tables e below (T31.setTop (mkF m 15 #[.val (.ref a1), .val (.int p2), .val (.int p3)] [(.int (2 : Int32)), (.ref a1)])) _
        refine XS.iloadN X31.here hx rfl (hb hby d20_15) rfl ?_
        show Steps p.tables e below (T31.setTop (mkF m 16 #[.val (.ref a1), .val (.int p2), .val (.int p3)] [(.int p2), (.int (2 : Int32)), (.ref a1)])) _
        refine XS.iloadN X31.here hx rfl (hb hby d20_16) rfl ?_
        show Steps p.tables e below (T31.setTop (mkF m 17 #[.val (.ref a1), .val (.int p2), .val (.int p3)] [(.int p3), (.int p2), (.int (2 : Int32)), (.ref a1)])) _
        refine st33 _ ?_
        show Steps p.tables e below (T33.setTop (mkF m 20 #[.val (.ref a1), .val (.int p2), .val (.int p3)] [(.int (own_sb f p2 p3 (2 : Int32)))])) _
        refine XS.iconst X33.here hx rfl (hb hby d20_20) ?_
        show Steps p.tables e below (T33.setTop (mkF m 21 #[.val (.ref a1), .val (.int p2), .val (.int p3)] [(.int (1 : Int32)), (.int (own_sb f p2 p3 (2 : Int32)))])) _
        refine XS.icmpNo X33.here hx rfl (hb hby d20_21) rfl (teq (y1 : (own_sb f p2 p3 (2 : Int32)) = (1 : Int32))).2 ?_
        show Steps p.tables e below (T33.setTop (mkF m 24 #[.val (.ref a1), .val (.int p2), .val (.int p3)] [])) _
        refine XS.iconst X33.here hx rfl (hb hby d20_24) ?_
        exact kt
      obtain ⟨fs, hrt, hrun, hended, hW, hsame⟩ := X33.leave (v := some (.int (2 : Int32))) (fun h => by rw [Bd.returns] at h; cases h)
      refine ⟨_, _, pre0 _ (fl34 _ ?_), hrun, hended, _, _, rfl, ?_, ⟨_, rfl⟩, hW, hsame.mono (by decide) (by decide)⟩
      · exact retI X33 hx Bd.returns (hb hby d20_25) hrt
      · show Q20 _ _ _ _ _ _ _ _ _ _ T33.heap _
        exact ⟨rfl, N33, he33.trans (he31)⟩
    · obtain ⟨_, _, ⟨T35, L35, k35, n35⟩, -, X35, ⟨Lc35, hQ35, l35, y35, z35⟩, st35⟩ := Jvm.LawKit.callS X33 hx (y := (⟨"com/example/concept_ledger/conceptledger/model/RowViewSetPinLaw", "bar", "([BIII)I"⟩ : MethodName)) hown (mvT hZ (hw _ (List.mem_of_getElem? (i := 47) rfl))) (mvT hZ (hw _ (List.mem_of_getElem? (i := 48) rfl))) (mvT hZ (hw _ (List.mem_of_getElem? (i := 2) rfl))) (mvT hZ (hw _ (List.mem_of_getElem? (i := 49) rfl))) (by decide) (backOf (W := 0) (rm8 l Z a0 hw [] a1 (1 : Int32) p2 p3 kb f (own_sb f p2 p3 (1 : Int32)) T33.heap n0 z33z BA_33 ⟨by decide, by decide⟩ rfl) hZ (hw _ (List.mem_of_getElem? (i := 49) rfl)) (hw _ (List.mem_of_getElem? (i := 2) rfl)) (by decide) (by decide)) (g := (mkF m 30 #[.val (.ref a1), .val (.int p2), .val (.int p3)] [(.int p3), (.int p2), (.int (1 : Int32)), (.ref a1)])) rfl (by rw [hml]; rfl) (argsL := [(.ref a1), (.int (1 : Int32)), (.int p2), (.int p3)]) (rest := []) (lenOf pd_1 rfl) rfl (by show 2 * 0 + _ ≤ _; exact Nat.le_of_eq rfl) (hb hby d20_30) (fun _ _ => ⟨rfl, rfl, (by decide : 0 + 0 ≤ _), (by decide : 0 + 0 ≤ _)⟩)
      dsimp only [Pt.U, Pt.locs, Pt.cells, Pt.slots] at X35 l35 y35 z35 st35 hQ35
      subst l35 y35 z35
      obtain ⟨rfl, N35q, he35⟩ := hQ35
      have N35 := Fr.app N33 N35q
      have Kc35 : Keep T33.heap T35.heap [] := by rw [he35]; exact Keep.refl _ _
      have BA_35 := BA_33.keep Kc35 nin0
      have K35 : Keep h0 T35.heap [] := K33.trans Kc35 all0
      have z35z : n0 ≤ T35.heap.size := Nat.le_trans z33z Kc35.1
      by_cases y2 : own_sb f p2 p3 (1 : Int32) = (1 : Int32)
      · obtain rfl : r = 1 := by rw [hr]; unfold own_lst; rw [if_neg y0, if_neg y1, if_pos y2]
        have fl36 : ∀ target, Steps p.tables e below (T35.setTop (mkF m 38 #[.val (.ref a1), .val (.int p2), .val (.int p3)] [(.int (1 : Int32))])) target → Steps p.tables e below (s₁.setTop (mkF m 0 #[.val (.ref a1), .val (.int p2), .val (.int p3)] [])) target := fun target kt => by
          show Steps p.tables e below (s₁.setTop (mkF m 0 #[.val (.ref a1), .val (.int p2), .val (.int p3)] [])) _
          refine XS.aloadN X0.here hx rfl (hb hby d20_0) rfl rfl ?_
          show Steps p.tables e below (s₁.setTop (mkF m 1 #[.val (.ref a1), .val (.int p2), .val (.int p3)] [(.ref a1)])) _
          refine XS.iconst X0.here hx rfl (hb hby d20_1) ?_
          show Steps p.tables e below (s₁.setTop (mkF m 2 #[.val (.ref a1), .val (.int p2), .val (.int p3)] [(.int (3 : Int32)), (.ref a1)])) _
          refine XS.iloadN X0.here hx rfl (hb hby d20_2) rfl ?_
          show Steps p.tables e below (s₁.setTop (mkF m 3 #[.val (.ref a1), .val (.int p2), .val (.int p3)] [(.int p2), (.int (3 : Int32)), (.ref a1)])) _
          refine XS.iloadN X0.here hx rfl (hb hby d20_3) rfl ?_
          show Steps p.tables e below (s₁.setTop (mkF m 4 #[.val (.ref a1), .val (.int p2), .val (.int p3)] [(.int p3), (.int p2), (.int (3 : Int32)), (.ref a1)])) _
          refine st31 _ ?_
          show Steps p.tables e below (T31.setTop (mkF m 7 #[.val (.ref a1), .val (.int p2), .val (.int p3)] [(.int (own_sb f p2 p3 (3 : Int32)))])) _
          refine XS.iconst X31.here hx rfl (hb hby d20_7) ?_
          show Steps p.tables e below (T31.setTop (mkF m 8 #[.val (.ref a1), .val (.int p2), .val (.int p3)] [(.int (1 : Int32)), (.int (own_sb f p2 p3 (3 : Int32)))])) _
          refine XS.icmpYes X31.here hx rfl (pc0 := 8) (pc' := 13) rfl (hb hby d20_8) rfl (feq (y0 : ¬ ((own_sb f p2 p3 (3 : Int32)) = (1 : Int32)))).2 (by decide) (by decide) ?_
          show Steps p.tables e below (T31.setTop (mkF m 13 #[.val (.ref a1), .val (.int p2), .val (.int p3)] [])) _
          refine XS.aloadN X31.here hx rfl (hb hby d20_13) rfl rfl ?_
          show Steps p.tables e below (T31.setTop (mkF m 14 #[.val (.ref a1), .val (.int p2), .val (.int p3)] [(.ref a1)])) _
          refine XS.iconst X31.here hx rfl (hb hby d20_14) ?_
          show Steps p.tables e below (T31.setTop (mkF m 15 #[.val (.ref a1), .val (.int p2), .val (.int p3)] [(.int (2 : Int32)), (.ref a1)])) _
          refine XS.iloadN X31.here hx rfl (hb hby d20_15) rfl ?_
          show Steps p.tables e below (T31.setTop (mkF m 16 #[.val (.ref a1), .val (.int p2), .val (.int p3)] [(.int p2), (.int (2 : Int32)), (.ref a1)])) _
          refine XS.iloadN X31.here hx rfl (hb hby d20_16) rfl ?_
          show Steps p.tables e below (T31.setTop (mkF m 17 #[.val (.ref a1), .val (.int p2), .val (.int p3)] [(.int p3), (.int p2), (.int (2 : Int32)), (.ref a1)])) _
          refine st33 _ ?_
          show Steps p.tables e below (T33.setTop (mkF m 20 #[.val (.ref a1), .val (.int p2), .val (.int p3)] [(.int (own_sb f p2 p3 (2 : Int32)))])) _
          refine XS.iconst X33.here hx rfl (hb hby d20_20) ?_
          show Steps p.tables e below (T33.setTop (mkF m 21 #[.val (.ref a1), .val (.int p2), .val (.int p3)] [(.int (1 : Int32)), (.int (own_sb f p2 p3 (2 : Int32)))])) _
          refine XS.icmpYes X33.here hx rfl (pc0 := 21) (pc' := 26) rfl (hb hby d20_21) rfl (feq (y1 : ¬ ((own_sb f p2 p3 (2 : Int32)) = (1 : Int32)))).2 (by decide) (by decide) ?_
          show Steps p.tables e below (T33.setTop (mkF m 26 #[.val (.ref a1), .val (.int p2), .val (.int p3)] [])) _
          refine XS.aloadN X33.here hx rfl (hb hby d20_26) rfl rfl ?_
          show Steps p.tables e below (T33.setTop (mkF m 27 #[.val (.ref a1), .val (.int p2), .val (.int p3)] [(.ref a1)])) _
          refine XS.iconst X33.here hx rfl (hb hby d20_27) ?_
          show Steps p.tables e below (T33.setTop (mkF m 28 #[.val (.ref a1), .val (.int p2), .val (.int p3)] [(.int (1 : Int32)), (.ref a1)])) _
          refine XS.iloadN X33.here hx rfl (hb hby d20_28) rfl ?_
          show Steps p.tables e below (T33.setTop (mkF m 29 #[.val (.ref a1), .val (.int p2), .val (.int p3)] [(.int p2), (.int (1 : Int32)), (.ref a1)])) _
          refine XS.iloadN X33.here hx rfl (hb hby d20_29) rfl ?_
          show Steps p.tables e below (T33.setTop (mkF m 30 #[.val (.ref a1), .val (.int p2), .val (.int p3)] [(.int p3), (.int p2), (.int (1 : Int32)), (.ref a1)])) _
          refine st35 _ ?_
          show Steps p.tables e below (T35.setTop (mkF m 33 #[.val (.ref a1), .val (.int p2), .val (.int p3)] [(.int (own_sb f p2 p3 (1 : Int32)))])) _
          refine XS.iconst X35.here hx rfl (hb hby d20_33) ?_
          show Steps p.tables e below (T35.setTop (mkF m 34 #[.val (.ref a1), .val (.int p2), .val (.int p3)] [(.int (1 : Int32)), (.int (own_sb f p2 p3 (1 : Int32)))])) _
          refine XS.icmpNo X35.here hx rfl (hb hby d20_34) rfl (teq (y2 : (own_sb f p2 p3 (1 : Int32)) = (1 : Int32))).2 ?_
          show Steps p.tables e below (T35.setTop (mkF m 37 #[.val (.ref a1), .val (.int p2), .val (.int p3)] [])) _
          refine XS.iconst X35.here hx rfl (hb hby d20_37) ?_
          exact kt
        obtain ⟨fs, hrt, hrun, hended, hW, hsame⟩ := X35.leave (v := some (.int (1 : Int32))) (fun h => by rw [Bd.returns] at h; cases h)
        refine ⟨_, _, pre0 _ (fl36 _ ?_), hrun, hended, _, _, rfl, ?_, ⟨_, rfl⟩, hW, hsame.mono (by decide) (by decide)⟩
        · exact retI X35 hx Bd.returns (hb hby d20_38) hrt
        · show Q20 _ _ _ _ _ _ _ _ _ _ T35.heap _
          exact ⟨rfl, N35, he35.trans (he33.trans (he31))⟩
      · obtain ⟨_, _, ⟨T37, L37, k37, n37⟩, -, X37, ⟨Lc37, hQ37, l37, y37, z37⟩, st37⟩ := Jvm.LawKit.callS X35 hx (y := (⟨"com/example/concept_ledger/conceptledger/model/RowViewSetPinLaw", "bar", "([BIII)I"⟩ : MethodName)) hown (mvT hZ (hw _ (List.mem_of_getElem? (i := 47) rfl))) (mvT hZ (hw _ (List.mem_of_getElem? (i := 48) rfl))) (mvT hZ (hw _ (List.mem_of_getElem? (i := 2) rfl))) (mvT hZ (hw _ (List.mem_of_getElem? (i := 49) rfl))) (by decide) (backOf (W := 0) (rm8 l Z a0 hw [] a1 (0 : Int32) p2 p3 kb f (own_sb f p2 p3 (0 : Int32)) T35.heap n0 z35z BA_35 ⟨by decide, by decide⟩ rfl) hZ (hw _ (List.mem_of_getElem? (i := 49) rfl)) (hw _ (List.mem_of_getElem? (i := 2) rfl)) (by decide) (by decide)) (g := (mkF m 43 #[.val (.ref a1), .val (.int p2), .val (.int p3)] [(.int p3), (.int p2), (.int (0 : Int32)), (.ref a1)])) rfl (by rw [hml]; rfl) (argsL := [(.ref a1), (.int (0 : Int32)), (.int p2), (.int p3)]) (rest := []) (lenOf pd_1 rfl) rfl (by show 2 * 0 + _ ≤ _; exact Nat.le_of_eq rfl) (hb hby d20_43) (fun _ _ => ⟨rfl, rfl, (by decide : 0 + 0 ≤ _), (by decide : 0 + 0 ≤ _)⟩)
        dsimp only [Pt.U, Pt.locs, Pt.cells, Pt.slots] at X37 l37 y37 z37 st37 hQ37
        subst l37 y37 z37
        obtain ⟨rfl, N37q, he37⟩ := hQ37
        have N37 := Fr.app N35 N37q
        have Kc37 : Keep T35.heap T37.heap [] := by rw [he37]; exact Keep.refl _ _
        have BA_37 := BA_35.keep Kc37 nin0
        have K37 : Keep h0 T37.heap [] := K35.trans Kc37 all0
        have z37z : n0 ≤ T37.heap.size := Nat.le_trans z35z Kc37.1
        by_cases y3 : own_sb f p2 p3 (0 : Int32) = (1 : Int32)
        · obtain rfl : r = 0 := by rw [hr]; unfold own_lst; rw [if_neg y0, if_neg y1, if_neg y2, if_pos y3]
          have fl38 : ∀ target, Steps p.tables e below (T37.setTop (mkF m 51 #[.val (.ref a1), .val (.int p2), .val (.int p3)] [(.int (0 : Int32))])) target → Steps p.tables e below (s₁.setTop (mkF m 0 #[.val (.ref a1), .val (.int p2), .val (.int p3)] [])) target := fun target kt => by
            show Steps p.tables e below (s₁.setTop (mkF m 0 #[.val (.ref a1), .val (.int p2), .val (.int p3)] [])) _
            refine XS.aloadN X0.here hx rfl (hb hby d20_0) rfl rfl ?_
            show Steps p.tables e below (s₁.setTop (mkF m 1 #[.val (.ref a1), .val (.int p2), .val (.int p3)] [(.ref a1)])) _
            refine XS.iconst X0.here hx rfl (hb hby d20_1) ?_
            show Steps p.tables e below (s₁.setTop (mkF m 2 #[.val (.ref a1), .val (.int p2), .val (.int p3)] [(.int (3 : Int32)), (.ref a1)])) _
            refine XS.iloadN X0.here hx rfl (hb hby d20_2) rfl ?_
            show Steps p.tables e below (s₁.setTop (mkF m 3 #[.val (.ref a1), .val (.int p2), .val (.int p3)] [(.int p2), (.int (3 : Int32)), (.ref a1)])) _
            refine XS.iloadN X0.here hx rfl (hb hby d20_3) rfl ?_
            show Steps p.tables e below (s₁.setTop (mkF m 4 #[.val (.ref a1), .val (.int p2), .val (.int p3)] [(.int p3), (.int p2), (.int (3 : Int32)), (.ref a1)])) _
            refine st31 _ ?_
            show Steps p.tables e below (T31.setTop (mkF m 7 #[.val (.ref a1), .val (.int p2), .val (.int p3)] [(.int (own_sb f p2 p3 (3 : Int32)))])) _
            refine XS.iconst X31.here hx rfl (hb hby d20_7) ?_
            show Steps p.tables e below (T31.setTop (mkF m 8 #[.val (.ref a1), .val (.int p2), .val (.int p3)] [(.int (1 : Int32)), (.int (own_sb f p2 p3 (3 : Int32)))])) _
            refine XS.icmpYes X31.here hx rfl (pc0 := 8) (pc' := 13) rfl (hb hby d20_8) rfl (feq (y0 : ¬ ((own_sb f p2 p3 (3 : Int32)) = (1 : Int32)))).2 (by decide) (by decide) ?_
            show Steps p.tables e below (T31.setTop (mkF m 13 #[.val (.ref a1), .val (.int p2), .val (.int p3)] [])) _
            refine XS.aloadN X31.here hx rfl (hb hby d20_13) rfl rfl ?_
            show Steps p.tables e below (T31.setTop (mkF m 14 #[.val (.ref a1), .val (.int p2), .val (.int p3)] [(.ref a1)])) _
            refine XS.iconst X31.here hx rfl (hb hby d20_14) ?_
            show Steps p.tables e below (T31.setTop (mkF m 15 #[.val (.ref a1), .val (.int p2), .val (.int p3)] [(.int (2 : Int32)), (.ref a1)])) _
            refine XS.iloadN X31.here hx rfl (hb hby d20_15) rfl ?_
            show Steps p.tables e below (T31.setTop (mkF m 16 #[.val (.ref a1), .val (.int p2), .val (.int p3)] [(.int p2), (.int (2 : Int32)), (.ref a1)])) _
            refine XS.iloadN X31.here hx rfl (hb hby d20_16) rfl ?_
            show Steps p.tables e below (T31.setTop (mkF m 17 #[.val (.ref a1), .val (.int p2), .val (.int p3)] [(.int p3), (.int p2), (.int (2 : Int32)), (.ref a1)])) _
            refine st33 _ ?_
            show Steps p.tables e below (T33.setTop (mkF m 20 #[.val (.ref a1), .val (.int p2), .val (.int p3)] [(.int (own_sb f p2 p3 (2 : Int32)))])) _
            refine XS.iconst X33.here hx rfl (hb hby d20_20) ?_
            show Steps p.tables e below (T33.setTop (mkF m 21 #[.val (.ref a1), .val (.int p2), .val (.int p3)] [(.int (1 : Int32)), (.int (own_sb f p2 p3 (2 : Int32)))])) _
            refine XS.icmpYes X33.here hx rfl (pc0 := 21) (pc' := 26) rfl (hb hby d20_21) rfl (feq (y1 : ¬ ((own_sb f p2 p3 (2 : Int32)) = (1 : Int32)))).2 (by decide) (by decide) ?_
            show Steps p.tables e below (T33.setTop (mkF m 26 #[.val (.ref a1), .val (.int p2), .val (.int p3)] [])) _
            refine XS.aloadN X33.here hx rfl (hb hby d20_26) rfl rfl ?_
            show Steps p.tables e below (T33.setTop (mkF m 27 #[.val (.ref a1), .val (.int p2), .val (.int p3)] [(.ref a1)])) _
            refine XS.iconst X33.here hx rfl (hb hby d20_27) ?_
            show Steps p.tables e below (T33.setTop (mkF m 28 #[.val (.ref a1), .val (.int p2), .val (.int p3)] [(.int (1 : Int32)), (.ref a1)])) _
            refine XS.iloadN X33.here hx rfl (hb hby d20_28) rfl ?_
            show Steps p.tables e below (T33.setTop (mkF m 29 #[.val (.ref a1), .val (.int p2), .val (.int p3)] [(.int p2), (.int (1 : Int32)), (.ref a1)])) _
            refine XS.iloadN X33.here hx rfl (hb hby d20_29) rfl ?_
            show Steps p.tables e below (T33.setTop (mkF m 30 #[.val (.ref a1), .val (.int p2), .val (.int p3)] [(.int p3), (.int p2), (.int (1 : Int32)), (.ref a1)])) _
            refine st35 _ ?_
            show Steps p.tables e below (T35.setTop (mkF m 33 #[.val (.ref a1), .val (.int p2), .val (.int p3)] [(.int (own_sb f p2 p3 (1 : Int32)))])) _
            refine XS.iconst X35.here hx rfl (hb hby d20_33) ?_
            show Steps p.tables e below (T35.setTop (mkF m 34 #[.val (.ref a1), .val (.int p2), .val (.int p3)] [(.int (1 : Int32)), (.int (own_sb f p2 p3 (1 : Int32)))])) _
            refine XS.icmpYes X35.here hx rfl (pc0 := 34) (pc' := 39) rfl (hb hby d20_34) rfl (feq (y2 : ¬ ((own_sb f p2 p3 (1 : Int32)) = (1 : Int32)))).2 (by decide) (by decide) ?_
            show Steps p.tables e below (T35.setTop (mkF m 39 #[.val (.ref a1), .val (.int p2), .val (.int p3)] [])) _
            refine XS.aloadN X35.here hx rfl (hb hby d20_39) rfl rfl ?_
            show Steps p.tables e below (T35.setTop (mkF m 40 #[.val (.ref a1), .val (.int p2), .val (.int p3)] [(.ref a1)])) _
            refine XS.iconst X35.here hx rfl (hb hby d20_40) ?_
            show Steps p.tables e below (T35.setTop (mkF m 41 #[.val (.ref a1), .val (.int p2), .val (.int p3)] [(.int (0 : Int32)), (.ref a1)])) _
            refine XS.iloadN X35.here hx rfl (hb hby d20_41) rfl ?_
            show Steps p.tables e below (T35.setTop (mkF m 42 #[.val (.ref a1), .val (.int p2), .val (.int p3)] [(.int p2), (.int (0 : Int32)), (.ref a1)])) _
            refine XS.iloadN X35.here hx rfl (hb hby d20_42) rfl ?_
            show Steps p.tables e below (T35.setTop (mkF m 43 #[.val (.ref a1), .val (.int p2), .val (.int p3)] [(.int p3), (.int p2), (.int (0 : Int32)), (.ref a1)])) _
            refine st37 _ ?_
            show Steps p.tables e below (T37.setTop (mkF m 46 #[.val (.ref a1), .val (.int p2), .val (.int p3)] [(.int (own_sb f p2 p3 (0 : Int32)))])) _
            refine XS.iconst X37.here hx rfl (hb hby d20_46) ?_
            show Steps p.tables e below (T37.setTop (mkF m 47 #[.val (.ref a1), .val (.int p2), .val (.int p3)] [(.int (1 : Int32)), (.int (own_sb f p2 p3 (0 : Int32)))])) _
            refine XS.icmpNo X37.here hx rfl (hb hby d20_47) rfl (teq (y3 : (own_sb f p2 p3 (0 : Int32)) = (1 : Int32))).2 ?_
            show Steps p.tables e below (T37.setTop (mkF m 50 #[.val (.ref a1), .val (.int p2), .val (.int p3)] [])) _
            refine XS.iconst X37.here hx rfl (hb hby d20_50) ?_
            exact kt
          obtain ⟨fs, hrt, hrun, hended, hW, hsame⟩ := X37.leave (v := some (.int (0 : Int32))) (fun h => by rw [Bd.returns] at h; cases h)
          refine ⟨_, _, pre0 _ (fl38 _ ?_), hrun, hended, _, _, rfl, ?_, ⟨_, rfl⟩, hW, hsame.mono (by decide) (by decide)⟩
          · exact retI X37 hx Bd.returns (hb hby d20_51) hrt
          · show Q20 _ _ _ _ _ _ _ _ _ _ T37.heap _
            exact ⟨rfl, N37, he37.trans (he35.trans (he33.trans (he31)))⟩
        · obtain rfl : r = -1 := by rw [hr]; unfold own_lst; rw [if_neg y0, if_neg y1, if_neg y2, if_neg y3]
          have fl39 : ∀ target, Steps p.tables e below (T37.setTop (mkF m 53 #[.val (.ref a1), .val (.int p2), .val (.int p3)] [(.int (-1 : Int32))])) target → Steps p.tables e below (s₁.setTop (mkF m 0 #[.val (.ref a1), .val (.int p2), .val (.int p3)] [])) target := fun target kt => by
            show Steps p.tables e below (s₁.setTop (mkF m 0 #[.val (.ref a1), .val (.int p2), .val (.int p3)] [])) _
            refine XS.aloadN X0.here hx rfl (hb hby d20_0) rfl rfl ?_
            show Steps p.tables e below (s₁.setTop (mkF m 1 #[.val (.ref a1), .val (.int p2), .val (.int p3)] [(.ref a1)])) _
            refine XS.iconst X0.here hx rfl (hb hby d20_1) ?_
            show Steps p.tables e below (s₁.setTop (mkF m 2 #[.val (.ref a1), .val (.int p2), .val (.int p3)] [(.int (3 : Int32)), (.ref a1)])) _
            refine XS.iloadN X0.here hx rfl (hb hby d20_2) rfl ?_
            show Steps p.tables e below (s₁.setTop (mkF m 3 #[.val (.ref a1), .val (.int p2), .val (.int p3)] [(.int p2), (.int (3 : Int32)), (.ref a1)])) _
            refine XS.iloadN X0.here hx rfl (hb hby d20_3) rfl ?_
            show Steps p.tables e below (s₁.setTop (mkF m 4 #[.val (.ref a1), .val (.int p2), .val (.int p3)] [(.int p3), (.int p2), (.int (3 : Int32)), (.ref a1)])) _
            refine st31 _ ?_
            show Steps p.tables e below (T31.setTop (mkF m 7 #[.val (.ref a1), .val (.int p2), .val (.int p3)] [(.int (own_sb f p2 p3 (3 : Int32)))])) _
            refine XS.iconst X31.here hx rfl (hb hby d20_7) ?_
            show Steps p.tables e below (T31.setTop (mkF m 8 #[.val (.ref a1), .val (.int p2), .val (.int p3)] [(.int (1 : Int32)), (.int (own_sb f p2 p3 (3 : Int32)))])) _
            refine XS.icmpYes X31.here hx rfl (pc0 := 8) (pc' := 13) rfl (hb hby d20_8) rfl (feq (y0 : ¬ ((own_sb f p2 p3 (3 : Int32)) = (1 : Int32)))).2 (by decide) (by decide) ?_
            show Steps p.tables e below (T31.setTop (mkF m 13 #[.val (.ref a1), .val (.int p2), .val (.int p3)] [])) _
            refine XS.aloadN X31.here hx rfl (hb hby d20_13) rfl rfl ?_
            show Steps p.tables e below (T31.setTop (mkF m 14 #[.val (.ref a1), .val (.int p2), .val (.int p3)] [(.ref a1)])) _
            refine XS.iconst X31.here hx rfl (hb hby d20_14) ?_
            show Steps p.tables e below (T31.setTop (mkF m 15 #[.val (.ref a1), .val (.int p2), .val (.int p3)] [(.int (2 : Int32)), (.ref a1)])) _
            refine XS.iloadN X31.here hx rfl (hb hby d20_15) rfl ?_
            show Steps p.tables e below (T31.setTop (mkF m 16 #[.val (.ref a1), .val (.int p2), .val (.int p3)] [(.int p2), (.int (2 : Int32)), (.ref a1)])) _
            refine XS.iloadN X31.here hx rfl (hb hby d20_16) rfl ?_
            show Steps p.tables e below (T31.setTop (mkF m 17 #[.val (.ref a1), .val (.int p2), .val (.int p3)] [(.int p3), (.int p2), (.int (2 : Int32)), (.ref a1)])) _
            refine st33 _ ?_
            show Steps p.tables e below (T33.setTop (mkF m 20 #[.val (.ref a1), .val (.int p2), .val (.int p3)] [(.int (own_sb f p2 p3 (2 : Int32)))])) _
            refine XS.iconst X33.here hx rfl (hb hby d20_20) ?_
            show Steps p.tables e below (T33.setTop (mkF m 21 #[.val (.ref a1), .val (.int p2), .val (.int p3)] [(.int (1 : Int32)), (.int (own_sb f p2 p3 (2 : Int32)))])) _
            refine XS.icmpYes X33.here hx rfl (pc0 := 21) (pc' := 26) rfl (hb hby d20_21) rfl (feq (y1 : ¬ ((own_sb f p2 p3 (2 : Int32)) = (1 : Int32)))).2 (by decide) (by decide) ?_
            show Steps p.tables e below (T33.setTop (mkF m 26 #[.val (.ref a1), .val (.int p2), .val (.int p3)] [])) _
            refine XS.aloadN X33.here hx rfl (hb hby d20_26) rfl rfl ?_
            show Steps p.tables e below (T33.setTop (mkF m 27 #[.val (.ref a1), .val (.int p2), .val (.int p3)] [(.ref a1)])) _
            refine XS.iconst X33.here hx rfl (hb hby d20_27) ?_
            show Steps p.tables e below (T33.setTop (mkF m 28 #[.val (.ref a1), .val (.int p2), .val (.int p3)] [(.int (1 : Int32)), (.ref a1)])) _
            refine XS.iloadN X33.here hx rfl (hb hby d20_28) rfl ?_
            show Steps p.tables e below (T33.setTop (mkF m 29 #[.val (.ref a1), .val (.int p2), .val (.int p3)] [(.int p2), (.int (1 : Int32)), (.ref a1)])) _
            refine XS.iloadN X33.here hx rfl (hb hby d20_29) rfl ?_
            show Steps p.tables e below (T33.setTop (mkF m 30 #[.val (.ref a1), .val (.int p2), .val (.int p3)] [(.int p3), (.int p2), (.int (1 : Int32)), (.ref a1)])) _
            refine st35 _ ?_
            show Steps p.tables e below (T35.setTop (mkF m 33 #[.val (.ref a1), .val (.int p2), .val (.int p3)] [(.int (own_sb f p2 p3 (1 : Int32)))])) _
            refine XS.iconst X35.here hx rfl (hb hby d20_33) ?_
            show Steps p.tables e below (T35.setTop (mkF m 34 #[.val (.ref a1), .val (.int p2), .val (.int p3)] [(.int (1 : Int32)), (.int (own_sb f p2 p3 (1 : Int32)))])) _
            refine XS.icmpYes X35.here hx rfl (pc0 := 34) (pc' := 39) rfl (hb hby d20_34) rfl (feq (y2 : ¬ ((own_sb f p2 p3 (1 : Int32)) = (1 : Int32)))).2 (by decide) (by decide) ?_
            show Steps p.tables e below (T35.setTop (mkF m 39 #[.val (.ref a1), .val (.int p2), .val (.int p3)] [])) _
            refine XS.aloadN X35.here hx rfl (hb hby d20_39) rfl rfl ?_
            show Steps p.tables e below (T35.setTop (mkF m 40 #[.val (.ref a1), .val (.int p2), .val (.int p3)] [(.ref a1)])) _
            refine XS.iconst X35.here hx rfl (hb hby d20_40) ?_
            show Steps p.tables e below (T35.setTop (mkF m 41 #[.val (.ref a1), .val (.int p2), .val (.int p3)] [(.int (0 : Int32)), (.ref a1)])) _
            refine XS.iloadN X35.here hx rfl (hb hby d20_41) rfl ?_
            show Steps p.tables e below (T35.setTop (mkF m 42 #[.val (.ref a1), .val (.int p2), .val (.int p3)] [(.int p2), (.int (0 : Int32)), (.ref a1)])) _
            refine XS.iloadN X35.here hx rfl (hb hby d20_42) rfl ?_
            show Steps p.tables e below (T35.setTop (mkF m 43 #[.val (.ref a1), .val (.int p2), .val (.int p3)] [(.int p3), (.int p2), (.int (0 : Int32)), (.ref a1)])) _
            refine st37 _ ?_
            show Steps p.tables e below (T37.setTop (mkF m 46 #[.val (.ref a1), .val (.int p2), .val (.int p3)] [(.int (own_sb f p2 p3 (0 : Int32)))])) _
            refine XS.iconst X37.here hx rfl (hb hby d20_46) ?_
            show Steps p.tables e below (T37.setTop (mkF m 47 #[.val (.ref a1), .val (.int p2), .val (.int p3)] [(.int (1 : Int32)), (.int (own_sb f p2 p3 (0 : Int32)))])) _
            refine XS.icmpYes X37.here hx rfl (pc0 := 47) (pc' := 52) rfl (hb hby d20_47) rfl (feq (y3 : ¬ ((own_sb f p2 p3 (0 : Int32)) = (1 : Int32)))).2 (by decide) (by decide) ?_
            show Steps p.tables e below (T37.setTop (mkF m 52 #[.val (.ref a1), .val (.int p2), .val (.int p3)] [])) _
            refine XS.iconst X37.here hx rfl (hb hby d20_52) ?_
            exact kt
          obtain ⟨fs, hrt, hrun, hended, hW, hsame⟩ := X37.leave (v := some (.int (-1 : Int32))) (fun h => by rw [Bd.returns] at h; cases h)
          refine ⟨_, _, pre0 _ (fl39 _ ?_), hrun, hended, _, _, rfl, ?_, ⟨_, rfl⟩, hW, hsame.mono (by decide) (by decide)⟩
          · exact retI X37 hx Bd.returns (hb hby d20_53) hrt
          · show Q20 _ _ _ _ _ _ _ _ _ _ T37.heap _
            exact ⟨rfl, N37, he37.trans (he35.trans (he33.trans (he31)))⟩
theorem ef_18 (m : MethodId) (x0 : Int32) (x1 : Int32) : entryFrame m #[(.int x0), (.int x1)] 2 = mkF m 0 #[.val (.int x0), .val (.int x1)] [] := by first | (simp [entryFrame, mkF, argsToLocals, Value.category]; done) | rfl
def Q18 (Z : State) (p1 : Int32) (p2 : Int32) (r : Int32) (h0 : Heap) (n0 : Nat) (v : Option Value) (h : Heap) (L : List Loc) : Prop := v = some (.int r) ∧ Fr n0 L ∧ h = h0
set_option maxRecDepth 65536 in
set_option maxHeartbeats 40000000 in
theorem rm18 (l : Launch) (Z : State) (a0 : Array Value) (hw : ∀ d ∈ tables_1, d.before a0 Z = true) (ws : List Jvm.Cond) (p1 : Int32) (p2 : Int32) (r : Int32) (h0 : Heap) (n0 : Nat) (Z0 : n0 ≤ h0.size) (hr : r = if p2 < p1 then p2 else p1) :
    MetFree l (⟨"java/lang/Math", "min", "(II)I"⟩ : MethodName) (head1 (Jvm.Cond.code (⟨"java/lang/Math", "min", "(II)I"⟩ : MethodName) jdk_29_method_69_code 2 (some .int) :: ws) ({ frames := 0, cells := 0, slots := 0, locals := 0 } : Room)) (fun a U => a = #[(.int p1), (.int p2)] ∧ Z.Warmed39 U.vm ∧ U.heap = h0) (fun _ _ _ _ _ => True) (fun _ U o U' => ∃ v L, o = .returned v ∧ Q18 Z p1 p2 r h0 n0 v U'.heap L ∧ FrameEnd U o U' L ({ frames := 0, cells := 0, slots := 0, locals := 0 } : Room).cells ({ frames := 0, cells := 0, slots := 0, locals := 0 } : Room).slots) := by
  refine MetFree.of_bodySF (Jvm.Free.JP.mathPlain rfl (by decide +kernel)) hisR ?_
  intro p e s m args below meth c s₁ Bd hml0 hP hK
  obtain ⟨rfl, hZ, hh⟩ := hP
  have hx := Bd.exec
  have hby := Bd.bytes
  have hml : c.maxLocals = 2 := hml0
  have hown : s.vm.findClass "java/lang/Math" = some m.cls := findClass_of_methodNamed Bd.named
  have hnm := (name_of_methodNamed Bd.named Bd.method).1
  have X0 : Stand p l e ({ frames := 0, cells := 0, slots := 0, locals := 0 } : Room) s m #[(.int p1), (.int p2)] below meth c s₁ [] 0 0 := Stand.of_body Bd
  have e0 : s₁.heap = h0 := by rw [← hh, Bd.state]; rfl
  have N0 := Fr.nil n0
  have pre0 : ∀ t, Steps p.tables e below (s₁.setTop (mkF m 0 #[.val (.int p1), .val (.int p2)] [])) t → Steps p.tables e below (s₁.setTop (entryFrame m #[(.int p1), (.int p2)] 2)) t := fun t k => castTop (ef_18 m p1 p2) k
  by_cases hc : p2 < p1
  · obtain rfl : p2 = r := by rw [hr]; exact (if_pos hc).symm
    have fl40 : ∀ target, Steps p.tables e below (s₁.setTop (mkF m 10 #[.val (.int p1), .val (.int p2)] [(.int p2)])) target → Steps p.tables e below (s₁.setTop (mkF m 0 #[.val (.int p1), .val (.int p2)] [])) target := fun target kt => by
      show Steps p.tables e below (s₁.setTop (mkF m 0 #[.val (.int p1), .val (.int p2)] [])) _
      refine XS.iloadN X0.here hx rfl (hb hby d18_0) rfl ?_
      show Steps p.tables e below (s₁.setTop (mkF m 1 #[.val (.int p1), .val (.int p2)] [(.int p1)])) _
      refine XS.iloadN X0.here hx rfl (hb hby d18_1) rfl ?_
      show Steps p.tables e below (s₁.setTop (mkF m 2 #[.val (.int p1), .val (.int p2)] [(.int p2), (.int p1)])) _
      refine XS.icmpYes X0.here hx rfl (pc0 := 2) (pc' := 9) rfl (hb hby d18_2) rfl (tlt (hc : p2 < p1)).2.2.1 (by decide) (by decide) ?_
      show Steps p.tables e below (s₁.setTop (mkF m 9 #[.val (.int p1), .val (.int p2)] [])) _
      refine XS.iloadN X0.here hx rfl (hb hby d18_9) rfl ?_
      exact kt
    obtain ⟨fs, hrt, hrun, hended, hW, hsame⟩ := X0.leave (v := some (.int p2)) (fun h => by rw [Bd.returns] at h; cases h)
    refine ⟨_, _, pre0 _ (fl40 _ ?_), hrun, hended, _, _, rfl, ?_, ⟨_, rfl⟩, hW, hsame.mono (by decide) (by decide)⟩
    · exact retI X0 hx Bd.returns (hb hby d18_10) hrt
    · show Q18 _ _ _ _ _ _ _ s₁.heap _
      rw [e0]
      exact ⟨rfl, N0, rfl⟩
  · obtain rfl : p1 = r := by rw [hr]; exact (if_neg hc).symm
    have fl41 : ∀ target, Steps p.tables e below (s₁.setTop (mkF m 10 #[.val (.int p1), .val (.int p2)] [(.int p1)])) target → Steps p.tables e below (s₁.setTop (mkF m 0 #[.val (.int p1), .val (.int p2)] [])) target := fun target kt => by
      show Steps p.tables e below (s₁.setTop (mkF m 0 #[.val (.int p1), .val (.int p2)] [])) _
      refine XS.iloadN X0.here hx rfl (hb hby d18_0) rfl ?_
      show Steps p.tables e below (s₁.setTop (mkF m 1 #[.val (.int p1), .val (.int p2)] [(.int p1)])) _
      refine XS.iloadN X0.here hx rfl (hb hby d18_1) rfl ?_
      show Steps p.tables e below (s₁.setTop (mkF m 2 #[.val (.int p1), .val (.int p2)] [(.int p2), (.int p1)])) _
      refine XS.icmpNo X0.here hx rfl (hb hby d18_2) rfl (flt (hc : ¬ (p2 < p1))).2.2.1 ?_
      show Steps p.tables e below (s₁.setTop (mkF m 5 #[.val (.int p1), .val (.int p2)] [])) _
      refine XS.iloadN X0.here hx rfl (hb hby d18_5) rfl ?_
      show Steps p.tables e below (s₁.setTop (mkF m 6 #[.val (.int p1), .val (.int p2)] [(.int p1)])) _
      refine XS.goto X0.here hx rfl (pc0 := 6) (pc' := 10) rfl (hb hby d18_6) (by decide) (by decide) ?_
      exact kt
    obtain ⟨fs, hrt, hrun, hended, hW, hsame⟩ := X0.leave (v := some (.int p1)) (fun h => by rw [Bd.returns] at h; cases h)
    refine ⟨_, _, pre0 _ (fl41 _ ?_), hrun, hended, _, _, rfl, ?_, ⟨_, rfl⟩, hW, hsame.mono (by decide) (by decide)⟩
    · exact retI X0 hx Bd.returns (hb hby d18_10) hrt
    · show Q18 _ _ _ _ _ _ _ s₁.heap _
      rw [e0]
      exact ⟨rfl, N0, rfl⟩
theorem ef_16 (m : MethodId) (x0 : Int32) (x1 : Int32) : entryFrame m #[(.int x0), (.int x1)] 2 = mkF m 0 #[.val (.int x0), .val (.int x1)] [] := by first | (simp [entryFrame, mkF, argsToLocals, Value.category]; done) | rfl
def Q16 (Z : State) (p1 : Int32) (p2 : Int32) (r : Int32) (h0 : Heap) (n0 : Nat) (v : Option Value) (h : Heap) (L : List Loc) : Prop := v = some (.int r) ∧ Fr n0 L ∧ h = h0
set_option maxRecDepth 65536 in
set_option maxHeartbeats 40000000 in
theorem rm16 (l : Launch) (Z : State) (a0 : Array Value) (hw : ∀ d ∈ tables_1, d.before a0 Z = true) (ws : List Jvm.Cond) (p1 : Int32) (p2 : Int32) (r : Int32) (h0 : Heap) (n0 : Nat) (Z0 : n0 ≤ h0.size) (hr : r = if p1 < p2 then p2 else p1) :
    MetFree l (⟨"java/lang/Math", "max", "(II)I"⟩ : MethodName) (head1 (Jvm.Cond.code (⟨"java/lang/Math", "max", "(II)I"⟩ : MethodName) jdk_29_method_65_code 2 (some .int) :: ws) ({ frames := 0, cells := 0, slots := 0, locals := 0 } : Room)) (fun a U => a = #[(.int p1), (.int p2)] ∧ Z.Warmed39 U.vm ∧ U.heap = h0) (fun _ _ _ _ _ => True) (fun _ U o U' => ∃ v L, o = .returned v ∧ Q16 Z p1 p2 r h0 n0 v U'.heap L ∧ FrameEnd U o U' L ({ frames := 0, cells := 0, slots := 0, locals := 0 } : Room).cells ({ frames := 0, cells := 0, slots := 0, locals := 0 } : Room).slots) := by
  refine MetFree.of_bodySF (Jvm.Free.JP.mathPlain rfl (by decide +kernel)) hisR ?_
  intro p e s m args below meth c s₁ Bd hml0 hP hK
  obtain ⟨rfl, hZ, hh⟩ := hP
  have hx := Bd.exec
  have hby := Bd.bytes
  have hml : c.maxLocals = 2 := hml0
  have hown : s.vm.findClass "java/lang/Math" = some m.cls := findClass_of_methodNamed Bd.named
  have hnm := (name_of_methodNamed Bd.named Bd.method).1
  have X0 : Stand p l e ({ frames := 0, cells := 0, slots := 0, locals := 0 } : Room) s m #[(.int p1), (.int p2)] below meth c s₁ [] 0 0 := Stand.of_body Bd
  have e0 : s₁.heap = h0 := by rw [← hh, Bd.state]; rfl
  have N0 := Fr.nil n0
  have pre0 : ∀ t, Steps p.tables e below (s₁.setTop (mkF m 0 #[.val (.int p1), .val (.int p2)] [])) t → Steps p.tables e below (s₁.setTop (entryFrame m #[(.int p1), (.int p2)] 2)) t := fun t k => castTop (ef_16 m p1 p2) k
  by_cases hc : p1 < p2
  · obtain rfl : p2 = r := by rw [hr]; exact (if_pos hc).symm
    have fl42 : ∀ target, Steps p.tables e below (s₁.setTop (mkF m 10 #[.val (.int p1), .val (.int p2)] [(.int p2)])) target → Steps p.tables e below (s₁.setTop (mkF m 0 #[.val (.int p1), .val (.int p2)] [])) target := fun target kt => by
      show Steps p.tables e below (s₁.setTop (mkF m 0 #[.val (.int p1), .val (.int p2)] [])) _
      refine XS.iloadN X0.here hx rfl (hb hby d16_0) rfl ?_
      show Steps p.tables e below (s₁.setTop (mkF m 1 #[.val (.int p1), .val (.int p2)] [(.int p1)])) _
      refine XS.iloadN X0.here hx rfl (hb hby d16_1) rfl ?_
      show Steps p.tables e below (s₁.setTop (mkF m 2 #[.val (.int p1), .val (.int p2)] [(.int p2), (.int p1)])) _
      refine XS.icmpYes X0.here hx rfl (pc0 := 2) (pc' := 9) rfl (hb hby d16_2) rfl (tlt (hc : p1 < p2)).1 (by decide) (by decide) ?_
      show Steps p.tables e below (s₁.setTop (mkF m 9 #[.val (.int p1), .val (.int p2)] [])) _
      refine XS.iloadN X0.here hx rfl (hb hby d16_9) rfl ?_
      exact kt
    obtain ⟨fs, hrt, hrun, hended, hW, hsame⟩ := X0.leave (v := some (.int p2)) (fun h => by rw [Bd.returns] at h; cases h)
    refine ⟨_, _, pre0 _ (fl42 _ ?_), hrun, hended, _, _, rfl, ?_, ⟨_, rfl⟩, hW, hsame.mono (by decide) (by decide)⟩
    · exact retI X0 hx Bd.returns (hb hby d16_10) hrt
    · show Q16 _ _ _ _ _ _ _ s₁.heap _
      rw [e0]
      exact ⟨rfl, N0, rfl⟩
  · obtain rfl : p1 = r := by rw [hr]; exact (if_neg hc).symm
    have fl43 : ∀ target, Steps p.tables e below (s₁.setTop (mkF m 10 #[.val (.int p1), .val (.int p2)] [(.int p1)])) target → Steps p.tables e below (s₁.setTop (mkF m 0 #[.val (.int p1), .val (.int p2)] [])) target := fun target kt => by
      show Steps p.tables e below (s₁.setTop (mkF m 0 #[.val (.int p1), .val (.int p2)] [])) _
      refine XS.iloadN X0.here hx rfl (hb hby d16_0) rfl ?_
      show Steps p.tables e below (s₁.setTop (mkF m 1 #[.val (.int p1), .val (.int p2)] [(.int p1)])) _
      refine XS.iloadN X0.here hx rfl (hb hby d16_1) rfl ?_
      show Steps p.tables e below (s₁.setTop (mkF m 2 #[.val (.int p1), .val (.int p2)] [(.int p2), (.int p1)])) _
      refine XS.icmpNo X0.here hx rfl (hb hby d16_2) rfl (flt (hc : ¬ (p1 < p2))).1 ?_
      show Steps p.tables e below (s₁.setTop (mkF m 5 #[.val (.int p1), .val (.int p2)] [])) _
      refine XS.iloadN X0.here hx rfl (hb hby d16_5) rfl ?_
      show Steps p.tables e below (s₁.setTop (mkF m 6 #[.val (.int p1), .val (.int p2)] [(.int p1)])) _
      refine XS.goto X0.here hx rfl (pc0 := 6) (pc' := 10) rfl (hb hby d16_6) (by decide) (by decide) ?_
      exact kt
    obtain ⟨fs, hrt, hrun, hended, hW, hsame⟩ := X0.leave (v := some (.int p1)) (fun h => by rw [Bd.returns] at h; cases h)
    refine ⟨_, _, pre0 _ (fl43 _ ?_), hrun, hended, _, _, rfl, ?_, ⟨_, rfl⟩, hW, hsame.mono (by decide) (by decide)⟩
    · exact retI X0 hx Bd.returns (hb hby d16_10) hrt
    · show Q16 _ _ _ _ _ _ _ s₁.heap _
      rw [e0]
      exact ⟨rfl, N0, rfl⟩
theorem ef_3 (m : MethodId) (x0 : Addr) : entryFrame m #[(.ref x0)] 1 = mkF m 0 #[.val (.ref x0)] [] := by first | (simp [entryFrame, mkF, argsToLocals, Value.category]; done) | rfl
def Q3 (Z : State) (a1 : Addr) (h0 : Heap) (n0 : Nat) (v : Option Value) (h : Heap) (L : List Loc) : Prop := ∃ (b ar : Addr), v = none ∧ Fr n0 L ∧ own_RV Z h a1 b ar 0 0 0 0 0 0 ∧ own_Bars Z h ar [] ∧ Keep h0 h [a1] ∧ n0 ≤ ar ∧ h0.size ≤ ar
set_option maxRecDepth 65536 in
set_option maxHeartbeats 40000000 in
theorem rm3 (l : Launch) (Z : State) (a0 : Array Value) (hw : ∀ d ∈ tables_1, d.before a0 Z = true) (ws : List Jvm.Cond) (a1 : Addr) (h0 : Heap) (n0 : Nat) (Z0 : n0 ≤ h0.size) (E_a1 : Exa Z h0 a1 "com/example/concept_ledger/conceptledger/model/RowView") (F_bytes : Fld Z h0 a1 "com/example/concept_ledger/conceptledger/model/RowView" "bytes" "[B" .null) (F_bars : Fld Z h0 a1 "com/example/concept_ledger/conceptledger/model/RowView" "bars" "[I" .null) (F_start : Fld Z h0 a1 "com/example/concept_ledger/conceptledger/model/RowView" "start" "I" (.int (0 : Int32))) (F_end : Fld Z h0 a1 "com/example/concept_ledger/conceptledger/model/RowView" "end" "I" (.int (0 : Int32))) (F_line : Fld Z h0 a1 "com/example/concept_ledger/conceptledger/model/RowView" "line" "J" (.long (0 : Int64))) (F_count : Fld Z h0 a1 "com/example/concept_ledger/conceptledger/model/RowView" "count" "I" (.int (0 : Int32))) (F_found : Fld Z h0 a1 "com/example/concept_ledger/conceptledger/model/RowView" "found" "I" (.int (0 : Int32))) (F_searched : Fld Z h0 a1 "com/example/concept_ledger/conceptledger/model/RowView" "searched" "I" (.int (0 : Int32))) (g_a1 : n0 ≤ a1) :
    MetFree l (⟨"com/example/concept_ledger/conceptledger/model/RowView", "<init>", "()V"⟩ : MethodName) (head1 (Jvm.Cond.code (⟨"com/example/concept_ledger/conceptledger/model/RowView", "<init>", "()V"⟩ : MethodName) prog_35_method_1_code 1 none :: ws) ({ frames := 1, cells := 2, slots := 0, locals := 12 } : Room)) (fun a U => a = #[(.ref a1)] ∧ Z.Warmed39 U.vm ∧ U.heap = h0) (fun _ _ _ _ _ => True) (fun _ U o U' => ∃ v L, o = .returned v ∧ Q3 Z a1 h0 n0 v U'.heap L ∧ FrameEnd U o U' L ({ frames := 1, cells := 2, slots := 0, locals := 12 } : Room).cells ({ frames := 1, cells := 2, slots := 0, locals := 12 } : Room).slots) := by
  refine MetFree.of_bodySF (plainFor_of_name pn_1) hisR ?_
  intro p e s m args below meth c s₁ Bd hml0 hP hK
  obtain ⟨rfl, hZ, hh⟩ := hP
  have hx := Bd.exec
  have hby := Bd.bytes
  have hml : c.maxLocals = 1 := hml0
  have hown : s.vm.findClass "com/example/concept_ledger/conceptledger/model/RowView" = some m.cls := findClass_of_methodNamed Bd.named
  have hnm := (name_of_methodNamed Bd.named Bd.method).1
  have X0 : Stand p l e ({ frames := 1, cells := 2, slots := 0, locals := 12 } : Room) s m #[(.ref a1)] below meth c s₁ [] 0 0 := Stand.of_body Bd
  have e0 : s₁.heap = h0 := by rw [← hh, Bd.state]; rfl
  have N0 := Fr.nil n0
  have pre0 : ∀ t, Steps p.tables e below (s₁.setTop (mkF m 0 #[.val (.ref a1)] [])) t → Steps p.tables e below (s₁.setTop (entryFrame m #[(.ref a1)] 1)) t := fun t k => castTop (ef_3 m a1) k
  obtain ⟨T44, X44, e44, st44⟩ := initO X0 hx hZ hown (hw _ (List.mem_of_getElem? (i := 14) rfl)) (hw _ (List.mem_of_getElem? (i := 15) rfl)) (hw _ (List.mem_of_getElem? (i := 16) rfl)) e0 (g := (mkF m 1 #[.val (.ref a1)] [(.ref a1)])) rfl (by rw [hml]; rfl) rfl (hb hby d3_1) (by decide) (W := 0) (by show 2 * 0 + _ ≤ _; exact Nat.le_of_eq rfl) (by decide)
  obtain ⟨T45, h45, k45, X45, e45, E45, A45, st45⟩ := newP X44 hx hZ (hw _ (List.mem_of_getElem? (i := 4) rfl)) e44 (g := (mkF m 6 #[.val (.ref a1)] [(.int (0 : Int32)), (.ref a1)])) rfl (hb hby d3_6) rfl (by decide) (cap := 0) (by decide) (by decide) (by decide) (by decide)
  obtain ⟨b45, g45⟩ : ∃ z, z = h0.size := ⟨_, rfl⟩
  rw [← g45] at A45 st45
  have ne_a1_b45 : a1 ≠ b45 := Nat.ne_of_lt (by rw [g45]; exact E_a1.lt)
  have g_b45 : n0 ≤ b45 := Nat.le_trans Z0 (Nat.le_of_eq g45.symm)
  have sz_b45 : h0.size ≤ b45 := Nat.le_trans (Keep.refl h0 [a1]).1 (Nat.le_of_eq g45.symm)
  have E_a1_45 := E_a1.ext E45
  have F_bytes_45 := F_bytes.ext E45
  have F_bars_45 := F_bars.ext E45
  have F_start_45 := F_start.ext E45
  have F_end_45 := F_end.ext E45
  have F_line_45 := F_line.ext E45
  have F_count_45 := F_count.ext E45
  have F_found_45 := F_found.ext E45
  have F_searched_45 := F_searched.ext E45
  have V45 := Arv.new A45 (by decide)
  have K45 : Keep h0 h45 [a1] := (Keep.refl h0 [a1]).ext E45
  have z45 : n0 ≤ h45.size := Nat.le_trans Z0 E45.1
  obtain ⟨T46, h46, X46, e46, W46, st46⟩ := putF X45 hx hZ hown (host := "") (Or.inl (hw _ (List.mem_of_getElem? (i := 17) rfl))) Via.refl e45 F_bytes_45 E_a1_45 (Or.inl (hw _ (List.mem_of_getElem? (i := 18) rfl))) (hw _ (List.mem_of_getElem? (i := 9) rfl)) (ty := (.array .byte)) (by decide) rfl rfl (g := (mkF m 8 #[.val (.ref a1)] [(.ref b45), (.ref a1)])) rfl rfl (hb hby d3_8)
  have Fw46 := F_bytes_45.same W46
  have E_a1_46 := E_a1_45.wr W46
  have F_bars_46 := F_bars_45.other W46 (Or.inr (slot_ne (Or.inl (hw _ (List.mem_of_getElem? (i := 21) rfl))) (Or.inl (hw _ (List.mem_of_getElem? (i := 18) rfl))) (by decide) (t := (.array .int)) (t' := (.array .byte)) (by decide) (by decide)))
  have F_start_46 := F_start_45.other W46 (Or.inr (slot_ne (Or.inl (hw _ (List.mem_of_getElem? (i := 28) rfl))) (Or.inl (hw _ (List.mem_of_getElem? (i := 18) rfl))) (by decide) (t := .int) (t' := (.array .byte)) (by decide) (by decide)))
  have F_end_46 := F_end_45.other W46 (Or.inr (slot_ne (Or.inl (hw _ (List.mem_of_getElem? (i := 30) rfl))) (Or.inl (hw _ (List.mem_of_getElem? (i := 18) rfl))) (by decide) (t := .int) (t' := (.array .byte)) (by decide) (by decide)))
  have F_line_46 := F_line_45.other W46 (Or.inr (slot_ne (Or.inl (hw _ (List.mem_of_getElem? (i := 32) rfl))) (Or.inl (hw _ (List.mem_of_getElem? (i := 18) rfl))) (by decide) (t := .long) (t' := (.array .byte)) (by decide) (by decide)))
  have F_count_46 := F_count_45.other W46 (Or.inr (slot_ne (Or.inl (hw _ (List.mem_of_getElem? (i := 34) rfl))) (Or.inl (hw _ (List.mem_of_getElem? (i := 18) rfl))) (by decide) (t := .int) (t' := (.array .byte)) (by decide) (by decide)))
  have F_found_46 := F_found_45.other W46 (Or.inr (slot_ne (Or.inl (hw _ (List.mem_of_getElem? (i := 36) rfl))) (Or.inl (hw _ (List.mem_of_getElem? (i := 18) rfl))) (by decide) (t := .int) (t' := (.array .byte)) (by decide) (by decide)))
  have F_searched_46 := F_searched_45.other W46 (Or.inr (slot_ne (Or.inl (hw _ (List.mem_of_getElem? (i := 38) rfl))) (Or.inl (hw _ (List.mem_of_getElem? (i := 18) rfl))) (by decide) (t := .int) (t' := (.array .byte)) (by decide) (by decide)))
  have V45_46 := V45.other W46 (Ne.symm ne_a1_b45)
  have N46 := Fr.snoc X46 N0 g_a1
  have K46 : Keep h0 h46 [a1] := K45.wr W46 (Or.inl (List.mem_of_getElem? (i := 0) rfl))
  have z46 : n0 ≤ h46.size := Nat.le_trans z45 (Keep.of_wr W46).1
  obtain ⟨T47, h47, k47, X47, e47, E47, A47, st47⟩ := newP X46 hx hZ (hw _ (List.mem_of_getElem? (i := 19) rfl)) e46 (g := (mkF m 13 #[.val (.ref a1)] [(.int (0 : Int32)), (.ref a1)])) rfl (hb hby d3_13) rfl (by decide) (cap := 0) (by decide) (by decide) (by decide) (by decide)
  obtain ⟨b47, g47⟩ : ∃ z, z = h46.size := ⟨_, rfl⟩
  rw [← g47] at A47 st47
  have ne_a1_b47 : a1 ≠ b47 := Nat.ne_of_lt (by rw [g47]; exact E_a1_46.lt)
  have ne_b45_b47 : b45 ≠ b47 := Nat.ne_of_lt (by rw [g47]; exact V45_46.lt)
  have g_b47 : n0 ≤ b47 := Nat.le_trans z46 (Nat.le_of_eq g47.symm)
  have sz_b47 : h0.size ≤ b47 := Nat.le_trans K46.1 (Nat.le_of_eq g47.symm)
  have E_a1_47 := E_a1_46.ext E47
  have F_bars_47 := F_bars_46.ext E47
  have F_start_47 := F_start_46.ext E47
  have F_end_47 := F_end_46.ext E47
  have F_line_47 := F_line_46.ext E47
  have F_count_47 := F_count_46.ext E47
  have F_found_47 := F_found_46.ext E47
  have F_searched_47 := F_searched_46.ext E47
  have V45_47 := V45_46.ext E47
  have Fw46_47 := Fw46.ext E47
  have V47 := Arv.new A47 (by decide)
  have K47 : Keep h0 h47 [a1] := K46.ext E47
  have z47 : n0 ≤ h47.size := Nat.le_trans z46 E47.1
  obtain ⟨T48, h48, X48, e48, W48, st48⟩ := putF X47 hx hZ hown (host := "") (Or.inl (hw _ (List.mem_of_getElem? (i := 20) rfl))) Via.refl e47 F_bars_47 E_a1_47 (Or.inl (hw _ (List.mem_of_getElem? (i := 21) rfl))) (hw _ (List.mem_of_getElem? (i := 9) rfl)) (ty := (.array .int)) (by decide) rfl rfl (g := (mkF m 15 #[.val (.ref a1)] [(.ref b47), (.ref a1)])) rfl rfl (hb hby d3_15)
  have Fw48 := F_bars_47.same W48
  have E_a1_48 := E_a1_47.wr W48
  have F_start_48 := F_start_47.other W48 (Or.inr (slot_ne (Or.inl (hw _ (List.mem_of_getElem? (i := 28) rfl))) (Or.inl (hw _ (List.mem_of_getElem? (i := 21) rfl))) (by decide) (t := .int) (t' := (.array .int)) (by decide) (by decide)))
  have F_end_48 := F_end_47.other W48 (Or.inr (slot_ne (Or.inl (hw _ (List.mem_of_getElem? (i := 30) rfl))) (Or.inl (hw _ (List.mem_of_getElem? (i := 21) rfl))) (by decide) (t := .int) (t' := (.array .int)) (by decide) (by decide)))
  have F_line_48 := F_line_47.other W48 (Or.inr (slot_ne (Or.inl (hw _ (List.mem_of_getElem? (i := 32) rfl))) (Or.inl (hw _ (List.mem_of_getElem? (i := 21) rfl))) (by decide) (t := .long) (t' := (.array .int)) (by decide) (by decide)))
  have F_count_48 := F_count_47.other W48 (Or.inr (slot_ne (Or.inl (hw _ (List.mem_of_getElem? (i := 34) rfl))) (Or.inl (hw _ (List.mem_of_getElem? (i := 21) rfl))) (by decide) (t := .int) (t' := (.array .int)) (by decide) (by decide)))
  have F_found_48 := F_found_47.other W48 (Or.inr (slot_ne (Or.inl (hw _ (List.mem_of_getElem? (i := 36) rfl))) (Or.inl (hw _ (List.mem_of_getElem? (i := 21) rfl))) (by decide) (t := .int) (t' := (.array .int)) (by decide) (by decide)))
  have F_searched_48 := F_searched_47.other W48 (Or.inr (slot_ne (Or.inl (hw _ (List.mem_of_getElem? (i := 38) rfl))) (Or.inl (hw _ (List.mem_of_getElem? (i := 21) rfl))) (by decide) (t := .int) (t' := (.array .int)) (by decide) (by decide)))
  have V45_48 := V45_47.other W48 (Ne.symm ne_a1_b45)
  have Fw46_48 := Fw46_47.other W48 (Or.inr (slot_ne (Or.inl (hw _ (List.mem_of_getElem? (i := 18) rfl))) (Or.inl (hw _ (List.mem_of_getElem? (i := 21) rfl))) (by decide) (t := (.array .byte)) (t' := (.array .int)) (by decide) (by decide)))
  have V47_48 := V47.other W48 (Ne.symm ne_a1_b47)
  have N48 := Fr.snoc X48 N46 g_a1
  have K48 : Keep h0 h48 [a1] := K47.wr W48 (Or.inl (List.mem_of_getElem? (i := 0) rfl))
  have z48 : n0 ≤ h48.size := Nat.le_trans z47 (Keep.of_wr W48).1
  have fl49 : ∀ target, Steps p.tables e below (T48.setTop (mkF m 18 #[.val (.ref a1)] [])) target → Steps p.tables e below (s₁.setTop (mkF m 0 #[.val (.ref a1)] [])) target := fun target kt => by
    show Steps p.tables e below (s₁.setTop (mkF m 0 #[.val (.ref a1)] [])) _
    refine XS.aloadN X0.here hx rfl (hb hby d3_0) rfl rfl ?_
    show Steps p.tables e below (s₁.setTop (mkF m 1 #[.val (.ref a1)] [(.ref a1)])) _
    refine st44 _ ?_
    show Steps p.tables e below (T44.setTop (mkF m 4 #[.val (.ref a1)] [])) _
    refine XS.aloadN X44.here hx rfl (hb hby d3_4) rfl rfl ?_
    show Steps p.tables e below (T44.setTop (mkF m 5 #[.val (.ref a1)] [(.ref a1)])) _
    refine XS.iconst X44.here hx rfl (hb hby d3_5) ?_
    show Steps p.tables e below (T44.setTop (mkF m 6 #[.val (.ref a1)] [(.int (0 : Int32)), (.ref a1)])) _
    refine st45 _ ?_
    show Steps p.tables e below (T45.setTop (mkF m 8 #[.val (.ref a1)] [(.ref b45), (.ref a1)])) _
    refine st46 _ ?_
    show Steps p.tables e below (T46.setTop (mkF m 11 #[.val (.ref a1)] [])) _
    refine XS.aloadN X46.here hx rfl (hb hby d3_11) rfl rfl ?_
    show Steps p.tables e below (T46.setTop (mkF m 12 #[.val (.ref a1)] [(.ref a1)])) _
    refine XS.iconst X46.here hx rfl (hb hby d3_12) ?_
    show Steps p.tables e below (T46.setTop (mkF m 13 #[.val (.ref a1)] [(.int (0 : Int32)), (.ref a1)])) _
    refine st47 _ ?_
    show Steps p.tables e below (T47.setTop (mkF m 15 #[.val (.ref a1)] [(.ref b47), (.ref a1)])) _
    refine st48 _ ?_
    exact kt
  obtain ⟨fs, hrt, hrun, hended, hW, hsame⟩ := X48.leave (v := none) (fun _ => rfl)
  refine ⟨_, _, pre0 _ (fl49 _ ?_), hrun, hended, _, _, rfl, ?_, ⟨_, rfl⟩, hW, hsame.mono (by decide) (by decide)⟩
  · exact X48.returnOut hx Bd.returns (hb hby d3_18) hrt
  · show Q3 _ _ _ _ _ T48.heap _
    rw [e48]
    exact ⟨b45, b47, rfl, N48, ⟨E_a1_48, Fw46_48, Fw48, F_start_48, F_end_48, F_line_48, F_count_48, F_found_48, F_searched_48⟩, ⟨k47, (0 : Int32), [], V47_48, rfl, Or.inl rfl, List.nil_prefix⟩, K48, g_b47, sz_b47⟩
theorem ef_5 (m : MethodId) (x0 : Addr) (x1 : Addr) (x2 : Int32) (x3 : Int32) (x4 : Int64) : entryFrame m #[(.ref x0), (.ref x1), (.int x2), (.int x3), (.long x4)] 6 = mkF m 0 #[.val (.ref x0), .val (.ref x1), .val (.int x2), .val (.int x3), .val (.long x4), .second] [] := by first | (simp [entryFrame, mkF, argsToLocals, Value.category]; done) | rfl
def Q5 (Z : State) (a1 : Addr) (a2 : Addr) (p3 : Int32) (p4 : Int32) (q5 : Int64) (b : Addr) (ar : Addr) (st : Int32) (en : Int32) (ln : Int64) (cn : Int32) (fo : Int32) (se : Int32) (h0 : Heap) (n0 : Nat) (v : Option Value) (h : Heap) (L : List Loc) : Prop := v = none ∧ Fr n0 L ∧ Keep h0 h [a1] ∧ own_RV Z h a1 a2 ar p3 p4 q5 (-1) 0 p3
set_option maxRecDepth 65536 in
set_option maxHeartbeats 40000000 in
theorem rm5 (l : Launch) (Z : State) (a0 : Array Value) (hw : ∀ d ∈ tables_1, d.before a0 Z = true) (ws : List Jvm.Cond) (a1 : Addr) (a2 : Addr) (p3 : Int32) (p4 : Int32) (q5 : Int64) (b : Addr) (ar : Addr) (st : Int32) (en : Int32) (ln : Int64) (cn : Int32) (fo : Int32) (se : Int32) (h0 : Heap) (n0 : Nat) (Z0 : n0 ≤ h0.size) (RV : own_RV Z h0 a1 b ar st en ln cn fo se) (g_a1 : n0 ≤ a1) :
    MetFree l (⟨"com/example/concept_ledger/conceptledger/model/RowView", "set", "([BIIJ)V"⟩ : MethodName) (head1 (Jvm.Cond.code (⟨"com/example/concept_ledger/conceptledger/model/RowView", "set", "([BIIJ)V"⟩ : MethodName) prog_35_method_2_code 6 none :: ws) ({ frames := 0, cells := 0, slots := 0, locals := 0 } : Room)) (fun a U => a = #[(.ref a1), (.ref a2), (.int p3), (.int p4), (.long q5)] ∧ Z.Warmed39 U.vm ∧ U.heap = h0) (fun _ _ _ _ _ => True) (fun _ U o U' => ∃ v L, o = .returned v ∧ Q5 Z a1 a2 p3 p4 q5 b ar st en ln cn fo se h0 n0 v U'.heap L ∧ FrameEnd U o U' L ({ frames := 0, cells := 0, slots := 0, locals := 0 } : Room).cells ({ frames := 0, cells := 0, slots := 0, locals := 0 } : Room).slots) := by
  refine MetFree.of_bodySF (plainFor_of_name pn_1) hisR ?_
  intro p e s m args below meth c s₁ Bd hml0 hP hK
  obtain ⟨rfl, hZ, hh⟩ := hP
  have hx := Bd.exec
  have hby := Bd.bytes
  have hml : c.maxLocals = 6 := hml0
  have hown : s.vm.findClass "com/example/concept_ledger/conceptledger/model/RowView" = some m.cls := findClass_of_methodNamed Bd.named
  have hnm := (name_of_methodNamed Bd.named Bd.method).1
  have X0 : Stand p l e ({ frames := 0, cells := 0, slots := 0, locals := 0 } : Room) s m #[(.ref a1), (.ref a2), (.int p3), (.int p4), (.long q5)] below meth c s₁ [] 0 0 := Stand.of_body Bd
  have e0 : s₁.heap = h0 := by rw [← hh, Bd.state]; rfl
  have N0 := Fr.nil n0
  have pre0 : ∀ t, Steps p.tables e below (s₁.setTop (mkF m 0 #[.val (.ref a1), .val (.ref a2), .val (.int p3), .val (.int p4), .val (.long q5), .second] [])) t → Steps p.tables e below (s₁.setTop (entryFrame m #[(.ref a1), (.ref a2), (.int p3), (.int p4), (.long q5)] 6)) t := fun t k => castTop (ef_5 m a1 a2 p3 p4 q5) k
  obtain ⟨T50, h50, X50, e50, W50, st50⟩ := putF X0 hx hZ hown (host := "") (Or.inl (hw _ (List.mem_of_getElem? (i := 17) rfl))) Via.refl e0 RV.2.1 RV.1 (Or.inl (hw _ (List.mem_of_getElem? (i := 18) rfl))) (hw _ (List.mem_of_getElem? (i := 9) rfl)) (ty := (.array .byte)) (by decide) rfl rfl (g := (mkF m 2 #[.val (.ref a1), .val (.ref a2), .val (.int p3), .val (.int p4), .val (.long q5), .second] [(.ref a2), (.ref a1)])) rfl rfl (hb hby d5_2)
  have Fw50 := RV.2.1.same W50
  have RV_1_50 := RV.1.wr W50
  have RV_2_2_1_50 := RV.2.2.1.other W50 (Or.inr (slot_ne (Or.inl (hw _ (List.mem_of_getElem? (i := 21) rfl))) (Or.inl (hw _ (List.mem_of_getElem? (i := 18) rfl))) (by decide) (t := (.array .int)) (t' := (.array .byte)) (by decide) (by decide)))
  have RV_2_2_2_1_50 := RV.2.2.2.1.other W50 (Or.inr (slot_ne (Or.inl (hw _ (List.mem_of_getElem? (i := 28) rfl))) (Or.inl (hw _ (List.mem_of_getElem? (i := 18) rfl))) (by decide) (t := .int) (t' := (.array .byte)) (by decide) (by decide)))
  have RV_2_2_2_2_1_50 := RV.2.2.2.2.1.other W50 (Or.inr (slot_ne (Or.inl (hw _ (List.mem_of_getElem? (i := 30) rfl))) (Or.inl (hw _ (List.mem_of_getElem? (i := 18) rfl))) (by decide) (t := .int) (t' := (.array .byte)) (by decide) (by decide)))
  have RV_2_2_2_2_2_1_50 := RV.2.2.2.2.2.1.other W50 (Or.inr (slot_ne (Or.inl (hw _ (List.mem_of_getElem? (i := 32) rfl))) (Or.inl (hw _ (List.mem_of_getElem? (i := 18) rfl))) (by decide) (t := .long) (t' := (.array .byte)) (by decide) (by decide)))
  have RV_2_2_2_2_2_2_1_50 := RV.2.2.2.2.2.2.1.other W50 (Or.inr (slot_ne (Or.inl (hw _ (List.mem_of_getElem? (i := 34) rfl))) (Or.inl (hw _ (List.mem_of_getElem? (i := 18) rfl))) (by decide) (t := .int) (t' := (.array .byte)) (by decide) (by decide)))
  have RV_2_2_2_2_2_2_2_1_50 := RV.2.2.2.2.2.2.2.1.other W50 (Or.inr (slot_ne (Or.inl (hw _ (List.mem_of_getElem? (i := 36) rfl))) (Or.inl (hw _ (List.mem_of_getElem? (i := 18) rfl))) (by decide) (t := .int) (t' := (.array .byte)) (by decide) (by decide)))
  have RV_2_2_2_2_2_2_2_2_50 := RV.2.2.2.2.2.2.2.2.other W50 (Or.inr (slot_ne (Or.inl (hw _ (List.mem_of_getElem? (i := 38) rfl))) (Or.inl (hw _ (List.mem_of_getElem? (i := 18) rfl))) (by decide) (t := .int) (t' := (.array .byte)) (by decide) (by decide)))
  have N50 := Fr.snoc X50 N0 g_a1
  have K50 : Keep h0 h50 [a1] := (Keep.refl h0 [a1]).wr W50 (Or.inl (List.mem_of_getElem? (i := 0) rfl))
  have z50 : n0 ≤ h50.size := Nat.le_trans Z0 (Keep.of_wr W50).1
  obtain ⟨T51, h51, X51, e51, W51, st51⟩ := putF X50 hx hZ hown (host := "") (Or.inl (hw _ (List.mem_of_getElem? (i := 27) rfl))) Via.refl e50 RV_2_2_2_1_50 RV_1_50 (Or.inl (hw _ (List.mem_of_getElem? (i := 28) rfl))) (hw _ (List.mem_of_getElem? (i := 9) rfl)) (ty := .int) (by decide) rfl rfl (g := (mkF m 7 #[.val (.ref a1), .val (.ref a2), .val (.int p3), .val (.int p4), .val (.long q5), .second] [(.int p3), (.ref a1)])) rfl rfl (hb hby d5_7)
  have Fw51 := RV_2_2_2_1_50.same W51
  have RV_1_51 := RV_1_50.wr W51
  have RV_2_2_1_51 := RV_2_2_1_50.other W51 (Or.inr (slot_ne (Or.inl (hw _ (List.mem_of_getElem? (i := 21) rfl))) (Or.inl (hw _ (List.mem_of_getElem? (i := 28) rfl))) (by decide) (t := (.array .int)) (t' := .int) (by decide) (by decide)))
  have RV_2_2_2_2_1_51 := RV_2_2_2_2_1_50.other W51 (Or.inr (slot_ne (Or.inl (hw _ (List.mem_of_getElem? (i := 30) rfl))) (Or.inl (hw _ (List.mem_of_getElem? (i := 28) rfl))) (by decide) (t := .int) (t' := .int) (by decide) (by decide)))
  have RV_2_2_2_2_2_1_51 := RV_2_2_2_2_2_1_50.other W51 (Or.inr (slot_ne (Or.inl (hw _ (List.mem_of_getElem? (i := 32) rfl))) (Or.inl (hw _ (List.mem_of_getElem? (i := 28) rfl))) (by decide) (t := .long) (t' := .int) (by decide) (by decide)))
  have RV_2_2_2_2_2_2_1_51 := RV_2_2_2_2_2_2_1_50.other W51 (Or.inr (slot_ne (Or.inl (hw _ (List.mem_of_getElem? (i := 34) rfl))) (Or.inl (hw _ (List.mem_of_getElem? (i := 28) rfl))) (by decide) (t := .int) (t' := .int) (by decide) (by decide)))
  have RV_2_2_2_2_2_2_2_1_51 := RV_2_2_2_2_2_2_2_1_50.other W51 (Or.inr (slot_ne (Or.inl (hw _ (List.mem_of_getElem? (i := 36) rfl))) (Or.inl (hw _ (List.mem_of_getElem? (i := 28) rfl))) (by decide) (t := .int) (t' := .int) (by decide) (by decide)))
  have RV_2_2_2_2_2_2_2_2_51 := RV_2_2_2_2_2_2_2_2_50.other W51 (Or.inr (slot_ne (Or.inl (hw _ (List.mem_of_getElem? (i := 38) rfl))) (Or.inl (hw _ (List.mem_of_getElem? (i := 28) rfl))) (by decide) (t := .int) (t' := .int) (by decide) (by decide)))
  have Fw50_51 := Fw50.other W51 (Or.inr (slot_ne (Or.inl (hw _ (List.mem_of_getElem? (i := 18) rfl))) (Or.inl (hw _ (List.mem_of_getElem? (i := 28) rfl))) (by decide) (t := (.array .byte)) (t' := .int) (by decide) (by decide)))
  have N51 := Fr.snoc X51 N50 g_a1
  have K51 : Keep h0 h51 [a1] := K50.wr W51 (Or.inl (List.mem_of_getElem? (i := 0) rfl))
  have z51 : n0 ≤ h51.size := Nat.le_trans z50 (Keep.of_wr W51).1
  obtain ⟨T52, h52, X52, e52, W52, st52⟩ := putF X51 hx hZ hown (host := "") (Or.inl (hw _ (List.mem_of_getElem? (i := 29) rfl))) Via.refl e51 RV_2_2_2_2_1_51 RV_1_51 (Or.inl (hw _ (List.mem_of_getElem? (i := 30) rfl))) (hw _ (List.mem_of_getElem? (i := 9) rfl)) (ty := .int) (by decide) rfl rfl (g := (mkF m 12 #[.val (.ref a1), .val (.ref a2), .val (.int p3), .val (.int p4), .val (.long q5), .second] [(.int p4), (.ref a1)])) rfl rfl (hb hby d5_12)
  have Fw52 := RV_2_2_2_2_1_51.same W52
  have RV_1_52 := RV_1_51.wr W52
  have RV_2_2_1_52 := RV_2_2_1_51.other W52 (Or.inr (slot_ne (Or.inl (hw _ (List.mem_of_getElem? (i := 21) rfl))) (Or.inl (hw _ (List.mem_of_getElem? (i := 30) rfl))) (by decide) (t := (.array .int)) (t' := .int) (by decide) (by decide)))
  have RV_2_2_2_2_2_1_52 := RV_2_2_2_2_2_1_51.other W52 (Or.inr (slot_ne (Or.inl (hw _ (List.mem_of_getElem? (i := 32) rfl))) (Or.inl (hw _ (List.mem_of_getElem? (i := 30) rfl))) (by decide) (t := .long) (t' := .int) (by decide) (by decide)))
  have RV_2_2_2_2_2_2_1_52 := RV_2_2_2_2_2_2_1_51.other W52 (Or.inr (slot_ne (Or.inl (hw _ (List.mem_of_getElem? (i := 34) rfl))) (Or.inl (hw _ (List.mem_of_getElem? (i := 30) rfl))) (by decide) (t := .int) (t' := .int) (by decide) (by decide)))
  have RV_2_2_2_2_2_2_2_1_52 := RV_2_2_2_2_2_2_2_1_51.other W52 (Or.inr (slot_ne (Or.inl (hw _ (List.mem_of_getElem? (i := 36) rfl))) (Or.inl (hw _ (List.mem_of_getElem? (i := 30) rfl))) (by decide) (t := .int) (t' := .int) (by decide) (by decide)))
  have RV_2_2_2_2_2_2_2_2_52 := RV_2_2_2_2_2_2_2_2_51.other W52 (Or.inr (slot_ne (Or.inl (hw _ (List.mem_of_getElem? (i := 38) rfl))) (Or.inl (hw _ (List.mem_of_getElem? (i := 30) rfl))) (by decide) (t := .int) (t' := .int) (by decide) (by decide)))
  have Fw50_52 := Fw50_51.other W52 (Or.inr (slot_ne (Or.inl (hw _ (List.mem_of_getElem? (i := 18) rfl))) (Or.inl (hw _ (List.mem_of_getElem? (i := 30) rfl))) (by decide) (t := (.array .byte)) (t' := .int) (by decide) (by decide)))
  have Fw51_52 := Fw51.other W52 (Or.inr (slot_ne (Or.inl (hw _ (List.mem_of_getElem? (i := 28) rfl))) (Or.inl (hw _ (List.mem_of_getElem? (i := 30) rfl))) (by decide) (t := .int) (t' := .int) (by decide) (by decide)))
  have N52 := Fr.snoc X52 N51 g_a1
  have K52 : Keep h0 h52 [a1] := K51.wr W52 (Or.inl (List.mem_of_getElem? (i := 0) rfl))
  have z52 : n0 ≤ h52.size := Nat.le_trans z51 (Keep.of_wr W52).1
  obtain ⟨T53, h53, X53, e53, W53, st53⟩ := putF X52 hx hZ hown (host := "") (Or.inl (hw _ (List.mem_of_getElem? (i := 31) rfl))) Via.refl e52 RV_2_2_2_2_2_1_52 RV_1_52 (Or.inl (hw _ (List.mem_of_getElem? (i := 32) rfl))) (hw _ (List.mem_of_getElem? (i := 9) rfl)) (ty := .long) (by decide) rfl rfl (g := (mkF m 18 #[.val (.ref a1), .val (.ref a2), .val (.int p3), .val (.int p4), .val (.long q5), .second] [(.long q5), (.ref a1)])) rfl rfl (hb hby d5_18)
  have Fw53 := RV_2_2_2_2_2_1_52.same W53
  have RV_1_53 := RV_1_52.wr W53
  have RV_2_2_1_53 := RV_2_2_1_52.other W53 (Or.inr (slot_ne (Or.inl (hw _ (List.mem_of_getElem? (i := 21) rfl))) (Or.inl (hw _ (List.mem_of_getElem? (i := 32) rfl))) (by decide) (t := (.array .int)) (t' := .long) (by decide) (by decide)))
  have RV_2_2_2_2_2_2_1_53 := RV_2_2_2_2_2_2_1_52.other W53 (Or.inr (slot_ne (Or.inl (hw _ (List.mem_of_getElem? (i := 34) rfl))) (Or.inl (hw _ (List.mem_of_getElem? (i := 32) rfl))) (by decide) (t := .int) (t' := .long) (by decide) (by decide)))
  have RV_2_2_2_2_2_2_2_1_53 := RV_2_2_2_2_2_2_2_1_52.other W53 (Or.inr (slot_ne (Or.inl (hw _ (List.mem_of_getElem? (i := 36) rfl))) (Or.inl (hw _ (List.mem_of_getElem? (i := 32) rfl))) (by decide) (t := .int) (t' := .long) (by decide) (by decide)))
  have RV_2_2_2_2_2_2_2_2_53 := RV_2_2_2_2_2_2_2_2_52.other W53 (Or.inr (slot_ne (Or.inl (hw _ (List.mem_of_getElem? (i := 38) rfl))) (Or.inl (hw _ (List.mem_of_getElem? (i := 32) rfl))) (by decide) (t := .int) (t' := .long) (by decide) (by decide)))
  have Fw50_53 := Fw50_52.other W53 (Or.inr (slot_ne (Or.inl (hw _ (List.mem_of_getElem? (i := 18) rfl))) (Or.inl (hw _ (List.mem_of_getElem? (i := 32) rfl))) (by decide) (t := (.array .byte)) (t' := .long) (by decide) (by decide)))
  have Fw51_53 := Fw51_52.other W53 (Or.inr (slot_ne (Or.inl (hw _ (List.mem_of_getElem? (i := 28) rfl))) (Or.inl (hw _ (List.mem_of_getElem? (i := 32) rfl))) (by decide) (t := .int) (t' := .long) (by decide) (by decide)))
  have Fw52_53 := Fw52.other W53 (Or.inr (slot_ne (Or.inl (hw _ (List.mem_of_getElem? (i := 30) rfl))) (Or.inl (hw _ (List.mem_of_getElem? (i := 32) rfl))) (by decide) (t := .int) (t' := .long) (by decide) (by decide)))
  have N53 := Fr.snoc X53 N52 g_a1
  have K53 : Keep h0 h53 [a1] := K52.wr W53 (Or.inl (List.mem_of_getElem? (i := 0) rfl))
  have z53 : n0 ≤ h53.size := Nat.le_trans z52 (Keep.of_wr W53).1
  obtain ⟨T54, h54, X54, e54, W54, st54⟩ := putF X53 hx hZ hown (host := "") (Or.inl (hw _ (List.mem_of_getElem? (i := 33) rfl))) Via.refl e53 RV_2_2_2_2_2_2_1_53 RV_1_53 (Or.inl (hw _ (List.mem_of_getElem? (i := 34) rfl))) (hw _ (List.mem_of_getElem? (i := 9) rfl)) (ty := .int) (by decide) rfl rfl (g := (mkF m 23 #[.val (.ref a1), .val (.ref a2), .val (.int p3), .val (.int p4), .val (.long q5), .second] [(.int (-1 : Int32)), (.ref a1)])) rfl rfl (hb hby d5_23)
  have Fw54 := RV_2_2_2_2_2_2_1_53.same W54
  have RV_1_54 := RV_1_53.wr W54
  have RV_2_2_1_54 := RV_2_2_1_53.other W54 (Or.inr (slot_ne (Or.inl (hw _ (List.mem_of_getElem? (i := 21) rfl))) (Or.inl (hw _ (List.mem_of_getElem? (i := 34) rfl))) (by decide) (t := (.array .int)) (t' := .int) (by decide) (by decide)))
  have RV_2_2_2_2_2_2_2_1_54 := RV_2_2_2_2_2_2_2_1_53.other W54 (Or.inr (slot_ne (Or.inl (hw _ (List.mem_of_getElem? (i := 36) rfl))) (Or.inl (hw _ (List.mem_of_getElem? (i := 34) rfl))) (by decide) (t := .int) (t' := .int) (by decide) (by decide)))
  have RV_2_2_2_2_2_2_2_2_54 := RV_2_2_2_2_2_2_2_2_53.other W54 (Or.inr (slot_ne (Or.inl (hw _ (List.mem_of_getElem? (i := 38) rfl))) (Or.inl (hw _ (List.mem_of_getElem? (i := 34) rfl))) (by decide) (t := .int) (t' := .int) (by decide) (by decide)))
  have Fw50_54 := Fw50_53.other W54 (Or.inr (slot_ne (Or.inl (hw _ (List.mem_of_getElem? (i := 18) rfl))) (Or.inl (hw _ (List.mem_of_getElem? (i := 34) rfl))) (by decide) (t := (.array .byte)) (t' := .int) (by decide) (by decide)))
  have Fw51_54 := Fw51_53.other W54 (Or.inr (slot_ne (Or.inl (hw _ (List.mem_of_getElem? (i := 28) rfl))) (Or.inl (hw _ (List.mem_of_getElem? (i := 34) rfl))) (by decide) (t := .int) (t' := .int) (by decide) (by decide)))
  have Fw52_54 := Fw52_53.other W54 (Or.inr (slot_ne (Or.inl (hw _ (List.mem_of_getElem? (i := 30) rfl))) (Or.inl (hw _ (List.mem_of_getElem? (i := 34) rfl))) (by decide) (t := .int) (t' := .int) (by decide) (by decide)))
  have Fw53_54 := Fw53.other W54 (Or.inr (slot_ne (Or.inl (hw _ (List.mem_of_getElem? (i := 32) rfl))) (Or.inl (hw _ (List.mem_of_getElem? (i := 34) rfl))) (by decide) (t := .long) (t' := .int) (by decide) (by decide)))
  have N54 := Fr.snoc X54 N53 g_a1
  have K54 : Keep h0 h54 [a1] := K53.wr W54 (Or.inl (List.mem_of_getElem? (i := 0) rfl))
  have z54 : n0 ≤ h54.size := Nat.le_trans z53 (Keep.of_wr W54).1
  obtain ⟨T55, h55, X55, e55, W55, st55⟩ := putF X54 hx hZ hown (host := "") (Or.inl (hw _ (List.mem_of_getElem? (i := 35) rfl))) Via.refl e54 RV_2_2_2_2_2_2_2_1_54 RV_1_54 (Or.inl (hw _ (List.mem_of_getElem? (i := 36) rfl))) (hw _ (List.mem_of_getElem? (i := 9) rfl)) (ty := .int) (by decide) rfl rfl (g := (mkF m 28 #[.val (.ref a1), .val (.ref a2), .val (.int p3), .val (.int p4), .val (.long q5), .second] [(.int (0 : Int32)), (.ref a1)])) rfl rfl (hb hby d5_28)
  have Fw55 := RV_2_2_2_2_2_2_2_1_54.same W55
  have RV_1_55 := RV_1_54.wr W55
  have RV_2_2_1_55 := RV_2_2_1_54.other W55 (Or.inr (slot_ne (Or.inl (hw _ (List.mem_of_getElem? (i := 21) rfl))) (Or.inl (hw _ (List.mem_of_getElem? (i := 36) rfl))) (by decide) (t := (.array .int)) (t' := .int) (by decide) (by decide)))
  have RV_2_2_2_2_2_2_2_2_55 := RV_2_2_2_2_2_2_2_2_54.other W55 (Or.inr (slot_ne (Or.inl (hw _ (List.mem_of_getElem? (i := 38) rfl))) (Or.inl (hw _ (List.mem_of_getElem? (i := 36) rfl))) (by decide) (t := .int) (t' := .int) (by decide) (by decide)))
  have Fw50_55 := Fw50_54.other W55 (Or.inr (slot_ne (Or.inl (hw _ (List.mem_of_getElem? (i := 18) rfl))) (Or.inl (hw _ (List.mem_of_getElem? (i := 36) rfl))) (by decide) (t := (.array .byte)) (t' := .int) (by decide) (by decide)))
  have Fw51_55 := Fw51_54.other W55 (Or.inr (slot_ne (Or.inl (hw _ (List.mem_of_getElem? (i := 28) rfl))) (Or.inl (hw _ (List.mem_of_getElem? (i := 36) rfl))) (by decide) (t := .int) (t' := .int) (by decide) (by decide)))
  have Fw52_55 := Fw52_54.other W55 (Or.inr (slot_ne (Or.inl (hw _ (List.mem_of_getElem? (i := 30) rfl))) (Or.inl (hw _ (List.mem_of_getElem? (i := 36) rfl))) (by decide) (t := .int) (t' := .int) (by decide) (by decide)))
  have Fw53_55 := Fw53_54.other W55 (Or.inr (slot_ne (Or.inl (hw _ (List.mem_of_getElem? (i := 32) rfl))) (Or.inl (hw _ (List.mem_of_getElem? (i := 36) rfl))) (by decide) (t := .long) (t' := .int) (by decide) (by decide)))
  have Fw54_55 := Fw54.other W55 (Or.inr (slot_ne (Or.inl (hw _ (List.mem_of_getElem? (i := 34) rfl))) (Or.inl (hw _ (List.mem_of_getElem? (i := 36) rfl))) (by decide) (t := .int) (t' := .int) (by decide) (by decide)))
  have N55 := Fr.snoc X55 N54 g_a1
  have K55 : Keep h0 h55 [a1] := K54.wr W55 (Or.inl (List.mem_of_getElem? (i := 0) rfl))
  have z55 : n0 ≤ h55.size := Nat.le_trans z54 (Keep.of_wr W55).1
  obtain ⟨T56, h56, X56, e56, W56, st56⟩ := putF X55 hx hZ hown (host := "") (Or.inl (hw _ (List.mem_of_getElem? (i := 37) rfl))) Via.refl e55 RV_2_2_2_2_2_2_2_2_55 RV_1_55 (Or.inl (hw _ (List.mem_of_getElem? (i := 38) rfl))) (hw _ (List.mem_of_getElem? (i := 9) rfl)) (ty := .int) (by decide) rfl rfl (g := (mkF m 33 #[.val (.ref a1), .val (.ref a2), .val (.int p3), .val (.int p4), .val (.long q5), .second] [(.int p3), (.ref a1)])) rfl rfl (hb hby d5_33)
  have Fw56 := RV_2_2_2_2_2_2_2_2_55.same W56
  have RV_1_56 := RV_1_55.wr W56
  have RV_2_2_1_56 := RV_2_2_1_55.other W56 (Or.inr (slot_ne (Or.inl (hw _ (List.mem_of_getElem? (i := 21) rfl))) (Or.inl (hw _ (List.mem_of_getElem? (i := 38) rfl))) (by decide) (t := (.array .int)) (t' := .int) (by decide) (by decide)))
  have Fw50_56 := Fw50_55.other W56 (Or.inr (slot_ne (Or.inl (hw _ (List.mem_of_getElem? (i := 18) rfl))) (Or.inl (hw _ (List.mem_of_getElem? (i := 38) rfl))) (by decide) (t := (.array .byte)) (t' := .int) (by decide) (by decide)))
  have Fw51_56 := Fw51_55.other W56 (Or.inr (slot_ne (Or.inl (hw _ (List.mem_of_getElem? (i := 28) rfl))) (Or.inl (hw _ (List.mem_of_getElem? (i := 38) rfl))) (by decide) (t := .int) (t' := .int) (by decide) (by decide)))
  have Fw52_56 := Fw52_55.other W56 (Or.inr (slot_ne (Or.inl (hw _ (List.mem_of_getElem? (i := 30) rfl))) (Or.inl (hw _ (List.mem_of_getElem? (i := 38) rfl))) (by decide) (t := .int) (t' := .int) (by decide) (by decide)))
  have Fw53_56 := Fw53_55.other W56 (Or.inr (slot_ne (Or.inl (hw _ (List.mem_of_getElem? (i := 32) rfl))) (Or.inl (hw _ (List.mem_of_getElem? (i := 38) rfl))) (by decide) (t := .long) (t' := .int) (by decide) (by decide)))
  have Fw54_56 := Fw54_55.other W56 (Or.inr (slot_ne (Or.inl (hw _ (List.mem_of_getElem? (i := 34) rfl))) (Or.inl (hw _ (List.mem_of_getElem? (i := 38) rfl))) (by decide) (t := .int) (t' := .int) (by decide) (by decide)))
  have Fw55_56 := Fw55.other W56 (Or.inr (slot_ne (Or.inl (hw _ (List.mem_of_getElem? (i := 36) rfl))) (Or.inl (hw _ (List.mem_of_getElem? (i := 38) rfl))) (by decide) (t := .int) (t' := .int) (by decide) (by decide)))
  have N56 := Fr.snoc X56 N55 g_a1
  have K56 : Keep h0 h56 [a1] := K55.wr W56 (Or.inl (List.mem_of_getElem? (i := 0) rfl))
  have z56 : n0 ≤ h56.size := Nat.le_trans z55 (Keep.of_wr W56).1
  have fl57 : ∀ target, Steps p.tables e below (T56.setTop (mkF m 36 #[.val (.ref a1), .val (.ref a2), .val (.int p3), .val (.int p4), .val (.long q5), .second] [])) target → Steps p.tables e below (s₁.setTop (mkF m 0 #[.val (.ref a1), .val (.ref a2), .val (.int p3), .val (.int p4), .val (.long q5), .second] [])) target := fun target kt => by
    show Steps p.tables e below (s₁.setTop (mkF m 0 #[.val (.ref a1), .val (.ref a2), .val (.int p3), .val (.int p4), .val (.long q5), .second] [])) _
    refine XS.aloadN X0.here hx rfl (hb hby d5_0) rfl rfl ?_
    show Steps p.tables e below (s₁.setTop (mkF m 1 #[.val (.ref a1), .val (.ref a2), .val (.int p3), .val (.int p4), .val (.long q5), .second] [(.ref a1)])) _
    refine XS.aloadN X0.here hx rfl (hb hby d5_1) rfl rfl ?_
    show Steps p.tables e below (s₁.setTop (mkF m 2 #[.val (.ref a1), .val (.ref a2), .val (.int p3), .val (.int p4), .val (.long q5), .second] [(.ref a2), (.ref a1)])) _
    refine st50 _ ?_
    show Steps p.tables e below (T50.setTop (mkF m 5 #[.val (.ref a1), .val (.ref a2), .val (.int p3), .val (.int p4), .val (.long q5), .second] [])) _
    refine XS.aloadN X50.here hx rfl (hb hby d5_5) rfl rfl ?_
    show Steps p.tables e below (T50.setTop (mkF m 6 #[.val (.ref a1), .val (.ref a2), .val (.int p3), .val (.int p4), .val (.long q5), .second] [(.ref a1)])) _
    refine XS.iloadN X50.here hx rfl (hb hby d5_6) rfl ?_
    show Steps p.tables e below (T50.setTop (mkF m 7 #[.val (.ref a1), .val (.ref a2), .val (.int p3), .val (.int p4), .val (.long q5), .second] [(.int p3), (.ref a1)])) _
    refine st51 _ ?_
    show Steps p.tables e below (T51.setTop (mkF m 10 #[.val (.ref a1), .val (.ref a2), .val (.int p3), .val (.int p4), .val (.long q5), .second] [])) _
    refine XS.aloadN X51.here hx rfl (hb hby d5_10) rfl rfl ?_
    show Steps p.tables e below (T51.setTop (mkF m 11 #[.val (.ref a1), .val (.ref a2), .val (.int p3), .val (.int p4), .val (.long q5), .second] [(.ref a1)])) _
    refine XS.iloadN X51.here hx rfl (hb hby d5_11) rfl ?_
    show Steps p.tables e below (T51.setTop (mkF m 12 #[.val (.ref a1), .val (.ref a2), .val (.int p3), .val (.int p4), .val (.long q5), .second] [(.int p4), (.ref a1)])) _
    refine st52 _ ?_
    show Steps p.tables e below (T52.setTop (mkF m 15 #[.val (.ref a1), .val (.ref a2), .val (.int p3), .val (.int p4), .val (.long q5), .second] [])) _
    refine XS.aloadN X52.here hx rfl (hb hby d5_15) rfl rfl ?_
    show Steps p.tables e below (T52.setTop (mkF m 16 #[.val (.ref a1), .val (.ref a2), .val (.int p3), .val (.int p4), .val (.long q5), .second] [(.ref a1)])) _
    refine XS.lload X52.here hx rfl (hb hby d5_16) rfl ?_
    show Steps p.tables e below (T52.setTop (mkF m 18 #[.val (.ref a1), .val (.ref a2), .val (.int p3), .val (.int p4), .val (.long q5), .second] [(.long q5), (.ref a1)])) _
    refine st53 _ ?_
    show Steps p.tables e below (T53.setTop (mkF m 21 #[.val (.ref a1), .val (.ref a2), .val (.int p3), .val (.int p4), .val (.long q5), .second] [])) _
    refine XS.aloadN X53.here hx rfl (hb hby d5_21) rfl rfl ?_
    show Steps p.tables e below (T53.setTop (mkF m 22 #[.val (.ref a1), .val (.ref a2), .val (.int p3), .val (.int p4), .val (.long q5), .second] [(.ref a1)])) _
    refine XS.iconst X53.here hx rfl (hb hby d5_22) ?_
    show Steps p.tables e below (T53.setTop (mkF m 23 #[.val (.ref a1), .val (.ref a2), .val (.int p3), .val (.int p4), .val (.long q5), .second] [(.int (-1 : Int32)), (.ref a1)])) _
    refine st54 _ ?_
    show Steps p.tables e below (T54.setTop (mkF m 26 #[.val (.ref a1), .val (.ref a2), .val (.int p3), .val (.int p4), .val (.long q5), .second] [])) _
    refine XS.aloadN X54.here hx rfl (hb hby d5_26) rfl rfl ?_
    show Steps p.tables e below (T54.setTop (mkF m 27 #[.val (.ref a1), .val (.ref a2), .val (.int p3), .val (.int p4), .val (.long q5), .second] [(.ref a1)])) _
    refine XS.iconst X54.here hx rfl (hb hby d5_27) ?_
    show Steps p.tables e below (T54.setTop (mkF m 28 #[.val (.ref a1), .val (.ref a2), .val (.int p3), .val (.int p4), .val (.long q5), .second] [(.int (0 : Int32)), (.ref a1)])) _
    refine st55 _ ?_
    show Steps p.tables e below (T55.setTop (mkF m 31 #[.val (.ref a1), .val (.ref a2), .val (.int p3), .val (.int p4), .val (.long q5), .second] [])) _
    refine XS.aloadN X55.here hx rfl (hb hby d5_31) rfl rfl ?_
    show Steps p.tables e below (T55.setTop (mkF m 32 #[.val (.ref a1), .val (.ref a2), .val (.int p3), .val (.int p4), .val (.long q5), .second] [(.ref a1)])) _
    refine XS.iloadN X55.here hx rfl (hb hby d5_32) rfl ?_
    show Steps p.tables e below (T55.setTop (mkF m 33 #[.val (.ref a1), .val (.ref a2), .val (.int p3), .val (.int p4), .val (.long q5), .second] [(.int p3), (.ref a1)])) _
    refine st56 _ ?_
    exact kt
  obtain ⟨fs, hrt, hrun, hended, hW, hsame⟩ := X56.leave (v := none) (fun _ => rfl)
  refine ⟨_, _, pre0 _ (fl57 _ ?_), hrun, hended, _, _, rfl, ?_, ⟨_, rfl⟩, hW, hsame.mono (by decide) (by decide)⟩
  · exact X56.returnOut hx Bd.returns (hb hby d5_36) hrt
  · show Q5 _ _ _ _ _ _ _ _ _ _ _ _ _ _ _ _ _ T56.heap _
    rw [e56]
    exact ⟨rfl, N56, K56, ⟨RV_1_56, Fw50_56, RV_2_2_1_56, Fw51_56, Fw52_56, Fw53_56, Fw54_56, Fw55_56, Fw56⟩⟩
theorem ef_9 (m : MethodId) (x0 : Addr) : entryFrame m #[(.ref x0)] 1 = mkF m 0 #[.val (.ref x0)] [] := by first | (simp [entryFrame, mkF, argsToLocals, Value.category]; done) | rfl
def Q9 (Z : State) (a1 : Addr) (b : Addr) (ar : Addr) (st : Int32) (en : Int32) (ln : Int64) (cn : Int32) (fo : Int32) (se : Int32) (h0 : Heap) (n0 : Nat) (v : Option Value) (h : Heap) (L : List Loc) : Prop := v = some (.long ln) ∧ Fr n0 L ∧ h = h0
set_option maxRecDepth 65536 in
set_option maxHeartbeats 40000000 in
theorem rm9 (l : Launch) (Z : State) (a0 : Array Value) (hw : ∀ d ∈ tables_1, d.before a0 Z = true) (ws : List Jvm.Cond) (a1 : Addr) (b : Addr) (ar : Addr) (st : Int32) (en : Int32) (ln : Int64) (cn : Int32) (fo : Int32) (se : Int32) (h0 : Heap) (n0 : Nat) (Z0 : n0 ≤ h0.size) (RV : own_RV Z h0 a1 b ar st en ln cn fo se) :
    MetFree l (⟨"com/example/concept_ledger/conceptledger/model/RowView", "line", "()J"⟩ : MethodName) (head1 (Jvm.Cond.code (⟨"com/example/concept_ledger/conceptledger/model/RowView", "line", "()J"⟩ : MethodName) prog_35_method_3_code 1 (some .long) :: ws) ({ frames := 0, cells := 0, slots := 0, locals := 0 } : Room)) (fun a U => a = #[(.ref a1)] ∧ Z.Warmed39 U.vm ∧ U.heap = h0) (fun _ _ _ _ _ => True) (fun _ U o U' => ∃ v L, o = .returned v ∧ Q9 Z a1 b ar st en ln cn fo se h0 n0 v U'.heap L ∧ FrameEnd U o U' L ({ frames := 0, cells := 0, slots := 0, locals := 0 } : Room).cells ({ frames := 0, cells := 0, slots := 0, locals := 0 } : Room).slots) := by
  refine MetFree.of_bodySF (plainFor_of_name pn_1) hisR ?_
  intro p e s m args below meth c s₁ Bd hml0 hP hK
  obtain ⟨rfl, hZ, hh⟩ := hP
  have hx := Bd.exec
  have hby := Bd.bytes
  have hml : c.maxLocals = 1 := hml0
  have hown : s.vm.findClass "com/example/concept_ledger/conceptledger/model/RowView" = some m.cls := findClass_of_methodNamed Bd.named
  have hnm := (name_of_methodNamed Bd.named Bd.method).1
  have X0 : Stand p l e ({ frames := 0, cells := 0, slots := 0, locals := 0 } : Room) s m #[(.ref a1)] below meth c s₁ [] 0 0 := Stand.of_body Bd
  have e0 : s₁.heap = h0 := by rw [← hh, Bd.state]; rfl
  have N0 := Fr.nil n0
  have pre0 : ∀ t, Steps p.tables e below (s₁.setTop (mkF m 0 #[.val (.ref a1)] [])) t → Steps p.tables e below (s₁.setTop (entryFrame m #[(.ref a1)] 1)) t := fun t k => castTop (ef_9 m a1) k
  obtain ⟨T58, X58, e58, st58⟩ := getF X0 hx hZ hown (host := "") (Or.inl (hw _ (List.mem_of_getElem? (i := 31) rfl))) Via.refl e0 RV.2.2.2.2.2.1 (g := (mkF m 1 #[.val (.ref a1)] [(.ref a1)])) rfl rfl (hb hby d9_1)
  have fl59 : ∀ target, Steps p.tables e below (T58.setTop (mkF m 4 #[.val (.ref a1)] [(.long ln)])) target → Steps p.tables e below (s₁.setTop (mkF m 0 #[.val (.ref a1)] [])) target := fun target kt => by
    show Steps p.tables e below (s₁.setTop (mkF m 0 #[.val (.ref a1)] [])) _
    refine XS.aloadN X0.here hx rfl (hb hby d9_0) rfl rfl ?_
    show Steps p.tables e below (s₁.setTop (mkF m 1 #[.val (.ref a1)] [(.ref a1)])) _
    refine st58 _ ?_
    exact kt
  obtain ⟨fs, hrt, hrun, hended, hW, hsame⟩ := X58.leave (v := some (.long ln)) (fun h => by rw [Bd.returns] at h; cases h)
  refine ⟨_, _, pre0 _ (fl59 _ ?_), hrun, hended, _, _, rfl, ?_, ⟨_, rfl⟩, hW, hsame.mono (by decide) (by decide)⟩
  · jvm_step X58.here [X58.here.top, hx, (hb hby d9_4), X58.method', Bd.returns, narrow]
    first | (intro acts; rw [hrt _ acts rfl rfl rfl]) | rw [hrt _ _ rfl rfl rfl]
    exact Steps.refl _
  · show Q9 _ _ _ _ _ _ _ _ _ _ _ _ _ T58.heap _
    rw [e58]
    exact ⟨rfl, N0, rfl⟩
theorem ef_10 (m : MethodId) (x0 : Addr) : entryFrame m #[(.ref x0)] 1 = mkF m 0 #[.val (.ref x0)] [] := by first | (simp [entryFrame, mkF, argsToLocals, Value.category]; done) | rfl
def Q10 (Z : State) (a1 : Addr) (b : Addr) (ar : Addr) (st : Int32) (en : Int32) (ln : Int64) (cn : Int32) (fo : Int32) (se : Int32) (h0 : Heap) (n0 : Nat) (v : Option Value) (h : Heap) (L : List Loc) : Prop := v = some (.int (en - st)) ∧ Fr n0 L ∧ h = h0
set_option maxRecDepth 65536 in
set_option maxHeartbeats 40000000 in
theorem rm10 (l : Launch) (Z : State) (a0 : Array Value) (hw : ∀ d ∈ tables_1, d.before a0 Z = true) (ws : List Jvm.Cond) (a1 : Addr) (b : Addr) (ar : Addr) (st : Int32) (en : Int32) (ln : Int64) (cn : Int32) (fo : Int32) (se : Int32) (h0 : Heap) (n0 : Nat) (Z0 : n0 ≤ h0.size) (RV : own_RV Z h0 a1 b ar st en ln cn fo se) :
    MetFree l (⟨"com/example/concept_ledger/conceptledger/model/RowView", "length", "()I"⟩ : MethodName) (head1 (Jvm.Cond.code (⟨"com/example/concept_ledger/conceptledger/model/RowView", "length", "()I"⟩ : MethodName) prog_35_method_18_code 1 (some .int) :: ws) ({ frames := 0, cells := 0, slots := 0, locals := 0 } : Room)) (fun a U => a = #[(.ref a1)] ∧ Z.Warmed39 U.vm ∧ U.heap = h0) (fun _ _ _ _ _ => True) (fun _ U o U' => ∃ v L, o = .returned v ∧ Q10 Z a1 b ar st en ln cn fo se h0 n0 v U'.heap L ∧ FrameEnd U o U' L ({ frames := 0, cells := 0, slots := 0, locals := 0 } : Room).cells ({ frames := 0, cells := 0, slots := 0, locals := 0 } : Room).slots) := by
  refine MetFree.of_bodySF (plainFor_of_name pn_1) hisR ?_
  intro p e s m args below meth c s₁ Bd hml0 hP hK
  obtain ⟨rfl, hZ, hh⟩ := hP
  have hx := Bd.exec
  have hby := Bd.bytes
  have hml : c.maxLocals = 1 := hml0
  have hown : s.vm.findClass "com/example/concept_ledger/conceptledger/model/RowView" = some m.cls := findClass_of_methodNamed Bd.named
  have hnm := (name_of_methodNamed Bd.named Bd.method).1
  have X0 : Stand p l e ({ frames := 0, cells := 0, slots := 0, locals := 0 } : Room) s m #[(.ref a1)] below meth c s₁ [] 0 0 := Stand.of_body Bd
  have e0 : s₁.heap = h0 := by rw [← hh, Bd.state]; rfl
  have N0 := Fr.nil n0
  have pre0 : ∀ t, Steps p.tables e below (s₁.setTop (mkF m 0 #[.val (.ref a1)] [])) t → Steps p.tables e below (s₁.setTop (entryFrame m #[(.ref a1)] 1)) t := fun t k => castTop (ef_10 m a1) k
  obtain ⟨T60, X60, e60, st60⟩ := getF X0 hx hZ hown (host := "") (Or.inl (hw _ (List.mem_of_getElem? (i := 29) rfl))) Via.refl e0 RV.2.2.2.2.1 (g := (mkF m 1 #[.val (.ref a1)] [(.ref a1)])) rfl rfl (hb hby d10_1)
  obtain ⟨T61, X61, e61, st61⟩ := getF X60 hx hZ hown (host := "") (Or.inl (hw _ (List.mem_of_getElem? (i := 27) rfl))) Via.refl e60 RV.2.2.2.1 (g := (mkF m 5 #[.val (.ref a1)] [(.ref a1), (.int en)])) rfl rfl (hb hby d10_5)
  have fl62 : ∀ target, Steps p.tables e below (T61.setTop (mkF m 9 #[.val (.ref a1)] [(.int (en - st))])) target → Steps p.tables e below (s₁.setTop (mkF m 0 #[.val (.ref a1)] [])) target := fun target kt => by
    show Steps p.tables e below (s₁.setTop (mkF m 0 #[.val (.ref a1)] [])) _
    refine XS.aloadN X0.here hx rfl (hb hby d10_0) rfl rfl ?_
    show Steps p.tables e below (s₁.setTop (mkF m 1 #[.val (.ref a1)] [(.ref a1)])) _
    refine st60 _ ?_
    show Steps p.tables e below (T60.setTop (mkF m 4 #[.val (.ref a1)] [(.int en)])) _
    refine XS.aloadN X60.here hx rfl (hb hby d10_4) rfl rfl ?_
    show Steps p.tables e below (T60.setTop (mkF m 5 #[.val (.ref a1)] [(.ref a1), (.int en)])) _
    refine st61 _ ?_
    show Steps p.tables e below (T61.setTop (mkF m 8 #[.val (.ref a1)] [(.int st), (.int en)])) _
    refine XS.isub X61.here hx rfl (hb hby d10_8) rfl ?_
    exact kt
  obtain ⟨fs, hrt, hrun, hended, hW, hsame⟩ := X61.leave (v := some (.int (en - st))) (fun h => by rw [Bd.returns] at h; cases h)
  refine ⟨_, _, pre0 _ (fl62 _ ?_), hrun, hended, _, _, rfl, ?_, ⟨_, rfl⟩, hW, hsame.mono (by decide) (by decide)⟩
  · exact retI X61 hx Bd.returns (hb hby d10_9) hrt
  · show Q10 _ _ _ _ _ _ _ _ _ _ _ _ _ T61.heap _
    rw [e61]
    exact ⟨rfl, N0, rfl⟩
theorem ef_11 (m : MethodId) (x0 : Addr) : entryFrame m #[(.ref x0)] 1 = mkF m 0 #[.val (.ref x0)] [] := by first | (simp [entryFrame, mkF, argsToLocals, Value.category]; done) | rfl
def Q11 (Z : State) (a1 : Addr) (b : Addr) (ar : Addr) (st : Int32) (en : Int32) (ln : Int64) (cn : Int32) (fo : Int32) (se : Int32) (kb : ClassId) (f : Int32 → Int32) (r : Int32) (h0 : Heap) (n0 : Nat) (v : Option Value) (h : Heap) (L : List Loc) : Prop := v = some (.int r) ∧ Fr n0 L ∧ h = h0
set_option maxRecDepth 65536 in
set_option maxHeartbeats 40000000 in
theorem rm11 (l : Launch) (Z : State) (a0 : Array Value) (hw : ∀ d ∈ tables_1, d.before a0 Z = true) (ws : List Jvm.Cond) (a1 : Addr) (b : Addr) (ar : Addr) (st : Int32) (en : Int32) (ln : Int64) (cn : Int32) (fo : Int32) (se : Int32) (kb : ClassId) (f : Int32 → Int32) (r : Int32) (h0 : Heap) (n0 : Nat) (Z0 : n0 ≤ h0.size) (RV : own_RV Z h0 a1 b ar st en ln cn fo se) (BA : own_BA Z h0 b kb f) (hse : own_se st en) (hr : r = own_trm f st en) :
    MetFree l (⟨"com/example/concept_ledger/conceptledger/model/RowView", "isTerminated", "()Z"⟩ : MethodName) (head1 (Jvm.Cond.code (⟨"com/example/concept_ledger/conceptledger/model/RowView", "isTerminated", "()Z"⟩ : MethodName) prog_35_method_4_code 1 (some .boolean) :: ws) ({ frames := 0, cells := 0, slots := 0, locals := 0 } : Room)) (fun a U => a = #[(.ref a1)] ∧ Z.Warmed39 U.vm ∧ U.heap = h0) (fun _ _ _ _ _ => True) (fun _ U o U' => ∃ v L, o = .returned v ∧ Q11 Z a1 b ar st en ln cn fo se kb f r h0 n0 v U'.heap L ∧ FrameEnd U o U' L ({ frames := 0, cells := 0, slots := 0, locals := 0 } : Room).cells ({ frames := 0, cells := 0, slots := 0, locals := 0 } : Room).slots) := by
  refine MetFree.of_bodySF (plainFor_of_name pn_1) hisR ?_
  intro p e s m args below meth c s₁ Bd hml0 hP hK
  obtain ⟨rfl, hZ, hh⟩ := hP
  have hx := Bd.exec
  have hby := Bd.bytes
  have hml : c.maxLocals = 1 := hml0
  have hown : s.vm.findClass "com/example/concept_ledger/conceptledger/model/RowView" = some m.cls := findClass_of_methodNamed Bd.named
  have hnm := (name_of_methodNamed Bd.named Bd.method).1
  have X0 : Stand p l e ({ frames := 0, cells := 0, slots := 0, locals := 0 } : Room) s m #[(.ref a1)] below meth c s₁ [] 0 0 := Stand.of_body Bd
  have e0 : s₁.heap = h0 := by rw [← hh, Bd.state]; rfl
  have N0 := Fr.nil n0
  have pre0 : ∀ t, Steps p.tables e below (s₁.setTop (mkF m 0 #[.val (.ref a1)] [])) t → Steps p.tables e below (s₁.setTop (entryFrame m #[(.ref a1)] 1)) t := fun t k => castTop (ef_11 m a1) k
  obtain ⟨clx, Ar, -, Sz, Nz, Hv, -⟩ := id BA
  obtain ⟨T63, X63, e63, st63⟩ := getF X0 hx hZ hown (host := "") (Or.inl (hw _ (List.mem_of_getElem? (i := 29) rfl))) Via.refl e0 RV.2.2.2.2.1 (g := (mkF m 1 #[.val (.ref a1)] [(.ref a1)])) rfl rfl (hb hby d11_1)
  obtain ⟨T64, X64, e64, st64⟩ := getF X63 hx hZ hown (host := "") (Or.inl (hw _ (List.mem_of_getElem? (i := 27) rfl))) Via.refl e63 RV.2.2.2.1 (g := (mkF m 5 #[.val (.ref a1)] [(.ref a1), (.int en)])) rfl rfl (hb hby d11_5)
  have fl65 : ∀ target, Steps p.tables e below (T64.setTop (mkF m 8 #[.val (.ref a1)] [(.int st), (.int en)])) target → Steps p.tables e below (s₁.setTop (mkF m 0 #[.val (.ref a1)] [])) target := fun target kt => by
    show Steps p.tables e below (s₁.setTop (mkF m 0 #[.val (.ref a1)] [])) _
    refine XS.aloadN X0.here hx rfl (hb hby d11_0) rfl rfl ?_
    show Steps p.tables e below (s₁.setTop (mkF m 1 #[.val (.ref a1)] [(.ref a1)])) _
    refine st63 _ ?_
    show Steps p.tables e below (T63.setTop (mkF m 4 #[.val (.ref a1)] [(.int en)])) _
    refine XS.aloadN X63.here hx rfl (hb hby d11_4) rfl rfl ?_
    show Steps p.tables e below (T63.setTop (mkF m 5 #[.val (.ref a1)] [(.ref a1), (.int en)])) _
    refine st64 _ ?_
    exact kt
  by_cases hc : st < en
  · have hj := own_em1 hse hc
    have hin := inb_of Sz hj
    have hat := Hv.at hin (own_get f hj)
    by_cases h2 : f (en - (1 : Int32)) = 124
    · obtain rfl : r = 1 := by rw [hr]; exact if_pos ⟨hc, h2⟩
      obtain ⟨T66, X66, e66, st66⟩ := getF X64 hx hZ hown (host := "") (Or.inl (hw _ (List.mem_of_getElem? (i := 17) rfl))) Via.refl e64 RV.2.1 (g := (mkF m 12 #[.val (.ref a1)] [(.ref a1)])) rfl rfl (hb hby d11_12)
      obtain ⟨T67, X67, e67, st67⟩ := getF X66 hx hZ hown (host := "") (Or.inl (hw _ (List.mem_of_getElem? (i := 29) rfl))) Via.refl e66 RV.2.2.2.2.1 (g := (mkF m 16 #[.val (.ref a1)] [(.ref a1), (.ref b)])) rfl rfl (hb hby d11_16)
      have fl68 : ∀ target, Steps p.tables e below (T67.setTop (mkF m 32 #[.val (.ref a1)] [(.int (1 : Int32))])) target → Steps p.tables e below (T64.setTop (mkF m 8 #[.val (.ref a1)] [(.int st), (.int en)])) target := fun target kt => by
        show Steps p.tables e below (T64.setTop (mkF m 8 #[.val (.ref a1)] [(.int st), (.int en)])) _
        refine XS.icmpNo X64.here hx rfl (hb hby d11_8) rfl (tlt (hc : st < en)).2.2.2 ?_
        show Steps p.tables e below (T64.setTop (mkF m 11 #[.val (.ref a1)] [])) _
        refine XS.aloadN X64.here hx rfl (hb hby d11_11) rfl rfl ?_
        show Steps p.tables e below (T64.setTop (mkF m 12 #[.val (.ref a1)] [(.ref a1)])) _
        refine st66 _ ?_
        show Steps p.tables e below (T66.setTop (mkF m 15 #[.val (.ref a1)] [(.ref b)])) _
        refine XS.aloadN X66.here hx rfl (hb hby d11_15) rfl rfl ?_
        show Steps p.tables e below (T66.setTop (mkF m 16 #[.val (.ref a1)] [(.ref a1), (.ref b)])) _
        refine st67 _ ?_
        show Steps p.tables e below (T67.setTop (mkF m 19 #[.val (.ref a1)] [(.int en), (.ref b)])) _
        refine XS.iconst X67.here hx rfl (hb hby d11_19) ?_
        show Steps p.tables e below (T67.setTop (mkF m 20 #[.val (.ref a1)] [(.int (1 : Int32)), (.int en), (.ref b)])) _
        refine XS.isub X67.here hx rfl (hb hby d11_20) rfl ?_
        show Steps p.tables e below (T67.setTop (mkF m 21 #[.val (.ref a1)] [(.int (en - (1 : Int32))), (.ref b)])) _
        refine X67.baloadBytes hx (j := (en - (1 : Int32))) (v := (.int (f (en - (1 : Int32))))) (by rw [e67]; exact Ar.1) (State.isArrayOf_alike hZ.alike Ar.2.1) Ar.2.2 hin hat (g := (mkF m 21 #[.val (.ref a1)] [(.int (en - (1 : Int32))), (.ref b)])) rfl rfl (hb hby d11_21) _ ?_
        show Steps p.tables e below (T67.setTop (mkF m 22 #[.val (.ref a1)] [(.int (f (en - (1 : Int32))))])) _
        refine XS.bipush X67.here hx rfl (hb hby d11_22) ?_
        show Steps p.tables e below (T67.setTop (mkF m 24 #[.val (.ref a1)] [(.int (124 : Int32)), (.int (f (en - (1 : Int32))))])) _
        refine XS.icmpNo X67.here hx rfl (hb hby d11_24) rfl (teq (h2 : (f (en - (1 : Int32))) = (124 : Int32))).2 ?_
        show Steps p.tables e below (T67.setTop (mkF m 27 #[.val (.ref a1)] [])) _
        refine XS.iconst X67.here hx rfl (hb hby d11_27) ?_
        show Steps p.tables e below (T67.setTop (mkF m 28 #[.val (.ref a1)] [(.int (1 : Int32))])) _
        refine XS.goto X67.here hx rfl (pc0 := 28) (pc' := 32) rfl (hb hby d11_28) (by decide) (by decide) ?_
        exact kt
      obtain ⟨fs, hrt, hrun, hended, hW, hsame⟩ := X67.leave (v := some (.int (1 : Int32))) (fun h => by rw [Bd.returns] at h; cases h)
      refine ⟨_, _, pre0 _ (fl65 _ (fl68 _ ?_)), hrun, hended, _, _, rfl, ?_, ⟨_, rfl⟩, hW, hsame.mono (by decide) (by decide)⟩
      · exact retN X67 hx (t := .boolean) Bd.returns (by simp) (hb hby d11_32) hrt
      · show Q11 _ _ _ _ _ _ _ _ _ _ _ _ _ _ _ _ T67.heap _
        rw [e67]
        exact ⟨rfl, N0, rfl⟩
    · obtain rfl : r = 0 := by rw [hr]; exact if_neg (fun u => h2 u.2)
      obtain ⟨T69, X69, e69, st69⟩ := getF X64 hx hZ hown (host := "") (Or.inl (hw _ (List.mem_of_getElem? (i := 17) rfl))) Via.refl e64 RV.2.1 (g := (mkF m 12 #[.val (.ref a1)] [(.ref a1)])) rfl rfl (hb hby d11_12)
      obtain ⟨T70, X70, e70, st70⟩ := getF X69 hx hZ hown (host := "") (Or.inl (hw _ (List.mem_of_getElem? (i := 29) rfl))) Via.refl e69 RV.2.2.2.2.1 (g := (mkF m 16 #[.val (.ref a1)] [(.ref a1), (.ref b)])) rfl rfl (hb hby d11_16)
      have fl71 : ∀ target, Steps p.tables e below (T70.setTop (mkF m 32 #[.val (.ref a1)] [(.int (0 : Int32))])) target → Steps p.tables e below (T64.setTop (mkF m 8 #[.val (.ref a1)] [(.int st), (.int en)])) target := fun target kt => by
        show Steps p.tables e below (T64.setTop (mkF m 8 #[.val (.ref a1)] [(.int st), (.int en)])) _
        refine XS.icmpNo X64.here hx rfl (hb hby d11_8) rfl (tlt (hc : st < en)).2.2.2 ?_
        show Steps p.tables e below (T64.setTop (mkF m 11 #[.val (.ref a1)] [])) _
        refine XS.aloadN X64.here hx rfl (hb hby d11_11) rfl rfl ?_
        show Steps p.tables e below (T64.setTop (mkF m 12 #[.val (.ref a1)] [(.ref a1)])) _
        refine st69 _ ?_
        show Steps p.tables e below (T69.setTop (mkF m 15 #[.val (.ref a1)] [(.ref b)])) _
        refine XS.aloadN X69.here hx rfl (hb hby d11_15) rfl rfl ?_
        show Steps p.tables e below (T69.setTop (mkF m 16 #[.val (.ref a1)] [(.ref a1), (.ref b)])) _
        refine st70 _ ?_
        show Steps p.tables e below (T70.setTop (mkF m 19 #[.val (.ref a1)] [(.int en), (.ref b)])) _
        refine XS.iconst X70.here hx rfl (hb hby d11_19) ?_
        show Steps p.tables e below (T70.setTop (mkF m 20 #[.val (.ref a1)] [(.int (1 : Int32)), (.int en), (.ref b)])) _
        refine XS.isub X70.here hx rfl (hb hby d11_20) rfl ?_
        show Steps p.tables e below (T70.setTop (mkF m 21 #[.val (.ref a1)] [(.int (en - (1 : Int32))), (.ref b)])) _
        refine X70.baloadBytes hx (j := (en - (1 : Int32))) (v := (.int (f (en - (1 : Int32))))) (by rw [e70]; exact Ar.1) (State.isArrayOf_alike hZ.alike Ar.2.1) Ar.2.2 hin hat (g := (mkF m 21 #[.val (.ref a1)] [(.int (en - (1 : Int32))), (.ref b)])) rfl rfl (hb hby d11_21) _ ?_
        show Steps p.tables e below (T70.setTop (mkF m 22 #[.val (.ref a1)] [(.int (f (en - (1 : Int32))))])) _
        refine XS.bipush X70.here hx rfl (hb hby d11_22) ?_
        show Steps p.tables e below (T70.setTop (mkF m 24 #[.val (.ref a1)] [(.int (124 : Int32)), (.int (f (en - (1 : Int32))))])) _
        refine XS.icmpYes X70.here hx rfl (pc0 := 24) (pc' := 31) rfl (hb hby d11_24) rfl (feq (h2 : ¬ ((f (en - (1 : Int32))) = (124 : Int32)))).2 (by decide) (by decide) ?_
        show Steps p.tables e below (T70.setTop (mkF m 31 #[.val (.ref a1)] [])) _
        refine XS.iconst X70.here hx rfl (hb hby d11_31) ?_
        exact kt
      obtain ⟨fs, hrt, hrun, hended, hW, hsame⟩ := X70.leave (v := some (.int (0 : Int32))) (fun h => by rw [Bd.returns] at h; cases h)
      refine ⟨_, _, pre0 _ (fl65 _ (fl71 _ ?_)), hrun, hended, _, _, rfl, ?_, ⟨_, rfl⟩, hW, hsame.mono (by decide) (by decide)⟩
      · exact retN X70 hx (t := .boolean) Bd.returns (by simp) (hb hby d11_32) hrt
      · show Q11 _ _ _ _ _ _ _ _ _ _ _ _ _ _ _ _ T70.heap _
        rw [e70]
        exact ⟨rfl, N0, rfl⟩
  · obtain rfl : r = 0 := by rw [hr]; exact if_neg (fun u => hc u.1)
    have fl72 : ∀ target, Steps p.tables e below (T64.setTop (mkF m 32 #[.val (.ref a1)] [(.int (0 : Int32))])) target → Steps p.tables e below (T64.setTop (mkF m 8 #[.val (.ref a1)] [(.int st), (.int en)])) target := fun target kt => by
      show Steps p.tables e below (T64.setTop (mkF m 8 #[.val (.ref a1)] [(.int st), (.int en)])) _
      refine XS.icmpYes X64.here hx rfl (pc0 := 8) (pc' := 31) rfl (hb hby d11_8) rfl (flt (hc : ¬ (st < en))).2.2.2 (by decide) (by decide) ?_
      show Steps p.tables e below (T64.setTop (mkF m 31 #[.val (.ref a1)] [])) _
      refine XS.iconst X64.here hx rfl (hb hby d11_31) ?_
      exact kt
    obtain ⟨fs, hrt, hrun, hended, hW, hsame⟩ := X64.leave (v := some (.int (0 : Int32))) (fun h => by rw [Bd.returns] at h; cases h)
    refine ⟨_, _, pre0 _ (fl65 _ (fl72 _ ?_)), hrun, hended, _, _, rfl, ?_, ⟨_, rfl⟩, hW, hsame.mono (by decide) (by decide)⟩
    · exact retN X64 hx (t := .boolean) Bd.returns (by simp) (hb hby d11_32) hrt
    · show Q11 _ _ _ _ _ _ _ _ _ _ _ _ _ _ _ _ T64.heap _
      rw [e64]
      exact ⟨rfl, N0, rfl⟩
set_option maxRecDepth 65536 in
set_option maxHeartbeats 40000000 in
theorem own_fcl {p : Program} {l : Launch} {e : Env} {R : Room} {s : State} {m : MethodId} {args : Array Value} {below : List Frame} {meth : Method} {c : Code} {Z : State} {a0 : Array Value} {locs : List Loc} {cells slots : Nat} {h0 : Heap} (a1 : Addr) (b : Addr) (ar : Addr) (st : Int32) (en : Int32) (ln : Int64) (cn : Int32) (fo : Int32) (se : Int32) (kb : ClassId) (f : Int32 → Int32) (hx : p.tables.exec = Jvm.exec) (hZ : Z.Warmed39 s.vm) (hw : ∀ d ∈ tables_1, d.before a0 Z = true) (hby : c.code = prog_35_method_5_code) (hml : c.maxLocals = 3) (hown : s.vm.findClass "com/example/concept_ledger/conceptledger/model/RowView" = some m.cls) (RV : own_RV Z h0 a1 b ar st en ln cn fo se) (BA : own_BA Z h0 b kb f) (hse : own_se st en) : ∀ (n : Nat) (T0 : State) (i c0 : Int32) (X0 : Stand p l e R s m args below meth c T0 locs cells slots) (e0 : T0.heap = h0), 0 ≤ i.toInt → i.toInt + n = en.toInt →
    ∃ T' : State, Stand p l e R s m args below meth c T' locs cells slots ∧ T'.heap = h0 ∧ ∀ target, Steps p.tables e below (T'.setTop (mkF m 76 #[.val (.ref a1), .val (.int (c0 + own_cf f i n)), .val (.int en)] [])) target → Steps p.tables e below (T0.setTop (mkF m 48 #[.val (.ref a1), .val (.int c0), .val (.int i)] [])) target := by
  obtain ⟨clx, Ar, -, Sz, Nz, Hv, -⟩ := id BA
  intro n
  induction n with
  | zero =>
    intro T0 i c0 X0 e0 h1 h2
    obtain rfl : en = i := Int32.toInt_inj.mp (by omega)
    obtain ⟨T73, X73, e73, st73⟩ := getF X0 hx hZ hown (host := "") (Or.inl (hw _ (List.mem_of_getElem? (i := 29) rfl))) Via.refl e0 RV.2.2.2.2.1 (g := (mkF m 50 #[.val (.ref a1), .val (.int c0), .val (.int en)] [(.ref a1), (.int en)])) rfl rfl (hb hby d6_50)
    refine ⟨T73, X73, e73, fun target kt => ?_⟩
    rw [show c0 + own_cf f en 0 = c0 from Int32.add_zero c0] at kt
    show Steps p.tables e below (T0.setTop (mkF m 48 #[.val (.ref a1), .val (.int c0), .val (.int en)] [])) _
    refine XS.iloadN X0.here hx rfl (hb hby d6_48) rfl ?_
    show Steps p.tables e below (T0.setTop (mkF m 49 #[.val (.ref a1), .val (.int c0), .val (.int en)] [(.int en)])) _
    refine XS.aloadN X0.here hx rfl (hb hby d6_49) rfl rfl ?_
    show Steps p.tables e below (T0.setTop (mkF m 50 #[.val (.ref a1), .val (.int c0), .val (.int en)] [(.ref a1), (.int en)])) _
    refine st73 _ ?_
    show Steps p.tables e below (T73.setTop (mkF m 53 #[.val (.ref a1), .val (.int c0), .val (.int en)] [(.int en), (.int en)])) _
    refine XS.icmpYes X73.here hx rfl (pc0 := 53) (pc' := 76) rfl (hb hby d6_53) rfl (flt (Int32.lt_irrefl : ¬ (en < en))).2.1 (by decide) (by decide) ?_
    exact kt
  | succ n ih =>
    intro T0 i c0 X0 e0 h1 h2
    have hle := hse.2.2
    have hj := own_in4 h1 (by omega)
    have hi1 := own_i1 h1 (by omega)
    have hlt : i < en := by rw [own_lti]; omega
    have hin := inb_of Sz hj
    have hat := Hv.at hin (own_get f hj)
    by_cases h124 : f i = 124
    · obtain ⟨T74, X74, e74, st74⟩ := getF X0 hx hZ hown (host := "") (Or.inl (hw _ (List.mem_of_getElem? (i := 29) rfl))) Via.refl e0 RV.2.2.2.2.1 (g := (mkF m 50 #[.val (.ref a1), .val (.int c0), .val (.int i)] [(.ref a1), (.int i)])) rfl rfl (hb hby d6_50)
      obtain ⟨T75, X75, e75, st75⟩ := getF X74 hx hZ hown (host := "") (Or.inl (hw _ (List.mem_of_getElem? (i := 17) rfl))) Via.refl e74 RV.2.1 (g := (mkF m 57 #[.val (.ref a1), .val (.int c0), .val (.int i)] [(.ref a1)])) rfl rfl (hb hby d6_57)
      obtain ⟨T', X', e', st'⟩ := ih T75 (i + (1 : Int32)) (c0 + (1 : Int32)) X75 e75 (by omega) (by omega)
      have q : (c0 + (1 : Int32)) + own_cf f (i + 1) n = c0 + own_cf f i (n + 1) := by simp [own_cf, h124, Int32.add_assoc]
      rw [q] at st'
      refine ⟨T', X', e', fun target kt => ?_⟩
      show Steps p.tables e below (T0.setTop (mkF m 48 #[.val (.ref a1), .val (.int c0), .val (.int i)] [])) _
      refine XS.iloadN X0.here hx rfl (hb hby d6_48) rfl ?_
      show Steps p.tables e below (T0.setTop (mkF m 49 #[.val (.ref a1), .val (.int c0), .val (.int i)] [(.int i)])) _
      refine XS.aloadN X0.here hx rfl (hb hby d6_49) rfl rfl ?_
      show Steps p.tables e below (T0.setTop (mkF m 50 #[.val (.ref a1), .val (.int c0), .val (.int i)] [(.ref a1), (.int i)])) _
      refine st74 _ ?_
      show Steps p.tables e below (T74.setTop (mkF m 53 #[.val (.ref a1), .val (.int c0), .val (.int i)] [(.int en), (.int i)])) _
      refine XS.icmpNo X74.here hx rfl (hb hby d6_53) rfl (tlt (hlt : i < en)).2.1 ?_
      show Steps p.tables e below (T74.setTop (mkF m 56 #[.val (.ref a1), .val (.int c0), .val (.int i)] [])) _
      refine XS.aloadN X74.here hx rfl (hb hby d6_56) rfl rfl ?_
      show Steps p.tables e below (T74.setTop (mkF m 57 #[.val (.ref a1), .val (.int c0), .val (.int i)] [(.ref a1)])) _
      refine st75 _ ?_
      show Steps p.tables e below (T75.setTop (mkF m 60 #[.val (.ref a1), .val (.int c0), .val (.int i)] [(.ref b)])) _
      refine XS.iloadN X75.here hx rfl (hb hby d6_60) rfl ?_
      show Steps p.tables e below (T75.setTop (mkF m 61 #[.val (.ref a1), .val (.int c0), .val (.int i)] [(.int i), (.ref b)])) _
      refine X75.baloadBytes hx (j := i) (v := (.int (f i))) (by rw [e75]; exact Ar.1) (State.isArrayOf_alike hZ.alike Ar.2.1) Ar.2.2 hin hat (g := (mkF m 61 #[.val (.ref a1), .val (.int c0), .val (.int i)] [(.int i), (.ref b)])) rfl rfl (hb hby d6_61) _ ?_
      show Steps p.tables e below (T75.setTop (mkF m 62 #[.val (.ref a1), .val (.int c0), .val (.int i)] [(.int (f i))])) _
      refine XS.bipush X75.here hx rfl (hb hby d6_62) ?_
      show Steps p.tables e below (T75.setTop (mkF m 64 #[.val (.ref a1), .val (.int c0), .val (.int i)] [(.int (124 : Int32)), (.int (f i))])) _
      refine XS.icmpNo X75.here hx rfl (hb hby d6_64) rfl (teq (h124 : (f i) = (124 : Int32))).2 ?_
      show Steps p.tables e below (T75.setTop (mkF m 67 #[.val (.ref a1), .val (.int c0), .val (.int i)] [])) _
      refine XS.iinc X75.here hx rfl (hb hby d6_67) rfl (l' := #[.val (.ref a1), .val (.int (c0 + (1 : Int32))), .val (.int i)]) rfl ?_
      show Steps p.tables e below (T75.setTop (mkF m 70 #[.val (.ref a1), .val (.int (c0 + (1 : Int32))), .val (.int i)] [])) _
      refine XS.iinc X75.here hx rfl (hb hby d6_70) rfl (l' := #[.val (.ref a1), .val (.int (c0 + (1 : Int32))), .val (.int (i + (1 : Int32)))]) rfl ?_
      show Steps p.tables e below (T75.setTop (mkF m 73 #[.val (.ref a1), .val (.int (c0 + (1 : Int32))), .val (.int (i + (1 : Int32)))] [])) _
      refine XS.goto X75.here hx rfl (pc0 := 73) (pc' := 48) rfl (hb hby d6_73) (by decide) (by decide) ?_
      exact st' _ kt
    · obtain ⟨T76, X76, e76, st76⟩ := getF X0 hx hZ hown (host := "") (Or.inl (hw _ (List.mem_of_getElem? (i := 29) rfl))) Via.refl e0 RV.2.2.2.2.1 (g := (mkF m 50 #[.val (.ref a1), .val (.int c0), .val (.int i)] [(.ref a1), (.int i)])) rfl rfl (hb hby d6_50)
      obtain ⟨T77, X77, e77, st77⟩ := getF X76 hx hZ hown (host := "") (Or.inl (hw _ (List.mem_of_getElem? (i := 17) rfl))) Via.refl e76 RV.2.1 (g := (mkF m 57 #[.val (.ref a1), .val (.int c0), .val (.int i)] [(.ref a1)])) rfl rfl (hb hby d6_57)
      obtain ⟨T', X', e', st'⟩ := ih T77 (i + (1 : Int32)) c0 X77 e77 (by omega) (by omega)
      have q : c0 + own_cf f (i + 1) n = c0 + own_cf f i (n + 1) := by simp [own_cf, h124]
      rw [q] at st'
      refine ⟨T', X', e', fun target kt => ?_⟩
      show Steps p.tables e below (T0.setTop (mkF m 48 #[.val (.ref a1), .val (.int c0), .val (.int i)] [])) _
      refine XS.iloadN X0.here hx rfl (hb hby d6_48) rfl ?_
      show Steps p.tables e below (T0.setTop (mkF m 49 #[.val (.ref a1), .val (.int c0), .val (.int i)] [(.int i)])) _
      refine XS.aloadN X0.here hx rfl (hb hby d6_49) rfl rfl ?_
      show Steps p.tables e below (T0.setTop (mkF m 50 #[.val (.ref a1), .val (.int c0), .val (.int i)] [(.ref a1), (.int i)])) _
      refine st76 _ ?_
      show Steps p.tables e below (T76.setTop (mkF m 53 #[.val (.ref a1), .val (.int c0), .val (.int i)] [(.int en), (.int i)])) _
      refine XS.icmpNo X76.here hx rfl (hb hby d6_53) rfl (tlt (hlt : i < en)).2.1 ?_
      show Steps p.tables e below (T76.setTop (mkF m 56 #[.val (.ref a1), .val (.int c0), .val (.int i)] [])) _
      refine XS.aloadN X76.here hx rfl (hb hby d6_56) rfl rfl ?_
      show Steps p.tables e below (T76.setTop (mkF m 57 #[.val (.ref a1), .val (.int c0), .val (.int i)] [(.ref a1)])) _
      refine st77 _ ?_
      show Steps p.tables e below (T77.setTop (mkF m 60 #[.val (.ref a1), .val (.int c0), .val (.int i)] [(.ref b)])) _
      refine XS.iloadN X77.here hx rfl (hb hby d6_60) rfl ?_
      show Steps p.tables e below (T77.setTop (mkF m 61 #[.val (.ref a1), .val (.int c0), .val (.int i)] [(.int i), (.ref b)])) _
      refine X77.baloadBytes hx (j := i) (v := (.int (f i))) (by rw [e77]; exact Ar.1) (State.isArrayOf_alike hZ.alike Ar.2.1) Ar.2.2 hin hat (g := (mkF m 61 #[.val (.ref a1), .val (.int c0), .val (.int i)] [(.int i), (.ref b)])) rfl rfl (hb hby d6_61) _ ?_
      show Steps p.tables e below (T77.setTop (mkF m 62 #[.val (.ref a1), .val (.int c0), .val (.int i)] [(.int (f i))])) _
      refine XS.bipush X77.here hx rfl (hb hby d6_62) ?_
      show Steps p.tables e below (T77.setTop (mkF m 64 #[.val (.ref a1), .val (.int c0), .val (.int i)] [(.int (124 : Int32)), (.int (f i))])) _
      refine XS.icmpYes X77.here hx rfl (pc0 := 64) (pc' := 70) rfl (hb hby d6_64) rfl (feq (h124 : ¬ ((f i) = (124 : Int32)))).2 (by decide) (by decide) ?_
      show Steps p.tables e below (T77.setTop (mkF m 70 #[.val (.ref a1), .val (.int c0), .val (.int i)] [])) _
      refine XS.iinc X77.here hx rfl (hb hby d6_70) rfl (l' := #[.val (.ref a1), .val (.int c0), .val (.int (i + (1 : Int32)))]) rfl ?_
      show Steps p.tables e below (T77.setTop (mkF m 73 #[.val (.ref a1), .val (.int c0), .val (.int (i + (1 : Int32)))] [])) _
      refine XS.goto X77.here hx rfl (pc0 := 73) (pc' := 48) rfl (hb hby d6_73) (by decide) (by decide) ?_
      exact st' _ kt
theorem ef_6 (m : MethodId) (x0 : Addr) : entryFrame m #[(.ref x0)] 3 = mkF m 0 #[.val (.ref x0), .unset, .unset] [] := by first | (simp [entryFrame, mkF, argsToLocals, Value.category]; done) | rfl
def Q6 (Z : State) (a1 : Addr) (b : Addr) (ar : Addr) (st : Int32) (en : Int32) (ln : Int64) (fo : Int32) (se : Int32) (kb : ClassId) (f : Int32 → Int32) (nn : Nat) (r : Int32) (h0 : Heap) (n0 : Nat) (v : Option Value) (h : Heap) (L : List Loc) : Prop := v = some (.int r) ∧ Fr n0 L ∧ Keep h0 h [a1] ∧ own_RV Z h a1 b ar st en ln r fo se
set_option maxRecDepth 65536 in
set_option maxHeartbeats 40000000 in
theorem rm6 (l : Launch) (Z : State) (a0 : Array Value) (hw : ∀ d ∈ tables_1, d.before a0 Z = true) (ws : List Jvm.Cond) (a1 : Addr) (b : Addr) (ar : Addr) (st : Int32) (en : Int32) (ln : Int64) (fo : Int32) (se : Int32) (kb : ClassId) (f : Int32 → Int32) (nn : Nat) (r : Int32) (h0 : Heap) (n0 : Nat) (Z0 : n0 ≤ h0.size) (RV : own_RV Z h0 a1 b ar st en ln (-1) fo se) (BA : own_BA Z h0 b kb f) (hse : own_se st en) (hn : st.toInt + nn = en.toInt) (hr : r = own_cf f st nn) (g_a1 : n0 ≤ a1) :
    MetFree l (⟨"com/example/concept_ledger/conceptledger/model/RowView", "fieldCount", "()I"⟩ : MethodName) (head1 (Jvm.Cond.code (⟨"com/example/concept_ledger/conceptledger/model/RowView", "fieldCount", "()I"⟩ : MethodName) prog_35_method_5_code 3 (some .int) :: ws) ({ frames := 0, cells := 0, slots := 0, locals := 0 } : Room)) (fun a U => a = #[(.ref a1)] ∧ Z.Warmed39 U.vm ∧ U.heap = h0) (fun _ _ _ _ _ => True) (fun _ U o U' => ∃ v L, o = .returned v ∧ Q6 Z a1 b ar st en ln fo se kb f nn r h0 n0 v U'.heap L ∧ FrameEnd U o U' L ({ frames := 0, cells := 0, slots := 0, locals := 0 } : Room).cells ({ frames := 0, cells := 0, slots := 0, locals := 0 } : Room).slots) := by
  refine MetFree.of_bodySF (plainFor_of_name pn_1) hisR ?_
  intro p e s m args below meth c s₁ Bd hml0 hP hK
  obtain ⟨rfl, hZ, hh⟩ := hP
  have hx := Bd.exec
  have hby := Bd.bytes
  have hml : c.maxLocals = 3 := hml0
  have hown : s.vm.findClass "com/example/concept_ledger/conceptledger/model/RowView" = some m.cls := findClass_of_methodNamed Bd.named
  have hnm := (name_of_methodNamed Bd.named Bd.method).1
  have X0 : Stand p l e ({ frames := 0, cells := 0, slots := 0, locals := 0 } : Room) s m #[(.ref a1)] below meth c s₁ [] 0 0 := Stand.of_body Bd
  have e0 : s₁.heap = h0 := by rw [← hh, Bd.state]; rfl
  have N0 := Fr.nil n0
  have pre0 : ∀ t, Steps p.tables e below (s₁.setTop (mkF m 0 #[.val (.ref a1), .unset, .unset] [])) t → Steps p.tables e below (s₁.setTop (entryFrame m #[(.ref a1)] 3)) t := fun t k => castTop (ef_6 m a1) k
  have hst := hse.1
  obtain ⟨T78, X78, e78, st78⟩ := getF X0 hx hZ hown (host := "") (Or.inl (hw _ (List.mem_of_getElem? (i := 33) rfl))) Via.refl e0 RV.2.2.2.2.2.2.1 (g := (mkF m 1 #[.val (.ref a1), .unset, .unset] [(.ref a1)])) rfl rfl (hb hby d6_1)
  obtain ⟨T79, X79, e79, st79⟩ := getF X78 hx hZ hown (host := "") (Or.inl (hw _ (List.mem_of_getElem? (i := 27) rfl))) Via.refl e78 RV.2.2.2.1 (g := (mkF m 10 #[.val (.ref a1), .val (.int (0 : Int32)), .unset] [(.ref a1)])) rfl rfl (hb hby d6_10)
  obtain ⟨T80, X80, e80, st80⟩ := getF X79 hx hZ hown (host := "") (Or.inl (hw _ (List.mem_of_getElem? (i := 29) rfl))) Via.refl e79 RV.2.2.2.2.1 (g := (mkF m 16 #[.val (.ref a1), .val (.int (0 : Int32)), .val (.int st)] [(.ref a1), (.int st)])) rfl rfl (hb hby d6_16)
  have fl81 : ∀ target, Steps p.tables e below (T80.setTop (mkF m 48 #[.val (.ref a1), .val (.int (0 : Int32)), .val (.int st)] [])) target → Steps p.tables e below (s₁.setTop (mkF m 0 #[.val (.ref a1), .unset, .unset] [])) target := fun target kt => by
    show Steps p.tables e below (s₁.setTop (mkF m 0 #[.val (.ref a1), .unset, .unset] [])) _
    refine XS.aloadN X0.here hx rfl (hb hby d6_0) rfl rfl ?_
    show Steps p.tables e below (s₁.setTop (mkF m 1 #[.val (.ref a1), .unset, .unset] [(.ref a1)])) _
    refine st78 _ ?_
    show Steps p.tables e below (T78.setTop (mkF m 4 #[.val (.ref a1), .unset, .unset] [(.int (-1 : Int32))])) _
    refine XS.ifNo X78.here hx rfl (hb hby d6_4) rfl ((if0 _ _).trans (tlt (by decide : (-1 : Int32) < (0 : Int32))).2.1) ?_
    show Steps p.tables e below (T78.setTop (mkF m 7 #[.val (.ref a1), .unset, .unset] [])) _
    refine XS.iconst X78.here hx rfl (hb hby d6_7) ?_
    show Steps p.tables e below (T78.setTop (mkF m 8 #[.val (.ref a1), .unset, .unset] [(.int (0 : Int32))])) _
    refine XS.istoreN X78.here hx rfl (hb hby d6_8) rfl (l' := #[.val (.ref a1), .val (.int (0 : Int32)), .unset]) rfl ?_
    show Steps p.tables e below (T78.setTop (mkF m 9 #[.val (.ref a1), .val (.int (0 : Int32)), .unset] [])) _
    refine XS.aloadN X78.here hx rfl (hb hby d6_9) rfl rfl ?_
    show Steps p.tables e below (T78.setTop (mkF m 10 #[.val (.ref a1), .val (.int (0 : Int32)), .unset] [(.ref a1)])) _
    refine st79 _ ?_
    show Steps p.tables e below (T79.setTop (mkF m 13 #[.val (.ref a1), .val (.int (0 : Int32)), .unset] [(.int st)])) _
    refine XS.istoreN X79.here hx rfl (hb hby d6_13) rfl (l' := #[.val (.ref a1), .val (.int (0 : Int32)), .val (.int st)]) rfl ?_
    show Steps p.tables e below (T79.setTop (mkF m 14 #[.val (.ref a1), .val (.int (0 : Int32)), .val (.int st)] [])) _
    refine XS.iloadN X79.here hx rfl (hb hby d6_14) rfl ?_
    show Steps p.tables e below (T79.setTop (mkF m 15 #[.val (.ref a1), .val (.int (0 : Int32)), .val (.int st)] [(.int st)])) _
    refine XS.aloadN X79.here hx rfl (hb hby d6_15) rfl rfl ?_
    show Steps p.tables e below (T79.setTop (mkF m 16 #[.val (.ref a1), .val (.int (0 : Int32)), .val (.int st)] [(.ref a1), (.int st)])) _
    refine st80 _ ?_
    show Steps p.tables e below (T80.setTop (mkF m 19 #[.val (.ref a1), .val (.int (0 : Int32)), .val (.int st)] [(.int en), (.int st)])) _
    refine XS.bipush X80.here hx rfl (hb hby d6_19) ?_
    show Steps p.tables e below (T80.setTop (mkF m 21 #[.val (.ref a1), .val (.int (0 : Int32)), .val (.int st)] [(.int (8 : Int32)), (.int en), (.int st)])) _
    refine XS.isub X80.here hx rfl (hb hby d6_21) rfl ?_
    show Steps p.tables e below (T80.setTop (mkF m 22 #[.val (.ref a1), .val (.int (0 : Int32)), .val (.int st)] [(.int (en - (8 : Int32))), (.int st)])) _
    refine XS.icmpYes X80.here hx rfl (pc0 := 22) (pc' := 48) rfl (hb hby d6_22) rfl (tlt (own_m8 hse hse.1 : (en - (8 : Int32)) < st)).2.2.1 (by decide) (by decide) ?_
    exact kt
  obtain ⟨TL, XL, eL, stL⟩ := own_fcl a1 b ar st en ln _ fo se kb f hx hZ hw hby hml hown RV BA hse nn T80 st (0 : Int32) X80 e80 hse.1 hn
  rw [show (0 : Int32) + own_cf f st nn = r from by rw [hr, Int32.zero_add]] at stL
  obtain ⟨T82, h82, X82, e82, W82, st82⟩ := putF XL hx hZ hown (host := "") (Or.inl (hw _ (List.mem_of_getElem? (i := 33) rfl))) Via.refl eL RV.2.2.2.2.2.2.1 RV.1 (Or.inl (hw _ (List.mem_of_getElem? (i := 34) rfl))) (hw _ (List.mem_of_getElem? (i := 9) rfl)) (ty := .int) (by decide) rfl rfl (g := (mkF m 78 #[.val (.ref a1), .val (.int r), .val (.int en)] [(.int r), (.ref a1)])) rfl rfl (hb hby d6_78)
  have Fw82 := RV.2.2.2.2.2.2.1.same W82
  have RV_1_82 := RV.1.wr W82
  have RV_2_1_82 := RV.2.1.other W82 (Or.inr (slot_ne (Or.inl (hw _ (List.mem_of_getElem? (i := 18) rfl))) (Or.inl (hw _ (List.mem_of_getElem? (i := 34) rfl))) (by decide) (t := (.array .byte)) (t' := .int) (by decide) (by decide)))
  have RV_2_2_1_82 := RV.2.2.1.other W82 (Or.inr (slot_ne (Or.inl (hw _ (List.mem_of_getElem? (i := 21) rfl))) (Or.inl (hw _ (List.mem_of_getElem? (i := 34) rfl))) (by decide) (t := (.array .int)) (t' := .int) (by decide) (by decide)))
  have RV_2_2_2_1_82 := RV.2.2.2.1.other W82 (Or.inr (slot_ne (Or.inl (hw _ (List.mem_of_getElem? (i := 28) rfl))) (Or.inl (hw _ (List.mem_of_getElem? (i := 34) rfl))) (by decide) (t := .int) (t' := .int) (by decide) (by decide)))
  have RV_2_2_2_2_1_82 := RV.2.2.2.2.1.other W82 (Or.inr (slot_ne (Or.inl (hw _ (List.mem_of_getElem? (i := 30) rfl))) (Or.inl (hw _ (List.mem_of_getElem? (i := 34) rfl))) (by decide) (t := .int) (t' := .int) (by decide) (by decide)))
  have RV_2_2_2_2_2_1_82 := RV.2.2.2.2.2.1.other W82 (Or.inr (slot_ne (Or.inl (hw _ (List.mem_of_getElem? (i := 32) rfl))) (Or.inl (hw _ (List.mem_of_getElem? (i := 34) rfl))) (by decide) (t := .long) (t' := .int) (by decide) (by decide)))
  have RV_2_2_2_2_2_2_2_1_82 := RV.2.2.2.2.2.2.2.1.other W82 (Or.inr (slot_ne (Or.inl (hw _ (List.mem_of_getElem? (i := 36) rfl))) (Or.inl (hw _ (List.mem_of_getElem? (i := 34) rfl))) (by decide) (t := .int) (t' := .int) (by decide) (by decide)))
  have RV_2_2_2_2_2_2_2_2_82 := RV.2.2.2.2.2.2.2.2.other W82 (Or.inr (slot_ne (Or.inl (hw _ (List.mem_of_getElem? (i := 38) rfl))) (Or.inl (hw _ (List.mem_of_getElem? (i := 34) rfl))) (by decide) (t := .int) (t' := .int) (by decide) (by decide)))
  have N82 := Fr.snoc X82 N0 g_a1
  have K82 : Keep h0 h82 [a1] := (Keep.refl h0 [a1]).wr W82 (Or.inl (List.mem_of_getElem? (i := 0) rfl))
  have z82 : n0 ≤ h82.size := Nat.le_trans Z0 (Keep.of_wr W82).1
  obtain ⟨T83, X83, e83, st83⟩ := getF X82 hx hZ hown (host := "") (Or.inl (hw _ (List.mem_of_getElem? (i := 33) rfl))) Via.refl e82 Fw82 (g := (mkF m 82 #[.val (.ref a1), .val (.int r), .val (.int en)] [(.ref a1)])) rfl rfl (hb hby d6_82)
  have fl84 : ∀ target, Steps p.tables e below (T83.setTop (mkF m 85 #[.val (.ref a1), .val (.int r), .val (.int en)] [(.int r)])) target → Steps p.tables e below (TL.setTop (mkF m 76 #[.val (.ref a1), .val (.int r), .val (.int en)] [])) target := fun target kt => by
    show Steps p.tables e below (TL.setTop (mkF m 76 #[.val (.ref a1), .val (.int r), .val (.int en)] [])) _
    refine XS.aloadN XL.here hx rfl (hb hby d6_76) rfl rfl ?_
    show Steps p.tables e below (TL.setTop (mkF m 77 #[.val (.ref a1), .val (.int r), .val (.int en)] [(.ref a1)])) _
    refine XS.iloadN XL.here hx rfl (hb hby d6_77) rfl ?_
    show Steps p.tables e below (TL.setTop (mkF m 78 #[.val (.ref a1), .val (.int r), .val (.int en)] [(.int r), (.ref a1)])) _
    refine st82 _ ?_
    show Steps p.tables e below (T82.setTop (mkF m 81 #[.val (.ref a1), .val (.int r), .val (.int en)] [])) _
    refine XS.aloadN X82.here hx rfl (hb hby d6_81) rfl rfl ?_
    show Steps p.tables e below (T82.setTop (mkF m 82 #[.val (.ref a1), .val (.int r), .val (.int en)] [(.ref a1)])) _
    refine st83 _ ?_
    exact kt
  obtain ⟨fs, hrt, hrun, hended, hW, hsame⟩ := X83.leave (v := some (.int r)) (fun h => by rw [Bd.returns] at h; cases h)
  refine ⟨_, _, pre0 _ (fl81 _ (stL _ (fl84 _ ?_))), hrun, hended, _, _, rfl, ?_, ⟨_, rfl⟩, hW, hsame.mono (by decide) (by decide)⟩
  · exact retI X83 hx Bd.returns (hb hby d6_85) hrt
  · show Q6 _ _ _ _ _ _ _ _ _ _ _ _ _ _ _ _ T83.heap _
    rw [e83]
    exact ⟨rfl, N82, K82, ⟨RV_1_82, RV_2_1_82, RV_2_2_1_82, RV_2_2_2_1_82, RV_2_2_2_2_1_82, RV_2_2_2_2_2_1_82, Fw82, RV_2_2_2_2_2_2_2_1_82, RV_2_2_2_2_2_2_2_2_82⟩⟩
theorem ef_17 (m : MethodId) (x0 : Addr) (x1 : Int32) : entryFrame m #[(.ref x0), (.int x1)] 3 = mkF m 0 #[.val (.ref x0), .val (.int x1), .unset] [] := by first | (simp [entryFrame, mkF, argsToLocals, Value.category]; done) | rfl
def Q17 (Z : State) (a1 : Addr) (p2 : Int32) (k1 : ClassId) (z : Int32) (vs : List Int32) (h0 : Heap) (n0 : Nat) (v : Option Value) (h : Heap) (L : List Loc) : Prop := ∃ (b : Addr) (k : ClassId), v = some (.ref b) ∧ Fr n0 L ∧ Keep h0 h [] ∧ Arv Z h b k .int p2 ((vs ++ List.replicate (p2.toNatClampNeg - z.toNatClampNeg) 0).map Value.int) (.int (0 : Int32)) ∧ h0.size ≤ b ∧ n0 ≤ b
set_option maxRecDepth 65536 in
set_option maxHeartbeats 40000000 in
theorem rm17 (l : Launch) (Z : State) (a0 : Array Value) (hw : ∀ d ∈ tables_1, d.before a0 Z = true) (ws : List Jvm.Cond) (a1 : Addr) (p2 : Int32) (k1 : ClassId) (z : Int32) (vs : List Int32) (h0 : Heap) (n0 : Nat) (Z0 : n0 ≤ h0.size) (V1 : Arv Z h0 a1 k1 .int z (vs.map Value.int) (.int (0 : Int32))) (hl : vs.length = z.toNatClampNeg) (hne : ¬ p2 = z) (hN : ¬ p2 < 0 ∧ p2.toNatClampNeg ≤ 4) (hzN : z.toNatClampNeg ≤ p2.toNatClampNeg) (hmin : z = if p2 < z then p2 else z) :
    MetFree l (⟨"java/util/Arrays", "copyOf", "([II)[I"⟩ : MethodName) (head1 (Jvm.Cond.code (⟨"java/util/Arrays", "copyOf", "([II)[I"⟩ : MethodName) jdk_65_method_123_code 3 (some (.array .int)) :: ws) ({ frames := 1, cells := 1, slots := 4, locals := 40 } : Room)) (fun a U => a = #[(.ref a1), (.int p2)] ∧ Z.Warmed39 U.vm ∧ U.heap = h0) (fun _ _ _ _ _ => True) (fun _ U o U' => ∃ v L, o = .returned v ∧ Q17 Z a1 p2 k1 z vs h0 n0 v U'.heap L ∧ FrameEnd U o U' L ({ frames := 1, cells := 1, slots := 4, locals := 40 } : Room).cells ({ frames := 1, cells := 1, slots := 4, locals := 40 } : Room).slots) := by
  refine MetFree.of_bodySF (plainFor_of_name pn_2) hisR ?_
  intro p e s m args below meth c s₁ Bd hml0 hP hK
  obtain ⟨rfl, hZ, hh⟩ := hP
  have hx := Bd.exec
  have hby := Bd.bytes
  have hml : c.maxLocals = 3 := hml0
  have hown : s.vm.findClass "java/util/Arrays" = some m.cls := findClass_of_methodNamed Bd.named
  have hnm := (name_of_methodNamed Bd.named Bd.method).1
  have X0 : Stand p l e ({ frames := 1, cells := 1, slots := 4, locals := 40 } : Room) s m #[(.ref a1), (.int p2)] below meth c s₁ [] 0 0 := Stand.of_body Bd
  have e0 : s₁.heap = h0 := by rw [← hh, Bd.state]; rfl
  have N0 := Fr.nil n0
  have pre0 : ∀ t, Steps p.tables e below (s₁.setTop (mkF m 0 #[.val (.ref a1), .val (.int p2), .unset] [])) t → Steps p.tables e below (s₁.setTop (entryFrame m #[(.ref a1), (.int p2)] 3)) t := fun t k => castTop (ef_17 m a1 p2) k
  obtain ⟨cl0, Ar0, -, Sz0, Nz0, -, -⟩ := id V1
  obtain ⟨T85, h85, k85, X85, e85, E85, A85, st85⟩ := newP X0 hx hZ (hw _ (List.mem_of_getElem? (i := 19) rfl)) e0 (g := (mkF m 15 #[.val (.ref a1), .val (.int p2), .unset] [(.int p2)])) rfl (hb hby d17_15) rfl (hN.1) (cap := 4) (hN.2) (by decide) (by decide) (by decide)
  obtain ⟨b85, g85⟩ : ∃ z, z = h0.size := ⟨_, rfl⟩
  rw [← g85] at A85 st85
  have ne_a1_b85 : a1 ≠ b85 := Nat.ne_of_lt (by rw [g85]; exact V1.lt)
  have g_b85 : n0 ≤ b85 := Nat.le_trans Z0 (Nat.le_of_eq g85.symm)
  have sz_b85 : h0.size ≤ b85 := Nat.le_trans (Keep.refl h0 []).1 (Nat.le_of_eq g85.symm)
  have V1_85 := V1.ext E85
  have V85 := Arv.new A85 (hN.1)
  have K85 : Keep h0 h85 [] := (Keep.refl h0 []).ext E85
  have z85 : n0 ≤ h85.size := Nat.le_trans Z0 E85.1
  have Vp : Arv Z h85 b85 k85 .int p2 ([] ++ List.replicate p2.toNatClampNeg (.int (0 : Int32))) (.int (0 : Int32)) := V85.pad (pad_rep [] (.int (0 : Int32)) _)
  have Ar1 := Ar0.ext E85
  obtain ⟨_, _, ⟨T86, L86, k86, n86⟩, -, X86, ⟨Lc86, hQ86, l86, y86, z86⟩, st86⟩ := Jvm.LawKit.callS X85 hx (y := (⟨"java/lang/Math", "min", "(II)I"⟩ : MethodName)) hown (mvT hZ (hw _ (List.mem_of_getElem? (i := 90) rfl))) (mvT hZ (hw _ (List.mem_of_getElem? (i := 91) rfl))) (mvT hZ (hw _ (List.mem_of_getElem? (i := 84) rfl))) (mvT hZ (hw _ (List.mem_of_getElem? (i := 92) rfl))) (by decide) (backOf (W := 4) (rm18 l Z a0 hw [] z p2 z h85 n0 z85 hmin) hZ (hw _ (List.mem_of_getElem? (i := 92) rfl)) (hw _ (List.mem_of_getElem? (i := 84) rfl)) (by decide) (by decide)) (g := (mkF m 25 #[.val (.ref a1), .val (.int p2), .val (.ref b85)] [(.int p2), (.int z), (.int (0 : Int32)), (.ref b85), (.int (0 : Int32)), (.ref a1)])) rfl (by rw [hml]; rfl) (argsL := [(.int z), (.int p2)]) (rest := [(.int (0 : Int32)), (.ref b85), (.int (0 : Int32)), (.ref a1)]) (lenOf pd_2 rfl) rfl (by show 2 * 0 + _ ≤ _; exact Nat.le_of_eq rfl) (hb hby d17_25) (fun _ _ => ⟨rfl, e85, (by decide : 1 + 0 ≤ _), (by decide : 4 + 0 ≤ _)⟩)
  dsimp only [Pt.U, Pt.locs, Pt.cells, Pt.slots] at X86 l86 y86 z86 st86 hQ86
  subst l86 y86 z86
  obtain ⟨rfl, N86q, he86⟩ := hQ86
  have N86 := Fr.app N0 N86q
  have Vp2 : Arv Z T86.heap b85 k85 .int p2 ([] ++ List.replicate p2.toNatClampNeg (.int (0 : Int32))) (.int (0 : Int32)) := by rw [he86]; exact Vp
  have Kc86 : Keep h85 T86.heap [] := by rw [he86]; exact Keep.refl _ _
  have V1_86 := V1_85.keep Kc86 nin0
  have Vp_86 := Vp.keep Kc86 nin0
  have K86 : Keep h0 T86.heap [] := K85.trans Kc86 all0
  have z86z : n0 ≤ T86.heap.size := Nat.le_trans z85 Kc86.1
  obtain ⟨T87, h87, L87, X87, e87, Nf87, Kc87, Vc87, st87⟩ := cpA X86 hx hZ hown (hw _ (List.mem_of_getElem? (i := 93) rfl)) (hw _ (List.mem_of_getElem? (i := 96) rfl)) (hw _ (List.mem_of_getElem? (i := 94) rfl)) (hw _ (List.mem_of_getElem? (i := 95) rfl)) rfl (nn := z) (sp := (0 : Int32)) (dp := (0 : Int32)) V1_86 Vp2 (Or.inl ⟨rfl, rfl⟩) (by decide) (by decide) Nz0 (Nat.le_of_eq (Nat.zero_add _)) (by rw [show (0 : Int32).toNatClampNeg = 0 from rfl, Nat.zero_add]; exact hzN) rfl (by rw [show (0 : Int32).toNatClampNeg = 0 from rfl, Nat.zero_add]; simpa using hzN) N86 g_b85 (g := (mkF m 28 #[.val (.ref a1), .val (.int p2), .val (.ref b85)] [(.int z), (.int (0 : Int32)), (.ref b85), (.int (0 : Int32)), (.ref a1)])) rfl (by rw [hml]; rfl) rfl (hb hby d17_28) (by decide) (W := 0) (by show 2 * 0 + _ ≤ _; exact Nat.le_of_eq rfl) (by decide)
  have Vd : Arv Z h87 b85 k85 .int p2 ((vs ++ List.replicate (p2.toNatClampNeg - z.toNatClampNeg) 0).map Value.int) (.int (0 : Int32)) := by rw [← own_cp vs z.toNatClampNeg p2.toNatClampNeg hl hzN]; exact Vc87
  have V1_87 := V1_86.keep Kc87 (ninS ne_a1_b85 nin0)
  have K87 : Keep h0 h87 [] := K86.trans Kc87 (allS (Or.inr sz_b85) all0)
  have fl88 : ∀ target, Steps p.tables e below (T87.setTop (mkF m 32 #[.val (.ref a1), .val (.int p2), .val (.ref b85)] [(.ref b85)])) target → Steps p.tables e below (s₁.setTop (mkF m 0 #[.val (.ref a1), .val (.int p2), .unset] [])) target := fun target kt => by
    show Steps p.tables e below (s₁.setTop (mkF m 0 #[.val (.ref a1), .val (.int p2), .unset] [])) _
    refine XS.iloadN X0.here hx rfl (hb hby d17_0) rfl ?_
    show Steps p.tables e below (s₁.setTop (mkF m 1 #[.val (.ref a1), .val (.int p2), .unset] [(.int p2)])) _
    refine XS.aloadN X0.here hx rfl (hb hby d17_1) rfl rfl ?_
    show Steps p.tables e below (s₁.setTop (mkF m 2 #[.val (.ref a1), .val (.int p2), .unset] [(.ref a1), (.int p2)])) _
    refine X0.arraylength hx (cell := cl0) (by rw [e0]; exact Ar0.1) (State.isArrayOf_alike hZ.alike Ar0.2.1) (g := (mkF m 2 #[.val (.ref a1), .val (.int p2), .unset] [(.ref a1), (.int p2)])) rfl (rest := [(.int p2)]) rfl (hb hby d17_2) _ ?_
    rw [len_of Sz0 Nz0]
    show Steps p.tables e below (s₁.setTop (mkF m 3 #[.val (.ref a1), .val (.int p2), .unset] [(.int z), (.int p2)])) _
    refine XS.icmpYes X0.here hx rfl (pc0 := 3) (pc' := 14) rfl (hb hby d17_3) rfl (feq (hne : ¬ (p2 = z))).2 (by decide) (by decide) ?_
    show Steps p.tables e below (s₁.setTop (mkF m 14 #[.val (.ref a1), .val (.int p2), .unset] [])) _
    refine XS.iloadN X0.here hx rfl (hb hby d17_14) rfl ?_
    show Steps p.tables e below (s₁.setTop (mkF m 15 #[.val (.ref a1), .val (.int p2), .unset] [(.int p2)])) _
    refine st85 _ ?_
    show Steps p.tables e below (T85.setTop (mkF m 17 #[.val (.ref a1), .val (.int p2), .unset] [(.ref b85)])) _
    refine XS.astoreN X85.here hx rfl (hb hby d17_17) rfl rfl (l' := #[.val (.ref a1), .val (.int p2), .val (.ref b85)]) rfl ?_
    show Steps p.tables e below (T85.setTop (mkF m 18 #[.val (.ref a1), .val (.int p2), .val (.ref b85)] [])) _
    refine XS.aloadN X85.here hx rfl (hb hby d17_18) rfl rfl ?_
    show Steps p.tables e below (T85.setTop (mkF m 19 #[.val (.ref a1), .val (.int p2), .val (.ref b85)] [(.ref a1)])) _
    refine XS.iconst X85.here hx rfl (hb hby d17_19) ?_
    show Steps p.tables e below (T85.setTop (mkF m 20 #[.val (.ref a1), .val (.int p2), .val (.ref b85)] [(.int (0 : Int32)), (.ref a1)])) _
    refine XS.aloadN X85.here hx rfl (hb hby d17_20) rfl rfl ?_
    show Steps p.tables e below (T85.setTop (mkF m 21 #[.val (.ref a1), .val (.int p2), .val (.ref b85)] [(.ref b85), (.int (0 : Int32)), (.ref a1)])) _
    refine XS.iconst X85.here hx rfl (hb hby d17_21) ?_
    show Steps p.tables e below (T85.setTop (mkF m 22 #[.val (.ref a1), .val (.int p2), .val (.ref b85)] [(.int (0 : Int32)), (.ref b85), (.int (0 : Int32)), (.ref a1)])) _
    refine XS.aloadN X85.here hx rfl (hb hby d17_22) rfl rfl ?_
    show Steps p.tables e below (T85.setTop (mkF m 23 #[.val (.ref a1), .val (.int p2), .val (.ref b85)] [(.ref a1), (.int (0 : Int32)), (.ref b85), (.int (0 : Int32)), (.ref a1)])) _
    refine X85.arraylength hx (cell := cl0) (by rw [e85]; exact Ar1.1) (State.isArrayOf_alike hZ.alike Ar1.2.1) (g := (mkF m 23 #[.val (.ref a1), .val (.int p2), .val (.ref b85)] [(.ref a1), (.int (0 : Int32)), (.ref b85), (.int (0 : Int32)), (.ref a1)])) rfl (rest := [(.int (0 : Int32)), (.ref b85), (.int (0 : Int32)), (.ref a1)]) rfl (hb hby d17_23) _ ?_
    rw [len_of Sz0 Nz0]
    show Steps p.tables e below (T85.setTop (mkF m 24 #[.val (.ref a1), .val (.int p2), .val (.ref b85)] [(.int z), (.int (0 : Int32)), (.ref b85), (.int (0 : Int32)), (.ref a1)])) _
    refine XS.iloadN X85.here hx rfl (hb hby d17_24) rfl ?_
    show Steps p.tables e below (T85.setTop (mkF m 25 #[.val (.ref a1), .val (.int p2), .val (.ref b85)] [(.int p2), (.int z), (.int (0 : Int32)), (.ref b85), (.int (0 : Int32)), (.ref a1)])) _
    refine st86 _ ?_
    show Steps p.tables e below (T86.setTop (mkF m 28 #[.val (.ref a1), .val (.int p2), .val (.ref b85)] [(.int z), (.int (0 : Int32)), (.ref b85), (.int (0 : Int32)), (.ref a1)])) _
    refine st87 _ ?_
    show Steps p.tables e below (T87.setTop (mkF m 31 #[.val (.ref a1), .val (.int p2), .val (.ref b85)] [])) _
    refine XS.aloadN X87.here hx rfl (hb hby d17_31) rfl rfl ?_
    exact kt
  obtain ⟨fs, hrt, hrun, hended, hW, hsame⟩ := X87.leave (v := some (.ref b85)) (fun h => by rw [Bd.returns] at h; cases h)
  refine ⟨_, _, pre0 _ (fl88 _ ?_), hrun, hended, _, _, rfl, ?_, ⟨_, rfl⟩, hW, hsame.mono (by decide) (by decide)⟩
  · jvm_step X87.here [X87.here.top, hx, (hb hby d17_32), X87.method', Bd.returns, Value.isRef, FieldType.isReference]
    first | (intro acts; rw [hrt _ acts rfl rfl rfl]) | rw [hrt _ _ rfl rfl rfl]
    exact Steps.refl _
  · show Q17 _ _ _ _ _ _ _ _ _ T87.heap _
    rw [e87]
    exact ⟨b85, k85, rfl, Nf87, K87, Vd, sz_b85, g_b85⟩
theorem ef_15 (m : MethodId) (x0 : Addr) (x1 : Addr) (x2 : Int32) (x3 : Int32) : entryFrame m #[(.ref x0), (.ref x1), (.int x2), (.int x3)] 4 = mkF m 0 #[.val (.ref x0), .val (.ref x1), .val (.int x2), .val (.int x3)] [] := by first | (simp [entryFrame, mkF, argsToLocals, Value.category]; done) | rfl
def Q15 (Z : State) (a1 : Addr) (a2 : Addr) (p3 : Int32) (p4 : Int32) (b : Addr) (st : Int32) (en : Int32) (ln : Int64) (cn : Int32) (fo : Int32) (se : Int32) (D : List Int32) (h0 : Heap) (n0 : Nat) (v : Option Value) (h : Heap) (L : List Loc) : Prop := ∃ (r : Addr), v = some (.ref r) ∧ Fr n0 L ∧ Keep h0 h [a1] ∧ own_RV Z h a1 b r st en ln cn fo se ∧ own_Room Z h r D ∧ n0 ≤ r ∧ (r = a2 ∨ h0.size ≤ r)
set_option maxRecDepth 65536 in
set_option maxHeartbeats 40000000 in
theorem rm15 (l : Launch) (Z : State) (a0 : Array Value) (hw : ∀ d ∈ tables_1, d.before a0 Z = true) (ws : List Jvm.Cond) (a1 : Addr) (a2 : Addr) (p3 : Int32) (p4 : Int32) (b : Addr) (st : Int32) (en : Int32) (ln : Int64) (cn : Int32) (fo : Int32) (se : Int32) (D : List Int32) (h0 : Heap) (n0 : Nat) (Z0 : n0 ≤ h0.size) (RV : own_RV Z h0 a1 b a2 st en ln cn fo se) (BR : own_Bars Z h0 a2 D) (hD : D.length ≤ 3) (hp3 : p3 = Int32.ofNat D.length) (hp4 : p4 = 1) (g_a1 : n0 ≤ a1) (g_a2 : n0 ≤ a2) (ne12 : a1 ≠ a2) :
    MetFree l (⟨"com/example/concept_ledger/conceptledger/model/RowView", "room", "([III)[I"⟩ : MethodName) (head1 (Jvm.Cond.code (⟨"com/example/concept_ledger/conceptledger/model/RowView", "room", "([III)[I"⟩ : MethodName) prog_35_method_29_code 4 (some (.array .int)) :: ws) ({ frames := 2, cells := 1, slots := 4, locals := 55 } : Room)) (fun a U => a = #[(.ref a1), (.ref a2), (.int p3), (.int p4)] ∧ Z.Warmed39 U.vm ∧ U.heap = h0) (fun _ _ _ _ _ => True) (fun _ U o U' => ∃ v L, o = .returned v ∧ Q15 Z a1 a2 p3 p4 b st en ln cn fo se D h0 n0 v U'.heap L ∧ FrameEnd U o U' L ({ frames := 2, cells := 1, slots := 4, locals := 55 } : Room).cells ({ frames := 2, cells := 1, slots := 4, locals := 55 } : Room).slots) := by
  refine MetFree.of_bodySF (plainFor_of_name pn_1) hisR ?_
  intro p e s m args below meth c s₁ Bd hml0 hP hK
  obtain ⟨rfl, hZ, hh⟩ := hP
  have hx := Bd.exec
  have hby := Bd.bytes
  have hml : c.maxLocals = 4 := hml0
  have hown : s.vm.findClass "com/example/concept_ledger/conceptledger/model/RowView" = some m.cls := findClass_of_methodNamed Bd.named
  have hnm := (name_of_methodNamed Bd.named Bd.method).1
  have X0 : Stand p l e ({ frames := 2, cells := 1, slots := 4, locals := 55 } : Room) s m #[(.ref a1), (.ref a2), (.int p3), (.int p4)] below meth c s₁ [] 0 0 := Stand.of_body Bd
  have e0 : s₁.heap = h0 := by rw [← hh, Bd.state]; rfl
  have N0 := Fr.nil n0
  have pre0 : ∀ t, Steps p.tables e below (s₁.setTop (mkF m 0 #[.val (.ref a1), .val (.ref a2), .val (.int p3), .val (.int p4)] [])) t → Steps p.tables e below (s₁.setTop (entryFrame m #[(.ref a1), (.ref a2), (.int p3), (.int p4)] 4)) t := fun t k => castTop (ef_15 m a1 a2 p3 p4) k
  obtain ⟨kA, z, vs, V1, hl, hz, hpre⟩ := BR
  obtain ⟨cl0, Ar0, -, Sz0, Nz0, -, -⟩ := id V1
  subst hp4
  have fl89 : ∀ target, Steps p.tables e below (s₁.setTop (mkF m 5 #[.val (.ref a1), .val (.ref a2), .val (.int p3), .val (.int (1 : Int32))] [(.int z), (.int (p3 + (1 : Int32)))])) target → Steps p.tables e below (s₁.setTop (mkF m 0 #[.val (.ref a1), .val (.ref a2), .val (.int p3), .val (.int (1 : Int32))] [])) target := fun target kt => by
    show Steps p.tables e below (s₁.setTop (mkF m 0 #[.val (.ref a1), .val (.ref a2), .val (.int p3), .val (.int (1 : Int32))] [])) _
    refine XS.iloadN X0.here hx rfl (hb hby d15_0) rfl ?_
    show Steps p.tables e below (s₁.setTop (mkF m 1 #[.val (.ref a1), .val (.ref a2), .val (.int p3), .val (.int (1 : Int32))] [(.int p3)])) _
    refine XS.iloadN X0.here hx rfl (hb hby d15_1) rfl ?_
    show Steps p.tables e below (s₁.setTop (mkF m 2 #[.val (.ref a1), .val (.ref a2), .val (.int p3), .val (.int (1 : Int32))] [(.int (1 : Int32)), (.int p3)])) _
    refine XS.iadd X0.here hx rfl (hb hby d15_2) rfl ?_
    show Steps p.tables e below (s₁.setTop (mkF m 3 #[.val (.ref a1), .val (.ref a2), .val (.int p3), .val (.int (1 : Int32))] [(.int (p3 + (1 : Int32)))])) _
    refine XS.aloadN X0.here hx rfl (hb hby d15_3) rfl rfl ?_
    show Steps p.tables e below (s₁.setTop (mkF m 4 #[.val (.ref a1), .val (.ref a2), .val (.int p3), .val (.int (1 : Int32))] [(.ref a2), (.int (p3 + (1 : Int32)))])) _
    refine X0.arraylength hx (cell := cl0) (by rw [e0]; exact Ar0.1) (State.isArrayOf_alike hZ.alike Ar0.2.1) (g := (mkF m 4 #[.val (.ref a1), .val (.ref a2), .val (.int p3), .val (.int (1 : Int32))] [(.ref a2), (.int (p3 + (1 : Int32)))])) rfl (rest := [(.int (p3 + (1 : Int32)))]) rfl (hb hby d15_4) _ ?_
    rw [len_of Sz0 Nz0]
    exact kt
  by_cases hc : z < p3 + (1 : Int32)
  · obtain ⟨hDz, hpz, hz3⟩ := own_grow hl hpre hz hD hp3 hc
    rcases hz3 with rfl | rfl | rfl
    · obtain rfl : p3 = (0 : Int32) := hpz
      obtain ⟨_, _, ⟨T90, L90, k90, n90⟩, -, X90, ⟨Lc90, hQ90, l90, y90, z90⟩, st90⟩ := Jvm.LawKit.callS X0 hx (y := (⟨"java/lang/Math", "max", "(II)I"⟩ : MethodName)) hown (mvT hZ (hw _ (List.mem_of_getElem? (i := 82) rfl))) (mvT hZ (hw _ (List.mem_of_getElem? (i := 83) rfl))) (mvT hZ (hw _ (List.mem_of_getElem? (i := 84) rfl))) (mvT hZ (hw _ (List.mem_of_getElem? (i := 85) rfl))) (by decide) (backOf (W := 2) (rm16 l Z a0 hw [] ((0 : Int32) + (1 : Int32)) ((2 : Int32) * (0 : Int32)) (1 : Int32) h0 n0 Z0 (by decide)) hZ (hw _ (List.mem_of_getElem? (i := 85) rfl)) (hw _ (List.mem_of_getElem? (i := 84) rfl)) (by decide) (by decide)) (g := (mkF m 19 #[.val (.ref a1), .val (.ref a2), .val (.int (0 : Int32)), .val (.int (1 : Int32))] [(.int ((2 : Int32) * (0 : Int32))), (.int ((0 : Int32) + (1 : Int32))), (.ref a2), (.ref a1)])) rfl (by rw [hml]; rfl) (argsL := [(.int ((0 : Int32) + (1 : Int32))), (.int ((2 : Int32) * (0 : Int32)))]) (rest := [(.ref a2), (.ref a1)]) (lenOf pd_2 rfl) rfl (by show 2 * 0 + _ ≤ _; exact Nat.le_of_eq rfl) (hb hby d15_19) (fun _ _ => ⟨rfl, e0, (by decide : 0 + 0 ≤ _), (by decide : 0 + 0 ≤ _)⟩)
      dsimp only [Pt.U, Pt.locs, Pt.cells, Pt.slots] at X90 l90 y90 z90 st90 hQ90
      subst l90 y90 z90
      obtain ⟨rfl, N90q, he90⟩ := hQ90
      have N90 := Fr.app N0 N90q
      have Kc90 : Keep h0 T90.heap [] := by rw [he90]; exact Keep.refl _ _
      have RV_1_90 := RV.1.keep Kc90
      have RV_2_1_90 := RV.2.1.keep Kc90 nin0
      have RV_2_2_1_90 := RV.2.2.1.keep Kc90 nin0
      have RV_2_2_2_1_90 := RV.2.2.2.1.keep Kc90 nin0
      have RV_2_2_2_2_1_90 := RV.2.2.2.2.1.keep Kc90 nin0
      have RV_2_2_2_2_2_1_90 := RV.2.2.2.2.2.1.keep Kc90 nin0
      have RV_2_2_2_2_2_2_1_90 := RV.2.2.2.2.2.2.1.keep Kc90 nin0
      have RV_2_2_2_2_2_2_2_1_90 := RV.2.2.2.2.2.2.2.1.keep Kc90 nin0
      have RV_2_2_2_2_2_2_2_2_90 := RV.2.2.2.2.2.2.2.2.keep Kc90 nin0
      have V1_90 := V1.keep Kc90 nin0
      have K90 : Keep h0 T90.heap [a1] := (Keep.refl h0 [a1]).trans Kc90 all0
      have z90z : n0 ≤ T90.heap.size := Nat.le_trans Z0 Kc90.1
      obtain ⟨_, _, ⟨T91, L91, k91, n91⟩, -, X91, ⟨Lc91, hQ91, l91, y91, z91⟩, st91⟩ := Jvm.LawKit.callS X90 hx (y := (⟨"java/util/Arrays", "copyOf", "([II)[I"⟩ : MethodName)) hown (mvT hZ (hw _ (List.mem_of_getElem? (i := 86) rfl))) (mvT hZ (hw _ (List.mem_of_getElem? (i := 87) rfl))) (mvT hZ (hw _ (List.mem_of_getElem? (i := 88) rfl))) (mvT hZ (hw _ (List.mem_of_getElem? (i := 89) rfl))) (by decide) (backOf (W := 1) (rm17 l Z a0 hw [] a2 (1 : Int32) kA (0 : Int32) vs T90.heap n0 z90z V1_90 hl (by decide) ⟨by decide, by decide⟩ (by decide) (by decide)) hZ (hw _ (List.mem_of_getElem? (i := 89) rfl)) (hw _ (List.mem_of_getElem? (i := 88) rfl)) (by decide) (by decide)) (g := (mkF m 22 #[.val (.ref a1), .val (.ref a2), .val (.int (0 : Int32)), .val (.int (1 : Int32))] [(.int (1 : Int32)), (.ref a2), (.ref a1)])) rfl (by rw [hml]; rfl) (argsL := [(.ref a2), (.int (1 : Int32))]) (rest := [(.ref a1)]) (lenOf pd_3 rfl) rfl (by show 2 * 0 + _ ≤ _; exact Nat.le_of_eq rfl) (hb hby d15_22) (fun _ _ => ⟨rfl, rfl, (by decide : 0 + 1 ≤ _), (by decide : 0 + 4 ≤ _)⟩)
      dsimp only [Pt.U, Pt.locs, Pt.cells, Pt.slots] at X91 l91 y91 z91 st91 hQ91
      subst l91 y91 z91
      obtain ⟨b91, kc91, rfl, N91q, Kc91, Vn91, szb91, gb91⟩ := hQ91
      have N91 := Fr.app N90 N91q
      have RV_1_91 := RV_1_90.keep Kc91
      have RV_2_1_91 := RV_2_1_90.keep Kc91 nin0
      have RV_2_2_1_91 := RV_2_2_1_90.keep Kc91 nin0
      have RV_2_2_2_1_91 := RV_2_2_2_1_90.keep Kc91 nin0
      have RV_2_2_2_2_1_91 := RV_2_2_2_2_1_90.keep Kc91 nin0
      have RV_2_2_2_2_2_1_91 := RV_2_2_2_2_2_1_90.keep Kc91 nin0
      have RV_2_2_2_2_2_2_1_91 := RV_2_2_2_2_2_2_1_90.keep Kc91 nin0
      have RV_2_2_2_2_2_2_2_1_91 := RV_2_2_2_2_2_2_2_1_90.keep Kc91 nin0
      have RV_2_2_2_2_2_2_2_2_91 := RV_2_2_2_2_2_2_2_2_90.keep Kc91 nin0
      have V1_91 := V1_90.keep Kc91 nin0
      have K91 : Keep h0 T91.heap [a1] := K90.trans Kc91 all0
      have z91z : n0 ≤ T91.heap.size := Nat.le_trans z90z Kc91.1
      have sz_b91 : h0.size ≤ b91 := Nat.le_trans (K90).1 szb91
      have ne_a1_b91 : a1 ≠ b91 := Nat.ne_of_lt (Nat.lt_of_lt_of_le RV.1.lt sz_b91)
      obtain ⟨T92, h92, X92, e92, W92, st92⟩ := putF X91 hx hZ hown (host := "") (Or.inl (hw _ (List.mem_of_getElem? (i := 20) rfl))) Via.refl rfl RV_2_2_1_91 RV_1_91 (Or.inl (hw _ (List.mem_of_getElem? (i := 21) rfl))) (hw _ (List.mem_of_getElem? (i := 9) rfl)) (ty := (.array .int)) (by decide) rfl rfl (g := (mkF m 25 #[.val (.ref a1), .val (.ref a2), .val (.int (0 : Int32)), .val (.int (1 : Int32))] [(.ref b91), (.ref a1)])) rfl rfl (hb hby d15_25)
      have Fw92 := RV_2_2_1_91.same W92
      have RV_1_92 := RV_1_91.wr W92
      have RV_2_1_92 := RV_2_1_91.other W92 (Or.inr (slot_ne (Or.inl (hw _ (List.mem_of_getElem? (i := 18) rfl))) (Or.inl (hw _ (List.mem_of_getElem? (i := 21) rfl))) (by decide) (t := (.array .byte)) (t' := (.array .int)) (by decide) (by decide)))
      have RV_2_2_2_1_92 := RV_2_2_2_1_91.other W92 (Or.inr (slot_ne (Or.inl (hw _ (List.mem_of_getElem? (i := 28) rfl))) (Or.inl (hw _ (List.mem_of_getElem? (i := 21) rfl))) (by decide) (t := .int) (t' := (.array .int)) (by decide) (by decide)))
      have RV_2_2_2_2_1_92 := RV_2_2_2_2_1_91.other W92 (Or.inr (slot_ne (Or.inl (hw _ (List.mem_of_getElem? (i := 30) rfl))) (Or.inl (hw _ (List.mem_of_getElem? (i := 21) rfl))) (by decide) (t := .int) (t' := (.array .int)) (by decide) (by decide)))
      have RV_2_2_2_2_2_1_92 := RV_2_2_2_2_2_1_91.other W92 (Or.inr (slot_ne (Or.inl (hw _ (List.mem_of_getElem? (i := 32) rfl))) (Or.inl (hw _ (List.mem_of_getElem? (i := 21) rfl))) (by decide) (t := .long) (t' := (.array .int)) (by decide) (by decide)))
      have RV_2_2_2_2_2_2_1_92 := RV_2_2_2_2_2_2_1_91.other W92 (Or.inr (slot_ne (Or.inl (hw _ (List.mem_of_getElem? (i := 34) rfl))) (Or.inl (hw _ (List.mem_of_getElem? (i := 21) rfl))) (by decide) (t := .int) (t' := (.array .int)) (by decide) (by decide)))
      have RV_2_2_2_2_2_2_2_1_92 := RV_2_2_2_2_2_2_2_1_91.other W92 (Or.inr (slot_ne (Or.inl (hw _ (List.mem_of_getElem? (i := 36) rfl))) (Or.inl (hw _ (List.mem_of_getElem? (i := 21) rfl))) (by decide) (t := .int) (t' := (.array .int)) (by decide) (by decide)))
      have RV_2_2_2_2_2_2_2_2_92 := RV_2_2_2_2_2_2_2_2_91.other W92 (Or.inr (slot_ne (Or.inl (hw _ (List.mem_of_getElem? (i := 38) rfl))) (Or.inl (hw _ (List.mem_of_getElem? (i := 21) rfl))) (by decide) (t := .int) (t' := (.array .int)) (by decide) (by decide)))
      have V1_92 := V1_91.other W92 (Ne.symm ne12)
      have Vn91_92 := Vn91.other W92 (Ne.symm ne_a1_b91)
      have N92 := Fr.snoc X92 N91 g_a1
      have K92 : Keep h0 h92 [a1] := K91.wr W92 (Or.inl (List.mem_of_getElem? (i := 0) rfl))
      have z92 : n0 ≤ h92.size := Nat.le_trans z91z (Keep.of_wr W92).1
      obtain ⟨T93, X93, e93, st93⟩ := getF X92 hx hZ hown (host := "") (Or.inl (hw _ (List.mem_of_getElem? (i := 20) rfl))) Via.refl e92 Fw92 (g := (mkF m 29 #[.val (.ref a1), .val (.ref a2), .val (.int (0 : Int32)), .val (.int (1 : Int32))] [(.ref a1)])) rfl rfl (hb hby d15_29)
      have fl94 : ∀ target, Steps p.tables e below (T93.setTop (mkF m 32 #[.val (.ref a1), .val (.ref a2), .val (.int (0 : Int32)), .val (.int (1 : Int32))] [(.ref b91)])) target → Steps p.tables e below (s₁.setTop (mkF m 5 #[.val (.ref a1), .val (.ref a2), .val (.int (0 : Int32)), .val (.int (1 : Int32))] [(.int (0 : Int32)), (.int ((0 : Int32) + (1 : Int32)))])) target := fun target kt => by
        show Steps p.tables e below (s₁.setTop (mkF m 5 #[.val (.ref a1), .val (.ref a2), .val (.int (0 : Int32)), .val (.int (1 : Int32))] [(.int (0 : Int32)), (.int ((0 : Int32) + (1 : Int32)))])) _
        refine XS.icmpYes X0.here hx rfl (pc0 := 5) (pc' := 10) rfl (hb hby d15_5) rfl (tlt (hc : (0 : Int32) < ((0 : Int32) + (1 : Int32)))).2.2.1 (by decide) (by decide) ?_
        show Steps p.tables e below (s₁.setTop (mkF m 10 #[.val (.ref a1), .val (.ref a2), .val (.int (0 : Int32)), .val (.int (1 : Int32))] [])) _
        refine XS.aloadN X0.here hx rfl (hb hby d15_10) rfl rfl ?_
        show Steps p.tables e below (s₁.setTop (mkF m 11 #[.val (.ref a1), .val (.ref a2), .val (.int (0 : Int32)), .val (.int (1 : Int32))] [(.ref a1)])) _
        refine XS.aloadN X0.here hx rfl (hb hby d15_11) rfl rfl ?_
        show Steps p.tables e below (s₁.setTop (mkF m 12 #[.val (.ref a1), .val (.ref a2), .val (.int (0 : Int32)), .val (.int (1 : Int32))] [(.ref a2), (.ref a1)])) _
        refine XS.iloadN X0.here hx rfl (hb hby d15_12) rfl ?_
        show Steps p.tables e below (s₁.setTop (mkF m 13 #[.val (.ref a1), .val (.ref a2), .val (.int (0 : Int32)), .val (.int (1 : Int32))] [(.int (0 : Int32)), (.ref a2), (.ref a1)])) _
        refine XS.iloadN X0.here hx rfl (hb hby d15_13) rfl ?_
        show Steps p.tables e below (s₁.setTop (mkF m 14 #[.val (.ref a1), .val (.ref a2), .val (.int (0 : Int32)), .val (.int (1 : Int32))] [(.int (1 : Int32)), (.int (0 : Int32)), (.ref a2), (.ref a1)])) _
        refine XS.iadd X0.here hx rfl (hb hby d15_14) rfl ?_
        show Steps p.tables e below (s₁.setTop (mkF m 15 #[.val (.ref a1), .val (.ref a2), .val (.int (0 : Int32)), .val (.int (1 : Int32))] [(.int ((0 : Int32) + (1 : Int32))), (.ref a2), (.ref a1)])) _
        refine XS.iconst X0.here hx rfl (hb hby d15_15) ?_
        show Steps p.tables e below (s₁.setTop (mkF m 16 #[.val (.ref a1), .val (.ref a2), .val (.int (0 : Int32)), .val (.int (1 : Int32))] [(.int (2 : Int32)), (.int ((0 : Int32) + (1 : Int32))), (.ref a2), (.ref a1)])) _
        refine XS.aloadN X0.here hx rfl (hb hby d15_16) rfl rfl ?_
        show Steps p.tables e below (s₁.setTop (mkF m 17 #[.val (.ref a1), .val (.ref a2), .val (.int (0 : Int32)), .val (.int (1 : Int32))] [(.ref a2), (.int (2 : Int32)), (.int ((0 : Int32) + (1 : Int32))), (.ref a2), (.ref a1)])) _
        refine X0.arraylength hx (cell := cl0) (by rw [e0]; exact Ar0.1) (State.isArrayOf_alike hZ.alike Ar0.2.1) (g := (mkF m 17 #[.val (.ref a1), .val (.ref a2), .val (.int (0 : Int32)), .val (.int (1 : Int32))] [(.ref a2), (.int (2 : Int32)), (.int ((0 : Int32) + (1 : Int32))), (.ref a2), (.ref a1)])) rfl (rest := [(.int (2 : Int32)), (.int ((0 : Int32) + (1 : Int32))), (.ref a2), (.ref a1)]) rfl (hb hby d15_17) _ ?_
        rw [len_of Sz0 Nz0]
        show Steps p.tables e below (s₁.setTop (mkF m 18 #[.val (.ref a1), .val (.ref a2), .val (.int (0 : Int32)), .val (.int (1 : Int32))] [(.int (0 : Int32)), (.int (2 : Int32)), (.int ((0 : Int32) + (1 : Int32))), (.ref a2), (.ref a1)])) _
        refine XS.imul X0.here hx rfl (hb hby d15_18) rfl ?_
        show Steps p.tables e below (s₁.setTop (mkF m 19 #[.val (.ref a1), .val (.ref a2), .val (.int (0 : Int32)), .val (.int (1 : Int32))] [(.int ((2 : Int32) * (0 : Int32))), (.int ((0 : Int32) + (1 : Int32))), (.ref a2), (.ref a1)])) _
        refine st90 _ ?_
        show Steps p.tables e below (T90.setTop (mkF m 22 #[.val (.ref a1), .val (.ref a2), .val (.int (0 : Int32)), .val (.int (1 : Int32))] [(.int (1 : Int32)), (.ref a2), (.ref a1)])) _
        refine st91 _ ?_
        show Steps p.tables e below (T91.setTop (mkF m 25 #[.val (.ref a1), .val (.ref a2), .val (.int (0 : Int32)), .val (.int (1 : Int32))] [(.ref b91), (.ref a1)])) _
        refine st92 _ ?_
        show Steps p.tables e below (T92.setTop (mkF m 28 #[.val (.ref a1), .val (.ref a2), .val (.int (0 : Int32)), .val (.int (1 : Int32))] [])) _
        refine XS.aloadN X92.here hx rfl (hb hby d15_28) rfl rfl ?_
        show Steps p.tables e below (T92.setTop (mkF m 29 #[.val (.ref a1), .val (.ref a2), .val (.int (0 : Int32)), .val (.int (1 : Int32))] [(.ref a1)])) _
        refine st93 _ ?_
        exact kt
      obtain ⟨fs, hrt, hrun, hended, hW, hsame⟩ := X93.leave (v := some (.ref b91)) (fun h => by rw [Bd.returns] at h; cases h)
      refine ⟨_, _, pre0 _ (fl89 _ (fl94 _ ?_)), hrun, hended, _, _, rfl, ?_, ⟨_, rfl⟩, hW, hsame.mono (by decide) (by decide)⟩
      · jvm_step X93.here [X93.here.top, hx, (hb hby d15_32), X93.method', Bd.returns, Value.isRef, FieldType.isReference]
        first | (intro acts; rw [hrt _ acts rfl rfl rfl]) | rw [hrt _ _ rfl rfl rfl]
        exact Steps.refl _
      · show Q15 _ _ _ _ _ _ _ _ _ _ _ _ _ _ _ _ T93.heap _
        rw [e93]
        exact ⟨b91, rfl, N92, K92, ⟨RV_1_92, RV_2_1_92, Fw92, RV_2_2_2_1_92, RV_2_2_2_2_1_92, RV_2_2_2_2_2_1_92, RV_2_2_2_2_2_2_1_92, RV_2_2_2_2_2_2_2_1_92, RV_2_2_2_2_2_2_2_2_92⟩, ⟨kc91, (1 : Int32), _, Vn91_92, by rw [List.length_append, hl, List.length_replicate]; rfl, by decide, hpre.trans (List.prefix_append _ _), by rw [hDz, List.length_append, hl, List.length_replicate]; decide⟩, gb91, Or.inr sz_b91⟩
    · obtain rfl : p3 = (1 : Int32) := hpz
      obtain ⟨_, _, ⟨T95, L95, k95, n95⟩, -, X95, ⟨Lc95, hQ95, l95, y95, z95⟩, st95⟩ := Jvm.LawKit.callS X0 hx (y := (⟨"java/lang/Math", "max", "(II)I"⟩ : MethodName)) hown (mvT hZ (hw _ (List.mem_of_getElem? (i := 82) rfl))) (mvT hZ (hw _ (List.mem_of_getElem? (i := 83) rfl))) (mvT hZ (hw _ (List.mem_of_getElem? (i := 84) rfl))) (mvT hZ (hw _ (List.mem_of_getElem? (i := 85) rfl))) (by decide) (backOf (W := 2) (rm16 l Z a0 hw [] ((1 : Int32) + (1 : Int32)) ((2 : Int32) * (1 : Int32)) (2 : Int32) h0 n0 Z0 (by decide)) hZ (hw _ (List.mem_of_getElem? (i := 85) rfl)) (hw _ (List.mem_of_getElem? (i := 84) rfl)) (by decide) (by decide)) (g := (mkF m 19 #[.val (.ref a1), .val (.ref a2), .val (.int (1 : Int32)), .val (.int (1 : Int32))] [(.int ((2 : Int32) * (1 : Int32))), (.int ((1 : Int32) + (1 : Int32))), (.ref a2), (.ref a1)])) rfl (by rw [hml]; rfl) (argsL := [(.int ((1 : Int32) + (1 : Int32))), (.int ((2 : Int32) * (1 : Int32)))]) (rest := [(.ref a2), (.ref a1)]) (lenOf pd_2 rfl) rfl (by show 2 * 0 + _ ≤ _; exact Nat.le_of_eq rfl) (hb hby d15_19) (fun _ _ => ⟨rfl, e0, (by decide : 0 + 0 ≤ _), (by decide : 0 + 0 ≤ _)⟩)
      dsimp only [Pt.U, Pt.locs, Pt.cells, Pt.slots] at X95 l95 y95 z95 st95 hQ95
      subst l95 y95 z95
      obtain ⟨rfl, N95q, he95⟩ := hQ95
      have N95 := Fr.app N0 N95q
      have Kc95 : Keep h0 T95.heap [] := by rw [he95]; exact Keep.refl _ _
      have RV_1_95 := RV.1.keep Kc95
      have RV_2_1_95 := RV.2.1.keep Kc95 nin0
      have RV_2_2_1_95 := RV.2.2.1.keep Kc95 nin0
      have RV_2_2_2_1_95 := RV.2.2.2.1.keep Kc95 nin0
      have RV_2_2_2_2_1_95 := RV.2.2.2.2.1.keep Kc95 nin0
      have RV_2_2_2_2_2_1_95 := RV.2.2.2.2.2.1.keep Kc95 nin0
      have RV_2_2_2_2_2_2_1_95 := RV.2.2.2.2.2.2.1.keep Kc95 nin0
      have RV_2_2_2_2_2_2_2_1_95 := RV.2.2.2.2.2.2.2.1.keep Kc95 nin0
      have RV_2_2_2_2_2_2_2_2_95 := RV.2.2.2.2.2.2.2.2.keep Kc95 nin0
      have V1_95 := V1.keep Kc95 nin0
      have K95 : Keep h0 T95.heap [a1] := (Keep.refl h0 [a1]).trans Kc95 all0
      have z95z : n0 ≤ T95.heap.size := Nat.le_trans Z0 Kc95.1
      obtain ⟨_, _, ⟨T96, L96, k96, n96⟩, -, X96, ⟨Lc96, hQ96, l96, y96, z96⟩, st96⟩ := Jvm.LawKit.callS X95 hx (y := (⟨"java/util/Arrays", "copyOf", "([II)[I"⟩ : MethodName)) hown (mvT hZ (hw _ (List.mem_of_getElem? (i := 86) rfl))) (mvT hZ (hw _ (List.mem_of_getElem? (i := 87) rfl))) (mvT hZ (hw _ (List.mem_of_getElem? (i := 88) rfl))) (mvT hZ (hw _ (List.mem_of_getElem? (i := 89) rfl))) (by decide) (backOf (W := 1) (rm17 l Z a0 hw [] a2 (2 : Int32) kA (1 : Int32) vs T95.heap n0 z95z V1_95 hl (by decide) ⟨by decide, by decide⟩ (by decide) (by decide)) hZ (hw _ (List.mem_of_getElem? (i := 89) rfl)) (hw _ (List.mem_of_getElem? (i := 88) rfl)) (by decide) (by decide)) (g := (mkF m 22 #[.val (.ref a1), .val (.ref a2), .val (.int (1 : Int32)), .val (.int (1 : Int32))] [(.int (2 : Int32)), (.ref a2), (.ref a1)])) rfl (by rw [hml]; rfl) (argsL := [(.ref a2), (.int (2 : Int32))]) (rest := [(.ref a1)]) (lenOf pd_3 rfl) rfl (by show 2 * 0 + _ ≤ _; exact Nat.le_of_eq rfl) (hb hby d15_22) (fun _ _ => ⟨rfl, rfl, (by decide : 0 + 1 ≤ _), (by decide : 0 + 4 ≤ _)⟩)
      dsimp only [Pt.U, Pt.locs, Pt.cells, Pt.slots] at X96 l96 y96 z96 st96 hQ96
      subst l96 y96 z96
      obtain ⟨b96, kc96, rfl, N96q, Kc96, Vn96, szb96, gb96⟩ := hQ96
      have N96 := Fr.app N95 N96q
      have RV_1_96 := RV_1_95.keep Kc96
      have RV_2_1_96 := RV_2_1_95.keep Kc96 nin0
      have RV_2_2_1_96 := RV_2_2_1_95.keep Kc96 nin0
      have RV_2_2_2_1_96 := RV_2_2_2_1_95.keep Kc96 nin0
      have RV_2_2_2_2_1_96 := RV_2_2_2_2_1_95.keep Kc96 nin0
      have RV_2_2_2_2_2_1_96 := RV_2_2_2_2_2_1_95.keep Kc96 nin0
      have RV_2_2_2_2_2_2_1_96 := RV_2_2_2_2_2_2_1_95.keep Kc96 nin0
      have RV_2_2_2_2_2_2_2_1_96 := RV_2_2_2_2_2_2_2_1_95.keep Kc96 nin0
      have RV_2_2_2_2_2_2_2_2_96 := RV_2_2_2_2_2_2_2_2_95.keep Kc96 nin0
      have V1_96 := V1_95.keep Kc96 nin0
      have K96 : Keep h0 T96.heap [a1] := K95.trans Kc96 all0
      have z96z : n0 ≤ T96.heap.size := Nat.le_trans z95z Kc96.1
      have sz_b96 : h0.size ≤ b96 := Nat.le_trans (K95).1 szb96
      have ne_a1_b96 : a1 ≠ b96 := Nat.ne_of_lt (Nat.lt_of_lt_of_le RV.1.lt sz_b96)
      obtain ⟨T97, h97, X97, e97, W97, st97⟩ := putF X96 hx hZ hown (host := "") (Or.inl (hw _ (List.mem_of_getElem? (i := 20) rfl))) Via.refl rfl RV_2_2_1_96 RV_1_96 (Or.inl (hw _ (List.mem_of_getElem? (i := 21) rfl))) (hw _ (List.mem_of_getElem? (i := 9) rfl)) (ty := (.array .int)) (by decide) rfl rfl (g := (mkF m 25 #[.val (.ref a1), .val (.ref a2), .val (.int (1 : Int32)), .val (.int (1 : Int32))] [(.ref b96), (.ref a1)])) rfl rfl (hb hby d15_25)
      have Fw97 := RV_2_2_1_96.same W97
      have RV_1_97 := RV_1_96.wr W97
      have RV_2_1_97 := RV_2_1_96.other W97 (Or.inr (slot_ne (Or.inl (hw _ (List.mem_of_getElem? (i := 18) rfl))) (Or.inl (hw _ (List.mem_of_getElem? (i := 21) rfl))) (by decide) (t := (.array .byte)) (t' := (.array .int)) (by decide) (by decide)))
      have RV_2_2_2_1_97 := RV_2_2_2_1_96.other W97 (Or.inr (slot_ne (Or.inl (hw _ (List.mem_of_getElem? (i := 28) rfl))) (Or.inl (hw _ (List.mem_of_getElem? (i := 21) rfl))) (by decide) (t := .int) (t' := (.array .int)) (by decide) (by decide)))
      have RV_2_2_2_2_1_97 := RV_2_2_2_2_1_96.other W97 (Or.inr (slot_ne (Or.inl (hw _ (List.mem_of_getElem? (i := 30) rfl))) (Or.inl (hw _ (List.mem_of_getElem? (i := 21) rfl))) (by decide) (t := .int) (t' := (.array .int)) (by decide) (by decide)))
      have RV_2_2_2_2_2_1_97 := RV_2_2_2_2_2_1_96.other W97 (Or.inr (slot_ne (Or.inl (hw _ (List.mem_of_getElem? (i := 32) rfl))) (Or.inl (hw _ (List.mem_of_getElem? (i := 21) rfl))) (by decide) (t := .long) (t' := (.array .int)) (by decide) (by decide)))
      have RV_2_2_2_2_2_2_1_97 := RV_2_2_2_2_2_2_1_96.other W97 (Or.inr (slot_ne (Or.inl (hw _ (List.mem_of_getElem? (i := 34) rfl))) (Or.inl (hw _ (List.mem_of_getElem? (i := 21) rfl))) (by decide) (t := .int) (t' := (.array .int)) (by decide) (by decide)))
      have RV_2_2_2_2_2_2_2_1_97 := RV_2_2_2_2_2_2_2_1_96.other W97 (Or.inr (slot_ne (Or.inl (hw _ (List.mem_of_getElem? (i := 36) rfl))) (Or.inl (hw _ (List.mem_of_getElem? (i := 21) rfl))) (by decide) (t := .int) (t' := (.array .int)) (by decide) (by decide)))
      have RV_2_2_2_2_2_2_2_2_97 := RV_2_2_2_2_2_2_2_2_96.other W97 (Or.inr (slot_ne (Or.inl (hw _ (List.mem_of_getElem? (i := 38) rfl))) (Or.inl (hw _ (List.mem_of_getElem? (i := 21) rfl))) (by decide) (t := .int) (t' := (.array .int)) (by decide) (by decide)))
      have V1_97 := V1_96.other W97 (Ne.symm ne12)
      have Vn96_97 := Vn96.other W97 (Ne.symm ne_a1_b96)
      have N97 := Fr.snoc X97 N96 g_a1
      have K97 : Keep h0 h97 [a1] := K96.wr W97 (Or.inl (List.mem_of_getElem? (i := 0) rfl))
      have z97 : n0 ≤ h97.size := Nat.le_trans z96z (Keep.of_wr W97).1
      obtain ⟨T98, X98, e98, st98⟩ := getF X97 hx hZ hown (host := "") (Or.inl (hw _ (List.mem_of_getElem? (i := 20) rfl))) Via.refl e97 Fw97 (g := (mkF m 29 #[.val (.ref a1), .val (.ref a2), .val (.int (1 : Int32)), .val (.int (1 : Int32))] [(.ref a1)])) rfl rfl (hb hby d15_29)
      have fl99 : ∀ target, Steps p.tables e below (T98.setTop (mkF m 32 #[.val (.ref a1), .val (.ref a2), .val (.int (1 : Int32)), .val (.int (1 : Int32))] [(.ref b96)])) target → Steps p.tables e below (s₁.setTop (mkF m 5 #[.val (.ref a1), .val (.ref a2), .val (.int (1 : Int32)), .val (.int (1 : Int32))] [(.int (1 : Int32)), (.int ((1 : Int32) + (1 : Int32)))])) target := fun target kt => by
        show Steps p.tables e below (s₁.setTop (mkF m 5 #[.val (.ref a1), .val (.ref a2), .val (.int (1 : Int32)), .val (.int (1 : Int32))] [(.int (1 : Int32)), (.int ((1 : Int32) + (1 : Int32)))])) _
        refine XS.icmpYes X0.here hx rfl (pc0 := 5) (pc' := 10) rfl (hb hby d15_5) rfl (tlt (hc : (1 : Int32) < ((1 : Int32) + (1 : Int32)))).2.2.1 (by decide) (by decide) ?_
        show Steps p.tables e below (s₁.setTop (mkF m 10 #[.val (.ref a1), .val (.ref a2), .val (.int (1 : Int32)), .val (.int (1 : Int32))] [])) _
        refine XS.aloadN X0.here hx rfl (hb hby d15_10) rfl rfl ?_
        show Steps p.tables e below (s₁.setTop (mkF m 11 #[.val (.ref a1), .val (.ref a2), .val (.int (1 : Int32)), .val (.int (1 : Int32))] [(.ref a1)])) _
        refine XS.aloadN X0.here hx rfl (hb hby d15_11) rfl rfl ?_
        show Steps p.tables e below (s₁.setTop (mkF m 12 #[.val (.ref a1), .val (.ref a2), .val (.int (1 : Int32)), .val (.int (1 : Int32))] [(.ref a2), (.ref a1)])) _
        refine XS.iloadN X0.here hx rfl (hb hby d15_12) rfl ?_
        show Steps p.tables e below (s₁.setTop (mkF m 13 #[.val (.ref a1), .val (.ref a2), .val (.int (1 : Int32)), .val (.int (1 : Int32))] [(.int (1 : Int32)), (.ref a2), (.ref a1)])) _
        refine XS.iloadN X0.here hx rfl (hb hby d15_13) rfl ?_
        show Steps p.tables e below (s₁.setTop (mkF m 14 #[.val (.ref a1), .val (.ref a2), .val (.int (1 : Int32)), .val (.int (1 : Int32))] [(.int (1 : Int32)), (.int (1 : Int32)), (.ref a2), (.ref a1)])) _
        refine XS.iadd X0.here hx rfl (hb hby d15_14) rfl ?_
        show Steps p.tables e below (s₁.setTop (mkF m 15 #[.val (.ref a1), .val (.ref a2), .val (.int (1 : Int32)), .val (.int (1 : Int32))] [(.int ((1 : Int32) + (1 : Int32))), (.ref a2), (.ref a1)])) _
        refine XS.iconst X0.here hx rfl (hb hby d15_15) ?_
        show Steps p.tables e below (s₁.setTop (mkF m 16 #[.val (.ref a1), .val (.ref a2), .val (.int (1 : Int32)), .val (.int (1 : Int32))] [(.int (2 : Int32)), (.int ((1 : Int32) + (1 : Int32))), (.ref a2), (.ref a1)])) _
        refine XS.aloadN X0.here hx rfl (hb hby d15_16) rfl rfl ?_
        show Steps p.tables e below (s₁.setTop (mkF m 17 #[.val (.ref a1), .val (.ref a2), .val (.int (1 : Int32)), .val (.int (1 : Int32))] [(.ref a2), (.int (2 : Int32)), (.int ((1 : Int32) + (1 : Int32))), (.ref a2), (.ref a1)])) _
        refine X0.arraylength hx (cell := cl0) (by rw [e0]; exact Ar0.1) (State.isArrayOf_alike hZ.alike Ar0.2.1) (g := (mkF m 17 #[.val (.ref a1), .val (.ref a2), .val (.int (1 : Int32)), .val (.int (1 : Int32))] [(.ref a2), (.int (2 : Int32)), (.int ((1 : Int32) + (1 : Int32))), (.ref a2), (.ref a1)])) rfl (rest := [(.int (2 : Int32)), (.int ((1 : Int32) + (1 : Int32))), (.ref a2), (.ref a1)]) rfl (hb hby d15_17) _ ?_
        rw [len_of Sz0 Nz0]
        show Steps p.tables e below (s₁.setTop (mkF m 18 #[.val (.ref a1), .val (.ref a2), .val (.int (1 : Int32)), .val (.int (1 : Int32))] [(.int (1 : Int32)), (.int (2 : Int32)), (.int ((1 : Int32) + (1 : Int32))), (.ref a2), (.ref a1)])) _
        refine XS.imul X0.here hx rfl (hb hby d15_18) rfl ?_
        show Steps p.tables e below (s₁.setTop (mkF m 19 #[.val (.ref a1), .val (.ref a2), .val (.int (1 : Int32)), .val (.int (1 : Int32))] [(.int ((2 : Int32) * (1 : Int32))), (.int ((1 : Int32) + (1 : Int32))), (.ref a2), (.ref a1)])) _
        refine st95 _ ?_
        show Steps p.tables e below (T95.setTop (mkF m 22 #[.val (.ref a1), .val (.ref a2), .val (.int (1 : Int32)), .val (.int (1 : Int32))] [(.int (2 : Int32)), (.ref a2), (.ref a1)])) _
        refine st96 _ ?_
        show Steps p.tables e below (T96.setTop (mkF m 25 #[.val (.ref a1), .val (.ref a2), .val (.int (1 : Int32)), .val (.int (1 : Int32))] [(.ref b96), (.ref a1)])) _
        refine st97 _ ?_
        show Steps p.tables e below (T97.setTop (mkF m 28 #[.val (.ref a1), .val (.ref a2), .val (.int (1 : Int32)), .val (.int (1 : Int32))] [])) _
        refine XS.aloadN X97.here hx rfl (hb hby d15_28) rfl rfl ?_
        show Steps p.tables e below (T97.setTop (mkF m 29 #[.val (.ref a1), .val (.ref a2), .val (.int (1 : Int32)), .val (.int (1 : Int32))] [(.ref a1)])) _
        refine st98 _ ?_
        exact kt
      obtain ⟨fs, hrt, hrun, hended, hW, hsame⟩ := X98.leave (v := some (.ref b96)) (fun h => by rw [Bd.returns] at h; cases h)
      refine ⟨_, _, pre0 _ (fl89 _ (fl99 _ ?_)), hrun, hended, _, _, rfl, ?_, ⟨_, rfl⟩, hW, hsame.mono (by decide) (by decide)⟩
      · jvm_step X98.here [X98.here.top, hx, (hb hby d15_32), X98.method', Bd.returns, Value.isRef, FieldType.isReference]
        first | (intro acts; rw [hrt _ acts rfl rfl rfl]) | rw [hrt _ _ rfl rfl rfl]
        exact Steps.refl _
      · show Q15 _ _ _ _ _ _ _ _ _ _ _ _ _ _ _ _ T98.heap _
        rw [e98]
        exact ⟨b96, rfl, N97, K97, ⟨RV_1_97, RV_2_1_97, Fw97, RV_2_2_2_1_97, RV_2_2_2_2_1_97, RV_2_2_2_2_2_1_97, RV_2_2_2_2_2_2_1_97, RV_2_2_2_2_2_2_2_1_97, RV_2_2_2_2_2_2_2_2_97⟩, ⟨kc96, (2 : Int32), _, Vn96_97, by rw [List.length_append, hl, List.length_replicate]; rfl, by decide, hpre.trans (List.prefix_append _ _), by rw [hDz, List.length_append, hl, List.length_replicate]; decide⟩, gb96, Or.inr sz_b96⟩
    · obtain rfl : p3 = (2 : Int32) := hpz
      obtain ⟨_, _, ⟨T100, L100, k100, n100⟩, -, X100, ⟨Lc100, hQ100, l100, y100, z100⟩, st100⟩ := Jvm.LawKit.callS X0 hx (y := (⟨"java/lang/Math", "max", "(II)I"⟩ : MethodName)) hown (mvT hZ (hw _ (List.mem_of_getElem? (i := 82) rfl))) (mvT hZ (hw _ (List.mem_of_getElem? (i := 83) rfl))) (mvT hZ (hw _ (List.mem_of_getElem? (i := 84) rfl))) (mvT hZ (hw _ (List.mem_of_getElem? (i := 85) rfl))) (by decide) (backOf (W := 2) (rm16 l Z a0 hw [] ((2 : Int32) + (1 : Int32)) ((2 : Int32) * (2 : Int32)) (4 : Int32) h0 n0 Z0 (by decide)) hZ (hw _ (List.mem_of_getElem? (i := 85) rfl)) (hw _ (List.mem_of_getElem? (i := 84) rfl)) (by decide) (by decide)) (g := (mkF m 19 #[.val (.ref a1), .val (.ref a2), .val (.int (2 : Int32)), .val (.int (1 : Int32))] [(.int ((2 : Int32) * (2 : Int32))), (.int ((2 : Int32) + (1 : Int32))), (.ref a2), (.ref a1)])) rfl (by rw [hml]; rfl) (argsL := [(.int ((2 : Int32) + (1 : Int32))), (.int ((2 : Int32) * (2 : Int32)))]) (rest := [(.ref a2), (.ref a1)]) (lenOf pd_2 rfl) rfl (by show 2 * 0 + _ ≤ _; exact Nat.le_of_eq rfl) (hb hby d15_19) (fun _ _ => ⟨rfl, e0, (by decide : 0 + 0 ≤ _), (by decide : 0 + 0 ≤ _)⟩)
      dsimp only [Pt.U, Pt.locs, Pt.cells, Pt.slots] at X100 l100 y100 z100 st100 hQ100
      subst l100 y100 z100
      obtain ⟨rfl, N100q, he100⟩ := hQ100
      have N100 := Fr.app N0 N100q
      have Kc100 : Keep h0 T100.heap [] := by rw [he100]; exact Keep.refl _ _
      have RV_1_100 := RV.1.keep Kc100
      have RV_2_1_100 := RV.2.1.keep Kc100 nin0
      have RV_2_2_1_100 := RV.2.2.1.keep Kc100 nin0
      have RV_2_2_2_1_100 := RV.2.2.2.1.keep Kc100 nin0
      have RV_2_2_2_2_1_100 := RV.2.2.2.2.1.keep Kc100 nin0
      have RV_2_2_2_2_2_1_100 := RV.2.2.2.2.2.1.keep Kc100 nin0
      have RV_2_2_2_2_2_2_1_100 := RV.2.2.2.2.2.2.1.keep Kc100 nin0
      have RV_2_2_2_2_2_2_2_1_100 := RV.2.2.2.2.2.2.2.1.keep Kc100 nin0
      have RV_2_2_2_2_2_2_2_2_100 := RV.2.2.2.2.2.2.2.2.keep Kc100 nin0
      have V1_100 := V1.keep Kc100 nin0
      have K100 : Keep h0 T100.heap [a1] := (Keep.refl h0 [a1]).trans Kc100 all0
      have z100z : n0 ≤ T100.heap.size := Nat.le_trans Z0 Kc100.1
      obtain ⟨_, _, ⟨T101, L101, k101, n101⟩, -, X101, ⟨Lc101, hQ101, l101, y101, z101⟩, st101⟩ := Jvm.LawKit.callS X100 hx (y := (⟨"java/util/Arrays", "copyOf", "([II)[I"⟩ : MethodName)) hown (mvT hZ (hw _ (List.mem_of_getElem? (i := 86) rfl))) (mvT hZ (hw _ (List.mem_of_getElem? (i := 87) rfl))) (mvT hZ (hw _ (List.mem_of_getElem? (i := 88) rfl))) (mvT hZ (hw _ (List.mem_of_getElem? (i := 89) rfl))) (by decide) (backOf (W := 1) (rm17 l Z a0 hw [] a2 (4 : Int32) kA (2 : Int32) vs T100.heap n0 z100z V1_100 hl (by decide) ⟨by decide, by decide⟩ (by decide) (by decide)) hZ (hw _ (List.mem_of_getElem? (i := 89) rfl)) (hw _ (List.mem_of_getElem? (i := 88) rfl)) (by decide) (by decide)) (g := (mkF m 22 #[.val (.ref a1), .val (.ref a2), .val (.int (2 : Int32)), .val (.int (1 : Int32))] [(.int (4 : Int32)), (.ref a2), (.ref a1)])) rfl (by rw [hml]; rfl) (argsL := [(.ref a2), (.int (4 : Int32))]) (rest := [(.ref a1)]) (lenOf pd_3 rfl) rfl (by show 2 * 0 + _ ≤ _; exact Nat.le_of_eq rfl) (hb hby d15_22) (fun _ _ => ⟨rfl, rfl, (by decide : 0 + 1 ≤ _), (by decide : 0 + 4 ≤ _)⟩)
      dsimp only [Pt.U, Pt.locs, Pt.cells, Pt.slots] at X101 l101 y101 z101 st101 hQ101
      subst l101 y101 z101
      obtain ⟨b101, kc101, rfl, N101q, Kc101, Vn101, szb101, gb101⟩ := hQ101
      have N101 := Fr.app N100 N101q
      have RV_1_101 := RV_1_100.keep Kc101
      have RV_2_1_101 := RV_2_1_100.keep Kc101 nin0
      have RV_2_2_1_101 := RV_2_2_1_100.keep Kc101 nin0
      have RV_2_2_2_1_101 := RV_2_2_2_1_100.keep Kc101 nin0
      have RV_2_2_2_2_1_101 := RV_2_2_2_2_1_100.keep Kc101 nin0
      have RV_2_2_2_2_2_1_101 := RV_2_2_2_2_2_1_100.keep Kc101 nin0
      have RV_2_2_2_2_2_2_1_101 := RV_2_2_2_2_2_2_1_100.keep Kc101 nin0
      have RV_2_2_2_2_2_2_2_1_101 := RV_2_2_2_2_2_2_2_1_100.keep Kc101 nin0
      have RV_2_2_2_2_2_2_2_2_101 := RV_2_2_2_2_2_2_2_2_100.keep Kc101 nin0
      have V1_101 := V1_100.keep Kc101 nin0
      have K101 : Keep h0 T101.heap [a1] := K100.trans Kc101 all0
      have z101z : n0 ≤ T101.heap.size := Nat.le_trans z100z Kc101.1
      have sz_b101 : h0.size ≤ b101 := Nat.le_trans (K100).1 szb101
      have ne_a1_b101 : a1 ≠ b101 := Nat.ne_of_lt (Nat.lt_of_lt_of_le RV.1.lt sz_b101)
      obtain ⟨T102, h102, X102, e102, W102, st102⟩ := putF X101 hx hZ hown (host := "") (Or.inl (hw _ (List.mem_of_getElem? (i := 20) rfl))) Via.refl rfl RV_2_2_1_101 RV_1_101 (Or.inl (hw _ (List.mem_of_getElem? (i := 21) rfl))) (hw _ (List.mem_of_getElem? (i := 9) rfl)) (ty := (.array .int)) (by decide) rfl rfl (g := (mkF m 25 #[.val (.ref a1), .val (.ref a2), .val (.int (2 : Int32)), .val (.int (1 : Int32))] [(.ref b101), (.ref a1)])) rfl rfl (hb hby d15_25)
      have Fw102 := RV_2_2_1_101.same W102
      have RV_1_102 := RV_1_101.wr W102
      have RV_2_1_102 := RV_2_1_101.other W102 (Or.inr (slot_ne (Or.inl (hw _ (List.mem_of_getElem? (i := 18) rfl))) (Or.inl (hw _ (List.mem_of_getElem? (i := 21) rfl))) (by decide) (t := (.array .byte)) (t' := (.array .int)) (by decide) (by decide)))
      have RV_2_2_2_1_102 := RV_2_2_2_1_101.other W102 (Or.inr (slot_ne (Or.inl (hw _ (List.mem_of_getElem? (i := 28) rfl))) (Or.inl (hw _ (List.mem_of_getElem? (i := 21) rfl))) (by decide) (t := .int) (t' := (.array .int)) (by decide) (by decide)))
      have RV_2_2_2_2_1_102 := RV_2_2_2_2_1_101.other W102 (Or.inr (slot_ne (Or.inl (hw _ (List.mem_of_getElem? (i := 30) rfl))) (Or.inl (hw _ (List.mem_of_getElem? (i := 21) rfl))) (by decide) (t := .int) (t' := (.array .int)) (by decide) (by decide)))
      have RV_2_2_2_2_2_1_102 := RV_2_2_2_2_2_1_101.other W102 (Or.inr (slot_ne (Or.inl (hw _ (List.mem_of_getElem? (i := 32) rfl))) (Or.inl (hw _ (List.mem_of_getElem? (i := 21) rfl))) (by decide) (t := .long) (t' := (.array .int)) (by decide) (by decide)))
      have RV_2_2_2_2_2_2_1_102 := RV_2_2_2_2_2_2_1_101.other W102 (Or.inr (slot_ne (Or.inl (hw _ (List.mem_of_getElem? (i := 34) rfl))) (Or.inl (hw _ (List.mem_of_getElem? (i := 21) rfl))) (by decide) (t := .int) (t' := (.array .int)) (by decide) (by decide)))
      have RV_2_2_2_2_2_2_2_1_102 := RV_2_2_2_2_2_2_2_1_101.other W102 (Or.inr (slot_ne (Or.inl (hw _ (List.mem_of_getElem? (i := 36) rfl))) (Or.inl (hw _ (List.mem_of_getElem? (i := 21) rfl))) (by decide) (t := .int) (t' := (.array .int)) (by decide) (by decide)))
      have RV_2_2_2_2_2_2_2_2_102 := RV_2_2_2_2_2_2_2_2_101.other W102 (Or.inr (slot_ne (Or.inl (hw _ (List.mem_of_getElem? (i := 38) rfl))) (Or.inl (hw _ (List.mem_of_getElem? (i := 21) rfl))) (by decide) (t := .int) (t' := (.array .int)) (by decide) (by decide)))
      have V1_102 := V1_101.other W102 (Ne.symm ne12)
      have Vn101_102 := Vn101.other W102 (Ne.symm ne_a1_b101)
      have N102 := Fr.snoc X102 N101 g_a1
      have K102 : Keep h0 h102 [a1] := K101.wr W102 (Or.inl (List.mem_of_getElem? (i := 0) rfl))
      have z102 : n0 ≤ h102.size := Nat.le_trans z101z (Keep.of_wr W102).1
      obtain ⟨T103, X103, e103, st103⟩ := getF X102 hx hZ hown (host := "") (Or.inl (hw _ (List.mem_of_getElem? (i := 20) rfl))) Via.refl e102 Fw102 (g := (mkF m 29 #[.val (.ref a1), .val (.ref a2), .val (.int (2 : Int32)), .val (.int (1 : Int32))] [(.ref a1)])) rfl rfl (hb hby d15_29)
      have fl104 : ∀ target, Steps p.tables e below (T103.setTop (mkF m 32 #[.val (.ref a1), .val (.ref a2), .val (.int (2 : Int32)), .val (.int (1 : Int32))] [(.ref b101)])) target → Steps p.tables e below (s₁.setTop (mkF m 5 #[.val (.ref a1), .val (.ref a2), .val (.int (2 : Int32)), .val (.int (1 : Int32))] [(.int (2 : Int32)), (.int ((2 : Int32) + (1 : Int32)))])) target := fun target kt => by
        show Steps p.tables e below (s₁.setTop (mkF m 5 #[.val (.ref a1), .val (.ref a2), .val (.int (2 : Int32)), .val (.int (1 : Int32))] [(.int (2 : Int32)), (.int ((2 : Int32) + (1 : Int32)))])) _
        refine XS.icmpYes X0.here hx rfl (pc0 := 5) (pc' := 10) rfl (hb hby d15_5) rfl (tlt (hc : (2 : Int32) < ((2 : Int32) + (1 : Int32)))).2.2.1 (by decide) (by decide) ?_
        show Steps p.tables e below (s₁.setTop (mkF m 10 #[.val (.ref a1), .val (.ref a2), .val (.int (2 : Int32)), .val (.int (1 : Int32))] [])) _
        refine XS.aloadN X0.here hx rfl (hb hby d15_10) rfl rfl ?_
        show Steps p.tables e below (s₁.setTop (mkF m 11 #[.val (.ref a1), .val (.ref a2), .val (.int (2 : Int32)), .val (.int (1 : Int32))] [(.ref a1)])) _
        refine XS.aloadN X0.here hx rfl (hb hby d15_11) rfl rfl ?_
        show Steps p.tables e below (s₁.setTop (mkF m 12 #[.val (.ref a1), .val (.ref a2), .val (.int (2 : Int32)), .val (.int (1 : Int32))] [(.ref a2), (.ref a1)])) _
        refine XS.iloadN X0.here hx rfl (hb hby d15_12) rfl ?_
        show Steps p.tables e below (s₁.setTop (mkF m 13 #[.val (.ref a1), .val (.ref a2), .val (.int (2 : Int32)), .val (.int (1 : Int32))] [(.int (2 : Int32)), (.ref a2), (.ref a1)])) _
        refine XS.iloadN X0.here hx rfl (hb hby d15_13) rfl ?_
        show Steps p.tables e below (s₁.setTop (mkF m 14 #[.val (.ref a1), .val (.ref a2), .val (.int (2 : Int32)), .val (.int (1 : Int32))] [(.int (1 : Int32)), (.int (2 : Int32)), (.ref a2), (.ref a1)])) _
        refine XS.iadd X0.here hx rfl (hb hby d15_14) rfl ?_
        show Steps p.tables e below (s₁.setTop (mkF m 15 #[.val (.ref a1), .val (.ref a2), .val (.int (2 : Int32)), .val (.int (1 : Int32))] [(.int ((2 : Int32) + (1 : Int32))), (.ref a2), (.ref a1)])) _
        refine XS.iconst X0.here hx rfl (hb hby d15_15) ?_
        show Steps p.tables e below (s₁.setTop (mkF m 16 #[.val (.ref a1), .val (.ref a2), .val (.int (2 : Int32)), .val (.int (1 : Int32))] [(.int (2 : Int32)), (.int ((2 : Int32) + (1 : Int32))), (.ref a2), (.ref a1)])) _
        refine XS.aloadN X0.here hx rfl (hb hby d15_16) rfl rfl ?_
        show Steps p.tables e below (s₁.setTop (mkF m 17 #[.val (.ref a1), .val (.ref a2), .val (.int (2 : Int32)), .val (.int (1 : Int32))] [(.ref a2), (.int (2 : Int32)), (.int ((2 : Int32) + (1 : Int32))), (.ref a2), (.ref a1)])) _
        refine X0.arraylength hx (cell := cl0) (by rw [e0]; exact Ar0.1) (State.isArrayOf_alike hZ.alike Ar0.2.1) (g := (mkF m 17 #[.val (.ref a1), .val (.ref a2), .val (.int (2 : Int32)), .val (.int (1 : Int32))] [(.ref a2), (.int (2 : Int32)), (.int ((2 : Int32) + (1 : Int32))), (.ref a2), (.ref a1)])) rfl (rest := [(.int (2 : Int32)), (.int ((2 : Int32) + (1 : Int32))), (.ref a2), (.ref a1)]) rfl (hb hby d15_17) _ ?_
        rw [len_of Sz0 Nz0]
        show Steps p.tables e below (s₁.setTop (mkF m 18 #[.val (.ref a1), .val (.ref a2), .val (.int (2 : Int32)), .val (.int (1 : Int32))] [(.int (2 : Int32)), (.int (2 : Int32)), (.int ((2 : Int32) + (1 : Int32))), (.ref a2), (.ref a1)])) _
        refine XS.imul X0.here hx rfl (hb hby d15_18) rfl ?_
        show Steps p.tables e below (s₁.setTop (mkF m 19 #[.val (.ref a1), .val (.ref a2), .val (.int (2 : Int32)), .val (.int (1 : Int32))] [(.int ((2 : Int32) * (2 : Int32))), (.int ((2 : Int32) + (1 : Int32))), (.ref a2), (.ref a1)])) _
        refine st100 _ ?_
        show Steps p.tables e below (T100.setTop (mkF m 22 #[.val (.ref a1), .val (.ref a2), .val (.int (2 : Int32)), .val (.int (1 : Int32))] [(.int (4 : Int32)), (.ref a2), (.ref a1)])) _
        refine st101 _ ?_
        show Steps p.tables e below (T101.setTop (mkF m 25 #[.val (.ref a1), .val (.ref a2), .val (.int (2 : Int32)), .val (.int (1 : Int32))] [(.ref b101), (.ref a1)])) _
        refine st102 _ ?_
        show Steps p.tables e below (T102.setTop (mkF m 28 #[.val (.ref a1), .val (.ref a2), .val (.int (2 : Int32)), .val (.int (1 : Int32))] [])) _
        refine XS.aloadN X102.here hx rfl (hb hby d15_28) rfl rfl ?_
        show Steps p.tables e below (T102.setTop (mkF m 29 #[.val (.ref a1), .val (.ref a2), .val (.int (2 : Int32)), .val (.int (1 : Int32))] [(.ref a1)])) _
        refine st103 _ ?_
        exact kt
      obtain ⟨fs, hrt, hrun, hended, hW, hsame⟩ := X103.leave (v := some (.ref b101)) (fun h => by rw [Bd.returns] at h; cases h)
      refine ⟨_, _, pre0 _ (fl89 _ (fl104 _ ?_)), hrun, hended, _, _, rfl, ?_, ⟨_, rfl⟩, hW, hsame.mono (by decide) (by decide)⟩
      · jvm_step X103.here [X103.here.top, hx, (hb hby d15_32), X103.method', Bd.returns, Value.isRef, FieldType.isReference]
        first | (intro acts; rw [hrt _ acts rfl rfl rfl]) | rw [hrt _ _ rfl rfl rfl]
        exact Steps.refl _
      · show Q15 _ _ _ _ _ _ _ _ _ _ _ _ _ _ _ _ T103.heap _
        rw [e103]
        exact ⟨b101, rfl, N102, K102, ⟨RV_1_102, RV_2_1_102, Fw102, RV_2_2_2_1_102, RV_2_2_2_2_1_102, RV_2_2_2_2_2_1_102, RV_2_2_2_2_2_2_1_102, RV_2_2_2_2_2_2_2_1_102, RV_2_2_2_2_2_2_2_2_102⟩, ⟨kc101, (4 : Int32), _, Vn101_102, by rw [List.length_append, hl, List.length_replicate]; rfl, by decide, hpre.trans (List.prefix_append _ _), by rw [hDz, List.length_append, hl, List.length_replicate]; decide⟩, gb101, Or.inr sz_b101⟩
  · have fl105 : ∀ target, Steps p.tables e below (s₁.setTop (mkF m 9 #[.val (.ref a1), .val (.ref a2), .val (.int p3), .val (.int (1 : Int32))] [(.ref a2)])) target → Steps p.tables e below (s₁.setTop (mkF m 5 #[.val (.ref a1), .val (.ref a2), .val (.int p3), .val (.int (1 : Int32))] [(.int z), (.int (p3 + (1 : Int32)))])) target := fun target kt => by
      show Steps p.tables e below (s₁.setTop (mkF m 5 #[.val (.ref a1), .val (.ref a2), .val (.int p3), .val (.int (1 : Int32))] [(.int z), (.int (p3 + (1 : Int32)))])) _
      refine XS.icmpNo X0.here hx rfl (hb hby d15_5) rfl (flt (hc : ¬ (z < (p3 + (1 : Int32))))).2.2.1 ?_
      show Steps p.tables e below (s₁.setTop (mkF m 8 #[.val (.ref a1), .val (.ref a2), .val (.int p3), .val (.int (1 : Int32))] [])) _
      refine XS.aloadN X0.here hx rfl (hb hby d15_8) rfl rfl ?_
      exact kt
    obtain ⟨fs, hrt, hrun, hended, hW, hsame⟩ := X0.leave (v := some (.ref a2)) (fun h => by rw [Bd.returns] at h; cases h)
    refine ⟨_, _, pre0 _ (fl89 _ (fl105 _ ?_)), hrun, hended, _, _, rfl, ?_, ⟨_, rfl⟩, hW, hsame.mono (by decide) (by decide)⟩
    · jvm_step X0.here [X0.here.top, hx, (hb hby d15_9), X0.method', Bd.returns, Value.isRef, FieldType.isReference]
      first | (intro acts; rw [hrt _ acts rfl rfl rfl]) | rw [hrt _ _ rfl rfl rfl]
      exact Steps.refl _
    · show Q15 _ _ _ _ _ _ _ _ _ _ _ _ _ _ _ _ s₁.heap _
      rw [e0]
      exact ⟨a2, rfl, N0, Keep.refl _ _, RV, ⟨kA, z, vs, V1, hl, hz, hpre, own_nogrow hl hD hp3 hc⟩, g_a2, Or.inl rfl⟩
set_option maxRecDepth 65536 in
set_option maxHeartbeats 40000000 in
theorem own_sul {p : Program} {l : Launch} {e : Env} {s : State} {m : MethodId} {args : Array Value} {below : List Frame} {meth : Method} {c : Code} {Z : State} {a0 : Array Value} {n0 : Nat} (a1 : Addr) (b : Addr) (kb : ClassId) (f : Int32 → Int32) (st : Int32) (en : Int32) (ln : Int64) (cn : Int32) (fo : Int32) (se : Int32) (ti : Nat) (hx : p.tables.exec = Jvm.exec) (hZ : Z.Warmed39 s.vm) (hw : ∀ d ∈ tables_1, d.before a0 Z = true) (hby : c.code = prog_35_method_28_code) (hml : c.maxLocals = 8) (hown : s.vm.findClass "com/example/concept_ledger/conceptledger/model/RowView" = some m.cls) (hse : own_se st en) (g_a1 : n0 ≤ a1) (neab : a1 ≠ b) (hti : ti < 4) : ∀ (n : Nat) (T0 : State) (h0 : Heap) (ar : Addr) (sx : Int32) (D : List Int32) (locs : List Loc) (cells slots : Nat) (X0 : Stand p l e ({ frames := 3, cells := 4, slots := 16, locals := 70 } : Room) s m args below meth c T0 locs cells slots) (e0 : T0.heap = h0) (N0 : Fr n0 locs) (Z0 : n0 ≤ h0.size) (RV : own_RV Z h0 a1 b ar st en ln cn fo se) (BA : own_BA Z h0 b kb f) (BR : own_Bars Z h0 ar D) (g_ar : n0 ≤ ar) (ne1 : a1 ≠ ar) (ne2 : b ≠ ar), 0 ≤ sx.toInt → sx.toInt + n = en.toInt → D.length ≤ ti + 1 → ti + 1 ≤ D.length + (own_ps f sx n).length → D.length + n ≤ 4 → cells + n ≤ 4 → slots + 4 * n ≤ 16 →
    ∃ (T' : State) (h' : Heap) (ar' : Addr) (s' : Int32) (D' : List Int32) (locs' : List Loc) (n' : Nat), Stand p l e ({ frames := 3, cells := 4, slots := 16, locals := 70 } : Room) s m args below meth c T' locs' (cells + n) (slots + 4 * n) ∧ T'.heap = h' ∧ Fr n0 locs' ∧ own_RV Z h' a1 b ar' st en ln cn fo se ∧ own_BA Z h' b kb f ∧ own_Bars Z h' ar' D' ∧ n0 ≤ ar' ∧ a1 ≠ ar' ∧ b ≠ ar' ∧ Keep h0 h' [a1, ar] ∧ (ar' = ar ∨ h0.size ≤ ar') ∧ D'.length = ti + 1 ∧ D' ++ own_ps f s' n' = D ++ own_ps f sx n ∧ 0 ≤ s'.toInt ∧ s'.toInt + n' = en.toInt ∧ D'.length + n' ≤ 4 ∧ ∀ target, Steps p.tables e below (T'.setTop (mkF m 150 #[.val (.ref a1), .val (.int (Int32.ofNat ti)), .val (.ref b), .val (.ref ar'), .val (.int (Int32.ofNat D'.length)), .val (.int s'), .unset, .unset] [])) target → Steps p.tables e below (T0.setTop (mkF m 22 #[.val (.ref a1), .val (.int (Int32.ofNat ti)), .val (.ref b), .val (.ref ar), .val (.int (Int32.ofNat D.length)), .val (.int sx), .unset, .unset] [])) target := by
  intro n
  induction n with
  | zero =>
    intro T0 h0 ar sx D locs cells slots X0 e0 N0 Z0 RV BA BR g_ar ne1 ne2 h1 h2 h3 h4 h5 hc hs
    have q0 : (own_ps f sx 0).length = 0 := rfl
    have hgt : Int32.ofNat ti < Int32.ofNat D.length := by rw [own_lti, own_on (by omega), own_on (by omega)]; omega
    refine ⟨T0, h0, ar, sx, D, locs, 0, X0.more (Nat.le_add_right _ _) (Nat.le_add_right _ _), e0, N0, RV, BA, BR, g_ar, ne1, ne2, Keep.refl _ _, Or.inl rfl, by omega, rfl, h1, h2, h5, fun target kt => ?_⟩
    show Steps p.tables e below (T0.setTop (mkF m 22 #[.val (.ref a1), .val (.int (Int32.ofNat ti)), .val (.ref b), .val (.ref ar), .val (.int (Int32.ofNat D.length)), .val (.int sx), .unset, .unset] [])) _
    refine XS.iload X0.here hx rfl (hb hby d14_22) rfl ?_
    show Steps p.tables e below (T0.setTop (mkF m 24 #[.val (.ref a1), .val (.int (Int32.ofNat ti)), .val (.ref b), .val (.ref ar), .val (.int (Int32.ofNat D.length)), .val (.int sx), .unset, .unset] [(.int (Int32.ofNat D.length))])) _
    refine XS.iloadN X0.here hx rfl (hb hby d14_24) rfl ?_
    show Steps p.tables e below (T0.setTop (mkF m 25 #[.val (.ref a1), .val (.int (Int32.ofNat ti)), .val (.ref b), .val (.ref ar), .val (.int (Int32.ofNat D.length)), .val (.int sx), .unset, .unset] [(.int (Int32.ofNat ti)), (.int (Int32.ofNat D.length))])) _
    refine XS.icmpYes X0.here hx rfl (pc0 := 25) (pc' := 150) rfl (hb hby d14_25) rfl (tlt (hgt : (Int32.ofNat ti) < (Int32.ofNat D.length))).2.2.1 (by decide) (by decide) ?_
    exact kt
  | succ n ih =>
    intro T0 h0 ar sx D locs cells slots X0 e0 N0 Z0 RV BA BR g_ar ne1 ne2 h1 h2 h3 h4 h5 hc hs
    by_cases hlt : D.length = ti + 1
    · have hgt : Int32.ofNat ti < Int32.ofNat D.length := by rw [own_lti, own_on (by omega), own_on (by omega)]; omega
      refine ⟨T0, h0, ar, sx, D, locs, (n + 1), X0.more (Nat.le_add_right _ _) (Nat.le_add_right _ _), e0, N0, RV, BA, BR, g_ar, ne1, ne2, Keep.refl _ _, Or.inl rfl, by omega, rfl, h1, h2, h5, fun target kt => ?_⟩
      show Steps p.tables e below (T0.setTop (mkF m 22 #[.val (.ref a1), .val (.int (Int32.ofNat ti)), .val (.ref b), .val (.ref ar), .val (.int (Int32.ofNat D.length)), .val (.int sx), .unset, .unset] [])) _
      refine XS.iload X0.here hx rfl (hb hby d14_22) rfl ?_
      show Steps p.tables e below (T0.setTop (mkF m 24 #[.val (.ref a1), .val (.int (Int32.ofNat ti)), .val (.ref b), .val (.ref ar), .val (.int (Int32.ofNat D.length)), .val (.int sx), .unset, .unset] [(.int (Int32.ofNat D.length))])) _
      refine XS.iloadN X0.here hx rfl (hb hby d14_24) rfl ?_
      show Steps p.tables e below (T0.setTop (mkF m 25 #[.val (.ref a1), .val (.int (Int32.ofNat ti)), .val (.ref b), .val (.ref ar), .val (.int (Int32.ofNat D.length)), .val (.int sx), .unset, .unset] [(.int (Int32.ofNat ti)), (.int (Int32.ofNat D.length))])) _
      refine XS.icmpYes X0.here hx rfl (pc0 := 25) (pc' := 150) rfl (hb hby d14_25) rfl (tlt (hgt : (Int32.ofNat ti) < (Int32.ofNat D.length))).2.2.1 (by decide) (by decide) ?_
      exact kt
    · have hle := hse.2.2
      have hngt : ¬ Int32.ofNat ti < Int32.ofNat D.length := by rw [own_lti, own_on (by omega), own_on (by omega)]; omega
      have hj := own_in4 h1 (by omega)
      have hi1 := own_i1 h1 (by omega)
      have hsl : sx < en := by rw [own_lti]; omega
      have hm8 := own_m8 hse h1
      obtain ⟨clx, Ar, -, Sz, Nz, Hv, -⟩ := id BA
      have hin := inb_of Sz hj
      have hat := Hv.at hin (own_get f hj)
      by_cases h124 : f sx = 124
      · obtain ⟨T106, X106, e106, st106⟩ := getF X0 hx hZ hown (host := "") (Or.inl (hw _ (List.mem_of_getElem? (i := 29) rfl))) Via.refl e0 RV.2.2.2.2.1 (g := (mkF m 31 #[.val (.ref a1), .val (.int (Int32.ofNat ti)), .val (.ref b), .val (.ref ar), .val (.int (Int32.ofNat D.length)), .val (.int sx), .unset, .unset] [(.ref a1), (.int sx)])) rfl rfl (hb hby d14_31)
        obtain ⟨T107, X107, e107, st107⟩ := getF X106 hx hZ hown (host := "") (Or.inl (hw _ (List.mem_of_getElem? (i := 29) rfl))) Via.refl e106 RV.2.2.2.2.1 (g := (mkF m 40 #[.val (.ref a1), .val (.int (Int32.ofNat ti)), .val (.ref b), .val (.ref ar), .val (.int (Int32.ofNat D.length)), .val (.int sx), .unset, .unset] [(.ref a1), (.int sx)])) rfl rfl (hb hby d14_40)
        obtain ⟨cq108, q108, q108'⟩ := RV.1.cell
        obtain ⟨_, _, ⟨T108, L108, k108, n108⟩, -, X108, ⟨Lc108, hQ108, l108, y108, z108⟩, st108⟩ := X107.privateBack hx (y := (⟨"com/example/concept_ledger/conceptledger/model/RowView", "room", "([III)[I"⟩ : MethodName)) hown (mvT hZ (hw _ (List.mem_of_getElem? (i := 78) rfl))) (mvT hZ (hw _ (List.mem_of_getElem? (i := 79) rfl))) (mvT hZ (own_selp (x := (⟨"com/example/concept_ledger/conceptledger/model/RowView", "set", "([BIIJ)V"⟩ : MethodName)) (y := (⟨"com/example/concept_ledger/conceptledger/model/RowView", "room", "([III)[I"⟩ : MethodName)) rfl (hw _ (List.mem_of_getElem? (i := 25) rfl)) (hw _ (List.mem_of_getElem? (i := 80) rfl)) (hw _ (List.mem_of_getElem? (i := 79) rfl)) (by decide))) (Cond.privateMethod_at (mvP hZ (hw _ (List.mem_of_getElem? (i := 80) rfl)) (args := #[]))) (mvT hZ (hw _ (List.mem_of_getElem? (i := 81) rfl))) (by decide) (backOf (W := 0) (rm15 l Z a0 hw [] a1 ar (Int32.ofNat D.length) (1 : Int32) b st en ln cn fo se D h0 n0 Z0 RV BR (by omega) rfl rfl g_a1 g_ar ne1) hZ (hw _ (List.mem_of_getElem? (i := 81) rfl)) (hw _ (List.mem_of_getElem? (i := 10) rfl)) (by decide) (by decide)) (g := (mkF m 131 #[.val (.ref a1), .val (.int (Int32.ofNat ti)), .val (.ref b), .val (.ref ar), .val (.int (Int32.ofNat D.length)), .val (.int sx), .unset, .unset] [(.int (1 : Int32)), (.int (Int32.ofNat D.length)), (.ref ar), (.ref a1)])) rfl (by rw [hml]; rfl) (Steps.refl _) (a := a1) (by rw [e107]; exact q108) q108' (argsL := [(.ref ar), (.int (Int32.ofNat D.length)), (.int (1 : Int32))]) (rest := []) (lenOf pd_4 rfl) rfl (by show 2 * 0 + _ ≤ _; exact Nat.le_of_eq rfl) (hb hby d14_131) (fun _ _ => ⟨rfl, e107, (show cells + 1 ≤ 4 by omega), (show slots + 4 ≤ 16 by omega)⟩)
        dsimp only [Pt.U, Pt.locs, Pt.cells, Pt.slots] at X108 l108 y108 z108 st108 hQ108
        subst l108 y108 z108
        obtain ⟨r108, rfl, N108q, Kc108, RVc108, RMc108, gr108, or108⟩ := hQ108
        have N108 := Fr.app N0 N108q
        have szr : T108.heap.size ≥ h0.size := Kc108.1
        have ne_a1_r108 : a1 ≠ r108 := by
          rcases or108 with q | q
          · rw [q]; exact ne1
          · exact Nat.ne_of_lt (Nat.lt_of_lt_of_le RV.1.lt q)
        have ne_b_r108 : b ≠ r108 := by
          rcases or108 with q | q
          · rw [q]; exact ne2
          · exact Nat.ne_of_lt (Nat.lt_of_lt_of_le BA.lt q)
        have BAc := BA.keep Kc108 (ninS (Ne.symm neab) nin0)
        have K108 : Keep h0 T108.heap [a1, ar] := (Keep.refl h0 [a1, ar]).trans Kc108 (allS (Or.inl (List.mem_of_getElem? (i := 0) rfl)) all0)
        have zz108 : n0 ≤ T108.heap.size := Nat.le_trans Z0 Kc108.1
        obtain ⟨kR, zR, vR, VR, hlR, hzR, hpR, hltR⟩ := RMc108
        obtain ⟨clR, ArR, qkR, SzR, NzR, HvR, GvR⟩ := id VR
        have hinR : ¬ (Int32.ofNat D.length < 0 ∨ clR.slots.size ≤ (Int32.ofNat D.length).toNatClampNeg) := inb_of SzR (own_idx hltR hlR (by omega))
        have g_r108 : n0 ≤ r108 := gr108
        have mem_r : r108 ∈ [a1, ar] ∨ h0.size ≤ r108 := by
          rcases or108 with q | q
          · exact Or.inl (by rw [q]; simp)
          · exact Or.inr q
        obtain ⟨T109, h109, X109, e109, W109, st109⟩ := stI X108 hx hZ rfl ArR (j := Int32.ofNat D.length) hinR (g := (mkF m 143 #[.val (.ref a1), .val (.int (Int32.ofNat ti)), .val (.ref b), .val (.ref r108), .val (.int ((Int32.ofNat D.length) + (1 : Int32))), .val (.int sx), .unset, .unset] [(.int sx), (.int (Int32.ofNat D.length)), (.ref r108)])) rfl rfl (hb hby d14_143)
        have BAc_109 := BAc.other W109 ne_b_r108
        have RVc108_2_1_109 := RVc108.2.1.other W109 (Or.inl ne_a1_r108)
        have RVc108_2_2_1_109 := RVc108.2.2.1.other W109 (Or.inl ne_a1_r108)
        have RVc108_2_2_2_1_109 := RVc108.2.2.2.1.other W109 (Or.inl ne_a1_r108)
        have RVc108_2_2_2_2_1_109 := RVc108.2.2.2.2.1.other W109 (Or.inl ne_a1_r108)
        have RVc108_2_2_2_2_2_1_109 := RVc108.2.2.2.2.2.1.other W109 (Or.inl ne_a1_r108)
        have RVc108_2_2_2_2_2_2_1_109 := RVc108.2.2.2.2.2.2.1.other W109 (Or.inl ne_a1_r108)
        have RVc108_2_2_2_2_2_2_2_1_109 := RVc108.2.2.2.2.2.2.2.1.other W109 (Or.inl ne_a1_r108)
        have RVc108_2_2_2_2_2_2_2_2_109 := RVc108.2.2.2.2.2.2.2.2.other W109 (Or.inl ne_a1_r108)
        have RVc108_1_109 := RVc108.1.wr W109
        have N109 := Fr.snoc X109 N108 g_r108
        have K109 : Keep h0 h109 [a1, ar] := K108.wr W109 mem_r
        have zz109 : n0 ≤ h109.size := Nat.le_trans zz108 (Keep.of_wr W109).1
        have VS := Arv.set ArR qkR SzR NzR HvR GvR (v := .int sx) rfl W109 D.length (own_onn (by omega)) (by rw [List.length_map]; exact hltR)
        rw [← List.map_set] at VS
        have BRn : own_Bars Z h109 r108 (D ++ [sx]) := ⟨kR, zR, vR.set D.length sx, VS, by rw [List.length_set]; exact hlR, hzR, own_pre hpR hltR⟩
        have eL := own_len1 D sx (by omega)
        have eP : own_ps f sx (n + 1) = sx :: own_ps f (sx + (1 : Int32)) n := by simp [own_ps, h124]
        have eA : D ++ own_ps f sx (n + 1) = (D ++ [sx]) ++ own_ps f (sx + (1 : Int32)) n := by rw [eP]; simp
        have lA : (D ++ [sx]).length = D.length + 1 := by simp
        have lP : (own_ps f sx (n + 1)).length = (own_ps f (sx + (1 : Int32)) n).length + 1 := by rw [eP]; rfl
        obtain ⟨T', h', ar', s', D', locs', n', X', e', N', RV', BA', BR', g', na', nb', K', or', hD', hP', hs0, hs1, hs2, st'⟩ := ih T109 h109 r108 (sx + (1 : Int32)) (D ++ [sx]) _ _ _ X109 e109 N109 zz109 ⟨RVc108_1_109, RVc108_2_1_109, RVc108_2_2_1_109, RVc108_2_2_2_1_109, RVc108_2_2_2_2_1_109, RVc108_2_2_2_2_2_1_109, RVc108_2_2_2_2_2_2_1_109, RVc108_2_2_2_2_2_2_2_1_109, RVc108_2_2_2_2_2_2_2_2_109⟩ BAc_109 BRn g_r108 ne_a1_r108 ne_b_r108 (by omega) (by omega) (by omega) (by omega) (by omega) (by omega) (by omega)
        have orn : ar' = ar ∨ h0.size ≤ ar' := by
          rcases or' with q | q
          · rw [q]; exact or108
          · exact Or.inr (Nat.le_trans K109.1 q)
        refine ⟨T', h', ar', s', D', locs', n', X'.more (by omega) (by omega), e', N', RV', BA', BR', g', na', nb', K109.trans K' (allS (Or.inl (List.mem_of_getElem? (i := 0) rfl)) (allS mem_r all0)), orn, hD', by rw [hP', eA], hs0, hs1, hs2, fun target kt => ?_⟩
        show Steps p.tables e below (T0.setTop (mkF m 22 #[.val (.ref a1), .val (.int (Int32.ofNat ti)), .val (.ref b), .val (.ref ar), .val (.int (Int32.ofNat D.length)), .val (.int sx), .unset, .unset] [])) _
        refine XS.iload X0.here hx rfl (hb hby d14_22) rfl ?_
        show Steps p.tables e below (T0.setTop (mkF m 24 #[.val (.ref a1), .val (.int (Int32.ofNat ti)), .val (.ref b), .val (.ref ar), .val (.int (Int32.ofNat D.length)), .val (.int sx), .unset, .unset] [(.int (Int32.ofNat D.length))])) _
        refine XS.iloadN X0.here hx rfl (hb hby d14_24) rfl ?_
        show Steps p.tables e below (T0.setTop (mkF m 25 #[.val (.ref a1), .val (.int (Int32.ofNat ti)), .val (.ref b), .val (.ref ar), .val (.int (Int32.ofNat D.length)), .val (.int sx), .unset, .unset] [(.int (Int32.ofNat ti)), (.int (Int32.ofNat D.length))])) _
        refine XS.icmpNo X0.here hx rfl (hb hby d14_25) rfl (flt (hngt : ¬ ((Int32.ofNat ti) < (Int32.ofNat D.length)))).2.2.1 ?_
        show Steps p.tables e below (T0.setTop (mkF m 28 #[.val (.ref a1), .val (.int (Int32.ofNat ti)), .val (.ref b), .val (.ref ar), .val (.int (Int32.ofNat D.length)), .val (.int sx), .unset, .unset] [])) _
        refine XS.iload X0.here hx rfl (hb hby d14_28) rfl ?_
        show Steps p.tables e below (T0.setTop (mkF m 30 #[.val (.ref a1), .val (.int (Int32.ofNat ti)), .val (.ref b), .val (.ref ar), .val (.int (Int32.ofNat D.length)), .val (.int sx), .unset, .unset] [(.int sx)])) _
        refine XS.aloadN X0.here hx rfl (hb hby d14_30) rfl rfl ?_
        show Steps p.tables e below (T0.setTop (mkF m 31 #[.val (.ref a1), .val (.int (Int32.ofNat ti)), .val (.ref b), .val (.ref ar), .val (.int (Int32.ofNat D.length)), .val (.int sx), .unset, .unset] [(.ref a1), (.int sx)])) _
        refine st106 _ ?_
        show Steps p.tables e below (T106.setTop (mkF m 34 #[.val (.ref a1), .val (.int (Int32.ofNat ti)), .val (.ref b), .val (.ref ar), .val (.int (Int32.ofNat D.length)), .val (.int sx), .unset, .unset] [(.int en), (.int sx)])) _
        refine XS.icmpNo X106.here hx rfl (hb hby d14_34) rfl (tlt (hsl : sx < en)).2.1 ?_
        show Steps p.tables e below (T106.setTop (mkF m 37 #[.val (.ref a1), .val (.int (Int32.ofNat ti)), .val (.ref b), .val (.ref ar), .val (.int (Int32.ofNat D.length)), .val (.int sx), .unset, .unset] [])) _
        refine XS.iload X106.here hx rfl (hb hby d14_37) rfl ?_
        show Steps p.tables e below (T106.setTop (mkF m 39 #[.val (.ref a1), .val (.int (Int32.ofNat ti)), .val (.ref b), .val (.ref ar), .val (.int (Int32.ofNat D.length)), .val (.int sx), .unset, .unset] [(.int sx)])) _
        refine XS.aloadN X106.here hx rfl (hb hby d14_39) rfl rfl ?_
        show Steps p.tables e below (T106.setTop (mkF m 40 #[.val (.ref a1), .val (.int (Int32.ofNat ti)), .val (.ref b), .val (.ref ar), .val (.int (Int32.ofNat D.length)), .val (.int sx), .unset, .unset] [(.ref a1), (.int sx)])) _
        refine st107 _ ?_
        show Steps p.tables e below (T107.setTop (mkF m 43 #[.val (.ref a1), .val (.int (Int32.ofNat ti)), .val (.ref b), .val (.ref ar), .val (.int (Int32.ofNat D.length)), .val (.int sx), .unset, .unset] [(.int en), (.int sx)])) _
        refine XS.bipush X107.here hx rfl (hb hby d14_43) ?_
        show Steps p.tables e below (T107.setTop (mkF m 45 #[.val (.ref a1), .val (.int (Int32.ofNat ti)), .val (.ref b), .val (.ref ar), .val (.int (Int32.ofNat D.length)), .val (.int sx), .unset, .unset] [(.int (8 : Int32)), (.int en), (.int sx)])) _
        refine XS.isub X107.here hx rfl (hb hby d14_45) rfl ?_
        show Steps p.tables e below (T107.setTop (mkF m 46 #[.val (.ref a1), .val (.int (Int32.ofNat ti)), .val (.ref b), .val (.ref ar), .val (.int (Int32.ofNat D.length)), .val (.int sx), .unset, .unset] [(.int (en - (8 : Int32))), (.int sx)])) _
        refine XS.icmpYes X107.here hx rfl (pc0 := 46) (pc' := 117) rfl (hb hby d14_46) rfl (tlt (hm8 : (en - (8 : Int32)) < sx)).2.2.1 (by decide) (by decide) ?_
        show Steps p.tables e below (T107.setTop (mkF m 117 #[.val (.ref a1), .val (.int (Int32.ofNat ti)), .val (.ref b), .val (.ref ar), .val (.int (Int32.ofNat D.length)), .val (.int sx), .unset, .unset] [])) _
        refine XS.aloadN X107.here hx rfl (hb hby d14_117) rfl rfl ?_
        show Steps p.tables e below (T107.setTop (mkF m 118 #[.val (.ref a1), .val (.int (Int32.ofNat ti)), .val (.ref b), .val (.ref ar), .val (.int (Int32.ofNat D.length)), .val (.int sx), .unset, .unset] [(.ref b)])) _
        refine XS.iload X107.here hx rfl (hb hby d14_118) rfl ?_
        show Steps p.tables e below (T107.setTop (mkF m 120 #[.val (.ref a1), .val (.int (Int32.ofNat ti)), .val (.ref b), .val (.ref ar), .val (.int (Int32.ofNat D.length)), .val (.int sx), .unset, .unset] [(.int sx), (.ref b)])) _
        refine X107.baloadBytes hx (j := sx) (v := (.int (f sx))) (by rw [e107]; exact Ar.1) (State.isArrayOf_alike hZ.alike Ar.2.1) Ar.2.2 hin hat (g := (mkF m 120 #[.val (.ref a1), .val (.int (Int32.ofNat ti)), .val (.ref b), .val (.ref ar), .val (.int (Int32.ofNat D.length)), .val (.int sx), .unset, .unset] [(.int sx), (.ref b)])) rfl rfl (hb hby d14_120) _ ?_
        show Steps p.tables e below (T107.setTop (mkF m 121 #[.val (.ref a1), .val (.int (Int32.ofNat ti)), .val (.ref b), .val (.ref ar), .val (.int (Int32.ofNat D.length)), .val (.int sx), .unset, .unset] [(.int (f sx))])) _
        refine XS.bipush X107.here hx rfl (hb hby d14_121) ?_
        show Steps p.tables e below (T107.setTop (mkF m 123 #[.val (.ref a1), .val (.int (Int32.ofNat ti)), .val (.ref b), .val (.ref ar), .val (.int (Int32.ofNat D.length)), .val (.int sx), .unset, .unset] [(.int (124 : Int32)), (.int (f sx))])) _
        refine XS.icmpNo X107.here hx rfl (hb hby d14_123) rfl (teq (h124 : (f sx) = (124 : Int32))).2 ?_
        show Steps p.tables e below (T107.setTop (mkF m 126 #[.val (.ref a1), .val (.int (Int32.ofNat ti)), .val (.ref b), .val (.ref ar), .val (.int (Int32.ofNat D.length)), .val (.int sx), .unset, .unset] [])) _
        refine XS.aloadN X107.here hx rfl (hb hby d14_126) rfl rfl ?_
        show Steps p.tables e below (T107.setTop (mkF m 127 #[.val (.ref a1), .val (.int (Int32.ofNat ti)), .val (.ref b), .val (.ref ar), .val (.int (Int32.ofNat D.length)), .val (.int sx), .unset, .unset] [(.ref a1)])) _
        refine XS.aloadN X107.here hx rfl (hb hby d14_127) rfl rfl ?_
        show Steps p.tables e below (T107.setTop (mkF m 128 #[.val (.ref a1), .val (.int (Int32.ofNat ti)), .val (.ref b), .val (.ref ar), .val (.int (Int32.ofNat D.length)), .val (.int sx), .unset, .unset] [(.ref ar), (.ref a1)])) _
        refine XS.iload X107.here hx rfl (hb hby d14_128) rfl ?_
        show Steps p.tables e below (T107.setTop (mkF m 130 #[.val (.ref a1), .val (.int (Int32.ofNat ti)), .val (.ref b), .val (.ref ar), .val (.int (Int32.ofNat D.length)), .val (.int sx), .unset, .unset] [(.int (Int32.ofNat D.length)), (.ref ar), (.ref a1)])) _
        refine XS.iconst X107.here hx rfl (hb hby d14_130) ?_
        show Steps p.tables e below (T107.setTop (mkF m 131 #[.val (.ref a1), .val (.int (Int32.ofNat ti)), .val (.ref b), .val (.ref ar), .val (.int (Int32.ofNat D.length)), .val (.int sx), .unset, .unset] [(.int (1 : Int32)), (.int (Int32.ofNat D.length)), (.ref ar), (.ref a1)])) _
        refine st108.trans ?_
        show Steps p.tables e below (T108.setTop (mkF m 134 #[.val (.ref a1), .val (.int (Int32.ofNat ti)), .val (.ref b), .val (.ref ar), .val (.int (Int32.ofNat D.length)), .val (.int sx), .unset, .unset] [(.ref r108)])) _
        refine XS.astoreN X108.here hx rfl (hb hby d14_134) rfl rfl (l' := #[.val (.ref a1), .val (.int (Int32.ofNat ti)), .val (.ref b), .val (.ref r108), .val (.int (Int32.ofNat D.length)), .val (.int sx), .unset, .unset]) rfl ?_
        show Steps p.tables e below (T108.setTop (mkF m 135 #[.val (.ref a1), .val (.int (Int32.ofNat ti)), .val (.ref b), .val (.ref r108), .val (.int (Int32.ofNat D.length)), .val (.int sx), .unset, .unset] [])) _
        refine XS.aloadN X108.here hx rfl (hb hby d14_135) rfl rfl ?_
        show Steps p.tables e below (T108.setTop (mkF m 136 #[.val (.ref a1), .val (.int (Int32.ofNat ti)), .val (.ref b), .val (.ref r108), .val (.int (Int32.ofNat D.length)), .val (.int sx), .unset, .unset] [(.ref r108)])) _
        refine XS.iload X108.here hx rfl (hb hby d14_136) rfl ?_
        show Steps p.tables e below (T108.setTop (mkF m 138 #[.val (.ref a1), .val (.int (Int32.ofNat ti)), .val (.ref b), .val (.ref r108), .val (.int (Int32.ofNat D.length)), .val (.int sx), .unset, .unset] [(.int (Int32.ofNat D.length)), (.ref r108)])) _
        refine XS.iinc X108.here hx rfl (hb hby d14_138) rfl (l' := #[.val (.ref a1), .val (.int (Int32.ofNat ti)), .val (.ref b), .val (.ref r108), .val (.int ((Int32.ofNat D.length) + (1 : Int32))), .val (.int sx), .unset, .unset]) rfl ?_
        show Steps p.tables e below (T108.setTop (mkF m 141 #[.val (.ref a1), .val (.int (Int32.ofNat ti)), .val (.ref b), .val (.ref r108), .val (.int ((Int32.ofNat D.length) + (1 : Int32))), .val (.int sx), .unset, .unset] [(.int (Int32.ofNat D.length)), (.ref r108)])) _
        refine XS.iload X108.here hx rfl (hb hby d14_141) rfl ?_
        show Steps p.tables e below (T108.setTop (mkF m 143 #[.val (.ref a1), .val (.int (Int32.ofNat ti)), .val (.ref b), .val (.ref r108), .val (.int ((Int32.ofNat D.length) + (1 : Int32))), .val (.int sx), .unset, .unset] [(.int sx), (.int (Int32.ofNat D.length)), (.ref r108)])) _
        refine st109 _ ?_
        show Steps p.tables e below (T109.setTop (mkF m 144 #[.val (.ref a1), .val (.int (Int32.ofNat ti)), .val (.ref b), .val (.ref r108), .val (.int ((Int32.ofNat D.length) + (1 : Int32))), .val (.int sx), .unset, .unset] [])) _
        refine XS.iinc X109.here hx rfl (hb hby d14_144) rfl (l' := #[.val (.ref a1), .val (.int (Int32.ofNat ti)), .val (.ref b), .val (.ref r108), .val (.int ((Int32.ofNat D.length) + (1 : Int32))), .val (.int (sx + (1 : Int32))), .unset, .unset]) rfl ?_
        show Steps p.tables e below (T109.setTop (mkF m 147 #[.val (.ref a1), .val (.int (Int32.ofNat ti)), .val (.ref b), .val (.ref r108), .val (.int ((Int32.ofNat D.length) + (1 : Int32))), .val (.int (sx + (1 : Int32))), .unset, .unset] [])) _
        refine XS.goto X109.here hx rfl (pc0 := 147) (pc' := 22) rfl (hb hby d14_147) (by decide) (by decide) ?_
        rw [eL]
        exact st' _ kt
      · obtain ⟨T110, X110, e110, st110⟩ := getF X0 hx hZ hown (host := "") (Or.inl (hw _ (List.mem_of_getElem? (i := 29) rfl))) Via.refl e0 RV.2.2.2.2.1 (g := (mkF m 31 #[.val (.ref a1), .val (.int (Int32.ofNat ti)), .val (.ref b), .val (.ref ar), .val (.int (Int32.ofNat D.length)), .val (.int sx), .unset, .unset] [(.ref a1), (.int sx)])) rfl rfl (hb hby d14_31)
        obtain ⟨T111, X111, e111, st111⟩ := getF X110 hx hZ hown (host := "") (Or.inl (hw _ (List.mem_of_getElem? (i := 29) rfl))) Via.refl e110 RV.2.2.2.2.1 (g := (mkF m 40 #[.val (.ref a1), .val (.int (Int32.ofNat ti)), .val (.ref b), .val (.ref ar), .val (.int (Int32.ofNat D.length)), .val (.int sx), .unset, .unset] [(.ref a1), (.int sx)])) rfl rfl (hb hby d14_40)
        have eP : own_ps f sx (n + 1) = own_ps f (sx + (1 : Int32)) n := by simp [own_ps, h124]
        have lP : (own_ps f sx (n + 1)).length = (own_ps f (sx + (1 : Int32)) n).length := by rw [eP]
        obtain ⟨T', h', ar', s', D', locs', n', X', e', N', RV', BA', BR', g', na', nb', K', or', hD', hP', hs0, hs1, hs2, st'⟩ := ih T111 h0 ar (sx + (1 : Int32)) D _ _ _ X111 e111 N0 Z0 RV BA BR g_ar ne1 ne2 (by omega) (by omega) (by omega) (by omega) (by omega) (by omega) (by omega)
        refine ⟨T', h', ar', s', D', locs', n', X'.more (by omega) (by omega), e', N', RV', BA', BR', g', na', nb', K', or', hD', by rw [hP', eP], hs0, hs1, hs2, fun target kt => ?_⟩
        show Steps p.tables e below (T0.setTop (mkF m 22 #[.val (.ref a1), .val (.int (Int32.ofNat ti)), .val (.ref b), .val (.ref ar), .val (.int (Int32.ofNat D.length)), .val (.int sx), .unset, .unset] [])) _
        refine XS.iload X0.here hx rfl (hb hby d14_22) rfl ?_
        show Steps p.tables e below (T0.setTop (mkF m 24 #[.val (.ref a1), .val (.int (Int32.ofNat ti)), .val (.ref b), .val (.ref ar), .val (.int (Int32.ofNat D.length)), .val (.int sx), .unset, .unset] [(.int (Int32.ofNat D.length))])) _
        refine XS.iloadN X0.here hx rfl (hb hby d14_24) rfl ?_
        show Steps p.tables e below (T0.setTop (mkF m 25 #[.val (.ref a1), .val (.int (Int32.ofNat ti)), .val (.ref b), .val (.ref ar), .val (.int (Int32.ofNat D.length)), .val (.int sx), .unset, .unset] [(.int (Int32.ofNat ti)), (.int (Int32.ofNat D.length))])) _
        refine XS.icmpNo X0.here hx rfl (hb hby d14_25) rfl (flt (hngt : ¬ ((Int32.ofNat ti) < (Int32.ofNat D.length)))).2.2.1 ?_
        show Steps p.tables e below (T0.setTop (mkF m 28 #[.val (.ref a1), .val (.int (Int32.ofNat ti)), .val (.ref b), .val (.ref ar), .val (.int (Int32.ofNat D.length)), .val (.int sx), .unset, .unset] [])) _
        refine XS.iload X0.here hx rfl (hb hby d14_28) rfl ?_
        show Steps p.tables e below (T0.setTop (mkF m 30 #[.val (.ref a1), .val (.int (Int32.ofNat ti)), .val (.ref b), .val (.ref ar), .val (.int (Int32.ofNat D.length)), .val (.int sx), .unset, .unset] [(.int sx)])) _
        refine XS.aloadN X0.here hx rfl (hb hby d14_30) rfl rfl ?_
        show Steps p.tables e below (T0.setTop (mkF m 31 #[.val (.ref a1), .val (.int (Int32.ofNat ti)), .val (.ref b), .val (.ref ar), .val (.int (Int32.ofNat D.length)), .val (.int sx), .unset, .unset] [(.ref a1), (.int sx)])) _
        refine st110 _ ?_
        show Steps p.tables e below (T110.setTop (mkF m 34 #[.val (.ref a1), .val (.int (Int32.ofNat ti)), .val (.ref b), .val (.ref ar), .val (.int (Int32.ofNat D.length)), .val (.int sx), .unset, .unset] [(.int en), (.int sx)])) _
        refine XS.icmpNo X110.here hx rfl (hb hby d14_34) rfl (tlt (hsl : sx < en)).2.1 ?_
        show Steps p.tables e below (T110.setTop (mkF m 37 #[.val (.ref a1), .val (.int (Int32.ofNat ti)), .val (.ref b), .val (.ref ar), .val (.int (Int32.ofNat D.length)), .val (.int sx), .unset, .unset] [])) _
        refine XS.iload X110.here hx rfl (hb hby d14_37) rfl ?_
        show Steps p.tables e below (T110.setTop (mkF m 39 #[.val (.ref a1), .val (.int (Int32.ofNat ti)), .val (.ref b), .val (.ref ar), .val (.int (Int32.ofNat D.length)), .val (.int sx), .unset, .unset] [(.int sx)])) _
        refine XS.aloadN X110.here hx rfl (hb hby d14_39) rfl rfl ?_
        show Steps p.tables e below (T110.setTop (mkF m 40 #[.val (.ref a1), .val (.int (Int32.ofNat ti)), .val (.ref b), .val (.ref ar), .val (.int (Int32.ofNat D.length)), .val (.int sx), .unset, .unset] [(.ref a1), (.int sx)])) _
        refine st111 _ ?_
        show Steps p.tables e below (T111.setTop (mkF m 43 #[.val (.ref a1), .val (.int (Int32.ofNat ti)), .val (.ref b), .val (.ref ar), .val (.int (Int32.ofNat D.length)), .val (.int sx), .unset, .unset] [(.int en), (.int sx)])) _
        refine XS.bipush X111.here hx rfl (hb hby d14_43) ?_
        show Steps p.tables e below (T111.setTop (mkF m 45 #[.val (.ref a1), .val (.int (Int32.ofNat ti)), .val (.ref b), .val (.ref ar), .val (.int (Int32.ofNat D.length)), .val (.int sx), .unset, .unset] [(.int (8 : Int32)), (.int en), (.int sx)])) _
        refine XS.isub X111.here hx rfl (hb hby d14_45) rfl ?_
        show Steps p.tables e below (T111.setTop (mkF m 46 #[.val (.ref a1), .val (.int (Int32.ofNat ti)), .val (.ref b), .val (.ref ar), .val (.int (Int32.ofNat D.length)), .val (.int sx), .unset, .unset] [(.int (en - (8 : Int32))), (.int sx)])) _
        refine XS.icmpYes X111.here hx rfl (pc0 := 46) (pc' := 117) rfl (hb hby d14_46) rfl (tlt (hm8 : (en - (8 : Int32)) < sx)).2.2.1 (by decide) (by decide) ?_
        show Steps p.tables e below (T111.setTop (mkF m 117 #[.val (.ref a1), .val (.int (Int32.ofNat ti)), .val (.ref b), .val (.ref ar), .val (.int (Int32.ofNat D.length)), .val (.int sx), .unset, .unset] [])) _
        refine XS.aloadN X111.here hx rfl (hb hby d14_117) rfl rfl ?_
        show Steps p.tables e below (T111.setTop (mkF m 118 #[.val (.ref a1), .val (.int (Int32.ofNat ti)), .val (.ref b), .val (.ref ar), .val (.int (Int32.ofNat D.length)), .val (.int sx), .unset, .unset] [(.ref b)])) _
        refine XS.iload X111.here hx rfl (hb hby d14_118) rfl ?_
        show Steps p.tables e below (T111.setTop (mkF m 120 #[.val (.ref a1), .val (.int (Int32.ofNat ti)), .val (.ref b), .val (.ref ar), .val (.int (Int32.ofNat D.length)), .val (.int sx), .unset, .unset] [(.int sx), (.ref b)])) _
        refine X111.baloadBytes hx (j := sx) (v := (.int (f sx))) (by rw [e111]; exact Ar.1) (State.isArrayOf_alike hZ.alike Ar.2.1) Ar.2.2 hin hat (g := (mkF m 120 #[.val (.ref a1), .val (.int (Int32.ofNat ti)), .val (.ref b), .val (.ref ar), .val (.int (Int32.ofNat D.length)), .val (.int sx), .unset, .unset] [(.int sx), (.ref b)])) rfl rfl (hb hby d14_120) _ ?_
        show Steps p.tables e below (T111.setTop (mkF m 121 #[.val (.ref a1), .val (.int (Int32.ofNat ti)), .val (.ref b), .val (.ref ar), .val (.int (Int32.ofNat D.length)), .val (.int sx), .unset, .unset] [(.int (f sx))])) _
        refine XS.bipush X111.here hx rfl (hb hby d14_121) ?_
        show Steps p.tables e below (T111.setTop (mkF m 123 #[.val (.ref a1), .val (.int (Int32.ofNat ti)), .val (.ref b), .val (.ref ar), .val (.int (Int32.ofNat D.length)), .val (.int sx), .unset, .unset] [(.int (124 : Int32)), (.int (f sx))])) _
        refine XS.icmpYes X111.here hx rfl (pc0 := 123) (pc' := 144) rfl (hb hby d14_123) rfl (feq (h124 : ¬ ((f sx) = (124 : Int32)))).2 (by decide) (by decide) ?_
        show Steps p.tables e below (T111.setTop (mkF m 144 #[.val (.ref a1), .val (.int (Int32.ofNat ti)), .val (.ref b), .val (.ref ar), .val (.int (Int32.ofNat D.length)), .val (.int sx), .unset, .unset] [])) _
        refine XS.iinc X111.here hx rfl (hb hby d14_144) rfl (l' := #[.val (.ref a1), .val (.int (Int32.ofNat ti)), .val (.ref b), .val (.ref ar), .val (.int (Int32.ofNat D.length)), .val (.int (sx + (1 : Int32))), .unset, .unset]) rfl ?_
        show Steps p.tables e below (T111.setTop (mkF m 147 #[.val (.ref a1), .val (.int (Int32.ofNat ti)), .val (.ref b), .val (.ref ar), .val (.int (Int32.ofNat D.length)), .val (.int (sx + (1 : Int32))), .unset, .unset] [])) _
        refine XS.goto X111.here hx rfl (pc0 := 147) (pc' := 22) rfl (hb hby d14_147) (by decide) (by decide) ?_
        exact st' _ kt
theorem ef_14 (m : MethodId) (x0 : Addr) (x1 : Int32) : entryFrame m #[(.ref x0), (.int x1)] 8 = mkF m 0 #[.val (.ref x0), .val (.int x1), .unset, .unset, .unset, .unset, .unset, .unset] [] := by first | (simp [entryFrame, mkF, argsToLocals, Value.category]; done) | rfl
def Q14 (Z : State) (a1 : Addr) (p2 : Int32) (b : Addr) (kb : ClassId) (f : Int32 → Int32) (ar : Addr) (st : Int32) (en : Int32) (ln : Int64) (cn : Int32) (se : Int32) (ti : Nat) (D : List Int32) (n : Nat) (h0 : Heap) (n0 : Nat) (v : Option Value) (h : Heap) (L : List Loc) : Prop := ∃ (ar' : Addr) (s' : Int32) (D' : List Int32) (n' : Nat), v = none ∧ Fr n0 L ∧ own_RV Z h a1 b ar' st en ln cn (Int32.ofNat D'.length) s' ∧ own_BA Z h b kb f ∧ own_Bars Z h ar' D' ∧ Keep h0 h [a1, ar] ∧ n0 ≤ ar' ∧ a1 ≠ ar' ∧ b ≠ ar' ∧ (ar' = ar ∨ h0.size ≤ ar') ∧ D'.length = ti + 1 ∧ D' ++ own_ps f s' n' = D ++ own_ps f se n ∧ 0 ≤ s'.toInt ∧ s'.toInt + n' = en.toInt ∧ D'.length + n' ≤ 4
set_option maxRecDepth 65536 in
set_option maxHeartbeats 40000000 in
theorem rm14 (l : Launch) (Z : State) (a0 : Array Value) (hw : ∀ d ∈ tables_1, d.before a0 Z = true) (ws : List Jvm.Cond) (a1 : Addr) (p2 : Int32) (b : Addr) (kb : ClassId) (f : Int32 → Int32) (ar : Addr) (st : Int32) (en : Int32) (ln : Int64) (cn : Int32) (se : Int32) (ti : Nat) (D : List Int32) (n : Nat) (h0 : Heap) (n0 : Nat) (Z0 : n0 ≤ h0.size) (hp2 : p2 = Int32.ofNat ti) (RV : own_RV Z h0 a1 b ar st en ln cn (Int32.ofNat D.length) se) (BA : own_BA Z h0 b kb f) (BR : own_Bars Z h0 ar D) (hse : own_se st en) (g_a1 : n0 ≤ a1) (g_ar : n0 ≤ ar) (neab : a1 ≠ b) (ne1 : a1 ≠ ar) (ne2 : b ≠ ar) (h1 : 0 ≤ se.toInt) (h2 : se.toInt + n = en.toInt) (h3 : D.length ≤ ti + 1) (h4 : ti + 1 ≤ D.length + (own_ps f se n).length) (h5 : D.length + n ≤ 4) :
    MetFree l (⟨"com/example/concept_ledger/conceptledger/model/RowView", "searchUntil", "(I)V"⟩ : MethodName) (head1 (Jvm.Cond.code (⟨"com/example/concept_ledger/conceptledger/model/RowView", "searchUntil", "(I)V"⟩ : MethodName) prog_35_method_28_code 8 none :: ws) ({ frames := 3, cells := 4, slots := 16, locals := 70 } : Room)) (fun a U => a = #[(.ref a1), (.int p2)] ∧ Z.Warmed39 U.vm ∧ U.heap = h0) (fun _ _ _ _ _ => True) (fun _ U o U' => ∃ v L, o = .returned v ∧ Q14 Z a1 p2 b kb f ar st en ln cn se ti D n h0 n0 v U'.heap L ∧ FrameEnd U o U' L ({ frames := 3, cells := 4, slots := 16, locals := 70 } : Room).cells ({ frames := 3, cells := 4, slots := 16, locals := 70 } : Room).slots) := by
  refine MetFree.of_bodySF (plainFor_of_name pn_1) hisR ?_
  intro p e s m args below meth c s₁ Bd hml0 hP hK
  obtain ⟨rfl, hZ, hh⟩ := hP
  have hx := Bd.exec
  have hby := Bd.bytes
  have hml : c.maxLocals = 8 := hml0
  have hown : s.vm.findClass "com/example/concept_ledger/conceptledger/model/RowView" = some m.cls := findClass_of_methodNamed Bd.named
  have hnm := (name_of_methodNamed Bd.named Bd.method).1
  have X0 : Stand p l e ({ frames := 3, cells := 4, slots := 16, locals := 70 } : Room) s m #[(.ref a1), (.int p2)] below meth c s₁ [] 0 0 := Stand.of_body Bd
  have e0 : s₁.heap = h0 := by rw [← hh, Bd.state]; rfl
  have N0 := Fr.nil n0
  have pre0 : ∀ t, Steps p.tables e below (s₁.setTop (mkF m 0 #[.val (.ref a1), .val (.int p2), .unset, .unset, .unset, .unset, .unset, .unset] [])) t → Steps p.tables e below (s₁.setTop (entryFrame m #[(.ref a1), (.int p2)] 8)) t := fun t k => castTop (ef_14 m a1 p2) k
  subst hp2
  obtain ⟨T112, X112, e112, st112⟩ := getF X0 hx hZ hown (host := "") (Or.inl (hw _ (List.mem_of_getElem? (i := 17) rfl))) Via.refl e0 RV.2.1 (g := (mkF m 1 #[.val (.ref a1), .val (.int (Int32.ofNat ti)), .unset, .unset, .unset, .unset, .unset, .unset] [(.ref a1)])) rfl rfl (hb hby d14_1)
  obtain ⟨T113, X113, e113, st113⟩ := getF X112 hx hZ hown (host := "") (Or.inl (hw _ (List.mem_of_getElem? (i := 20) rfl))) Via.refl e112 RV.2.2.1 (g := (mkF m 6 #[.val (.ref a1), .val (.int (Int32.ofNat ti)), .val (.ref b), .unset, .unset, .unset, .unset, .unset] [(.ref a1)])) rfl rfl (hb hby d14_6)
  obtain ⟨T114, X114, e114, st114⟩ := getF X113 hx hZ hown (host := "") (Or.inl (hw _ (List.mem_of_getElem? (i := 35) rfl))) Via.refl e113 RV.2.2.2.2.2.2.2.1 (g := (mkF m 11 #[.val (.ref a1), .val (.int (Int32.ofNat ti)), .val (.ref b), .val (.ref ar), .unset, .unset, .unset, .unset] [(.ref a1)])) rfl rfl (hb hby d14_11)
  obtain ⟨T115, X115, e115, st115⟩ := getF X114 hx hZ hown (host := "") (Or.inl (hw _ (List.mem_of_getElem? (i := 37) rfl))) Via.refl e114 RV.2.2.2.2.2.2.2.2 (g := (mkF m 17 #[.val (.ref a1), .val (.int (Int32.ofNat ti)), .val (.ref b), .val (.ref ar), .val (.int (Int32.ofNat D.length)), .unset, .unset, .unset] [(.ref a1)])) rfl rfl (hb hby d14_17)
  have fl116 : ∀ target, Steps p.tables e below (T115.setTop (mkF m 22 #[.val (.ref a1), .val (.int (Int32.ofNat ti)), .val (.ref b), .val (.ref ar), .val (.int (Int32.ofNat D.length)), .val (.int se), .unset, .unset] [])) target → Steps p.tables e below (s₁.setTop (mkF m 0 #[.val (.ref a1), .val (.int (Int32.ofNat ti)), .unset, .unset, .unset, .unset, .unset, .unset] [])) target := fun target kt => by
    show Steps p.tables e below (s₁.setTop (mkF m 0 #[.val (.ref a1), .val (.int (Int32.ofNat ti)), .unset, .unset, .unset, .unset, .unset, .unset] [])) _
    refine XS.aloadN X0.here hx rfl (hb hby d14_0) rfl rfl ?_
    show Steps p.tables e below (s₁.setTop (mkF m 1 #[.val (.ref a1), .val (.int (Int32.ofNat ti)), .unset, .unset, .unset, .unset, .unset, .unset] [(.ref a1)])) _
    refine st112 _ ?_
    show Steps p.tables e below (T112.setTop (mkF m 4 #[.val (.ref a1), .val (.int (Int32.ofNat ti)), .unset, .unset, .unset, .unset, .unset, .unset] [(.ref b)])) _
    refine XS.astoreN X112.here hx rfl (hb hby d14_4) rfl rfl (l' := #[.val (.ref a1), .val (.int (Int32.ofNat ti)), .val (.ref b), .unset, .unset, .unset, .unset, .unset]) rfl ?_
    show Steps p.tables e below (T112.setTop (mkF m 5 #[.val (.ref a1), .val (.int (Int32.ofNat ti)), .val (.ref b), .unset, .unset, .unset, .unset, .unset] [])) _
    refine XS.aloadN X112.here hx rfl (hb hby d14_5) rfl rfl ?_
    show Steps p.tables e below (T112.setTop (mkF m 6 #[.val (.ref a1), .val (.int (Int32.ofNat ti)), .val (.ref b), .unset, .unset, .unset, .unset, .unset] [(.ref a1)])) _
    refine st113 _ ?_
    show Steps p.tables e below (T113.setTop (mkF m 9 #[.val (.ref a1), .val (.int (Int32.ofNat ti)), .val (.ref b), .unset, .unset, .unset, .unset, .unset] [(.ref ar)])) _
    refine XS.astoreN X113.here hx rfl (hb hby d14_9) rfl rfl (l' := #[.val (.ref a1), .val (.int (Int32.ofNat ti)), .val (.ref b), .val (.ref ar), .unset, .unset, .unset, .unset]) rfl ?_
    show Steps p.tables e below (T113.setTop (mkF m 10 #[.val (.ref a1), .val (.int (Int32.ofNat ti)), .val (.ref b), .val (.ref ar), .unset, .unset, .unset, .unset] [])) _
    refine XS.aloadN X113.here hx rfl (hb hby d14_10) rfl rfl ?_
    show Steps p.tables e below (T113.setTop (mkF m 11 #[.val (.ref a1), .val (.int (Int32.ofNat ti)), .val (.ref b), .val (.ref ar), .unset, .unset, .unset, .unset] [(.ref a1)])) _
    refine st114 _ ?_
    show Steps p.tables e below (T114.setTop (mkF m 14 #[.val (.ref a1), .val (.int (Int32.ofNat ti)), .val (.ref b), .val (.ref ar), .unset, .unset, .unset, .unset] [(.int (Int32.ofNat D.length))])) _
    refine XS.istore X114.here hx rfl (hb hby d14_14) rfl (l' := #[.val (.ref a1), .val (.int (Int32.ofNat ti)), .val (.ref b), .val (.ref ar), .val (.int (Int32.ofNat D.length)), .unset, .unset, .unset]) rfl ?_
    show Steps p.tables e below (T114.setTop (mkF m 16 #[.val (.ref a1), .val (.int (Int32.ofNat ti)), .val (.ref b), .val (.ref ar), .val (.int (Int32.ofNat D.length)), .unset, .unset, .unset] [])) _
    refine XS.aloadN X114.here hx rfl (hb hby d14_16) rfl rfl ?_
    show Steps p.tables e below (T114.setTop (mkF m 17 #[.val (.ref a1), .val (.int (Int32.ofNat ti)), .val (.ref b), .val (.ref ar), .val (.int (Int32.ofNat D.length)), .unset, .unset, .unset] [(.ref a1)])) _
    refine st115 _ ?_
    show Steps p.tables e below (T115.setTop (mkF m 20 #[.val (.ref a1), .val (.int (Int32.ofNat ti)), .val (.ref b), .val (.ref ar), .val (.int (Int32.ofNat D.length)), .unset, .unset, .unset] [(.int se)])) _
    refine XS.istore X115.here hx rfl (hb hby d14_20) rfl (l' := #[.val (.ref a1), .val (.int (Int32.ofNat ti)), .val (.ref b), .val (.ref ar), .val (.int (Int32.ofNat D.length)), .val (.int se), .unset, .unset]) rfl ?_
    exact kt
  have hps := own_psle f n se
  obtain ⟨TL, hL, ar', s', D', locs', n', XL, eL, NL, RVL, BAL, BRL, gL, naL, nbL, KL, orL, hDL, hPL, hs0, hs1, hs2, stL⟩ := own_sul a1 b kb f st en ln cn (Int32.ofNat D.length) se ti hx hZ hw hby hml hown hse g_a1 neab (by omega) n T115 h0 ar se D [] 0 0 X115 e115 N0 Z0 RV BA BR g_ar ne1 ne2 h1 h2 h3 h4 h5 (by omega) (by omega)
  have XM := XL.more (cells' := 4) (slots' := 16) (by omega) (by omega)
  obtain ⟨T117, h117, X117, e117, W117, st117⟩ := putF XM hx hZ hown (host := "") (Or.inl (hw _ (List.mem_of_getElem? (i := 35) rfl))) Via.refl eL RVL.2.2.2.2.2.2.2.1 RVL.1 (Or.inl (hw _ (List.mem_of_getElem? (i := 36) rfl))) (hw _ (List.mem_of_getElem? (i := 9) rfl)) (ty := .int) (by decide) rfl rfl (g := (mkF m 153 #[.val (.ref a1), .val (.int (Int32.ofNat ti)), .val (.ref b), .val (.ref ar'), .val (.int (Int32.ofNat D'.length)), .val (.int s'), .unset, .unset] [(.int (Int32.ofNat D'.length)), (.ref a1)])) rfl rfl (hb hby d14_153)
  have Fw117 := RVL.2.2.2.2.2.2.2.1.same W117
  have RVL_1_117 := RVL.1.wr W117
  have RVL_2_1_117 := RVL.2.1.other W117 (Or.inr (slot_ne (Or.inl (hw _ (List.mem_of_getElem? (i := 18) rfl))) (Or.inl (hw _ (List.mem_of_getElem? (i := 36) rfl))) (by decide) (t := (.array .byte)) (t' := .int) (by decide) (by decide)))
  have RVL_2_2_1_117 := RVL.2.2.1.other W117 (Or.inr (slot_ne (Or.inl (hw _ (List.mem_of_getElem? (i := 21) rfl))) (Or.inl (hw _ (List.mem_of_getElem? (i := 36) rfl))) (by decide) (t := (.array .int)) (t' := .int) (by decide) (by decide)))
  have RVL_2_2_2_1_117 := RVL.2.2.2.1.other W117 (Or.inr (slot_ne (Or.inl (hw _ (List.mem_of_getElem? (i := 28) rfl))) (Or.inl (hw _ (List.mem_of_getElem? (i := 36) rfl))) (by decide) (t := .int) (t' := .int) (by decide) (by decide)))
  have RVL_2_2_2_2_1_117 := RVL.2.2.2.2.1.other W117 (Or.inr (slot_ne (Or.inl (hw _ (List.mem_of_getElem? (i := 30) rfl))) (Or.inl (hw _ (List.mem_of_getElem? (i := 36) rfl))) (by decide) (t := .int) (t' := .int) (by decide) (by decide)))
  have RVL_2_2_2_2_2_1_117 := RVL.2.2.2.2.2.1.other W117 (Or.inr (slot_ne (Or.inl (hw _ (List.mem_of_getElem? (i := 32) rfl))) (Or.inl (hw _ (List.mem_of_getElem? (i := 36) rfl))) (by decide) (t := .long) (t' := .int) (by decide) (by decide)))
  have RVL_2_2_2_2_2_2_1_117 := RVL.2.2.2.2.2.2.1.other W117 (Or.inr (slot_ne (Or.inl (hw _ (List.mem_of_getElem? (i := 34) rfl))) (Or.inl (hw _ (List.mem_of_getElem? (i := 36) rfl))) (by decide) (t := .int) (t' := .int) (by decide) (by decide)))
  have RVL_2_2_2_2_2_2_2_2_117 := RVL.2.2.2.2.2.2.2.2.other W117 (Or.inr (slot_ne (Or.inl (hw _ (List.mem_of_getElem? (i := 38) rfl))) (Or.inl (hw _ (List.mem_of_getElem? (i := 36) rfl))) (by decide) (t := .int) (t' := .int) (by decide) (by decide)))
  have BAL_117 := BAL.other W117 (Ne.symm neab)
  have BRL_117 := BRL.other W117 (Ne.symm naL)
  have N117 := Fr.snoc X117 NL g_a1
  have K117 : Keep h0 h117 [a1, ar] := KL.wr W117 (Or.inl (List.mem_of_getElem? (i := 0) rfl))
  have z117 : n0 ≤ h117.size := Nat.le_trans (Nat.le_trans Z0 KL.1) (Keep.of_wr W117).1
  obtain ⟨T118, h118, X118, e118, W118, st118⟩ := putF X117 hx hZ hown (host := "") (Or.inl (hw _ (List.mem_of_getElem? (i := 37) rfl))) Via.refl e117 RVL_2_2_2_2_2_2_2_2_117 RVL_1_117 (Or.inl (hw _ (List.mem_of_getElem? (i := 38) rfl))) (hw _ (List.mem_of_getElem? (i := 9) rfl)) (ty := .int) (by decide) rfl rfl (g := (mkF m 159 #[.val (.ref a1), .val (.int (Int32.ofNat ti)), .val (.ref b), .val (.ref ar'), .val (.int (Int32.ofNat D'.length)), .val (.int s'), .unset, .unset] [(.int s'), (.ref a1)])) rfl rfl (hb hby d14_159)
  have Fw118 := RVL_2_2_2_2_2_2_2_2_117.same W118
  have RVL_1_118 := RVL_1_117.wr W118
  have RVL_2_1_118 := RVL_2_1_117.other W118 (Or.inr (slot_ne (Or.inl (hw _ (List.mem_of_getElem? (i := 18) rfl))) (Or.inl (hw _ (List.mem_of_getElem? (i := 38) rfl))) (by decide) (t := (.array .byte)) (t' := .int) (by decide) (by decide)))
  have RVL_2_2_1_118 := RVL_2_2_1_117.other W118 (Or.inr (slot_ne (Or.inl (hw _ (List.mem_of_getElem? (i := 21) rfl))) (Or.inl (hw _ (List.mem_of_getElem? (i := 38) rfl))) (by decide) (t := (.array .int)) (t' := .int) (by decide) (by decide)))
  have RVL_2_2_2_1_118 := RVL_2_2_2_1_117.other W118 (Or.inr (slot_ne (Or.inl (hw _ (List.mem_of_getElem? (i := 28) rfl))) (Or.inl (hw _ (List.mem_of_getElem? (i := 38) rfl))) (by decide) (t := .int) (t' := .int) (by decide) (by decide)))
  have RVL_2_2_2_2_1_118 := RVL_2_2_2_2_1_117.other W118 (Or.inr (slot_ne (Or.inl (hw _ (List.mem_of_getElem? (i := 30) rfl))) (Or.inl (hw _ (List.mem_of_getElem? (i := 38) rfl))) (by decide) (t := .int) (t' := .int) (by decide) (by decide)))
  have RVL_2_2_2_2_2_1_118 := RVL_2_2_2_2_2_1_117.other W118 (Or.inr (slot_ne (Or.inl (hw _ (List.mem_of_getElem? (i := 32) rfl))) (Or.inl (hw _ (List.mem_of_getElem? (i := 38) rfl))) (by decide) (t := .long) (t' := .int) (by decide) (by decide)))
  have RVL_2_2_2_2_2_2_1_118 := RVL_2_2_2_2_2_2_1_117.other W118 (Or.inr (slot_ne (Or.inl (hw _ (List.mem_of_getElem? (i := 34) rfl))) (Or.inl (hw _ (List.mem_of_getElem? (i := 38) rfl))) (by decide) (t := .int) (t' := .int) (by decide) (by decide)))
  have BAL_118 := BAL_117.other W118 (Ne.symm neab)
  have BRL_118 := BRL_117.other W118 (Ne.symm naL)
  have Fw117_118 := Fw117.other W118 (Or.inr (slot_ne (Or.inl (hw _ (List.mem_of_getElem? (i := 36) rfl))) (Or.inl (hw _ (List.mem_of_getElem? (i := 38) rfl))) (by decide) (t := .int) (t' := .int) (by decide) (by decide)))
  have N118 := Fr.snoc X118 N117 g_a1
  have K118 : Keep h0 h118 [a1, ar] := K117.wr W118 (Or.inl (List.mem_of_getElem? (i := 0) rfl))
  have z118 : n0 ≤ h118.size := Nat.le_trans z117 (Keep.of_wr W118).1
  have fl119 : ∀ target, Steps p.tables e below (T118.setTop (mkF m 162 #[.val (.ref a1), .val (.int (Int32.ofNat ti)), .val (.ref b), .val (.ref ar'), .val (.int (Int32.ofNat D'.length)), .val (.int s'), .unset, .unset] [])) target → Steps p.tables e below (TL.setTop (mkF m 150 #[.val (.ref a1), .val (.int (Int32.ofNat ti)), .val (.ref b), .val (.ref ar'), .val (.int (Int32.ofNat D'.length)), .val (.int s'), .unset, .unset] [])) target := fun target kt => by
    show Steps p.tables e below (TL.setTop (mkF m 150 #[.val (.ref a1), .val (.int (Int32.ofNat ti)), .val (.ref b), .val (.ref ar'), .val (.int (Int32.ofNat D'.length)), .val (.int s'), .unset, .unset] [])) _
    refine XS.aloadN XM.here hx rfl (hb hby d14_150) rfl rfl ?_
    show Steps p.tables e below (TL.setTop (mkF m 151 #[.val (.ref a1), .val (.int (Int32.ofNat ti)), .val (.ref b), .val (.ref ar'), .val (.int (Int32.ofNat D'.length)), .val (.int s'), .unset, .unset] [(.ref a1)])) _
    refine XS.iload XM.here hx rfl (hb hby d14_151) rfl ?_
    show Steps p.tables e below (TL.setTop (mkF m 153 #[.val (.ref a1), .val (.int (Int32.ofNat ti)), .val (.ref b), .val (.ref ar'), .val (.int (Int32.ofNat D'.length)), .val (.int s'), .unset, .unset] [(.int (Int32.ofNat D'.length)), (.ref a1)])) _
    refine st117 _ ?_
    show Steps p.tables e below (T117.setTop (mkF m 156 #[.val (.ref a1), .val (.int (Int32.ofNat ti)), .val (.ref b), .val (.ref ar'), .val (.int (Int32.ofNat D'.length)), .val (.int s'), .unset, .unset] [])) _
    refine XS.aloadN X117.here hx rfl (hb hby d14_156) rfl rfl ?_
    show Steps p.tables e below (T117.setTop (mkF m 157 #[.val (.ref a1), .val (.int (Int32.ofNat ti)), .val (.ref b), .val (.ref ar'), .val (.int (Int32.ofNat D'.length)), .val (.int s'), .unset, .unset] [(.ref a1)])) _
    refine XS.iload X117.here hx rfl (hb hby d14_157) rfl ?_
    show Steps p.tables e below (T117.setTop (mkF m 159 #[.val (.ref a1), .val (.int (Int32.ofNat ti)), .val (.ref b), .val (.ref ar'), .val (.int (Int32.ofNat D'.length)), .val (.int s'), .unset, .unset] [(.int s'), (.ref a1)])) _
    refine st118 _ ?_
    exact kt
  obtain ⟨fs, hrt, hrun, hended, hW, hsame⟩ := X118.leave (v := none) (fun _ => rfl)
  refine ⟨_, _, pre0 _ (fl116 _ (stL _ (fl119 _ ?_))), hrun, hended, _, _, rfl, ?_, ⟨_, rfl⟩, hW, hsame.mono (by decide) (by decide)⟩
  · exact X118.returnOut hx Bd.returns (hb hby d14_162) hrt
  · show Q14 _ _ _ _ _ _ _ _ _ _ _ _ _ _ _ _ _ _ T118.heap _
    rw [e118]
    exact ⟨ar', s', D', n', rfl, N118, ⟨RVL_1_118, RVL_2_1_118, RVL_2_2_1_118, RVL_2_2_2_1_118, RVL_2_2_2_2_1_118, RVL_2_2_2_2_2_1_118, RVL_2_2_2_2_2_2_1_118, Fw117_118, Fw118⟩, BAL_118, BRL_118, K118, gL, naL, nbL, orL, hDL, hPL, hs0, hs1, hs2⟩
theorem ef_13 (m : MethodId) (x0 : Addr) (x1 : Int32) : entryFrame m #[(.ref x0), (.int x1)] 2 = mkF m 0 #[.val (.ref x0), .val (.int x1)] [] := by first | (simp [entryFrame, mkF, argsToLocals, Value.category]; done) | rfl
def Q13 (Z : State) (a1 : Addr) (p2 : Int32) (b : Addr) (kb : ClassId) (f : Int32 → Int32) (ar : Addr) (st : Int32) (en : Int32) (ln : Int64) (cn : Int32) (se : Int32) (ti : Nat) (D : List Int32) (n : Nat) (P : List Int32) (h0 : Heap) (n0 : Nat) (v : Option Value) (h : Heap) (L : List Loc) : Prop := ∃ (ar' : Addr) (s' : Int32) (D' : List Int32) (n' : Nat), v = some (.int (P.getD ti 0)) ∧ Fr n0 L ∧ own_RV Z h a1 b ar' st en ln cn (Int32.ofNat D'.length) s' ∧ own_BA Z h b kb f ∧ own_Bars Z h ar' D' ∧ Keep h0 h [a1, ar] ∧ n0 ≤ ar' ∧ a1 ≠ ar' ∧ b ≠ ar' ∧ (ar' = ar ∨ h0.size ≤ ar') ∧ D' ++ own_ps f s' n' = P ∧ 0 ≤ s'.toInt ∧ s'.toInt + n' = en.toInt ∧ D'.length + n' ≤ 4
set_option maxRecDepth 65536 in
set_option maxHeartbeats 40000000 in
theorem rm13 (l : Launch) (Z : State) (a0 : Array Value) (hw : ∀ d ∈ tables_1, d.before a0 Z = true) (ws : List Jvm.Cond) (a1 : Addr) (p2 : Int32) (b : Addr) (kb : ClassId) (f : Int32 → Int32) (ar : Addr) (st : Int32) (en : Int32) (ln : Int64) (cn : Int32) (se : Int32) (ti : Nat) (D : List Int32) (n : Nat) (P : List Int32) (h0 : Heap) (n0 : Nat) (Z0 : n0 ≤ h0.size) (hp2 : p2 = Int32.ofNat ti) (RV : own_RV Z h0 a1 b ar st en ln cn (Int32.ofNat D.length) se) (BA : own_BA Z h0 b kb f) (BR : own_Bars Z h0 ar D) (hse : own_se st en) (g_a1 : n0 ≤ a1) (g_ar : n0 ≤ ar) (neab : a1 ≠ b) (ne1 : a1 ≠ ar) (ne2 : b ≠ ar) (h1 : 0 ≤ se.toInt) (h2 : se.toInt + n = en.toInt) (h5 : D.length + n ≤ 4) (hP : D ++ own_ps f se n = P) (hti : ti < P.length) :
    MetFree l (⟨"com/example/concept_ledger/conceptledger/model/RowView", "bar", "(I)I"⟩ : MethodName) (head1 (Jvm.Cond.code (⟨"com/example/concept_ledger/conceptledger/model/RowView", "bar", "(I)I"⟩ : MethodName) prog_35_method_27_code 2 (some .int) :: ws) ({ frames := 4, cells := 4, slots := 16, locals := 89 } : Room)) (fun a U => a = #[(.ref a1), (.int p2)] ∧ Z.Warmed39 U.vm ∧ U.heap = h0) (fun _ _ _ _ _ => True) (fun _ U o U' => ∃ v L, o = .returned v ∧ Q13 Z a1 p2 b kb f ar st en ln cn se ti D n P h0 n0 v U'.heap L ∧ FrameEnd U o U' L ({ frames := 4, cells := 4, slots := 16, locals := 89 } : Room).cells ({ frames := 4, cells := 4, slots := 16, locals := 89 } : Room).slots) := by
  refine MetFree.of_bodySF (plainFor_of_name pn_1) hisR ?_
  intro p e s m args below meth c s₁ Bd hml0 hP hK
  obtain ⟨rfl, hZ, hh⟩ := hP
  have hx := Bd.exec
  have hby := Bd.bytes
  have hml : c.maxLocals = 2 := hml0
  have hown : s.vm.findClass "com/example/concept_ledger/conceptledger/model/RowView" = some m.cls := findClass_of_methodNamed Bd.named
  have hnm := (name_of_methodNamed Bd.named Bd.method).1
  have X0 : Stand p l e ({ frames := 4, cells := 4, slots := 16, locals := 89 } : Room) s m #[(.ref a1), (.int p2)] below meth c s₁ [] 0 0 := Stand.of_body Bd
  have e0 : s₁.heap = h0 := by rw [← hh, Bd.state]; rfl
  have N0 := Fr.nil n0
  have pre0 : ∀ t, Steps p.tables e below (s₁.setTop (mkF m 0 #[.val (.ref a1), .val (.int p2)] [])) t → Steps p.tables e below (s₁.setTop (entryFrame m #[(.ref a1), (.int p2)] 2)) t := fun t k => castTop (ef_13 m a1 p2) k
  subst hp2
  have hPl : P.length = D.length + (own_ps f se n).length := by rw [← hP, List.length_append]
  have hps := own_psle f n se
  obtain ⟨T120, X120, e120, st120⟩ := getF X0 hx hZ hown (host := "") (Or.inl (hw _ (List.mem_of_getElem? (i := 35) rfl))) Via.refl e0 RV.2.2.2.2.2.2.2.1 (g := (mkF m 2 #[.val (.ref a1), .val (.int (Int32.ofNat ti))] [(.ref a1), (.int (Int32.ofNat ti))])) rfl rfl (hb hby d13_2)
  by_cases hc : ti < D.length
  · obtain ⟨kR, zR, vR, VR, hlR, hzR, hpR⟩ := id BR
    have hlD := hpR.length_le
    obtain ⟨clR, ArR, -, SzR, NzR, HvR, -⟩ := id VR
    have hinR := inb_of SzR (own_idx (i := ti) (Nat.lt_of_lt_of_le hc hlD) hlR (by omega))
    have hatR := HvR.at (v := .int (P.getD ti 0)) hinR (by rw [own_onn (by omega)]; exact own_rd hpR hc hP)
    obtain ⟨T121, X121, e121, st121⟩ := getF X120 hx hZ hown (host := "") (Or.inl (hw _ (List.mem_of_getElem? (i := 20) rfl))) Via.refl e120 RV.2.2.1 (g := (mkF m 40 #[.val (.ref a1), .val (.int (Int32.ofNat ti))] [(.ref a1)])) rfl rfl (hb hby d13_40)
    have fl122 : ∀ target, Steps p.tables e below (T121.setTop (mkF m 45 #[.val (.ref a1), .val (.int (Int32.ofNat ti))] [(.int (P.getD ti 0))])) target → Steps p.tables e below (s₁.setTop (mkF m 0 #[.val (.ref a1), .val (.int (Int32.ofNat ti))] [])) target := fun target kt => by
      show Steps p.tables e below (s₁.setTop (mkF m 0 #[.val (.ref a1), .val (.int (Int32.ofNat ti))] [])) _
      refine XS.iloadN X0.here hx rfl (hb hby d13_0) rfl ?_
      show Steps p.tables e below (s₁.setTop (mkF m 1 #[.val (.ref a1), .val (.int (Int32.ofNat ti))] [(.int (Int32.ofNat ti))])) _
      refine XS.aloadN X0.here hx rfl (hb hby d13_1) rfl rfl ?_
      show Steps p.tables e below (s₁.setTop (mkF m 2 #[.val (.ref a1), .val (.int (Int32.ofNat ti))] [(.ref a1), (.int (Int32.ofNat ti))])) _
      refine st120 _ ?_
      show Steps p.tables e below (T120.setTop (mkF m 5 #[.val (.ref a1), .val (.int (Int32.ofNat ti))] [(.int (Int32.ofNat D.length)), (.int (Int32.ofNat ti))])) _
      refine XS.icmpYes X120.here hx rfl (pc0 := 5) (pc' := 39) rfl (hb hby d13_5) rfl (tlt (by rw [own_lti, own_on (by omega), own_on (by omega)]; omega : (Int32.ofNat ti) < (Int32.ofNat D.length))).1 (by decide) (by decide) ?_
      show Steps p.tables e below (T120.setTop (mkF m 39 #[.val (.ref a1), .val (.int (Int32.ofNat ti))] [])) _
      refine XS.aloadN X120.here hx rfl (hb hby d13_39) rfl rfl ?_
      show Steps p.tables e below (T120.setTop (mkF m 40 #[.val (.ref a1), .val (.int (Int32.ofNat ti))] [(.ref a1)])) _
      refine st121 _ ?_
      show Steps p.tables e below (T121.setTop (mkF m 43 #[.val (.ref a1), .val (.int (Int32.ofNat ti))] [(.ref ar)])) _
      refine XS.iloadN X121.here hx rfl (hb hby d13_43) rfl ?_
      show Steps p.tables e below (T121.setTop (mkF m 44 #[.val (.ref a1), .val (.int (Int32.ofNat ti))] [(.int (Int32.ofNat ti)), (.ref ar)])) _
      refine X121.iaload hx (j := (Int32.ofNat ti)) (v := (.int (P.getD ti 0))) (by rw [e121]; exact ArR.1) (State.isArrayOf_alike hZ.alike ArR.2.1) ArR.2.2 hinR hatR (g := (mkF m 44 #[.val (.ref a1), .val (.int (Int32.ofNat ti))] [(.int (Int32.ofNat ti)), (.ref ar)])) rfl rfl (hb hby d13_44) _ ?_
      exact kt
    obtain ⟨fs, hrt, hrun, hended, hW, hsame⟩ := X121.leave (v := some (.int (P.getD ti 0))) (fun h => by rw [Bd.returns] at h; cases h)
    refine ⟨_, _, pre0 _ (fl122 _ ?_), hrun, hended, _, _, rfl, ?_, ⟨_, rfl⟩, hW, hsame.mono (by decide) (by decide)⟩
    · exact retI X121 hx Bd.returns (hb hby d13_45) hrt
    · show Q13 _ _ _ _ _ _ _ _ _ _ _ _ _ _ _ _ _ _ _ T121.heap _
      rw [e121]
      exact ⟨ar, se, D, n, rfl, N0, RV, BA, BR, Keep.refl _ _, g_ar, ne1, ne2, Or.inl rfl, hP, h1, h2, h5⟩
  · obtain ⟨cq123, q123, q123'⟩ := RV.1.cell
    obtain ⟨_, _, ⟨T123, L123, k123, n123⟩, -, X123, ⟨Lc123, hQ123, l123, y123, z123⟩, st123⟩ := X120.privateBack hx (y := (⟨"com/example/concept_ledger/conceptledger/model/RowView", "searchUntil", "(I)V"⟩ : MethodName)) hown (mvT hZ (hw _ (List.mem_of_getElem? (i := 74) rfl))) (mvT hZ (hw _ (List.mem_of_getElem? (i := 75) rfl))) (mvT hZ (own_selp (x := (⟨"com/example/concept_ledger/conceptledger/model/RowView", "set", "([BIIJ)V"⟩ : MethodName)) (y := (⟨"com/example/concept_ledger/conceptledger/model/RowView", "searchUntil", "(I)V"⟩ : MethodName)) rfl (hw _ (List.mem_of_getElem? (i := 25) rfl)) (hw _ (List.mem_of_getElem? (i := 76) rfl)) (hw _ (List.mem_of_getElem? (i := 75) rfl)) (by decide))) (Cond.privateMethod_at (mvP hZ (hw _ (List.mem_of_getElem? (i := 76) rfl)) (args := #[]))) (mvT hZ (hw _ (List.mem_of_getElem? (i := 77) rfl))) (by decide) (backOf (W := 0) (rm14 l Z a0 hw [] a1 (Int32.ofNat ti) b kb f ar st en ln cn se ti D n h0 n0 Z0 rfl RV BA BR hse g_a1 g_ar neab ne1 ne2 h1 h2 (by omega) (by omega) h5) hZ (hw _ (List.mem_of_getElem? (i := 77) rfl)) (hw _ (List.mem_of_getElem? (i := 10) rfl)) (by decide) (by decide)) (g := (mkF m 10 #[.val (.ref a1), .val (.int (Int32.ofNat ti))] [(.int (Int32.ofNat ti)), (.ref a1)])) rfl (by rw [hml]; rfl) (Steps.refl _) (a := a1) (by rw [e120]; exact q123) q123' (argsL := [(.int (Int32.ofNat ti))]) (rest := []) (lenOf pd_5 rfl) rfl (by show 2 * 0 + _ ≤ _; exact Nat.le_of_eq rfl) (hb hby d13_10) (fun _ _ => ⟨rfl, e120, (by decide : 0 + 4 ≤ _), (by decide : 0 + 16 ≤ _)⟩)
    dsimp only [Pt.U, Pt.locs, Pt.cells, Pt.slots] at X123 l123 y123 z123 st123 hQ123
    subst l123 y123 z123
    obtain ⟨ar', s', D', n', rfl, N123q, RVL, BAL, BRL, KL, gL, naL, nbL, orL, hDL, hPL, hs0, hs1, hs2⟩ := hQ123
    have N123 := Fr.app N0 N123q
    obtain ⟨kR, zR, vR, VR, hlR, hzR, hpR⟩ := id BRL
    have hlD := hpR.length_le
    obtain ⟨clR, ArR, -, SzR, NzR, HvR, -⟩ := id VR
    have hinR := inb_of SzR (own_idx (i := ti) (by omega : ti < vR.length) hlR (by omega))
    have hatR := HvR.at (v := .int (P.getD ti 0)) hinR (by rw [own_onn (by omega)]; exact own_rd hpR (by omega) (hPL.trans hP))
    obtain ⟨T124, X124, e124, st124⟩ := getF X123 hx hZ hown (host := "") (Or.inl (hw _ (List.mem_of_getElem? (i := 35) rfl))) Via.refl rfl RVL.2.2.2.2.2.2.2.1 (g := (mkF m 15 #[.val (.ref a1), .val (.int (Int32.ofNat ti))] [(.ref a1), (.int (Int32.ofNat ti))])) rfl rfl (hb hby d13_15)
    obtain ⟨T125, X125, e125, st125⟩ := getF X124 hx hZ hown (host := "") (Or.inl (hw _ (List.mem_of_getElem? (i := 20) rfl))) Via.refl e124 RVL.2.2.1 (g := (mkF m 40 #[.val (.ref a1), .val (.int (Int32.ofNat ti))] [(.ref a1)])) rfl rfl (hb hby d13_40)
    have fl126 : ∀ target, Steps p.tables e below (T125.setTop (mkF m 45 #[.val (.ref a1), .val (.int (Int32.ofNat ti))] [(.int (P.getD ti 0))])) target → Steps p.tables e below (s₁.setTop (mkF m 0 #[.val (.ref a1), .val (.int (Int32.ofNat ti))] [])) target := fun target kt => by
      show Steps p.tables e below (s₁.setTop (mkF m 0 #[.val (.ref a1), .val (.int (Int32.ofNat ti))] [])) _
      refine XS.iloadN X0.here hx rfl (hb hby d13_0) rfl ?_
      show Steps p.tables e below (s₁.setTop (mkF m 1 #[.val (.ref a1), .val (.int (Int32.ofNat ti))] [(.int (Int32.ofNat ti))])) _
      refine XS.aloadN X0.here hx rfl (hb hby d13_1) rfl rfl ?_
      show Steps p.tables e below (s₁.setTop (mkF m 2 #[.val (.ref a1), .val (.int (Int32.ofNat ti))] [(.ref a1), (.int (Int32.ofNat ti))])) _
      refine st120 _ ?_
      show Steps p.tables e below (T120.setTop (mkF m 5 #[.val (.ref a1), .val (.int (Int32.ofNat ti))] [(.int (Int32.ofNat D.length)), (.int (Int32.ofNat ti))])) _
      refine XS.icmpNo X120.here hx rfl (hb hby d13_5) rfl (flt (by rw [own_lti, own_on (by omega), own_on (by omega)]; omega : ¬ ((Int32.ofNat ti) < (Int32.ofNat D.length)))).1 ?_
      show Steps p.tables e below (T120.setTop (mkF m 8 #[.val (.ref a1), .val (.int (Int32.ofNat ti))] [])) _
      refine XS.aloadN X120.here hx rfl (hb hby d13_8) rfl rfl ?_
      show Steps p.tables e below (T120.setTop (mkF m 9 #[.val (.ref a1), .val (.int (Int32.ofNat ti))] [(.ref a1)])) _
      refine XS.iloadN X120.here hx rfl (hb hby d13_9) rfl ?_
      show Steps p.tables e below (T120.setTop (mkF m 10 #[.val (.ref a1), .val (.int (Int32.ofNat ti))] [(.int (Int32.ofNat ti)), (.ref a1)])) _
      refine st123.trans ?_
      show Steps p.tables e below (T123.setTop (mkF m 13 #[.val (.ref a1), .val (.int (Int32.ofNat ti))] [])) _
      refine XS.iloadN X123.here hx rfl (hb hby d13_13) rfl ?_
      show Steps p.tables e below (T123.setTop (mkF m 14 #[.val (.ref a1), .val (.int (Int32.ofNat ti))] [(.int (Int32.ofNat ti))])) _
      refine XS.aloadN X123.here hx rfl (hb hby d13_14) rfl rfl ?_
      show Steps p.tables e below (T123.setTop (mkF m 15 #[.val (.ref a1), .val (.int (Int32.ofNat ti))] [(.ref a1), (.int (Int32.ofNat ti))])) _
      refine st124 _ ?_
      show Steps p.tables e below (T124.setTop (mkF m 18 #[.val (.ref a1), .val (.int (Int32.ofNat ti))] [(.int (Int32.ofNat D'.length)), (.int (Int32.ofNat ti))])) _
      refine XS.icmpYes X124.here hx rfl (pc0 := 18) (pc' := 39) rfl (hb hby d13_18) rfl (tlt (by rw [own_lti, own_on (by omega), own_on (by omega)]; omega : (Int32.ofNat ti) < (Int32.ofNat D'.length))).1 (by decide) (by decide) ?_
      show Steps p.tables e below (T124.setTop (mkF m 39 #[.val (.ref a1), .val (.int (Int32.ofNat ti))] [])) _
      refine XS.aloadN X124.here hx rfl (hb hby d13_39) rfl rfl ?_
      show Steps p.tables e below (T124.setTop (mkF m 40 #[.val (.ref a1), .val (.int (Int32.ofNat ti))] [(.ref a1)])) _
      refine st125 _ ?_
      show Steps p.tables e below (T125.setTop (mkF m 43 #[.val (.ref a1), .val (.int (Int32.ofNat ti))] [(.ref ar')])) _
      refine XS.iloadN X125.here hx rfl (hb hby d13_43) rfl ?_
      show Steps p.tables e below (T125.setTop (mkF m 44 #[.val (.ref a1), .val (.int (Int32.ofNat ti))] [(.int (Int32.ofNat ti)), (.ref ar')])) _
      refine X125.iaload hx (j := (Int32.ofNat ti)) (v := (.int (P.getD ti 0))) (by rw [e125]; exact ArR.1) (State.isArrayOf_alike hZ.alike ArR.2.1) ArR.2.2 hinR hatR (g := (mkF m 44 #[.val (.ref a1), .val (.int (Int32.ofNat ti))] [(.int (Int32.ofNat ti)), (.ref ar')])) rfl rfl (hb hby d13_44) _ ?_
      exact kt
    obtain ⟨fs, hrt, hrun, hended, hW, hsame⟩ := X125.leave (v := some (.int (P.getD ti 0))) (fun h => by rw [Bd.returns] at h; cases h)
    refine ⟨_, _, pre0 _ (fl126 _ ?_), hrun, hended, _, _, rfl, ?_, ⟨_, rfl⟩, hW, hsame.mono (by decide) (by decide)⟩
    · exact retI X125 hx Bd.returns (hb hby d13_45) hrt
    · show Q13 _ _ _ _ _ _ _ _ _ _ _ _ _ _ _ _ _ _ _ T125.heap _
      rw [e125]
      exact ⟨ar', s', D', n', rfl, N123, RVL, BAL, BRL, KL, gL, naL, nbL, orL, hPL.trans hP, hs0, hs1, hs2⟩
theorem ef_12 (m : MethodId) (x0 : Addr) (x1 : Int32) : entryFrame m #[(.ref x0), (.int x1)] 2 = mkF m 0 #[.val (.ref x0), .val (.int x1)] [] := by first | (simp [entryFrame, mkF, argsToLocals, Value.category]; done) | rfl
def Q12 (Z : State) (a1 : Addr) (p2 : Int32) (b : Addr) (kb : ClassId) (f : Int32 → Int32) (ar : Addr) (st : Int32) (en : Int32) (ln : Int64) (cn : Int32) (se : Int32) (ti : Nat) (D : List Int32) (n : Nat) (P : List Int32) (h0 : Heap) (n0 : Nat) (v : Option Value) (h : Heap) (L : List Loc) : Prop := ∃ (ar' : Addr) (s' : Int32) (D' : List Int32) (n' : Nat), v = some (.int (P.getD ti 0)) ∧ Fr n0 L ∧ own_RV Z h a1 b ar' st en ln cn (Int32.ofNat D'.length) s' ∧ own_BA Z h b kb f ∧ own_Bars Z h ar' D' ∧ Keep h0 h [a1, ar] ∧ n0 ≤ ar' ∧ a1 ≠ ar' ∧ b ≠ ar' ∧ (ar' = ar ∨ h0.size ≤ ar') ∧ D' ++ own_ps f s' n' = P ∧ 0 ≤ s'.toInt ∧ s'.toInt + n' = en.toInt ∧ D'.length + n' ≤ 4
set_option maxRecDepth 65536 in
set_option maxHeartbeats 40000000 in
theorem rm12 (l : Launch) (Z : State) (a0 : Array Value) (hw : ∀ d ∈ tables_1, d.before a0 Z = true) (ws : List Jvm.Cond) (a1 : Addr) (p2 : Int32) (b : Addr) (kb : ClassId) (f : Int32 → Int32) (ar : Addr) (st : Int32) (en : Int32) (ln : Int64) (cn : Int32) (se : Int32) (ti : Nat) (D : List Int32) (n : Nat) (P : List Int32) (h0 : Heap) (n0 : Nat) (Z0 : n0 ≤ h0.size) (hp2 : p2 = Int32.ofNat ti) (RV : own_RV Z h0 a1 b ar st en ln cn (Int32.ofNat D.length) se) (BA : own_BA Z h0 b kb f) (BR : own_Bars Z h0 ar D) (hse : own_se st en) (g_a1 : n0 ≤ a1) (g_ar : n0 ≤ ar) (neab : a1 ≠ b) (ne1 : a1 ≠ ar) (ne2 : b ≠ ar) (h1 : 0 ≤ se.toInt) (h2 : se.toInt + n = en.toInt) (h5 : D.length + n ≤ 4) (hP : D ++ own_ps f se n = P) (hti : ti < P.length) :
    MetFree l (⟨"com/example/concept_ledger/conceptledger/model/RowView", "fieldEnd", "(I)I"⟩ : MethodName) (head1 (Jvm.Cond.code (⟨"com/example/concept_ledger/conceptledger/model/RowView", "fieldEnd", "(I)I"⟩ : MethodName) prog_35_method_8_code 2 (some .int) :: ws) ({ frames := 5, cells := 4, slots := 16, locals := 102 } : Room)) (fun a U => a = #[(.ref a1), (.int p2)] ∧ Z.Warmed39 U.vm ∧ U.heap = h0) (fun _ _ _ _ _ => True) (fun _ U o U' => ∃ v L, o = .returned v ∧ Q12 Z a1 p2 b kb f ar st en ln cn se ti D n P h0 n0 v U'.heap L ∧ FrameEnd U o U' L ({ frames := 5, cells := 4, slots := 16, locals := 102 } : Room).cells ({ frames := 5, cells := 4, slots := 16, locals := 102 } : Room).slots) := by
  refine MetFree.of_bodySF (plainFor_of_name pn_1) hisR ?_
  intro p e s m args below meth c s₁ Bd hml0 hP hK
  obtain ⟨rfl, hZ, hh⟩ := hP
  have hx := Bd.exec
  have hby := Bd.bytes
  have hml : c.maxLocals = 2 := hml0
  have hown : s.vm.findClass "com/example/concept_ledger/conceptledger/model/RowView" = some m.cls := findClass_of_methodNamed Bd.named
  have hnm := (name_of_methodNamed Bd.named Bd.method).1
  have X0 : Stand p l e ({ frames := 5, cells := 4, slots := 16, locals := 102 } : Room) s m #[(.ref a1), (.int p2)] below meth c s₁ [] 0 0 := Stand.of_body Bd
  have e0 : s₁.heap = h0 := by rw [← hh, Bd.state]; rfl
  have N0 := Fr.nil n0
  have pre0 : ∀ t, Steps p.tables e below (s₁.setTop (mkF m 0 #[.val (.ref a1), .val (.int p2)] [])) t → Steps p.tables e below (s₁.setTop (entryFrame m #[(.ref a1), (.int p2)] 2)) t := fun t k => castTop (ef_12 m a1 p2) k
  obtain ⟨cq127, q127, q127'⟩ := RV.1.cell
  obtain ⟨_, _, ⟨T127, L127, k127, n127⟩, -, X127, ⟨Lc127, hQ127, l127, y127, z127⟩, st127⟩ := X0.privateBack hx (y := (⟨"com/example/concept_ledger/conceptledger/model/RowView", "bar", "(I)I"⟩ : MethodName)) hown (mvT hZ (hw _ (List.mem_of_getElem? (i := 70) rfl))) (mvT hZ (hw _ (List.mem_of_getElem? (i := 71) rfl))) (mvT hZ (own_selp (x := (⟨"com/example/concept_ledger/conceptledger/model/RowView", "set", "([BIIJ)V"⟩ : MethodName)) (y := (⟨"com/example/concept_ledger/conceptledger/model/RowView", "bar", "(I)I"⟩ : MethodName)) rfl (hw _ (List.mem_of_getElem? (i := 25) rfl)) (hw _ (List.mem_of_getElem? (i := 72) rfl)) (hw _ (List.mem_of_getElem? (i := 71) rfl)) (by decide))) (Cond.privateMethod_at (mvP hZ (hw _ (List.mem_of_getElem? (i := 72) rfl)) (args := #[]))) (mvT hZ (hw _ (List.mem_of_getElem? (i := 73) rfl))) (by decide) (backOf (W := 0) (rm13 l Z a0 hw [] a1 p2 b kb f ar st en ln cn se ti D n P h0 n0 Z0 hp2 RV BA BR hse g_a1 g_ar neab ne1 ne2 h1 h2 h5 hP hti) hZ (hw _ (List.mem_of_getElem? (i := 73) rfl)) (hw _ (List.mem_of_getElem? (i := 10) rfl)) (by decide) (by decide)) (g := (mkF m 2 #[.val (.ref a1), .val (.int p2)] [(.int p2), (.ref a1)])) rfl (by rw [hml]; rfl) (Steps.refl _) (a := a1) (by rw [e0]; exact q127) q127' (argsL := [(.int p2)]) (rest := []) (lenOf pd_6 rfl) rfl (by show 2 * 0 + _ ≤ _; exact Nat.le_of_eq rfl) (hb hby d12_2) (fun _ _ => ⟨rfl, e0, (by decide : 0 + 4 ≤ _), (by decide : 0 + 16 ≤ _)⟩)
  dsimp only [Pt.U, Pt.locs, Pt.cells, Pt.slots] at X127 l127 y127 z127 st127 hQ127
  subst l127 y127 z127
  obtain ⟨ar', s', D', n', rfl, N127q, RVL, BAL, BRL, KL, gL, naL, nbL, orL, hPL, hs0, hs1, hs2⟩ := hQ127
  have N127 := Fr.app N0 N127q
  have fl128 : ∀ target, Steps p.tables e below (T127.setTop (mkF m 5 #[.val (.ref a1), .val (.int p2)] [(.int (P.getD ti 0))])) target → Steps p.tables e below (s₁.setTop (mkF m 0 #[.val (.ref a1), .val (.int p2)] [])) target := fun target kt => by
    show Steps p.tables e below (s₁.setTop (mkF m 0 #[.val (.ref a1), .val (.int p2)] [])) _
    refine XS.aloadN X0.here hx rfl (hb hby d12_0) rfl rfl ?_
    show Steps p.tables e below (s₁.setTop (mkF m 1 #[.val (.ref a1), .val (.int p2)] [(.ref a1)])) _
    refine XS.iloadN X0.here hx rfl (hb hby d12_1) rfl ?_
    show Steps p.tables e below (s₁.setTop (mkF m 2 #[.val (.ref a1), .val (.int p2)] [(.int p2), (.ref a1)])) _
    refine st127.trans ?_
    exact kt
  obtain ⟨fs, hrt, hrun, hended, hW, hsame⟩ := X127.leave (v := some (.int (P.getD ti 0))) (fun h => by rw [Bd.returns] at h; cases h)
  refine ⟨_, _, pre0 _ (fl128 _ ?_), hrun, hended, _, _, rfl, ?_, ⟨_, rfl⟩, hW, hsame.mono (by decide) (by decide)⟩
  · exact retI X127 hx Bd.returns (hb hby d12_5) hrt
  · show Q12 _ _ _ _ _ _ _ _ _ _ _ _ _ _ _ _ _ _ _ T127.heap _
    exact ⟨ar', s', D', n', rfl, N127, RVL, BAL, BRL, KL, gL, naL, nbL, orL, hPL, hs0, hs1, hs2⟩
set_option maxRecDepth 65536 in
set_option maxHeartbeats 40000000 in
theorem own_p3 {p : Program} {l : Launch} {e : Env} {s : State} {m : MethodId} {args : Array Value} {below : List Frame} {meth : Method} {c : Code} {Z : State} {a0 : Array Value} {n0 : Nat} {T0 : State} {h0 : Heap} {locs : List Loc} (p1 : Int32) (p2 : Int32) (p3 : Int32) (p4 : Int32) (q5 : Int64) (q6 : Int64) (bx : Addr) (sm : Int32) (by_ : Addr) (ky : ClassId) (fy : Int32 → Int32) (st1 : Int32) (en1 : Int32) (st2 : Int32) (en2 : Int32) (a : Addr) (c1 : Int32) (b0 : Addr) (ar : Addr) (fo : Int32) (se : Int32) (D : List Int32) (X0 : Stand p l e room_1 s m args below meth c T0 locs 9 32) (hx : p.tables.exec = Jvm.exec) (hZ : Z.Warmed39 s.vm) (hw : ∀ d ∈ tables_1, d.before a0 Z = true) (hby : c.code = code) (hml : c.maxLocals = 20) (hown : s.vm.findClass "com/example/concept_ledger/conceptledger/model/RowViewSetPinLaw" = some m.cls) (e0 : T0.heap = h0) (N0 : Fr n0 locs) (Z0 : n0 ≤ h0.size) (RV : own_RV Z h0 a b0 ar st1 en1 q5 c1 fo se) (BR : own_Bars Z h0 ar D) (BA : own_BA Z h0 by_ ky fy) (hse : own_se st2 en2) (g_a : n0 ≤ a) (g_ar : n0 ≤ ar) (ne1 : a ≠ ar) (nea : a ≠ by_) (ne2 : by_ ≠ ar) :
    ∃ (T' : State) (Ls : Array Slot) (L' : List Loc), Stand p l e room_1 s m args below meth c T' L' 17 64 ∧ Fr n0 L' ∧ ∀ target, Steps p.tables e below (T'.setTop (mkF m 338 Ls [(.int (1 : Int32))])) target → Steps p.tables e below (T0.setTop (mkF m 174 #[.val (.int p1), .val (.int p2), .val (.int p3), .val (.int p4), .val (.long q5), .second, .val (.long q6), .second, .val (.ref bx), .val (.int sm), .val (.ref by_), .val (.int st1), .val (.int en1), .val (.int st2), .val (.int en2), .val (.ref a), .val (.int c1), .val (.int (1 : Int32)), .unset, .unset] [])) target := by
  obtain ⟨nn, hn, hn4⟩ := own_nn hse
  have nums := own_nums fy st2 en2 nn hse hn
  obtain ⟨cq129, kq129, q129a, q129b, q129c⟩ := isOf hZ e0 RV.1
  obtain ⟨_, _, ⟨T129, L129, k129, n129⟩, -, X129, ⟨Lc129, hQ129, l129, y129, z129⟩, st129⟩ := X0.virtualBack hx (y := (⟨"com/example/concept_ledger/conceptledger/model/RowView", "set", "([BIIJ)V"⟩ : MethodName)) (z := (⟨"com/example/concept_ledger/conceptledger/model/RowView", "set", "([BIIJ)V"⟩ : MethodName)) hown (mvT hZ (hw _ (List.mem_of_getElem? (i := 22) rfl))) (mvT hZ (hw _ (List.mem_of_getElem? (i := 23) rfl))) (notFace_of_selects (args := #[]) (mvT hZ (hw _ (List.mem_of_getElem? (i := 25) rfl)))) (mvT hZ (hw _ (List.mem_of_getElem? (i := 25) rfl))) (mvT hZ (hw _ (List.mem_of_getElem? (i := 24) rfl))) (by decide) (backOf (W := 0) (rm5 l Z a0 hw [] a by_ st2 en2 q6 b0 ar st1 en1 q5 c1 fo se h0 n0 Z0 RV g_a) hZ (hw _ (List.mem_of_getElem? (i := 26) rfl)) (hw _ (List.mem_of_getElem? (i := 10) rfl)) (by decide) (by decide)) q129a q129c (g := (mkF m 184 #[.val (.int p1), .val (.int p2), .val (.int p3), .val (.int p4), .val (.long q5), .second, .val (.long q6), .second, .val (.ref bx), .val (.int sm), .val (.ref by_), .val (.int st1), .val (.int en1), .val (.int st2), .val (.int en2), .val (.ref a), .val (.int c1), .val (.int (1 : Int32)), .unset, .unset] [(.long q6), (.int en2), (.int st2), (.ref by_), (.ref a)])) rfl (by rw [hml]; rfl) (Steps.refl _) (argsL := [(.ref by_), (.int st2), (.int en2), (.long q6)]) (rest := []) (lenOf pd_7 rfl) rfl (by show 2 * 0 + _ ≤ _; exact Nat.le_of_eq rfl) (hb hby at_184) (fun _ _ => ⟨rfl, e0, (by decide : 9 + 0 ≤ _), (by decide : 32 + 0 ≤ _)⟩)
  dsimp only [Pt.U, Pt.locs, Pt.cells, Pt.slots] at X129 l129 y129 z129 st129 hQ129
  subst l129 y129 z129
  obtain ⟨rfl, N129q, Kc129, RVs⟩ := hQ129
  have N129 := Fr.app N0 N129q
  have RV_1_129 := RV.1.keep Kc129
  have BA_129 := BA.keep Kc129 (ninS (Ne.symm nea) nin0)
  have BR_129 := BR.keep Kc129 (ninS (Ne.symm ne1) nin0)
  have K129 : Keep h0 T129.heap [a] := (Keep.refl h0 [a]).trans Kc129 (allS (Or.inl (List.mem_of_getElem? (i := 0) rfl)) (all0))
  have z129z : n0 ≤ T129.heap.size := Nat.le_trans Z0 Kc129.1
  obtain ⟨c2, hc2⟩ : ∃ z : Int32, z = own_cnt fy st2 en2 := ⟨_, rfl⟩
  obtain ⟨_, _, ⟨T130, L130, k130, n130⟩, -, X130, ⟨Lc130, hQ130, l130, y130, z130⟩, st130⟩ := Jvm.LawKit.callS X129 hx (y := (⟨"com/example/concept_ledger/conceptledger/model/RowViewSetPinLaw", "count", "([BII)I"⟩ : MethodName)) hown (mvT hZ (hw _ (List.mem_of_getElem? (i := 44) rfl))) (mvT hZ (hw _ (List.mem_of_getElem? (i := 45) rfl))) (mvT hZ (hw _ (List.mem_of_getElem? (i := 2) rfl))) (mvT hZ (hw _ (List.mem_of_getElem? (i := 46) rfl))) (by decide) (backOf (W := 0) (rm7 l Z a0 hw [] by_ st2 en2 ky fy c2 T129.heap n0 z129z BA_129 hc2) hZ (hw _ (List.mem_of_getElem? (i := 46) rfl)) (hw _ (List.mem_of_getElem? (i := 2) rfl)) (by decide) (by decide)) (g := (mkF m 193 #[.val (.int p1), .val (.int p2), .val (.int p3), .val (.int p4), .val (.long q5), .second, .val (.long q6), .second, .val (.ref bx), .val (.int sm), .val (.ref by_), .val (.int st1), .val (.int en1), .val (.int st2), .val (.int en2), .val (.ref a), .val (.int c1), .val (.int (1 : Int32)), .unset, .unset] [(.int en2), (.int st2), (.ref by_)])) rfl (by rw [hml]; rfl) (argsL := [(.ref by_), (.int st2), (.int en2)]) (rest := []) (lenOf pd_8 rfl) rfl (by show 2 * 0 + _ ≤ _; exact Nat.le_of_eq rfl) (hb hby at_193) (fun _ _ => ⟨rfl, rfl, (by decide : 9 + 0 ≤ _), (by decide : 32 + 0 ≤ _)⟩)
  dsimp only [Pt.U, Pt.locs, Pt.cells, Pt.slots] at X130 l130 y130 z130 st130 hQ130
  subst l130 y130 z130
  obtain ⟨rfl, N130q, he130⟩ := hQ130
  have N130 := Fr.app N129 N130q
  have Kc130 : Keep T129.heap T130.heap [] := by rw [he130]; exact Keep.refl _ _
  have RVs_1_130 := RVs.1.keep Kc130
  have BA_130 := BA_129.keep Kc130 nin0
  have BR_130 := BR_129.keep Kc130 nin0
  have K130 : Keep h0 T130.heap [a] := K129.trans Kc130 all0
  have z130z : n0 ≤ T130.heap.size := Nat.le_trans z129z Kc130.1
  have RV130 := RVs.keep Kc130 nin0
  have fl131 : ∀ target, Steps p.tables e below (T130.setTop (mkF m 198 #[.val (.int p1), .val (.int p2), .val (.int p3), .val (.int p4), .val (.long q5), .second, .val (.long q6), .second, .val (.ref bx), .val (.int sm), .val (.ref by_), .val (.int st1), .val (.int en1), .val (.int st2), .val (.int en2), .val (.ref a), .val (.int c1), .val (.int (1 : Int32)), .val (.int c2), .unset] [])) target → Steps p.tables e below (T0.setTop (mkF m 174 #[.val (.int p1), .val (.int p2), .val (.int p3), .val (.int p4), .val (.long q5), .second, .val (.long q6), .second, .val (.ref bx), .val (.int sm), .val (.ref by_), .val (.int st1), .val (.int en1), .val (.int st2), .val (.int en2), .val (.ref a), .val (.int c1), .val (.int (1 : Int32)), .unset, .unset] [])) target := fun target kt => by
    show Steps p.tables e below (T0.setTop (mkF m 174 #[.val (.int p1), .val (.int p2), .val (.int p3), .val (.int p4), .val (.long q5), .second, .val (.long q6), .second, .val (.ref bx), .val (.int sm), .val (.ref by_), .val (.int st1), .val (.int en1), .val (.int st2), .val (.int en2), .val (.ref a), .val (.int c1), .val (.int (1 : Int32)), .unset, .unset] [])) _
    refine XS.aload X0.here hx rfl (hb hby at_174) rfl rfl ?_
    show Steps p.tables e below (T0.setTop (mkF m 176 #[.val (.int p1), .val (.int p2), .val (.int p3), .val (.int p4), .val (.long q5), .second, .val (.long q6), .second, .val (.ref bx), .val (.int sm), .val (.ref by_), .val (.int st1), .val (.int en1), .val (.int st2), .val (.int en2), .val (.ref a), .val (.int c1), .val (.int (1 : Int32)), .unset, .unset] [(.ref a)])) _
    refine XS.aload X0.here hx rfl (hb hby at_176) rfl rfl ?_
    show Steps p.tables e below (T0.setTop (mkF m 178 #[.val (.int p1), .val (.int p2), .val (.int p3), .val (.int p4), .val (.long q5), .second, .val (.long q6), .second, .val (.ref bx), .val (.int sm), .val (.ref by_), .val (.int st1), .val (.int en1), .val (.int st2), .val (.int en2), .val (.ref a), .val (.int c1), .val (.int (1 : Int32)), .unset, .unset] [(.ref by_), (.ref a)])) _
    refine XS.iload X0.here hx rfl (hb hby at_178) rfl ?_
    show Steps p.tables e below (T0.setTop (mkF m 180 #[.val (.int p1), .val (.int p2), .val (.int p3), .val (.int p4), .val (.long q5), .second, .val (.long q6), .second, .val (.ref bx), .val (.int sm), .val (.ref by_), .val (.int st1), .val (.int en1), .val (.int st2), .val (.int en2), .val (.ref a), .val (.int c1), .val (.int (1 : Int32)), .unset, .unset] [(.int st2), (.ref by_), (.ref a)])) _
    refine XS.iload X0.here hx rfl (hb hby at_180) rfl ?_
    show Steps p.tables e below (T0.setTop (mkF m 182 #[.val (.int p1), .val (.int p2), .val (.int p3), .val (.int p4), .val (.long q5), .second, .val (.long q6), .second, .val (.ref bx), .val (.int sm), .val (.ref by_), .val (.int st1), .val (.int en1), .val (.int st2), .val (.int en2), .val (.ref a), .val (.int c1), .val (.int (1 : Int32)), .unset, .unset] [(.int en2), (.int st2), (.ref by_), (.ref a)])) _
    refine XS.lload X0.here hx rfl (hb hby at_182) rfl ?_
    show Steps p.tables e below (T0.setTop (mkF m 184 #[.val (.int p1), .val (.int p2), .val (.int p3), .val (.int p4), .val (.long q5), .second, .val (.long q6), .second, .val (.ref bx), .val (.int sm), .val (.ref by_), .val (.int st1), .val (.int en1), .val (.int st2), .val (.int en2), .val (.ref a), .val (.int c1), .val (.int (1 : Int32)), .unset, .unset] [(.long q6), (.int en2), (.int st2), (.ref by_), (.ref a)])) _
    refine st129.trans ?_
    show Steps p.tables e below (T129.setTop (mkF m 187 #[.val (.int p1), .val (.int p2), .val (.int p3), .val (.int p4), .val (.long q5), .second, .val (.long q6), .second, .val (.ref bx), .val (.int sm), .val (.ref by_), .val (.int st1), .val (.int en1), .val (.int st2), .val (.int en2), .val (.ref a), .val (.int c1), .val (.int (1 : Int32)), .unset, .unset] [])) _
    refine XS.aload X129.here hx rfl (hb hby at_187) rfl rfl ?_
    show Steps p.tables e below (T129.setTop (mkF m 189 #[.val (.int p1), .val (.int p2), .val (.int p3), .val (.int p4), .val (.long q5), .second, .val (.long q6), .second, .val (.ref bx), .val (.int sm), .val (.ref by_), .val (.int st1), .val (.int en1), .val (.int st2), .val (.int en2), .val (.ref a), .val (.int c1), .val (.int (1 : Int32)), .unset, .unset] [(.ref by_)])) _
    refine XS.iload X129.here hx rfl (hb hby at_189) rfl ?_
    show Steps p.tables e below (T129.setTop (mkF m 191 #[.val (.int p1), .val (.int p2), .val (.int p3), .val (.int p4), .val (.long q5), .second, .val (.long q6), .second, .val (.ref bx), .val (.int sm), .val (.ref by_), .val (.int st1), .val (.int en1), .val (.int st2), .val (.int en2), .val (.ref a), .val (.int c1), .val (.int (1 : Int32)), .unset, .unset] [(.int st2), (.ref by_)])) _
    refine XS.iload X129.here hx rfl (hb hby at_191) rfl ?_
    show Steps p.tables e below (T129.setTop (mkF m 193 #[.val (.int p1), .val (.int p2), .val (.int p3), .val (.int p4), .val (.long q5), .second, .val (.long q6), .second, .val (.ref bx), .val (.int sm), .val (.ref by_), .val (.int st1), .val (.int en1), .val (.int st2), .val (.int en2), .val (.ref a), .val (.int c1), .val (.int (1 : Int32)), .unset, .unset] [(.int en2), (.int st2), (.ref by_)])) _
    refine st130 _ ?_
    show Steps p.tables e below (T130.setTop (mkF m 196 #[.val (.int p1), .val (.int p2), .val (.int p3), .val (.int p4), .val (.long q5), .second, .val (.long q6), .second, .val (.ref bx), .val (.int sm), .val (.ref by_), .val (.int st1), .val (.int en1), .val (.int st2), .val (.int en2), .val (.ref a), .val (.int c1), .val (.int (1 : Int32)), .unset, .unset] [(.int c2)])) _
    refine XS.istore X130.here hx rfl (hb hby at_196) rfl (l' := #[.val (.int p1), .val (.int p2), .val (.int p3), .val (.int p4), .val (.long q5), .second, .val (.long q6), .second, .val (.ref bx), .val (.int sm), .val (.ref by_), .val (.int st1), .val (.int en1), .val (.int st2), .val (.int en2), .val (.ref a), .val (.int c1), .val (.int (1 : Int32)), .val (.int c2), .unset]) rfl ?_
    exact kt
  obtain ⟨tm, htm⟩ : ∃ z : Int32, z = own_trm fy st2 en2 := ⟨_, rfl⟩
  obtain ⟨clx, Ar, -, Sz, Nz, Hv, -⟩ := id BA_130
  have fl132 : ∀ target, Steps p.tables e below (T130.setTop (mkF m 224 #[.val (.int p1), .val (.int p2), .val (.int p3), .val (.int p4), .val (.long q5), .second, .val (.long q6), .second, .val (.ref bx), .val (.int sm), .val (.ref by_), .val (.int st1), .val (.int en1), .val (.int st2), .val (.int en2), .val (.ref a), .val (.int c1), .val (.int (1 : Int32)), .val (.int c2), .val (.int tm)] [])) target → Steps p.tables e below (T130.setTop (mkF m 198 #[.val (.int p1), .val (.int p2), .val (.int p3), .val (.int p4), .val (.long q5), .second, .val (.long q6), .second, .val (.ref bx), .val (.int sm), .val (.ref by_), .val (.int st1), .val (.int en1), .val (.int st2), .val (.int en2), .val (.ref a), .val (.int c1), .val (.int (1 : Int32)), .val (.int c2), .unset] [])) target := by
    intro target kt
    rcases own_tc fy st2 en2 with hc | ⟨hc, h1⟩ | ⟨hc, h1⟩
    · have q : tm = 0 := by rw [htm]; exact if_neg (fun u => hc u.1)
      show Steps p.tables e below (T130.setTop (mkF m 198 #[.val (.int p1), .val (.int p2), .val (.int p3), .val (.int p4), .val (.long q5), .second, .val (.long q6), .second, .val (.ref bx), .val (.int sm), .val (.ref by_), .val (.int st1), .val (.int en1), .val (.int st2), .val (.int en2), .val (.ref a), .val (.int c1), .val (.int (1 : Int32)), .val (.int c2), .unset] [])) _
      refine XS.iload X130.here hx rfl (hb hby at_198) rfl ?_
      show Steps p.tables e below (T130.setTop (mkF m 200 #[.val (.int p1), .val (.int p2), .val (.int p3), .val (.int p4), .val (.long q5), .second, .val (.long q6), .second, .val (.ref bx), .val (.int sm), .val (.ref by_), .val (.int st1), .val (.int en1), .val (.int st2), .val (.int en2), .val (.ref a), .val (.int c1), .val (.int (1 : Int32)), .val (.int c2), .unset] [(.int en2)])) _
      refine XS.iload X130.here hx rfl (hb hby at_200) rfl ?_
      show Steps p.tables e below (T130.setTop (mkF m 202 #[.val (.int p1), .val (.int p2), .val (.int p3), .val (.int p4), .val (.long q5), .second, .val (.long q6), .second, .val (.ref bx), .val (.int sm), .val (.ref by_), .val (.int st1), .val (.int en1), .val (.int st2), .val (.int en2), .val (.ref a), .val (.int c1), .val (.int (1 : Int32)), .val (.int c2), .unset] [(.int st2), (.int en2)])) _
      refine XS.icmpYes X130.here hx rfl (pc0 := 202) (pc' := 221) rfl (hb hby at_202) rfl (flt (hc : ¬ (st2 < en2))).2.2.2 (by decide) (by decide) ?_
      show Steps p.tables e below (T130.setTop (mkF m 221 #[.val (.int p1), .val (.int p2), .val (.int p3), .val (.int p4), .val (.long q5), .second, .val (.long q6), .second, .val (.ref bx), .val (.int sm), .val (.ref by_), .val (.int st1), .val (.int en1), .val (.int st2), .val (.int en2), .val (.ref a), .val (.int c1), .val (.int (1 : Int32)), .val (.int c2), .unset] [])) _
      refine XS.iconst X130.here hx rfl (hb hby at_221) ?_
      show Steps p.tables e below (T130.setTop (mkF m 222 #[.val (.int p1), .val (.int p2), .val (.int p3), .val (.int p4), .val (.long q5), .second, .val (.long q6), .second, .val (.ref bx), .val (.int sm), .val (.ref by_), .val (.int st1), .val (.int en1), .val (.int st2), .val (.int en2), .val (.ref a), .val (.int c1), .val (.int (1 : Int32)), .val (.int c2), .unset] [(.int (0 : Int32))])) _
      refine XS.istore X130.here hx rfl (hb hby at_222) rfl (l' := #[.val (.int p1), .val (.int p2), .val (.int p3), .val (.int p4), .val (.long q5), .second, .val (.long q6), .second, .val (.ref bx), .val (.int sm), .val (.ref by_), .val (.int st1), .val (.int en1), .val (.int st2), .val (.int en2), .val (.ref a), .val (.int c1), .val (.int (1 : Int32)), .val (.int c2), .val (.int (0 : Int32))]) rfl ?_
      rw [q] at kt
      exact kt
    · have hj := own_em1 hse hc
      have hin := inb_of Sz hj
      have hat := Hv.at hin (own_get fy hj)
      have q : tm = 1 := by rw [htm]; exact if_pos ⟨hc, h1⟩
      show Steps p.tables e below (T130.setTop (mkF m 198 #[.val (.int p1), .val (.int p2), .val (.int p3), .val (.int p4), .val (.long q5), .second, .val (.long q6), .second, .val (.ref bx), .val (.int sm), .val (.ref by_), .val (.int st1), .val (.int en1), .val (.int st2), .val (.int en2), .val (.ref a), .val (.int c1), .val (.int (1 : Int32)), .val (.int c2), .unset] [])) _
      refine XS.iload X130.here hx rfl (hb hby at_198) rfl ?_
      show Steps p.tables e below (T130.setTop (mkF m 200 #[.val (.int p1), .val (.int p2), .val (.int p3), .val (.int p4), .val (.long q5), .second, .val (.long q6), .second, .val (.ref bx), .val (.int sm), .val (.ref by_), .val (.int st1), .val (.int en1), .val (.int st2), .val (.int en2), .val (.ref a), .val (.int c1), .val (.int (1 : Int32)), .val (.int c2), .unset] [(.int en2)])) _
      refine XS.iload X130.here hx rfl (hb hby at_200) rfl ?_
      show Steps p.tables e below (T130.setTop (mkF m 202 #[.val (.int p1), .val (.int p2), .val (.int p3), .val (.int p4), .val (.long q5), .second, .val (.long q6), .second, .val (.ref bx), .val (.int sm), .val (.ref by_), .val (.int st1), .val (.int en1), .val (.int st2), .val (.int en2), .val (.ref a), .val (.int c1), .val (.int (1 : Int32)), .val (.int c2), .unset] [(.int st2), (.int en2)])) _
      refine XS.icmpNo X130.here hx rfl (hb hby at_202) rfl (tlt (hc : st2 < en2)).2.2.2 ?_
      show Steps p.tables e below (T130.setTop (mkF m 205 #[.val (.int p1), .val (.int p2), .val (.int p3), .val (.int p4), .val (.long q5), .second, .val (.long q6), .second, .val (.ref bx), .val (.int sm), .val (.ref by_), .val (.int st1), .val (.int en1), .val (.int st2), .val (.int en2), .val (.ref a), .val (.int c1), .val (.int (1 : Int32)), .val (.int c2), .unset] [])) _
      refine XS.aload X130.here hx rfl (hb hby at_205) rfl rfl ?_
      show Steps p.tables e below (T130.setTop (mkF m 207 #[.val (.int p1), .val (.int p2), .val (.int p3), .val (.int p4), .val (.long q5), .second, .val (.long q6), .second, .val (.ref bx), .val (.int sm), .val (.ref by_), .val (.int st1), .val (.int en1), .val (.int st2), .val (.int en2), .val (.ref a), .val (.int c1), .val (.int (1 : Int32)), .val (.int c2), .unset] [(.ref by_)])) _
      refine XS.iload X130.here hx rfl (hb hby at_207) rfl ?_
      show Steps p.tables e below (T130.setTop (mkF m 209 #[.val (.int p1), .val (.int p2), .val (.int p3), .val (.int p4), .val (.long q5), .second, .val (.long q6), .second, .val (.ref bx), .val (.int sm), .val (.ref by_), .val (.int st1), .val (.int en1), .val (.int st2), .val (.int en2), .val (.ref a), .val (.int c1), .val (.int (1 : Int32)), .val (.int c2), .unset] [(.int en2), (.ref by_)])) _
      refine XS.iconst X130.here hx rfl (hb hby at_209) ?_
      show Steps p.tables e below (T130.setTop (mkF m 210 #[.val (.int p1), .val (.int p2), .val (.int p3), .val (.int p4), .val (.long q5), .second, .val (.long q6), .second, .val (.ref bx), .val (.int sm), .val (.ref by_), .val (.int st1), .val (.int en1), .val (.int st2), .val (.int en2), .val (.ref a), .val (.int c1), .val (.int (1 : Int32)), .val (.int c2), .unset] [(.int (1 : Int32)), (.int en2), (.ref by_)])) _
      refine XS.isub X130.here hx rfl (hb hby at_210) rfl ?_
      show Steps p.tables e below (T130.setTop (mkF m 211 #[.val (.int p1), .val (.int p2), .val (.int p3), .val (.int p4), .val (.long q5), .second, .val (.long q6), .second, .val (.ref bx), .val (.int sm), .val (.ref by_), .val (.int st1), .val (.int en1), .val (.int st2), .val (.int en2), .val (.ref a), .val (.int c1), .val (.int (1 : Int32)), .val (.int c2), .unset] [(.int (en2 - (1 : Int32))), (.ref by_)])) _
      refine X130.baloadBytes hx (j := (en2 - (1 : Int32))) (v := (.int (fy (en2 - (1 : Int32))))) Ar.1 (State.isArrayOf_alike hZ.alike Ar.2.1) Ar.2.2 hin hat (g := (mkF m 211 #[.val (.int p1), .val (.int p2), .val (.int p3), .val (.int p4), .val (.long q5), .second, .val (.long q6), .second, .val (.ref bx), .val (.int sm), .val (.ref by_), .val (.int st1), .val (.int en1), .val (.int st2), .val (.int en2), .val (.ref a), .val (.int c1), .val (.int (1 : Int32)), .val (.int c2), .unset] [(.int (en2 - (1 : Int32))), (.ref by_)])) rfl rfl (hb hby at_211) _ ?_
      show Steps p.tables e below (T130.setTop (mkF m 212 #[.val (.int p1), .val (.int p2), .val (.int p3), .val (.int p4), .val (.long q5), .second, .val (.long q6), .second, .val (.ref bx), .val (.int sm), .val (.ref by_), .val (.int st1), .val (.int en1), .val (.int st2), .val (.int en2), .val (.ref a), .val (.int c1), .val (.int (1 : Int32)), .val (.int c2), .unset] [(.int (fy (en2 - (1 : Int32))))])) _
      refine XS.bipush X130.here hx rfl (hb hby at_212) ?_
      show Steps p.tables e below (T130.setTop (mkF m 214 #[.val (.int p1), .val (.int p2), .val (.int p3), .val (.int p4), .val (.long q5), .second, .val (.long q6), .second, .val (.ref bx), .val (.int sm), .val (.ref by_), .val (.int st1), .val (.int en1), .val (.int st2), .val (.int en2), .val (.ref a), .val (.int c1), .val (.int (1 : Int32)), .val (.int c2), .unset] [(.int (124 : Int32)), (.int (fy (en2 - (1 : Int32))))])) _
      refine XS.icmpNo X130.here hx rfl (hb hby at_214) rfl (teq (h1 : (fy (en2 - (1 : Int32))) = (124 : Int32))).2 ?_
      show Steps p.tables e below (T130.setTop (mkF m 217 #[.val (.int p1), .val (.int p2), .val (.int p3), .val (.int p4), .val (.long q5), .second, .val (.long q6), .second, .val (.ref bx), .val (.int sm), .val (.ref by_), .val (.int st1), .val (.int en1), .val (.int st2), .val (.int en2), .val (.ref a), .val (.int c1), .val (.int (1 : Int32)), .val (.int c2), .unset] [])) _
      refine XS.iconst X130.here hx rfl (hb hby at_217) ?_
      show Steps p.tables e below (T130.setTop (mkF m 218 #[.val (.int p1), .val (.int p2), .val (.int p3), .val (.int p4), .val (.long q5), .second, .val (.long q6), .second, .val (.ref bx), .val (.int sm), .val (.ref by_), .val (.int st1), .val (.int en1), .val (.int st2), .val (.int en2), .val (.ref a), .val (.int c1), .val (.int (1 : Int32)), .val (.int c2), .unset] [(.int (1 : Int32))])) _
      refine XS.goto X130.here hx rfl (pc0 := 218) (pc' := 222) rfl (hb hby at_218) (by decide) (by decide) ?_
      show Steps p.tables e below (T130.setTop (mkF m 222 #[.val (.int p1), .val (.int p2), .val (.int p3), .val (.int p4), .val (.long q5), .second, .val (.long q6), .second, .val (.ref bx), .val (.int sm), .val (.ref by_), .val (.int st1), .val (.int en1), .val (.int st2), .val (.int en2), .val (.ref a), .val (.int c1), .val (.int (1 : Int32)), .val (.int c2), .unset] [(.int (1 : Int32))])) _
      refine XS.istore X130.here hx rfl (hb hby at_222) rfl (l' := #[.val (.int p1), .val (.int p2), .val (.int p3), .val (.int p4), .val (.long q5), .second, .val (.long q6), .second, .val (.ref bx), .val (.int sm), .val (.ref by_), .val (.int st1), .val (.int en1), .val (.int st2), .val (.int en2), .val (.ref a), .val (.int c1), .val (.int (1 : Int32)), .val (.int c2), .val (.int (1 : Int32))]) rfl ?_
      rw [q] at kt
      exact kt
    · have hj := own_em1 hse hc
      have hin := inb_of Sz hj
      have hat := Hv.at hin (own_get fy hj)
      have q : tm = 0 := by rw [htm]; exact if_neg (fun u => h1 u.2)
      show Steps p.tables e below (T130.setTop (mkF m 198 #[.val (.int p1), .val (.int p2), .val (.int p3), .val (.int p4), .val (.long q5), .second, .val (.long q6), .second, .val (.ref bx), .val (.int sm), .val (.ref by_), .val (.int st1), .val (.int en1), .val (.int st2), .val (.int en2), .val (.ref a), .val (.int c1), .val (.int (1 : Int32)), .val (.int c2), .unset] [])) _
      refine XS.iload X130.here hx rfl (hb hby at_198) rfl ?_
      show Steps p.tables e below (T130.setTop (mkF m 200 #[.val (.int p1), .val (.int p2), .val (.int p3), .val (.int p4), .val (.long q5), .second, .val (.long q6), .second, .val (.ref bx), .val (.int sm), .val (.ref by_), .val (.int st1), .val (.int en1), .val (.int st2), .val (.int en2), .val (.ref a), .val (.int c1), .val (.int (1 : Int32)), .val (.int c2), .unset] [(.int en2)])) _
      refine XS.iload X130.here hx rfl (hb hby at_200) rfl ?_
      show Steps p.tables e below (T130.setTop (mkF m 202 #[.val (.int p1), .val (.int p2), .val (.int p3), .val (.int p4), .val (.long q5), .second, .val (.long q6), .second, .val (.ref bx), .val (.int sm), .val (.ref by_), .val (.int st1), .val (.int en1), .val (.int st2), .val (.int en2), .val (.ref a), .val (.int c1), .val (.int (1 : Int32)), .val (.int c2), .unset] [(.int st2), (.int en2)])) _
      refine XS.icmpNo X130.here hx rfl (hb hby at_202) rfl (tlt (hc : st2 < en2)).2.2.2 ?_
      show Steps p.tables e below (T130.setTop (mkF m 205 #[.val (.int p1), .val (.int p2), .val (.int p3), .val (.int p4), .val (.long q5), .second, .val (.long q6), .second, .val (.ref bx), .val (.int sm), .val (.ref by_), .val (.int st1), .val (.int en1), .val (.int st2), .val (.int en2), .val (.ref a), .val (.int c1), .val (.int (1 : Int32)), .val (.int c2), .unset] [])) _
      refine XS.aload X130.here hx rfl (hb hby at_205) rfl rfl ?_
      show Steps p.tables e below (T130.setTop (mkF m 207 #[.val (.int p1), .val (.int p2), .val (.int p3), .val (.int p4), .val (.long q5), .second, .val (.long q6), .second, .val (.ref bx), .val (.int sm), .val (.ref by_), .val (.int st1), .val (.int en1), .val (.int st2), .val (.int en2), .val (.ref a), .val (.int c1), .val (.int (1 : Int32)), .val (.int c2), .unset] [(.ref by_)])) _
      refine XS.iload X130.here hx rfl (hb hby at_207) rfl ?_
      show Steps p.tables e below (T130.setTop (mkF m 209 #[.val (.int p1), .val (.int p2), .val (.int p3), .val (.int p4), .val (.long q5), .second, .val (.long q6), .second, .val (.ref bx), .val (.int sm), .val (.ref by_), .val (.int st1), .val (.int en1), .val (.int st2), .val (.int en2), .val (.ref a), .val (.int c1), .val (.int (1 : Int32)), .val (.int c2), .unset] [(.int en2), (.ref by_)])) _
      refine XS.iconst X130.here hx rfl (hb hby at_209) ?_
      show Steps p.tables e below (T130.setTop (mkF m 210 #[.val (.int p1), .val (.int p2), .val (.int p3), .val (.int p4), .val (.long q5), .second, .val (.long q6), .second, .val (.ref bx), .val (.int sm), .val (.ref by_), .val (.int st1), .val (.int en1), .val (.int st2), .val (.int en2), .val (.ref a), .val (.int c1), .val (.int (1 : Int32)), .val (.int c2), .unset] [(.int (1 : Int32)), (.int en2), (.ref by_)])) _
      refine XS.isub X130.here hx rfl (hb hby at_210) rfl ?_
      show Steps p.tables e below (T130.setTop (mkF m 211 #[.val (.int p1), .val (.int p2), .val (.int p3), .val (.int p4), .val (.long q5), .second, .val (.long q6), .second, .val (.ref bx), .val (.int sm), .val (.ref by_), .val (.int st1), .val (.int en1), .val (.int st2), .val (.int en2), .val (.ref a), .val (.int c1), .val (.int (1 : Int32)), .val (.int c2), .unset] [(.int (en2 - (1 : Int32))), (.ref by_)])) _
      refine X130.baloadBytes hx (j := (en2 - (1 : Int32))) (v := (.int (fy (en2 - (1 : Int32))))) Ar.1 (State.isArrayOf_alike hZ.alike Ar.2.1) Ar.2.2 hin hat (g := (mkF m 211 #[.val (.int p1), .val (.int p2), .val (.int p3), .val (.int p4), .val (.long q5), .second, .val (.long q6), .second, .val (.ref bx), .val (.int sm), .val (.ref by_), .val (.int st1), .val (.int en1), .val (.int st2), .val (.int en2), .val (.ref a), .val (.int c1), .val (.int (1 : Int32)), .val (.int c2), .unset] [(.int (en2 - (1 : Int32))), (.ref by_)])) rfl rfl (hb hby at_211) _ ?_
      show Steps p.tables e below (T130.setTop (mkF m 212 #[.val (.int p1), .val (.int p2), .val (.int p3), .val (.int p4), .val (.long q5), .second, .val (.long q6), .second, .val (.ref bx), .val (.int sm), .val (.ref by_), .val (.int st1), .val (.int en1), .val (.int st2), .val (.int en2), .val (.ref a), .val (.int c1), .val (.int (1 : Int32)), .val (.int c2), .unset] [(.int (fy (en2 - (1 : Int32))))])) _
      refine XS.bipush X130.here hx rfl (hb hby at_212) ?_
      show Steps p.tables e below (T130.setTop (mkF m 214 #[.val (.int p1), .val (.int p2), .val (.int p3), .val (.int p4), .val (.long q5), .second, .val (.long q6), .second, .val (.ref bx), .val (.int sm), .val (.ref by_), .val (.int st1), .val (.int en1), .val (.int st2), .val (.int en2), .val (.ref a), .val (.int c1), .val (.int (1 : Int32)), .val (.int c2), .unset] [(.int (124 : Int32)), (.int (fy (en2 - (1 : Int32))))])) _
      refine XS.icmpYes X130.here hx rfl (pc0 := 214) (pc' := 221) rfl (hb hby at_214) rfl (feq (h1 : ¬ ((fy (en2 - (1 : Int32))) = (124 : Int32)))).2 (by decide) (by decide) ?_
      show Steps p.tables e below (T130.setTop (mkF m 221 #[.val (.int p1), .val (.int p2), .val (.int p3), .val (.int p4), .val (.long q5), .second, .val (.long q6), .second, .val (.ref bx), .val (.int sm), .val (.ref by_), .val (.int st1), .val (.int en1), .val (.int st2), .val (.int en2), .val (.ref a), .val (.int c1), .val (.int (1 : Int32)), .val (.int c2), .unset] [])) _
      refine XS.iconst X130.here hx rfl (hb hby at_221) ?_
      show Steps p.tables e below (T130.setTop (mkF m 222 #[.val (.int p1), .val (.int p2), .val (.int p3), .val (.int p4), .val (.long q5), .second, .val (.long q6), .second, .val (.ref bx), .val (.int sm), .val (.ref by_), .val (.int st1), .val (.int en1), .val (.int st2), .val (.int en2), .val (.ref a), .val (.int c1), .val (.int (1 : Int32)), .val (.int c2), .unset] [(.int (0 : Int32))])) _
      refine XS.istore X130.here hx rfl (hb hby at_222) rfl (l' := #[.val (.int p1), .val (.int p2), .val (.int p3), .val (.int p4), .val (.long q5), .second, .val (.long q6), .second, .val (.ref bx), .val (.int sm), .val (.ref by_), .val (.int st1), .val (.int en1), .val (.int st2), .val (.int en2), .val (.ref a), .val (.int c1), .val (.int (1 : Int32)), .val (.int c2), .val (.int (0 : Int32))]) rfl ?_
      rw [q] at kt
      exact kt
  obtain ⟨cq133, kq133, q133a, q133b, q133c⟩ := isOf hZ rfl RVs_1_130
  obtain ⟨_, _, ⟨T133, L133, k133, n133⟩, -, X133, ⟨Lc133, hQ133, l133, y133, z133⟩, st133⟩ := X130.virtualBack hx (y := (⟨"com/example/concept_ledger/conceptledger/model/RowView", "line", "()J"⟩ : MethodName)) (z := (⟨"com/example/concept_ledger/conceptledger/model/RowView", "line", "()J"⟩ : MethodName)) hown (mvT hZ (hw _ (List.mem_of_getElem? (i := 50) rfl))) (mvT hZ (hw _ (List.mem_of_getElem? (i := 51) rfl))) (notFace_of_selects (args := #[]) (mvT hZ (hw _ (List.mem_of_getElem? (i := 53) rfl)))) (mvT hZ (hw _ (List.mem_of_getElem? (i := 53) rfl))) (mvT hZ (hw _ (List.mem_of_getElem? (i := 52) rfl))) (by decide) (backOf (W := 0) (rm9 l Z a0 hw [] a by_ ar st2 en2 q6 (-1) 0 st2 T130.heap n0 z130z RV130) hZ (hw _ (List.mem_of_getElem? (i := 54) rfl)) (hw _ (List.mem_of_getElem? (i := 10) rfl)) (by decide) (by decide)) q133a q133c (g := (mkF m 231 #[.val (.int p1), .val (.int p2), .val (.int p3), .val (.int p4), .val (.long q5), .second, .val (.long q6), .second, .val (.ref bx), .val (.int sm), .val (.ref by_), .val (.int st1), .val (.int en1), .val (.int st2), .val (.int en2), .val (.ref a), .val (.int c1), .val (.int (1 : Int32)), .val (.int c2), .val (.int tm)] [(.ref a)])) rfl (by rw [hml]; rfl) (Steps.refl _) (argsL := []) (rest := []) (lenOf pd_9 rfl) rfl (by show 2 * 0 + _ ≤ _; exact Nat.le_of_eq rfl) (hb hby at_231) (fun _ _ => ⟨rfl, rfl, (by decide : 9 + 0 ≤ _), (by decide : 32 + 0 ≤ _)⟩)
  dsimp only [Pt.U, Pt.locs, Pt.cells, Pt.slots] at X133 l133 y133 z133 st133 hQ133
  subst l133 y133 z133
  obtain ⟨rfl, N133q, he133⟩ := hQ133
  have N133 := Fr.app N130 N133q
  have Kc133 : Keep T130.heap T133.heap [] := by rw [he133]; exact Keep.refl _ _
  have RVs_1_133 := RVs_1_130.keep Kc133
  have BA_133 := BA_130.keep Kc133 nin0
  have BR_133 := BR_130.keep Kc133 nin0
  have K133 : Keep h0 T133.heap [a] := K130.trans Kc133 all0
  have z133z : n0 ≤ T133.heap.size := Nat.le_trans z130z Kc133.1
  have RV133 := RV130.keep Kc133 nin0
  obtain ⟨cq134, kq134, q134a, q134b, q134c⟩ := isOf hZ rfl RVs_1_133
  obtain ⟨_, _, ⟨T134, L134, k134, n134⟩, -, X134, ⟨Lc134, hQ134, l134, y134, z134⟩, st134⟩ := X133.virtualBack hx (y := (⟨"com/example/concept_ledger/conceptledger/model/RowView", "length", "()I"⟩ : MethodName)) (z := (⟨"com/example/concept_ledger/conceptledger/model/RowView", "length", "()I"⟩ : MethodName)) hown (mvT hZ (hw _ (List.mem_of_getElem? (i := 55) rfl))) (mvT hZ (hw _ (List.mem_of_getElem? (i := 56) rfl))) (notFace_of_selects (args := #[]) (mvT hZ (hw _ (List.mem_of_getElem? (i := 58) rfl)))) (mvT hZ (hw _ (List.mem_of_getElem? (i := 58) rfl))) (mvT hZ (hw _ (List.mem_of_getElem? (i := 57) rfl))) (by decide) (backOf (W := 0) (rm10 l Z a0 hw [] a by_ ar st2 en2 q6 (-1) 0 st2 T133.heap n0 z133z RV133) hZ (hw _ (List.mem_of_getElem? (i := 59) rfl)) (hw _ (List.mem_of_getElem? (i := 10) rfl)) (by decide) (by decide)) q134a q134c (g := (mkF m 242 #[.val (.int p1), .val (.int p2), .val (.int p3), .val (.int p4), .val (.long q5), .second, .val (.long q6), .second, .val (.ref bx), .val (.int sm), .val (.ref by_), .val (.int st1), .val (.int en1), .val (.int st2), .val (.int en2), .val (.ref a), .val (.int c1), .val (.int (1 : Int32)), .val (.int c2), .val (.int tm)] [(.ref a)])) rfl (by rw [hml]; rfl) (Steps.refl _) (argsL := []) (rest := []) (lenOf pd_10 rfl) rfl (by show 2 * 0 + _ ≤ _; exact Nat.le_of_eq rfl) (hb hby at_242) (fun _ _ => ⟨rfl, rfl, (by decide : 9 + 0 ≤ _), (by decide : 32 + 0 ≤ _)⟩)
  dsimp only [Pt.U, Pt.locs, Pt.cells, Pt.slots] at X134 l134 y134 z134 st134 hQ134
  subst l134 y134 z134
  obtain ⟨rfl, N134q, he134⟩ := hQ134
  have N134 := Fr.app N133 N134q
  have Kc134 : Keep T133.heap T134.heap [] := by rw [he134]; exact Keep.refl _ _
  have RVs_1_134 := RVs_1_133.keep Kc134
  have BA_134 := BA_133.keep Kc134 nin0
  have BR_134 := BR_133.keep Kc134 nin0
  have K134 : Keep h0 T134.heap [a] := K133.trans Kc134 all0
  have z134z : n0 ≤ T134.heap.size := Nat.le_trans z133z Kc134.1
  have RV134 := RV133.keep Kc134 nin0
  obtain ⟨cq135, kq135, q135a, q135b, q135c⟩ := isOf hZ rfl RVs_1_134
  obtain ⟨_, _, ⟨T135, L135, k135, n135⟩, -, X135, ⟨Lc135, hQ135, l135, y135, z135⟩, st135⟩ := X134.virtualBack hx (y := (⟨"com/example/concept_ledger/conceptledger/model/RowView", "isTerminated", "()Z"⟩ : MethodName)) (z := (⟨"com/example/concept_ledger/conceptledger/model/RowView", "isTerminated", "()Z"⟩ : MethodName)) hown (mvT hZ (hw _ (List.mem_of_getElem? (i := 60) rfl))) (mvT hZ (hw _ (List.mem_of_getElem? (i := 61) rfl))) (notFace_of_selects (args := #[]) (mvT hZ (hw _ (List.mem_of_getElem? (i := 63) rfl)))) (mvT hZ (hw _ (List.mem_of_getElem? (i := 63) rfl))) (mvT hZ (hw _ (List.mem_of_getElem? (i := 62) rfl))) (by decide) (backOf (W := 0) (rm11 l Z a0 hw [] a by_ ar st2 en2 q6 (-1) 0 st2 ky fy tm T134.heap n0 z134z RV134 BA_134 hse htm) hZ (hw _ (List.mem_of_getElem? (i := 64) rfl)) (hw _ (List.mem_of_getElem? (i := 10) rfl)) (by decide) (by decide)) q135a q135c (g := (mkF m 255 #[.val (.int p1), .val (.int p2), .val (.int p3), .val (.int p4), .val (.long q5), .second, .val (.long q6), .second, .val (.ref bx), .val (.int sm), .val (.ref by_), .val (.int st1), .val (.int en1), .val (.int st2), .val (.int en2), .val (.ref a), .val (.int c1), .val (.int (1 : Int32)), .val (.int c2), .val (.int tm)] [(.ref a)])) rfl (by rw [hml]; rfl) (Steps.refl _) (argsL := []) (rest := []) (lenOf pd_11 rfl) rfl (by show 2 * 0 + _ ≤ _; exact Nat.le_of_eq rfl) (hb hby at_255) (fun _ _ => ⟨rfl, rfl, (by decide : 9 + 0 ≤ _), (by decide : 32 + 0 ≤ _)⟩)
  dsimp only [Pt.U, Pt.locs, Pt.cells, Pt.slots] at X135 l135 y135 z135 st135 hQ135
  subst l135 y135 z135
  obtain ⟨rfl, N135q, he135⟩ := hQ135
  have N135 := Fr.app N134 N135q
  have Kc135 : Keep T134.heap T135.heap [] := by rw [he135]; exact Keep.refl _ _
  have RVs_1_135 := RVs_1_134.keep Kc135
  have BA_135 := BA_134.keep Kc135 nin0
  have BR_135 := BR_134.keep Kc135 nin0
  have K135 : Keep h0 T135.heap [a] := K134.trans Kc135 all0
  have z135z : n0 ≤ T135.heap.size := Nat.le_trans z134z Kc135.1
  have RV135 := RV134.keep Kc135 nin0
  obtain ⟨cq136, kq136, q136a, q136b, q136c⟩ := isOf hZ rfl RVs_1_135
  obtain ⟨_, _, ⟨T136, L136, k136, n136⟩, -, X136, ⟨Lc136, hQ136, l136, y136, z136⟩, st136⟩ := X135.virtualBack hx (y := (⟨"com/example/concept_ledger/conceptledger/model/RowView", "fieldCount", "()I"⟩ : MethodName)) (z := (⟨"com/example/concept_ledger/conceptledger/model/RowView", "fieldCount", "()I"⟩ : MethodName)) hown (mvT hZ (hw _ (List.mem_of_getElem? (i := 39) rfl))) (mvT hZ (hw _ (List.mem_of_getElem? (i := 40) rfl))) (notFace_of_selects (args := #[]) (mvT hZ (hw _ (List.mem_of_getElem? (i := 42) rfl)))) (mvT hZ (hw _ (List.mem_of_getElem? (i := 42) rfl))) (mvT hZ (hw _ (List.mem_of_getElem? (i := 41) rfl))) (by decide) (backOf (W := 0) (rm6 l Z a0 hw [] a by_ ar st2 en2 q6 0 st2 ky fy nn c2 T135.heap n0 z135z RV135 BA_135 hse hn (by rw [hc2]; exact nums.1) g_a) hZ (hw _ (List.mem_of_getElem? (i := 43) rfl)) (hw _ (List.mem_of_getElem? (i := 10) rfl)) (by decide) (by decide)) q136a q136c (g := (mkF m 265 #[.val (.int p1), .val (.int p2), .val (.int p3), .val (.int p4), .val (.long q5), .second, .val (.long q6), .second, .val (.ref bx), .val (.int sm), .val (.ref by_), .val (.int st1), .val (.int en1), .val (.int st2), .val (.int en2), .val (.ref a), .val (.int c1), .val (.int (1 : Int32)), .val (.int c2), .val (.int tm)] [(.ref a)])) rfl (by rw [hml]; rfl) (Steps.refl _) (argsL := []) (rest := []) (lenOf pd_10 rfl) rfl (by show 2 * 0 + _ ≤ _; exact Nat.le_of_eq rfl) (hb hby at_265) (fun _ _ => ⟨rfl, rfl, (by decide : 9 + 0 ≤ _), (by decide : 32 + 0 ≤ _)⟩)
  dsimp only [Pt.U, Pt.locs, Pt.cells, Pt.slots] at X136 l136 y136 z136 st136 hQ136
  subst l136 y136 z136
  obtain ⟨rfl, N136q, Kc136, RVf⟩ := hQ136
  have N136 := Fr.app N135 N136q
  have RVs_1_136 := RVs_1_135.keep Kc136
  have BA_136 := BA_135.keep Kc136 (ninS (Ne.symm nea) nin0)
  have BR_136 := BR_135.keep Kc136 (ninS (Ne.symm ne1) nin0)
  have K136 : Keep h0 T136.heap [a] := K135.trans Kc136 (allS (Or.inl (List.mem_of_getElem? (i := 0) rfl)) (all0))
  have z136z : n0 ≤ T136.heap.size := Nat.le_trans z135z Kc136.1
  have fl137 : ∀ target, Steps p.tables e below (T136.setTop (mkF m 287 #[.val (.int p1), .val (.int p2), .val (.int p3), .val (.int p4), .val (.long q5), .second, .val (.long q6), .second, .val (.ref bx), .val (.int sm), .val (.ref by_), .val (.int st1), .val (.int en1), .val (.int st2), .val (.int en2), .val (.ref a), .val (.int c1), .val (.int (1 : Int32)), .val (.int c2), .val (.int tm)] [(.int c2)])) target → Steps p.tables e below (T130.setTop (mkF m 224 #[.val (.int p1), .val (.int p2), .val (.int p3), .val (.int p4), .val (.long q5), .second, .val (.long q6), .second, .val (.ref bx), .val (.int sm), .val (.ref by_), .val (.int st1), .val (.int en1), .val (.int st2), .val (.int en2), .val (.ref a), .val (.int c1), .val (.int (1 : Int32)), .val (.int c2), .val (.int tm)] [])) target := fun target kt => by
    show Steps p.tables e below (T130.setTop (mkF m 224 #[.val (.int p1), .val (.int p2), .val (.int p3), .val (.int p4), .val (.long q5), .second, .val (.long q6), .second, .val (.ref bx), .val (.int sm), .val (.ref by_), .val (.int st1), .val (.int en1), .val (.int st2), .val (.int en2), .val (.ref a), .val (.int c1), .val (.int (1 : Int32)), .val (.int c2), .val (.int tm)] [])) _
    refine XS.iload X130.here hx rfl (hb hby at_224) rfl ?_
    show Steps p.tables e below (T130.setTop (mkF m 226 #[.val (.int p1), .val (.int p2), .val (.int p3), .val (.int p4), .val (.long q5), .second, .val (.long q6), .second, .val (.ref bx), .val (.int sm), .val (.ref by_), .val (.int st1), .val (.int en1), .val (.int st2), .val (.int en2), .val (.ref a), .val (.int c1), .val (.int (1 : Int32)), .val (.int c2), .val (.int tm)] [(.int (1 : Int32))])) _
    refine XS.ifNo X130.here hx rfl (hb hby at_226) rfl ((if0 _ _).trans (feq (by decide : ¬ ((1 : Int32) = (0 : Int32)))).1) ?_
    show Steps p.tables e below (T130.setTop (mkF m 229 #[.val (.int p1), .val (.int p2), .val (.int p3), .val (.int p4), .val (.long q5), .second, .val (.long q6), .second, .val (.ref bx), .val (.int sm), .val (.ref by_), .val (.int st1), .val (.int en1), .val (.int st2), .val (.int en2), .val (.ref a), .val (.int c1), .val (.int (1 : Int32)), .val (.int c2), .val (.int tm)] [])) _
    refine XS.aload X130.here hx rfl (hb hby at_229) rfl rfl ?_
    show Steps p.tables e below (T130.setTop (mkF m 231 #[.val (.int p1), .val (.int p2), .val (.int p3), .val (.int p4), .val (.long q5), .second, .val (.long q6), .second, .val (.ref bx), .val (.int sm), .val (.ref by_), .val (.int st1), .val (.int en1), .val (.int st2), .val (.int en2), .val (.ref a), .val (.int c1), .val (.int (1 : Int32)), .val (.int c2), .val (.int tm)] [(.ref a)])) _
    refine st133.trans ?_
    show Steps p.tables e below (T133.setTop (mkF m 234 #[.val (.int p1), .val (.int p2), .val (.int p3), .val (.int p4), .val (.long q5), .second, .val (.long q6), .second, .val (.ref bx), .val (.int sm), .val (.ref by_), .val (.int st1), .val (.int en1), .val (.int st2), .val (.int en2), .val (.ref a), .val (.int c1), .val (.int (1 : Int32)), .val (.int c2), .val (.int tm)] [(.long q6)])) _
    refine XS.lload X133.here hx rfl (hb hby at_234) rfl ?_
    show Steps p.tables e below (T133.setTop (mkF m 236 #[.val (.int p1), .val (.int p2), .val (.int p3), .val (.int p4), .val (.long q5), .second, .val (.long q6), .second, .val (.ref bx), .val (.int sm), .val (.ref by_), .val (.int st1), .val (.int en1), .val (.int st2), .val (.int en2), .val (.ref a), .val (.int c1), .val (.int (1 : Int32)), .val (.int c2), .val (.int tm)] [(.long q6), (.long q6)])) _
    refine XS.lcmp X133.here hx rfl (hb hby at_236) rfl ?_
    show Steps p.tables e below (T133.setTop (mkF m 237 #[.val (.int p1), .val (.int p2), .val (.int p3), .val (.int p4), .val (.long q5), .second, .val (.long q6), .second, .val (.ref bx), .val (.int sm), .val (.ref by_), .val (.int st1), .val (.int en1), .val (.int st2), .val (.int en2), .val (.ref a), .val (.int c1), .val (.int (1 : Int32)), .val (.int c2), .val (.int tm)] [(.int (lcmpW q6 q6))])) _
    refine XS.ifNo X133.here hx rfl (hb hby at_237) rfl ((if0 _ _).trans (teq ((lw_eq _ _).mpr rfl : (lcmpW q6 q6) = (0 : Int32))).2) ?_
    show Steps p.tables e below (T133.setTop (mkF m 240 #[.val (.int p1), .val (.int p2), .val (.int p3), .val (.int p4), .val (.long q5), .second, .val (.long q6), .second, .val (.ref bx), .val (.int sm), .val (.ref by_), .val (.int st1), .val (.int en1), .val (.int st2), .val (.int en2), .val (.ref a), .val (.int c1), .val (.int (1 : Int32)), .val (.int c2), .val (.int tm)] [])) _
    refine XS.aload X133.here hx rfl (hb hby at_240) rfl rfl ?_
    show Steps p.tables e below (T133.setTop (mkF m 242 #[.val (.int p1), .val (.int p2), .val (.int p3), .val (.int p4), .val (.long q5), .second, .val (.long q6), .second, .val (.ref bx), .val (.int sm), .val (.ref by_), .val (.int st1), .val (.int en1), .val (.int st2), .val (.int en2), .val (.ref a), .val (.int c1), .val (.int (1 : Int32)), .val (.int c2), .val (.int tm)] [(.ref a)])) _
    refine st134.trans ?_
    show Steps p.tables e below (T134.setTop (mkF m 245 #[.val (.int p1), .val (.int p2), .val (.int p3), .val (.int p4), .val (.long q5), .second, .val (.long q6), .second, .val (.ref bx), .val (.int sm), .val (.ref by_), .val (.int st1), .val (.int en1), .val (.int st2), .val (.int en2), .val (.ref a), .val (.int c1), .val (.int (1 : Int32)), .val (.int c2), .val (.int tm)] [(.int (en2 - st2))])) _
    refine XS.iload X134.here hx rfl (hb hby at_245) rfl ?_
    show Steps p.tables e below (T134.setTop (mkF m 247 #[.val (.int p1), .val (.int p2), .val (.int p3), .val (.int p4), .val (.long q5), .second, .val (.long q6), .second, .val (.ref bx), .val (.int sm), .val (.ref by_), .val (.int st1), .val (.int en1), .val (.int st2), .val (.int en2), .val (.ref a), .val (.int c1), .val (.int (1 : Int32)), .val (.int c2), .val (.int tm)] [(.int en2), (.int (en2 - st2))])) _
    refine XS.iload X134.here hx rfl (hb hby at_247) rfl ?_
    show Steps p.tables e below (T134.setTop (mkF m 249 #[.val (.int p1), .val (.int p2), .val (.int p3), .val (.int p4), .val (.long q5), .second, .val (.long q6), .second, .val (.ref bx), .val (.int sm), .val (.ref by_), .val (.int st1), .val (.int en1), .val (.int st2), .val (.int en2), .val (.ref a), .val (.int c1), .val (.int (1 : Int32)), .val (.int c2), .val (.int tm)] [(.int st2), (.int en2), (.int (en2 - st2))])) _
    refine XS.isub X134.here hx rfl (hb hby at_249) rfl ?_
    show Steps p.tables e below (T134.setTop (mkF m 250 #[.val (.int p1), .val (.int p2), .val (.int p3), .val (.int p4), .val (.long q5), .second, .val (.long q6), .second, .val (.ref bx), .val (.int sm), .val (.ref by_), .val (.int st1), .val (.int en1), .val (.int st2), .val (.int en2), .val (.ref a), .val (.int c1), .val (.int (1 : Int32)), .val (.int c2), .val (.int tm)] [(.int (en2 - st2)), (.int (en2 - st2))])) _
    refine XS.icmpNo X134.here hx rfl (hb hby at_250) rfl (teq (rfl : (en2 - st2) = (en2 - st2))).2 ?_
    show Steps p.tables e below (T134.setTop (mkF m 253 #[.val (.int p1), .val (.int p2), .val (.int p3), .val (.int p4), .val (.long q5), .second, .val (.long q6), .second, .val (.ref bx), .val (.int sm), .val (.ref by_), .val (.int st1), .val (.int en1), .val (.int st2), .val (.int en2), .val (.ref a), .val (.int c1), .val (.int (1 : Int32)), .val (.int c2), .val (.int tm)] [])) _
    refine XS.aload X134.here hx rfl (hb hby at_253) rfl rfl ?_
    show Steps p.tables e below (T134.setTop (mkF m 255 #[.val (.int p1), .val (.int p2), .val (.int p3), .val (.int p4), .val (.long q5), .second, .val (.long q6), .second, .val (.ref bx), .val (.int sm), .val (.ref by_), .val (.int st1), .val (.int en1), .val (.int st2), .val (.int en2), .val (.ref a), .val (.int c1), .val (.int (1 : Int32)), .val (.int c2), .val (.int tm)] [(.ref a)])) _
    refine st135.trans ?_
    show Steps p.tables e below (T135.setTop (mkF m 258 #[.val (.int p1), .val (.int p2), .val (.int p3), .val (.int p4), .val (.long q5), .second, .val (.long q6), .second, .val (.ref bx), .val (.int sm), .val (.ref by_), .val (.int st1), .val (.int en1), .val (.int st2), .val (.int en2), .val (.ref a), .val (.int c1), .val (.int (1 : Int32)), .val (.int c2), .val (.int tm)] [(.int tm)])) _
    refine XS.iload X135.here hx rfl (hb hby at_258) rfl ?_
    show Steps p.tables e below (T135.setTop (mkF m 260 #[.val (.int p1), .val (.int p2), .val (.int p3), .val (.int p4), .val (.long q5), .second, .val (.long q6), .second, .val (.ref bx), .val (.int sm), .val (.ref by_), .val (.int st1), .val (.int en1), .val (.int st2), .val (.int en2), .val (.ref a), .val (.int c1), .val (.int (1 : Int32)), .val (.int c2), .val (.int tm)] [(.int tm), (.int tm)])) _
    refine XS.icmpNo X135.here hx rfl (hb hby at_260) rfl (teq (rfl : tm = tm)).2 ?_
    show Steps p.tables e below (T135.setTop (mkF m 263 #[.val (.int p1), .val (.int p2), .val (.int p3), .val (.int p4), .val (.long q5), .second, .val (.long q6), .second, .val (.ref bx), .val (.int sm), .val (.ref by_), .val (.int st1), .val (.int en1), .val (.int st2), .val (.int en2), .val (.ref a), .val (.int c1), .val (.int (1 : Int32)), .val (.int c2), .val (.int tm)] [])) _
    refine XS.aload X135.here hx rfl (hb hby at_263) rfl rfl ?_
    show Steps p.tables e below (T135.setTop (mkF m 265 #[.val (.int p1), .val (.int p2), .val (.int p3), .val (.int p4), .val (.long q5), .second, .val (.long q6), .second, .val (.ref bx), .val (.int sm), .val (.ref by_), .val (.int st1), .val (.int en1), .val (.int st2), .val (.int en2), .val (.ref a), .val (.int c1), .val (.int (1 : Int32)), .val (.int c2), .val (.int tm)] [(.ref a)])) _
    refine st136.trans ?_
    show Steps p.tables e below (T136.setTop (mkF m 268 #[.val (.int p1), .val (.int p2), .val (.int p3), .val (.int p4), .val (.long q5), .second, .val (.long q6), .second, .val (.ref bx), .val (.int sm), .val (.ref by_), .val (.int st1), .val (.int en1), .val (.int st2), .val (.int en2), .val (.ref a), .val (.int c1), .val (.int (1 : Int32)), .val (.int c2), .val (.int tm)] [(.int c2)])) _
    refine XS.iload X136.here hx rfl (hb hby at_268) rfl ?_
    show Steps p.tables e below (T136.setTop (mkF m 270 #[.val (.int p1), .val (.int p2), .val (.int p3), .val (.int p4), .val (.long q5), .second, .val (.long q6), .second, .val (.ref bx), .val (.int sm), .val (.ref by_), .val (.int st1), .val (.int en1), .val (.int st2), .val (.int en2), .val (.ref a), .val (.int c1), .val (.int (1 : Int32)), .val (.int c2), .val (.int tm)] [(.int c2), (.int c2)])) _
    refine XS.icmpNo X136.here hx rfl (hb hby at_270) rfl (teq (rfl : c2 = c2)).2 ?_
    show Steps p.tables e below (T136.setTop (mkF m 273 #[.val (.int p1), .val (.int p2), .val (.int p3), .val (.int p4), .val (.long q5), .second, .val (.long q6), .second, .val (.ref bx), .val (.int sm), .val (.ref by_), .val (.int st1), .val (.int en1), .val (.int st2), .val (.int en2), .val (.ref a), .val (.int c1), .val (.int (1 : Int32)), .val (.int c2), .val (.int tm)] [])) _
    refine XS.iconst X136.here hx rfl (hb hby at_273) ?_
    show Steps p.tables e below (T136.setTop (mkF m 274 #[.val (.int p1), .val (.int p2), .val (.int p3), .val (.int p4), .val (.long q5), .second, .val (.long q6), .second, .val (.ref bx), .val (.int sm), .val (.ref by_), .val (.int st1), .val (.int en1), .val (.int st2), .val (.int en2), .val (.ref a), .val (.int c1), .val (.int (1 : Int32)), .val (.int c2), .val (.int tm)] [(.int (1 : Int32))])) _
    refine XS.goto X136.here hx rfl (pc0 := 274) (pc' := 278) rfl (hb hby at_274) (by decide) (by decide) ?_
    show Steps p.tables e below (T136.setTop (mkF m 278 #[.val (.int p1), .val (.int p2), .val (.int p3), .val (.int p4), .val (.long q5), .second, .val (.long q6), .second, .val (.ref bx), .val (.int sm), .val (.ref by_), .val (.int st1), .val (.int en1), .val (.int st2), .val (.int en2), .val (.ref a), .val (.int c1), .val (.int (1 : Int32)), .val (.int c2), .val (.int tm)] [(.int (1 : Int32))])) _
    refine XS.istore X136.here hx rfl (hb hby at_278) rfl (l' := #[.val (.int p1), .val (.int p2), .val (.int p3), .val (.int p4), .val (.long q5), .second, .val (.long q6), .second, .val (.ref bx), .val (.int sm), .val (.ref by_), .val (.int st1), .val (.int en1), .val (.int st2), .val (.int en2), .val (.ref a), .val (.int c1), .val (.int (1 : Int32)), .val (.int c2), .val (.int tm)]) rfl ?_
    show Steps p.tables e below (T136.setTop (mkF m 280 #[.val (.int p1), .val (.int p2), .val (.int p3), .val (.int p4), .val (.long q5), .second, .val (.long q6), .second, .val (.ref bx), .val (.int sm), .val (.ref by_), .val (.int st1), .val (.int en1), .val (.int st2), .val (.int en2), .val (.ref a), .val (.int c1), .val (.int (1 : Int32)), .val (.int c2), .val (.int tm)] [])) _
    refine XS.iload X136.here hx rfl (hb hby at_280) rfl ?_
    show Steps p.tables e below (T136.setTop (mkF m 282 #[.val (.int p1), .val (.int p2), .val (.int p3), .val (.int p4), .val (.long q5), .second, .val (.long q6), .second, .val (.ref bx), .val (.int sm), .val (.ref by_), .val (.int st1), .val (.int en1), .val (.int st2), .val (.int en2), .val (.ref a), .val (.int c1), .val (.int (1 : Int32)), .val (.int c2), .val (.int tm)] [(.int (1 : Int32))])) _
    refine XS.ifNo X136.here hx rfl (hb hby at_282) rfl ((if0 _ _).trans (feq (by decide : ¬ ((1 : Int32) = (0 : Int32)))).1) ?_
    show Steps p.tables e below (T136.setTop (mkF m 285 #[.val (.int p1), .val (.int p2), .val (.int p3), .val (.int p4), .val (.long q5), .second, .val (.long q6), .second, .val (.ref bx), .val (.int sm), .val (.ref by_), .val (.int st1), .val (.int en1), .val (.int st2), .val (.int en2), .val (.ref a), .val (.int c1), .val (.int (1 : Int32)), .val (.int c2), .val (.int tm)] [])) _
    refine XS.iload X136.here hx rfl (hb hby at_285) rfl ?_
    exact kt
  have hlen := own_psle fy nn st2
  have hcl : c2 = Int32.ofNat (own_ps fy st2 nn).length := by rw [hc2]; exact nums.2.1
  have hct : c2.toInt = (own_ps fy st2 nn).length := by rw [hcl, own_on (by omega)]
  by_cases hc : (0 : Int32) < c2
  · have hpos : 0 < (own_ps fy st2 nn).length := by have z : (0 : Int32).toInt = 0 := rfl; rw [own_lti] at hc; omega
    have hm1 : c2 - (1 : Int32) = Int32.ofNat ((own_ps fy st2 nn).length - 1) := by
      apply Int32.toInt_inj.mp
      have z : (1 : Int32).toInt = 1 := rfl
      have q := c_isub c2 1
      have r := rng32 (c2 - 1)
      rw [own_on (by omega)]; omega
    obtain ⟨cq138, kq138, q138a, q138b, q138c⟩ := isOf hZ rfl RVf.1
    obtain ⟨_, _, ⟨T138, L138, k138, n138⟩, -, X138, ⟨Lc138, hQ138, l138, y138, z138⟩, st138⟩ := X136.virtualBack hx (y := (⟨"com/example/concept_ledger/conceptledger/model/RowView", "fieldEnd", "(I)I"⟩ : MethodName)) (z := (⟨"com/example/concept_ledger/conceptledger/model/RowView", "fieldEnd", "(I)I"⟩ : MethodName)) hown (mvT hZ (hw _ (List.mem_of_getElem? (i := 65) rfl))) (mvT hZ (hw _ (List.mem_of_getElem? (i := 66) rfl))) (notFace_of_selects (args := #[]) (mvT hZ (hw _ (List.mem_of_getElem? (i := 68) rfl)))) (mvT hZ (hw _ (List.mem_of_getElem? (i := 68) rfl))) (mvT hZ (hw _ (List.mem_of_getElem? (i := 67) rfl))) (by decide) (backOf (W := 0) (rm12 l Z a0 hw [] a (0 : Int32) by_ ky fy ar st2 en2 q6 c2 st2 0 [] nn (own_ps fy st2 nn) T136.heap n0 z136z rfl RVf BA_136 (own_Bars.nil BR_136) hse g_a g_ar nea ne1 ne2 hse.1 hn (by simpa using hn4) rfl hpos) hZ (hw _ (List.mem_of_getElem? (i := 69) rfl)) (hw _ (List.mem_of_getElem? (i := 10) rfl)) (by decide) (by decide)) q138a q138c (g := (mkF m 293 #[.val (.int p1), .val (.int p2), .val (.int p3), .val (.int p4), .val (.long q5), .second, .val (.long q6), .second, .val (.ref bx), .val (.int sm), .val (.ref by_), .val (.int st1), .val (.int en1), .val (.int st2), .val (.int en2), .val (.ref a), .val (.int c1), .val (.int (1 : Int32)), .val (.int c2), .val (.int tm)] [(.int (0 : Int32)), (.ref a)])) rfl (by rw [hml]; rfl) (Steps.refl _) (argsL := [(.int (0 : Int32))]) (rest := []) (lenOf pd_6 rfl) rfl (by show 2 * 0 + _ ≤ _; exact Nat.le_of_eq rfl) (hb hby at_293) (fun _ _ => ⟨rfl, rfl, (by decide : 9 + 4 ≤ _), (by decide : 32 + 16 ≤ _)⟩)
    dsimp only [Pt.U, Pt.locs, Pt.cells, Pt.slots] at X138 l138 y138 z138 st138 hQ138
    subst l138 y138 z138
    obtain ⟨ar1, s1, D1, n1, rfl, N138q, RVg, BAg, BRg, Kg, gg, nag, nbg, org, hPg, hg0, hg1, hg2⟩ := hQ138
    have N138 := Fr.app N136 N138q
    have zg : n0 ≤ T138.heap.size := Nat.le_trans z136z Kg.1
    obtain ⟨_, _, ⟨T139, L139, k139, n139⟩, -, X139, ⟨Lc139, hQ139, l139, y139, z139⟩, st139⟩ := Jvm.LawKit.callS X138 hx (y := (⟨"com/example/concept_ledger/conceptledger/model/RowViewSetPinLaw", "firstBar", "([BII)I"⟩ : MethodName)) hown (mvT hZ (hw _ (List.mem_of_getElem? (i := 97) rfl))) (mvT hZ (hw _ (List.mem_of_getElem? (i := 98) rfl))) (mvT hZ (hw _ (List.mem_of_getElem? (i := 2) rfl))) (mvT hZ (hw _ (List.mem_of_getElem? (i := 99) rfl))) (by decide) (backOf (W := 1) (rm19 l Z a0 hw [] by_ st2 en2 ky fy ((own_ps fy st2 nn).getD 0 0) T138.heap n0 zg BAg (nums.2.2 hpos).2) hZ (hw _ (List.mem_of_getElem? (i := 99) rfl)) (hw _ (List.mem_of_getElem? (i := 2) rfl)) (by decide) (by decide)) (g := (mkF m 302 #[.val (.int p1), .val (.int p2), .val (.int p3), .val (.int p4), .val (.long q5), .second, .val (.long q6), .second, .val (.ref bx), .val (.int sm), .val (.ref by_), .val (.int st1), .val (.int en1), .val (.int st2), .val (.int en2), .val (.ref a), .val (.int c1), .val (.int (1 : Int32)), .val (.int c2), .val (.int tm)] [(.int en2), (.int st2), (.ref by_), (.int ((own_ps fy st2 nn).getD 0 0))])) rfl (by rw [hml]; rfl) (argsL := [(.ref by_), (.int st2), (.int en2)]) (rest := [(.int ((own_ps fy st2 nn).getD 0 0))]) (lenOf pd_8 rfl) rfl (by show 2 * 0 + _ ≤ _; exact Nat.le_of_eq rfl) (hb hby at_302) (fun _ _ => ⟨rfl, rfl, (by decide : 13 + 0 ≤ _), (by decide : 48 + 0 ≤ _)⟩)
    dsimp only [Pt.U, Pt.locs, Pt.cells, Pt.slots] at X139 l139 y139 z139 st139 hQ139
    subst l139 y139 z139
    obtain ⟨rfl, N139q, he139⟩ := hQ139
    have N139 := Fr.app N138 N139q
    have Kc139 : Keep T138.heap T139.heap [] := by rw [he139]; exact Keep.refl _ _
    have BAg_139 := BAg.keep Kc139 nin0
    have RVg_1_139 := RVg.1.keep Kc139
    have BRg_139 := BRg.keep Kc139 nin0
    have RV139 := RVg.keep Kc139 nin0
    have zq139 : n0 ≤ T139.heap.size := Nat.le_trans zg Kc139.1
    have fl140 : ∀ target, Steps p.tables e below (T139.setTop (mkF m 314 #[.val (.int p1), .val (.int p2), .val (.int p3), .val (.int p4), .val (.long q5), .second, .val (.long q6), .second, .val (.ref bx), .val (.int sm), .val (.ref by_), .val (.int st1), .val (.int en1), .val (.int st2), .val (.int en2), .val (.ref a), .val (.int c1), .val (.int (1 : Int32)), .val (.int c2), .val (.int tm)] [(.int (c2 - (1 : Int32))), (.ref a)])) target → Steps p.tables e below (T136.setTop (mkF m 287 #[.val (.int p1), .val (.int p2), .val (.int p3), .val (.int p4), .val (.long q5), .second, .val (.long q6), .second, .val (.ref bx), .val (.int sm), .val (.ref by_), .val (.int st1), .val (.int en1), .val (.int st2), .val (.int en2), .val (.ref a), .val (.int c1), .val (.int (1 : Int32)), .val (.int c2), .val (.int tm)] [(.int c2)])) target := fun target kt => by
      show Steps p.tables e below (T136.setTop (mkF m 287 #[.val (.int p1), .val (.int p2), .val (.int p3), .val (.int p4), .val (.long q5), .second, .val (.long q6), .second, .val (.ref bx), .val (.int sm), .val (.ref by_), .val (.int st1), .val (.int en1), .val (.int st2), .val (.int en2), .val (.ref a), .val (.int c1), .val (.int (1 : Int32)), .val (.int c2), .val (.int tm)] [(.int c2)])) _
      refine XS.ifNo X136.here hx rfl (hb hby at_287) rfl ((if0 _ _).trans (tlt (hc : (0 : Int32) < c2)).2.2.2) ?_
      show Steps p.tables e below (T136.setTop (mkF m 290 #[.val (.int p1), .val (.int p2), .val (.int p3), .val (.int p4), .val (.long q5), .second, .val (.long q6), .second, .val (.ref bx), .val (.int sm), .val (.ref by_), .val (.int st1), .val (.int en1), .val (.int st2), .val (.int en2), .val (.ref a), .val (.int c1), .val (.int (1 : Int32)), .val (.int c2), .val (.int tm)] [])) _
      refine XS.aload X136.here hx rfl (hb hby at_290) rfl rfl ?_
      show Steps p.tables e below (T136.setTop (mkF m 292 #[.val (.int p1), .val (.int p2), .val (.int p3), .val (.int p4), .val (.long q5), .second, .val (.long q6), .second, .val (.ref bx), .val (.int sm), .val (.ref by_), .val (.int st1), .val (.int en1), .val (.int st2), .val (.int en2), .val (.ref a), .val (.int c1), .val (.int (1 : Int32)), .val (.int c2), .val (.int tm)] [(.ref a)])) _
      refine XS.iconst X136.here hx rfl (hb hby at_292) ?_
      show Steps p.tables e below (T136.setTop (mkF m 293 #[.val (.int p1), .val (.int p2), .val (.int p3), .val (.int p4), .val (.long q5), .second, .val (.long q6), .second, .val (.ref bx), .val (.int sm), .val (.ref by_), .val (.int st1), .val (.int en1), .val (.int st2), .val (.int en2), .val (.ref a), .val (.int c1), .val (.int (1 : Int32)), .val (.int c2), .val (.int tm)] [(.int (0 : Int32)), (.ref a)])) _
      refine st138.trans ?_
      show Steps p.tables e below (T138.setTop (mkF m 296 #[.val (.int p1), .val (.int p2), .val (.int p3), .val (.int p4), .val (.long q5), .second, .val (.long q6), .second, .val (.ref bx), .val (.int sm), .val (.ref by_), .val (.int st1), .val (.int en1), .val (.int st2), .val (.int en2), .val (.ref a), .val (.int c1), .val (.int (1 : Int32)), .val (.int c2), .val (.int tm)] [(.int ((own_ps fy st2 nn).getD 0 0))])) _
      refine XS.aload X138.here hx rfl (hb hby at_296) rfl rfl ?_
      show Steps p.tables e below (T138.setTop (mkF m 298 #[.val (.int p1), .val (.int p2), .val (.int p3), .val (.int p4), .val (.long q5), .second, .val (.long q6), .second, .val (.ref bx), .val (.int sm), .val (.ref by_), .val (.int st1), .val (.int en1), .val (.int st2), .val (.int en2), .val (.ref a), .val (.int c1), .val (.int (1 : Int32)), .val (.int c2), .val (.int tm)] [(.ref by_), (.int ((own_ps fy st2 nn).getD 0 0))])) _
      refine XS.iload X138.here hx rfl (hb hby at_298) rfl ?_
      show Steps p.tables e below (T138.setTop (mkF m 300 #[.val (.int p1), .val (.int p2), .val (.int p3), .val (.int p4), .val (.long q5), .second, .val (.long q6), .second, .val (.ref bx), .val (.int sm), .val (.ref by_), .val (.int st1), .val (.int en1), .val (.int st2), .val (.int en2), .val (.ref a), .val (.int c1), .val (.int (1 : Int32)), .val (.int c2), .val (.int tm)] [(.int st2), (.ref by_), (.int ((own_ps fy st2 nn).getD 0 0))])) _
      refine XS.iload X138.here hx rfl (hb hby at_300) rfl ?_
      show Steps p.tables e below (T138.setTop (mkF m 302 #[.val (.int p1), .val (.int p2), .val (.int p3), .val (.int p4), .val (.long q5), .second, .val (.long q6), .second, .val (.ref bx), .val (.int sm), .val (.ref by_), .val (.int st1), .val (.int en1), .val (.int st2), .val (.int en2), .val (.ref a), .val (.int c1), .val (.int (1 : Int32)), .val (.int c2), .val (.int tm)] [(.int en2), (.int st2), (.ref by_), (.int ((own_ps fy st2 nn).getD 0 0))])) _
      refine st139 _ ?_
      show Steps p.tables e below (T139.setTop (mkF m 305 #[.val (.int p1), .val (.int p2), .val (.int p3), .val (.int p4), .val (.long q5), .second, .val (.long q6), .second, .val (.ref bx), .val (.int sm), .val (.ref by_), .val (.int st1), .val (.int en1), .val (.int st2), .val (.int en2), .val (.ref a), .val (.int c1), .val (.int (1 : Int32)), .val (.int c2), .val (.int tm)] [(.int ((own_ps fy st2 nn).getD 0 0)), (.int ((own_ps fy st2 nn).getD 0 0))])) _
      refine XS.icmpNo X139.here hx rfl (hb hby at_305) rfl (teq (rfl : ((own_ps fy st2 nn).getD 0 0) = ((own_ps fy st2 nn).getD 0 0))).2 ?_
      show Steps p.tables e below (T139.setTop (mkF m 308 #[.val (.int p1), .val (.int p2), .val (.int p3), .val (.int p4), .val (.long q5), .second, .val (.long q6), .second, .val (.ref bx), .val (.int sm), .val (.ref by_), .val (.int st1), .val (.int en1), .val (.int st2), .val (.int en2), .val (.ref a), .val (.int c1), .val (.int (1 : Int32)), .val (.int c2), .val (.int tm)] [])) _
      refine XS.aload X139.here hx rfl (hb hby at_308) rfl rfl ?_
      show Steps p.tables e below (T139.setTop (mkF m 310 #[.val (.int p1), .val (.int p2), .val (.int p3), .val (.int p4), .val (.long q5), .second, .val (.long q6), .second, .val (.ref bx), .val (.int sm), .val (.ref by_), .val (.int st1), .val (.int en1), .val (.int st2), .val (.int en2), .val (.ref a), .val (.int c1), .val (.int (1 : Int32)), .val (.int c2), .val (.int tm)] [(.ref a)])) _
      refine XS.iload X139.here hx rfl (hb hby at_310) rfl ?_
      show Steps p.tables e below (T139.setTop (mkF m 312 #[.val (.int p1), .val (.int p2), .val (.int p3), .val (.int p4), .val (.long q5), .second, .val (.long q6), .second, .val (.ref bx), .val (.int sm), .val (.ref by_), .val (.int st1), .val (.int en1), .val (.int st2), .val (.int en2), .val (.ref a), .val (.int c1), .val (.int (1 : Int32)), .val (.int c2), .val (.int tm)] [(.int c2), (.ref a)])) _
      refine XS.iconst X139.here hx rfl (hb hby at_312) ?_
      show Steps p.tables e below (T139.setTop (mkF m 313 #[.val (.int p1), .val (.int p2), .val (.int p3), .val (.int p4), .val (.long q5), .second, .val (.long q6), .second, .val (.ref bx), .val (.int sm), .val (.ref by_), .val (.int st1), .val (.int en1), .val (.int st2), .val (.int en2), .val (.ref a), .val (.int c1), .val (.int (1 : Int32)), .val (.int c2), .val (.int tm)] [(.int (1 : Int32)), (.int c2), (.ref a)])) _
      refine XS.isub X139.here hx rfl (hb hby at_313) rfl ?_
      exact kt
    rw [hm1] at fl140
    obtain ⟨cq141, kq141, q141a, q141b, q141c⟩ := isOf hZ rfl RVg_1_139
    obtain ⟨_, _, ⟨T141, L141, k141, n141⟩, -, X141, ⟨Lc141, hQ141, l141, y141, z141⟩, st141⟩ := X139.virtualBack hx (y := (⟨"com/example/concept_ledger/conceptledger/model/RowView", "fieldEnd", "(I)I"⟩ : MethodName)) (z := (⟨"com/example/concept_ledger/conceptledger/model/RowView", "fieldEnd", "(I)I"⟩ : MethodName)) hown (mvT hZ (hw _ (List.mem_of_getElem? (i := 65) rfl))) (mvT hZ (hw _ (List.mem_of_getElem? (i := 66) rfl))) (notFace_of_selects (args := #[]) (mvT hZ (hw _ (List.mem_of_getElem? (i := 68) rfl)))) (mvT hZ (hw _ (List.mem_of_getElem? (i := 68) rfl))) (mvT hZ (hw _ (List.mem_of_getElem? (i := 67) rfl))) (by decide) (backOf (W := 0) (rm12 l Z a0 hw [] a (Int32.ofNat ((own_ps fy st2 nn).length - 1)) by_ ky fy ar1 st2 en2 q6 c2 s1 ((own_ps fy st2 nn).length - 1) D1 n1 (own_ps fy st2 nn) T139.heap n0 zq139 rfl RV139 BAg_139 BRg_139 hse g_a gg nea nag nbg hg0 hg1 hg2 hPg (by omega)) hZ (hw _ (List.mem_of_getElem? (i := 69) rfl)) (hw _ (List.mem_of_getElem? (i := 10) rfl)) (by decide) (by decide)) q141a q141c (g := (mkF m 314 #[.val (.int p1), .val (.int p2), .val (.int p3), .val (.int p4), .val (.long q5), .second, .val (.long q6), .second, .val (.ref bx), .val (.int sm), .val (.ref by_), .val (.int st1), .val (.int en1), .val (.int st2), .val (.int en2), .val (.ref a), .val (.int c1), .val (.int (1 : Int32)), .val (.int c2), .val (.int tm)] [(.int (Int32.ofNat ((own_ps fy st2 nn).length - 1))), (.ref a)])) rfl (by rw [hml]; rfl) (Steps.refl _) (argsL := [(.int (Int32.ofNat ((own_ps fy st2 nn).length - 1)))]) (rest := []) (lenOf pd_6 rfl) rfl (by show 2 * 0 + _ ≤ _; exact Nat.le_of_eq rfl) (hb hby at_314) (fun _ _ => ⟨rfl, rfl, (by decide : 13 + 4 ≤ _), (by decide : 48 + 16 ≤ _)⟩)
    dsimp only [Pt.U, Pt.locs, Pt.cells, Pt.slots] at X141 l141 y141 z141 st141 hQ141
    subst l141 y141 z141
    obtain ⟨ar2, s2, D2, n2, rfl, N141q, RVi, BAi, BRi, Ki, gi, nai, nbi, ori, hPi, hi0, hi1, hi2⟩ := hQ141
    have N141 := Fr.app N139 N141q
    have zi : n0 ≤ T141.heap.size := Nat.le_trans zq139 Ki.1
    obtain ⟨_, _, ⟨T142, L142, k142, n142⟩, -, X142, ⟨Lc142, hQ142, l142, y142, z142⟩, st142⟩ := Jvm.LawKit.callS X141 hx (y := (⟨"com/example/concept_ledger/conceptledger/model/RowViewSetPinLaw", "lastBar", "([BII)I"⟩ : MethodName)) hown (mvT hZ (hw _ (List.mem_of_getElem? (i := 100) rfl))) (mvT hZ (hw _ (List.mem_of_getElem? (i := 101) rfl))) (mvT hZ (hw _ (List.mem_of_getElem? (i := 2) rfl))) (mvT hZ (hw _ (List.mem_of_getElem? (i := 102) rfl))) (by decide) (backOf (W := 1) (rm20 l Z a0 hw [] by_ st2 en2 ky fy ((own_ps fy st2 nn).getD ((own_ps fy st2 nn).length - 1) 0) T141.heap n0 zi BAi (nums.2.2 hpos).1) hZ (hw _ (List.mem_of_getElem? (i := 102) rfl)) (hw _ (List.mem_of_getElem? (i := 2) rfl)) (by decide) (by decide)) (g := (mkF m 323 #[.val (.int p1), .val (.int p2), .val (.int p3), .val (.int p4), .val (.long q5), .second, .val (.long q6), .second, .val (.ref bx), .val (.int sm), .val (.ref by_), .val (.int st1), .val (.int en1), .val (.int st2), .val (.int en2), .val (.ref a), .val (.int c1), .val (.int (1 : Int32)), .val (.int c2), .val (.int tm)] [(.int en2), (.int st2), (.ref by_), (.int ((own_ps fy st2 nn).getD ((own_ps fy st2 nn).length - 1) 0))])) rfl (by rw [hml]; rfl) (argsL := [(.ref by_), (.int st2), (.int en2)]) (rest := [(.int ((own_ps fy st2 nn).getD ((own_ps fy st2 nn).length - 1) 0))]) (lenOf pd_8 rfl) rfl (by show 2 * 0 + _ ≤ _; exact Nat.le_of_eq rfl) (hb hby at_323) (fun _ _ => ⟨rfl, rfl, (by decide : 17 + 0 ≤ _), (by decide : 64 + 0 ≤ _)⟩)
    dsimp only [Pt.U, Pt.locs, Pt.cells, Pt.slots] at X142 l142 y142 z142 st142 hQ142
    subst l142 y142 z142
    obtain ⟨rfl, N142q, he142⟩ := hQ142
    have N142 := Fr.app N141 N142q
    have fl143 : ∀ target, Steps p.tables e below (T142.setTop (mkF m 338 #[.val (.int p1), .val (.int p2), .val (.int p3), .val (.int p4), .val (.long q5), .second, .val (.long q6), .second, .val (.ref bx), .val (.int sm), .val (.ref by_), .val (.int st1), .val (.int en1), .val (.int st2), .val (.int en2), .val (.ref a), .val (.int c1), .val (.int (1 : Int32)), .val (.int c2), .val (.int tm)] [(.int (1 : Int32))])) target → Steps p.tables e below (T139.setTop (mkF m 314 #[.val (.int p1), .val (.int p2), .val (.int p3), .val (.int p4), .val (.long q5), .second, .val (.long q6), .second, .val (.ref bx), .val (.int sm), .val (.ref by_), .val (.int st1), .val (.int en1), .val (.int st2), .val (.int en2), .val (.ref a), .val (.int c1), .val (.int (1 : Int32)), .val (.int c2), .val (.int tm)] [(.int (Int32.ofNat ((own_ps fy st2 nn).length - 1))), (.ref a)])) target := fun target kt => by
      show Steps p.tables e below (T139.setTop (mkF m 314 #[.val (.int p1), .val (.int p2), .val (.int p3), .val (.int p4), .val (.long q5), .second, .val (.long q6), .second, .val (.ref bx), .val (.int sm), .val (.ref by_), .val (.int st1), .val (.int en1), .val (.int st2), .val (.int en2), .val (.ref a), .val (.int c1), .val (.int (1 : Int32)), .val (.int c2), .val (.int tm)] [(.int (Int32.ofNat ((own_ps fy st2 nn).length - 1))), (.ref a)])) _
      refine st141.trans ?_
      show Steps p.tables e below (T141.setTop (mkF m 317 #[.val (.int p1), .val (.int p2), .val (.int p3), .val (.int p4), .val (.long q5), .second, .val (.long q6), .second, .val (.ref bx), .val (.int sm), .val (.ref by_), .val (.int st1), .val (.int en1), .val (.int st2), .val (.int en2), .val (.ref a), .val (.int c1), .val (.int (1 : Int32)), .val (.int c2), .val (.int tm)] [(.int ((own_ps fy st2 nn).getD ((own_ps fy st2 nn).length - 1) 0))])) _
      refine XS.aload X141.here hx rfl (hb hby at_317) rfl rfl ?_
      show Steps p.tables e below (T141.setTop (mkF m 319 #[.val (.int p1), .val (.int p2), .val (.int p3), .val (.int p4), .val (.long q5), .second, .val (.long q6), .second, .val (.ref bx), .val (.int sm), .val (.ref by_), .val (.int st1), .val (.int en1), .val (.int st2), .val (.int en2), .val (.ref a), .val (.int c1), .val (.int (1 : Int32)), .val (.int c2), .val (.int tm)] [(.ref by_), (.int ((own_ps fy st2 nn).getD ((own_ps fy st2 nn).length - 1) 0))])) _
      refine XS.iload X141.here hx rfl (hb hby at_319) rfl ?_
      show Steps p.tables e below (T141.setTop (mkF m 321 #[.val (.int p1), .val (.int p2), .val (.int p3), .val (.int p4), .val (.long q5), .second, .val (.long q6), .second, .val (.ref bx), .val (.int sm), .val (.ref by_), .val (.int st1), .val (.int en1), .val (.int st2), .val (.int en2), .val (.ref a), .val (.int c1), .val (.int (1 : Int32)), .val (.int c2), .val (.int tm)] [(.int st2), (.ref by_), (.int ((own_ps fy st2 nn).getD ((own_ps fy st2 nn).length - 1) 0))])) _
      refine XS.iload X141.here hx rfl (hb hby at_321) rfl ?_
      show Steps p.tables e below (T141.setTop (mkF m 323 #[.val (.int p1), .val (.int p2), .val (.int p3), .val (.int p4), .val (.long q5), .second, .val (.long q6), .second, .val (.ref bx), .val (.int sm), .val (.ref by_), .val (.int st1), .val (.int en1), .val (.int st2), .val (.int en2), .val (.ref a), .val (.int c1), .val (.int (1 : Int32)), .val (.int c2), .val (.int tm)] [(.int en2), (.int st2), (.ref by_), (.int ((own_ps fy st2 nn).getD ((own_ps fy st2 nn).length - 1) 0))])) _
      refine st142 _ ?_
      show Steps p.tables e below (T142.setTop (mkF m 326 #[.val (.int p1), .val (.int p2), .val (.int p3), .val (.int p4), .val (.long q5), .second, .val (.long q6), .second, .val (.ref bx), .val (.int sm), .val (.ref by_), .val (.int st1), .val (.int en1), .val (.int st2), .val (.int en2), .val (.ref a), .val (.int c1), .val (.int (1 : Int32)), .val (.int c2), .val (.int tm)] [(.int ((own_ps fy st2 nn).getD ((own_ps fy st2 nn).length - 1) 0)), (.int ((own_ps fy st2 nn).getD ((own_ps fy st2 nn).length - 1) 0))])) _
      refine XS.icmpNo X142.here hx rfl (hb hby at_326) rfl (teq (rfl : ((own_ps fy st2 nn).getD ((own_ps fy st2 nn).length - 1) 0) = ((own_ps fy st2 nn).getD ((own_ps fy st2 nn).length - 1) 0))).2 ?_
      show Steps p.tables e below (T142.setTop (mkF m 329 #[.val (.int p1), .val (.int p2), .val (.int p3), .val (.int p4), .val (.long q5), .second, .val (.long q6), .second, .val (.ref bx), .val (.int sm), .val (.ref by_), .val (.int st1), .val (.int en1), .val (.int st2), .val (.int en2), .val (.ref a), .val (.int c1), .val (.int (1 : Int32)), .val (.int c2), .val (.int tm)] [])) _
      refine XS.iconst X142.here hx rfl (hb hby at_329) ?_
      show Steps p.tables e below (T142.setTop (mkF m 330 #[.val (.int p1), .val (.int p2), .val (.int p3), .val (.int p4), .val (.long q5), .second, .val (.long q6), .second, .val (.ref bx), .val (.int sm), .val (.ref by_), .val (.int st1), .val (.int en1), .val (.int st2), .val (.int en2), .val (.ref a), .val (.int c1), .val (.int (1 : Int32)), .val (.int c2), .val (.int tm)] [(.int (1 : Int32))])) _
      refine XS.goto X142.here hx rfl (pc0 := 330) (pc' := 334) rfl (hb hby at_330) (by decide) (by decide) ?_
      show Steps p.tables e below (T142.setTop (mkF m 334 #[.val (.int p1), .val (.int p2), .val (.int p3), .val (.int p4), .val (.long q5), .second, .val (.long q6), .second, .val (.ref bx), .val (.int sm), .val (.ref by_), .val (.int st1), .val (.int en1), .val (.int st2), .val (.int en2), .val (.ref a), .val (.int c1), .val (.int (1 : Int32)), .val (.int c2), .val (.int tm)] [(.int (1 : Int32))])) _
      refine XS.istore X142.here hx rfl (hb hby at_334) rfl (l' := #[.val (.int p1), .val (.int p2), .val (.int p3), .val (.int p4), .val (.long q5), .second, .val (.long q6), .second, .val (.ref bx), .val (.int sm), .val (.ref by_), .val (.int st1), .val (.int en1), .val (.int st2), .val (.int en2), .val (.ref a), .val (.int c1), .val (.int (1 : Int32)), .val (.int c2), .val (.int tm)]) rfl ?_
      show Steps p.tables e below (T142.setTop (mkF m 336 #[.val (.int p1), .val (.int p2), .val (.int p3), .val (.int p4), .val (.long q5), .second, .val (.long q6), .second, .val (.ref bx), .val (.int sm), .val (.ref by_), .val (.int st1), .val (.int en1), .val (.int st2), .val (.int en2), .val (.ref a), .val (.int c1), .val (.int (1 : Int32)), .val (.int c2), .val (.int tm)] [])) _
      refine XS.iload X142.here hx rfl (hb hby at_336) rfl ?_
      exact kt
    exact ⟨T142, _, _, X142.more (by decide) (by decide), N142, fun target kt => (fl131 _ (fl132 _ (fl137 _ (fl140 _ (fl143 _ kt)))))⟩
  · have fl144 : ∀ target, Steps p.tables e below (T136.setTop (mkF m 338 #[.val (.int p1), .val (.int p2), .val (.int p3), .val (.int p4), .val (.long q5), .second, .val (.long q6), .second, .val (.ref bx), .val (.int sm), .val (.ref by_), .val (.int st1), .val (.int en1), .val (.int st2), .val (.int en2), .val (.ref a), .val (.int c1), .val (.int (1 : Int32)), .val (.int c2), .val (.int tm)] [(.int (1 : Int32))])) target → Steps p.tables e below (T136.setTop (mkF m 287 #[.val (.int p1), .val (.int p2), .val (.int p3), .val (.int p4), .val (.long q5), .second, .val (.long q6), .second, .val (.ref bx), .val (.int sm), .val (.ref by_), .val (.int st1), .val (.int en1), .val (.int st2), .val (.int en2), .val (.ref a), .val (.int c1), .val (.int (1 : Int32)), .val (.int c2), .val (.int tm)] [(.int c2)])) target := fun target kt => by
      show Steps p.tables e below (T136.setTop (mkF m 287 #[.val (.int p1), .val (.int p2), .val (.int p3), .val (.int p4), .val (.long q5), .second, .val (.long q6), .second, .val (.ref bx), .val (.int sm), .val (.ref by_), .val (.int st1), .val (.int en1), .val (.int st2), .val (.int en2), .val (.ref a), .val (.int c1), .val (.int (1 : Int32)), .val (.int c2), .val (.int tm)] [(.int c2)])) _
      refine XS.ifYes X136.here hx rfl (pc0 := 287) (pc' := 336) rfl (hb hby at_287) rfl ((if0 _ _).trans (flt (hc : ¬ ((0 : Int32) < c2))).2.2.2) (by decide) (by decide) ?_
      show Steps p.tables e below (T136.setTop (mkF m 336 #[.val (.int p1), .val (.int p2), .val (.int p3), .val (.int p4), .val (.long q5), .second, .val (.long q6), .second, .val (.ref bx), .val (.int sm), .val (.ref by_), .val (.int st1), .val (.int en1), .val (.int st2), .val (.int en2), .val (.ref a), .val (.int c1), .val (.int (1 : Int32)), .val (.int c2), .val (.int tm)] [])) _
      refine XS.iload X136.here hx rfl (hb hby at_336) rfl ?_
      exact kt
    exact ⟨T136, _, _, X136.more (by decide) (by decide), N136, fun target kt => (fl131 _ (fl132 _ (fl137 _ (fl144 _ kt))))⟩
set_option maxRecDepth 65536 in
set_option maxHeartbeats 40000000 in
theorem own_p2 {p : Program} {l : Launch} {e : Env} {s : State} {m : MethodId} {args : Array Value} {below : List Frame} {meth : Method} {c : Code} {Z : State} {a0 : Array Value} {n0 : Nat} {T0 : State} {h0 : Heap} {locs : List Loc} (p1 : Int32) (p2 : Int32) (p3 : Int32) (p4 : Int32) (q5 : Int64) (q6 : Int64) (bx : Addr) (sm : Int32) (by_ : Addr) (ky : ClassId) (fy : Int32 → Int32) (kx : ClassId) (fx : Int32 → Int32) (st1 : Int32) (en1 : Int32) (st2 : Int32) (en2 : Int32) (a : Addr) (c1 : Int32) (ar : Addr) (nn : Nat) (X0 : Stand p l e room_1 s m args below meth c T0 locs 5 16) (hx : p.tables.exec = Jvm.exec) (hZ : Z.Warmed39 s.vm) (hw : ∀ d ∈ tables_1, d.before a0 Z = true) (hby : c.code = code) (hml : c.maxLocals = 20) (hown : s.vm.findClass "com/example/concept_ledger/conceptledger/model/RowViewSetPinLaw" = some m.cls) (e0 : T0.heap = h0) (N0 : Fr n0 locs) (Z0 : n0 ≤ h0.size) (RV : own_RV Z h0 a bx ar st1 en1 q5 c1 0 st1) (BR : own_Bars Z h0 ar []) (BAx : own_BA Z h0 bx kx fx) (BA : own_BA Z h0 by_ ky fy) (hse : own_se st1 en1) (hn : st1.toInt + nn = en1.toInt) (hn4 : nn ≤ 4) (hc1 : c1 = own_cnt fx st1 en1) (g_a : n0 ≤ a) (g_ar : n0 ≤ ar) (ne1 : a ≠ ar) (neax : a ≠ bx) (nea : a ≠ by_) (ne2x : bx ≠ ar) (ne2 : by_ ≠ ar) :
    ∃ (T' : State) (h' : Heap) (ar' : Addr) (D' : List Int32) (fo' se' : Int32) (L' : List Loc), Stand p l e room_1 s m args below meth c T' L' 9 32 ∧ T'.heap = h' ∧ Fr n0 L' ∧ n0 ≤ h'.size ∧ own_RV Z h' a bx ar' st1 en1 q5 c1 fo' se' ∧ own_Bars Z h' ar' D' ∧ own_BA Z h' by_ ky fy ∧ n0 ≤ ar' ∧ a ≠ ar' ∧ by_ ≠ ar' ∧ ∀ target, Steps p.tables e below (T'.setTop (mkF m 174 #[.val (.int p1), .val (.int p2), .val (.int p3), .val (.int p4), .val (.long q5), .second, .val (.long q6), .second, .val (.ref bx), .val (.int sm), .val (.ref by_), .val (.int st1), .val (.int en1), .val (.int st2), .val (.int en2), .val (.ref a), .val (.int c1), .val (.int (1 : Int32)), .unset, .unset] [])) target → Steps p.tables e below (T0.setTop (mkF m 136 #[.val (.int p1), .val (.int p2), .val (.int p3), .val (.int p4), .val (.long q5), .second, .val (.long q6), .second, .val (.ref bx), .val (.int sm), .val (.ref by_), .val (.int st1), .val (.int en1), .val (.int st2), .val (.int en2), .val (.ref a), .val (.int c1), .val (.int (1 : Int32)), .unset, .unset] [])) target := by
  have nums := own_nums fx st1 en1 nn hse hn
  have hlen := own_psle fx nn st1
  have hcl : c1 = Int32.ofNat (own_ps fx st1 nn).length := by rw [hc1]; exact nums.2.1
  have hct : c1.toInt = (own_ps fx st1 nn).length := by rw [hcl, own_on (by omega)]
  by_cases hc : (0 : Int32) < c1
  · have hpos : 0 < (own_ps fx st1 nn).length := by have z : (0 : Int32).toInt = 0 := rfl; rw [own_lti] at hc; omega
    have hm1 : c1 - (1 : Int32) = Int32.ofNat ((own_ps fx st1 nn).length - 1) := by
      apply Int32.toInt_inj.mp
      have z : (1 : Int32).toInt = 1 := rfl
      have q := c_isub c1 1
      have r := rng32 (c1 - 1)
      rw [own_on (by omega)]; omega
    have fl145 : ∀ target, Steps p.tables e below (T0.setTop (mkF m 152 #[.val (.int p1), .val (.int p2), .val (.int p3), .val (.int p4), .val (.long q5), .second, .val (.long q6), .second, .val (.ref bx), .val (.int sm), .val (.ref by_), .val (.int st1), .val (.int en1), .val (.int st2), .val (.int en2), .val (.ref a), .val (.int c1), .val (.int (1 : Int32)), .unset, .unset] [(.int (c1 - (1 : Int32))), (.ref a)])) target → Steps p.tables e below (T0.setTop (mkF m 136 #[.val (.int p1), .val (.int p2), .val (.int p3), .val (.int p4), .val (.long q5), .second, .val (.long q6), .second, .val (.ref bx), .val (.int sm), .val (.ref by_), .val (.int st1), .val (.int en1), .val (.int st2), .val (.int en2), .val (.ref a), .val (.int c1), .val (.int (1 : Int32)), .unset, .unset] [])) target := fun target kt => by
      show Steps p.tables e below (T0.setTop (mkF m 136 #[.val (.int p1), .val (.int p2), .val (.int p3), .val (.int p4), .val (.long q5), .second, .val (.long q6), .second, .val (.ref bx), .val (.int sm), .val (.ref by_), .val (.int st1), .val (.int en1), .val (.int st2), .val (.int en2), .val (.ref a), .val (.int c1), .val (.int (1 : Int32)), .unset, .unset] [])) _
      refine XS.iload X0.here hx rfl (hb hby at_136) rfl ?_
      show Steps p.tables e below (T0.setTop (mkF m 138 #[.val (.int p1), .val (.int p2), .val (.int p3), .val (.int p4), .val (.long q5), .second, .val (.long q6), .second, .val (.ref bx), .val (.int sm), .val (.ref by_), .val (.int st1), .val (.int en1), .val (.int st2), .val (.int en2), .val (.ref a), .val (.int c1), .val (.int (1 : Int32)), .unset, .unset] [(.int (1 : Int32))])) _
      refine XS.ifNo X0.here hx rfl (hb hby at_138) rfl ((if0 _ _).trans (feq (by decide : ¬ ((1 : Int32) = (0 : Int32)))).1) ?_
      show Steps p.tables e below (T0.setTop (mkF m 141 #[.val (.int p1), .val (.int p2), .val (.int p3), .val (.int p4), .val (.long q5), .second, .val (.long q6), .second, .val (.ref bx), .val (.int sm), .val (.ref by_), .val (.int st1), .val (.int en1), .val (.int st2), .val (.int en2), .val (.ref a), .val (.int c1), .val (.int (1 : Int32)), .unset, .unset] [])) _
      refine XS.iload X0.here hx rfl (hb hby at_141) rfl ?_
      show Steps p.tables e below (T0.setTop (mkF m 143 #[.val (.int p1), .val (.int p2), .val (.int p3), .val (.int p4), .val (.long q5), .second, .val (.long q6), .second, .val (.ref bx), .val (.int sm), .val (.ref by_), .val (.int st1), .val (.int en1), .val (.int st2), .val (.int en2), .val (.ref a), .val (.int c1), .val (.int (1 : Int32)), .unset, .unset] [(.int c1)])) _
      refine XS.ifNo X0.here hx rfl (hb hby at_143) rfl ((if0 _ _).trans (tlt (hc : (0 : Int32) < c1)).2.2.2) ?_
      show Steps p.tables e below (T0.setTop (mkF m 146 #[.val (.int p1), .val (.int p2), .val (.int p3), .val (.int p4), .val (.long q5), .second, .val (.long q6), .second, .val (.ref bx), .val (.int sm), .val (.ref by_), .val (.int st1), .val (.int en1), .val (.int st2), .val (.int en2), .val (.ref a), .val (.int c1), .val (.int (1 : Int32)), .unset, .unset] [])) _
      refine XS.aload X0.here hx rfl (hb hby at_146) rfl rfl ?_
      show Steps p.tables e below (T0.setTop (mkF m 148 #[.val (.int p1), .val (.int p2), .val (.int p3), .val (.int p4), .val (.long q5), .second, .val (.long q6), .second, .val (.ref bx), .val (.int sm), .val (.ref by_), .val (.int st1), .val (.int en1), .val (.int st2), .val (.int en2), .val (.ref a), .val (.int c1), .val (.int (1 : Int32)), .unset, .unset] [(.ref a)])) _
      refine XS.iload X0.here hx rfl (hb hby at_148) rfl ?_
      show Steps p.tables e below (T0.setTop (mkF m 150 #[.val (.int p1), .val (.int p2), .val (.int p3), .val (.int p4), .val (.long q5), .second, .val (.long q6), .second, .val (.ref bx), .val (.int sm), .val (.ref by_), .val (.int st1), .val (.int en1), .val (.int st2), .val (.int en2), .val (.ref a), .val (.int c1), .val (.int (1 : Int32)), .unset, .unset] [(.int c1), (.ref a)])) _
      refine XS.iconst X0.here hx rfl (hb hby at_150) ?_
      show Steps p.tables e below (T0.setTop (mkF m 151 #[.val (.int p1), .val (.int p2), .val (.int p3), .val (.int p4), .val (.long q5), .second, .val (.long q6), .second, .val (.ref bx), .val (.int sm), .val (.ref by_), .val (.int st1), .val (.int en1), .val (.int st2), .val (.int en2), .val (.ref a), .val (.int c1), .val (.int (1 : Int32)), .unset, .unset] [(.int (1 : Int32)), (.int c1), (.ref a)])) _
      refine XS.isub X0.here hx rfl (hb hby at_151) rfl ?_
      exact kt
    rw [hm1] at fl145
    obtain ⟨cq146, kq146, q146a, q146b, q146c⟩ := isOf hZ e0 RV.1
    obtain ⟨_, _, ⟨T146, L146, k146, n146⟩, -, X146, ⟨Lc146, hQ146, l146, y146, z146⟩, st146⟩ := X0.virtualBack hx (y := (⟨"com/example/concept_ledger/conceptledger/model/RowView", "fieldEnd", "(I)I"⟩ : MethodName)) (z := (⟨"com/example/concept_ledger/conceptledger/model/RowView", "fieldEnd", "(I)I"⟩ : MethodName)) hown (mvT hZ (hw _ (List.mem_of_getElem? (i := 65) rfl))) (mvT hZ (hw _ (List.mem_of_getElem? (i := 66) rfl))) (notFace_of_selects (args := #[]) (mvT hZ (hw _ (List.mem_of_getElem? (i := 68) rfl)))) (mvT hZ (hw _ (List.mem_of_getElem? (i := 68) rfl))) (mvT hZ (hw _ (List.mem_of_getElem? (i := 67) rfl))) (by decide) (backOf (W := 0) (rm12 l Z a0 hw [] a (Int32.ofNat ((own_ps fx st1 nn).length - 1)) bx kx fx ar st1 en1 q5 c1 st1 ((own_ps fx st1 nn).length - 1) [] nn (own_ps fx st1 nn) h0 n0 Z0 rfl RV BAx BR hse g_a g_ar neax ne1 ne2x hse.1 hn (by simpa using hn4) rfl (by omega)) hZ (hw _ (List.mem_of_getElem? (i := 69) rfl)) (hw _ (List.mem_of_getElem? (i := 10) rfl)) (by decide) (by decide)) q146a q146c (g := (mkF m 152 #[.val (.int p1), .val (.int p2), .val (.int p3), .val (.int p4), .val (.long q5), .second, .val (.long q6), .second, .val (.ref bx), .val (.int sm), .val (.ref by_), .val (.int st1), .val (.int en1), .val (.int st2), .val (.int en2), .val (.ref a), .val (.int c1), .val (.int (1 : Int32)), .unset, .unset] [(.int (Int32.ofNat ((own_ps fx st1 nn).length - 1))), (.ref a)])) rfl (by rw [hml]; rfl) (Steps.refl _) (argsL := [(.int (Int32.ofNat ((own_ps fx st1 nn).length - 1)))]) (rest := []) (lenOf pd_6 rfl) rfl (by show 2 * 0 + _ ≤ _; exact Nat.le_of_eq rfl) (hb hby at_152) (fun _ _ => ⟨rfl, e0, (by decide : 5 + 4 ≤ _), (by decide : 16 + 16 ≤ _)⟩)
    dsimp only [Pt.U, Pt.locs, Pt.cells, Pt.slots] at X146 l146 y146 z146 st146 hQ146
    subst l146 y146 z146
    obtain ⟨ar1, s1, D1, n1, rfl, N146q, RVg, BAg, BRg, Kg, gg, nag, nbg, org, hPg, hg0, hg1, hg2⟩ := hQ146
    have N146 := Fr.app N0 N146q
    have zg : n0 ≤ T146.heap.size := Nat.le_trans Z0 Kg.1
    have BAy := BA.keep Kg (ninS (Ne.symm nea) (ninS ne2 nin0))
    have nby : by_ ≠ ar1 := by
      rcases org with q | q
      · rw [q]; exact ne2
      · exact Nat.ne_of_lt (Nat.lt_of_lt_of_le BA.lt q)
    obtain ⟨_, _, ⟨T147, L147, k147, n147⟩, -, X147, ⟨Lc147, hQ147, l147, y147, z147⟩, st147⟩ := Jvm.LawKit.callS X146 hx (y := (⟨"com/example/concept_ledger/conceptledger/model/RowViewSetPinLaw", "lastBar", "([BII)I"⟩ : MethodName)) hown (mvT hZ (hw _ (List.mem_of_getElem? (i := 100) rfl))) (mvT hZ (hw _ (List.mem_of_getElem? (i := 101) rfl))) (mvT hZ (hw _ (List.mem_of_getElem? (i := 2) rfl))) (mvT hZ (hw _ (List.mem_of_getElem? (i := 102) rfl))) (by decide) (backOf (W := 1) (rm20 l Z a0 hw [] bx st1 en1 kx fx ((own_ps fx st1 nn).getD ((own_ps fx st1 nn).length - 1) 0) T146.heap n0 zg BAg (nums.2.2 hpos).1) hZ (hw _ (List.mem_of_getElem? (i := 102) rfl)) (hw _ (List.mem_of_getElem? (i := 2) rfl)) (by decide) (by decide)) (g := (mkF m 161 #[.val (.int p1), .val (.int p2), .val (.int p3), .val (.int p4), .val (.long q5), .second, .val (.long q6), .second, .val (.ref bx), .val (.int sm), .val (.ref by_), .val (.int st1), .val (.int en1), .val (.int st2), .val (.int en2), .val (.ref a), .val (.int c1), .val (.int (1 : Int32)), .unset, .unset] [(.int en1), (.int st1), (.ref bx), (.int ((own_ps fx st1 nn).getD ((own_ps fx st1 nn).length - 1) 0))])) rfl (by rw [hml]; rfl) (argsL := [(.ref bx), (.int st1), (.int en1)]) (rest := [(.int ((own_ps fx st1 nn).getD ((own_ps fx st1 nn).length - 1) 0))]) (lenOf pd_8 rfl) rfl (by show 2 * 0 + _ ≤ _; exact Nat.le_of_eq rfl) (hb hby at_161) (fun _ _ => ⟨rfl, rfl, (by decide : 9 + 0 ≤ _), (by decide : 32 + 0 ≤ _)⟩)
    dsimp only [Pt.U, Pt.locs, Pt.cells, Pt.slots] at X147 l147 y147 z147 st147 hQ147
    subst l147 y147 z147
    obtain ⟨rfl, N147q, he147⟩ := hQ147
    have N147 := Fr.app N146 N147q
    have Kc147 : Keep T146.heap T147.heap [] := by rw [he147]; exact Keep.refl _ _
    have fl148 : ∀ target, Steps p.tables e below (T147.setTop (mkF m 174 #[.val (.int p1), .val (.int p2), .val (.int p3), .val (.int p4), .val (.long q5), .second, .val (.long q6), .second, .val (.ref bx), .val (.int sm), .val (.ref by_), .val (.int st1), .val (.int en1), .val (.int st2), .val (.int en2), .val (.ref a), .val (.int c1), .val (.int (1 : Int32)), .unset, .unset] [])) target → Steps p.tables e below (T0.setTop (mkF m 152 #[.val (.int p1), .val (.int p2), .val (.int p3), .val (.int p4), .val (.long q5), .second, .val (.long q6), .second, .val (.ref bx), .val (.int sm), .val (.ref by_), .val (.int st1), .val (.int en1), .val (.int st2), .val (.int en2), .val (.ref a), .val (.int c1), .val (.int (1 : Int32)), .unset, .unset] [(.int (Int32.ofNat ((own_ps fx st1 nn).length - 1))), (.ref a)])) target := fun target kt => by
      show Steps p.tables e below (T0.setTop (mkF m 152 #[.val (.int p1), .val (.int p2), .val (.int p3), .val (.int p4), .val (.long q5), .second, .val (.long q6), .second, .val (.ref bx), .val (.int sm), .val (.ref by_), .val (.int st1), .val (.int en1), .val (.int st2), .val (.int en2), .val (.ref a), .val (.int c1), .val (.int (1 : Int32)), .unset, .unset] [(.int (Int32.ofNat ((own_ps fx st1 nn).length - 1))), (.ref a)])) _
      refine st146.trans ?_
      show Steps p.tables e below (T146.setTop (mkF m 155 #[.val (.int p1), .val (.int p2), .val (.int p3), .val (.int p4), .val (.long q5), .second, .val (.long q6), .second, .val (.ref bx), .val (.int sm), .val (.ref by_), .val (.int st1), .val (.int en1), .val (.int st2), .val (.int en2), .val (.ref a), .val (.int c1), .val (.int (1 : Int32)), .unset, .unset] [(.int ((own_ps fx st1 nn).getD ((own_ps fx st1 nn).length - 1) 0))])) _
      refine XS.aload X146.here hx rfl (hb hby at_155) rfl rfl ?_
      show Steps p.tables e below (T146.setTop (mkF m 157 #[.val (.int p1), .val (.int p2), .val (.int p3), .val (.int p4), .val (.long q5), .second, .val (.long q6), .second, .val (.ref bx), .val (.int sm), .val (.ref by_), .val (.int st1), .val (.int en1), .val (.int st2), .val (.int en2), .val (.ref a), .val (.int c1), .val (.int (1 : Int32)), .unset, .unset] [(.ref bx), (.int ((own_ps fx st1 nn).getD ((own_ps fx st1 nn).length - 1) 0))])) _
      refine XS.iload X146.here hx rfl (hb hby at_157) rfl ?_
      show Steps p.tables e below (T146.setTop (mkF m 159 #[.val (.int p1), .val (.int p2), .val (.int p3), .val (.int p4), .val (.long q5), .second, .val (.long q6), .second, .val (.ref bx), .val (.int sm), .val (.ref by_), .val (.int st1), .val (.int en1), .val (.int st2), .val (.int en2), .val (.ref a), .val (.int c1), .val (.int (1 : Int32)), .unset, .unset] [(.int st1), (.ref bx), (.int ((own_ps fx st1 nn).getD ((own_ps fx st1 nn).length - 1) 0))])) _
      refine XS.iload X146.here hx rfl (hb hby at_159) rfl ?_
      show Steps p.tables e below (T146.setTop (mkF m 161 #[.val (.int p1), .val (.int p2), .val (.int p3), .val (.int p4), .val (.long q5), .second, .val (.long q6), .second, .val (.ref bx), .val (.int sm), .val (.ref by_), .val (.int st1), .val (.int en1), .val (.int st2), .val (.int en2), .val (.ref a), .val (.int c1), .val (.int (1 : Int32)), .unset, .unset] [(.int en1), (.int st1), (.ref bx), (.int ((own_ps fx st1 nn).getD ((own_ps fx st1 nn).length - 1) 0))])) _
      refine st147 _ ?_
      show Steps p.tables e below (T147.setTop (mkF m 164 #[.val (.int p1), .val (.int p2), .val (.int p3), .val (.int p4), .val (.long q5), .second, .val (.long q6), .second, .val (.ref bx), .val (.int sm), .val (.ref by_), .val (.int st1), .val (.int en1), .val (.int st2), .val (.int en2), .val (.ref a), .val (.int c1), .val (.int (1 : Int32)), .unset, .unset] [(.int ((own_ps fx st1 nn).getD ((own_ps fx st1 nn).length - 1) 0)), (.int ((own_ps fx st1 nn).getD ((own_ps fx st1 nn).length - 1) 0))])) _
      refine XS.icmpNo X147.here hx rfl (hb hby at_164) rfl (teq (rfl : ((own_ps fx st1 nn).getD ((own_ps fx st1 nn).length - 1) 0) = ((own_ps fx st1 nn).getD ((own_ps fx st1 nn).length - 1) 0))).2 ?_
      show Steps p.tables e below (T147.setTop (mkF m 167 #[.val (.int p1), .val (.int p2), .val (.int p3), .val (.int p4), .val (.long q5), .second, .val (.long q6), .second, .val (.ref bx), .val (.int sm), .val (.ref by_), .val (.int st1), .val (.int en1), .val (.int st2), .val (.int en2), .val (.ref a), .val (.int c1), .val (.int (1 : Int32)), .unset, .unset] [])) _
      refine XS.iconst X147.here hx rfl (hb hby at_167) ?_
      show Steps p.tables e below (T147.setTop (mkF m 168 #[.val (.int p1), .val (.int p2), .val (.int p3), .val (.int p4), .val (.long q5), .second, .val (.long q6), .second, .val (.ref bx), .val (.int sm), .val (.ref by_), .val (.int st1), .val (.int en1), .val (.int st2), .val (.int en2), .val (.ref a), .val (.int c1), .val (.int (1 : Int32)), .unset, .unset] [(.int (1 : Int32))])) _
      refine XS.goto X147.here hx rfl (pc0 := 168) (pc' := 172) rfl (hb hby at_168) (by decide) (by decide) ?_
      show Steps p.tables e below (T147.setTop (mkF m 172 #[.val (.int p1), .val (.int p2), .val (.int p3), .val (.int p4), .val (.long q5), .second, .val (.long q6), .second, .val (.ref bx), .val (.int sm), .val (.ref by_), .val (.int st1), .val (.int en1), .val (.int st2), .val (.int en2), .val (.ref a), .val (.int c1), .val (.int (1 : Int32)), .unset, .unset] [(.int (1 : Int32))])) _
      refine XS.istore X147.here hx rfl (hb hby at_172) rfl (l' := #[.val (.int p1), .val (.int p2), .val (.int p3), .val (.int p4), .val (.long q5), .second, .val (.long q6), .second, .val (.ref bx), .val (.int sm), .val (.ref by_), .val (.int st1), .val (.int en1), .val (.int st2), .val (.int en2), .val (.ref a), .val (.int c1), .val (.int (1 : Int32)), .unset, .unset]) rfl ?_
      exact kt
    exact ⟨T147, _, ar1, D1, _, s1, _, X147.more (by decide) (by decide), rfl, N147, Nat.le_trans zg Kc147.1, RVg.keep Kc147 nin0, BRg.keep Kc147 nin0, BAy.keep Kc147 nin0, gg, nag, nby, fun target kt => (fl145 _ (fl148 _ kt))⟩
  · have fl149 : ∀ target, Steps p.tables e below (T0.setTop (mkF m 174 #[.val (.int p1), .val (.int p2), .val (.int p3), .val (.int p4), .val (.long q5), .second, .val (.long q6), .second, .val (.ref bx), .val (.int sm), .val (.ref by_), .val (.int st1), .val (.int en1), .val (.int st2), .val (.int en2), .val (.ref a), .val (.int c1), .val (.int (1 : Int32)), .unset, .unset] [])) target → Steps p.tables e below (T0.setTop (mkF m 136 #[.val (.int p1), .val (.int p2), .val (.int p3), .val (.int p4), .val (.long q5), .second, .val (.long q6), .second, .val (.ref bx), .val (.int sm), .val (.ref by_), .val (.int st1), .val (.int en1), .val (.int st2), .val (.int en2), .val (.ref a), .val (.int c1), .val (.int (1 : Int32)), .unset, .unset] [])) target := fun target kt => by
      show Steps p.tables e below (T0.setTop (mkF m 136 #[.val (.int p1), .val (.int p2), .val (.int p3), .val (.int p4), .val (.long q5), .second, .val (.long q6), .second, .val (.ref bx), .val (.int sm), .val (.ref by_), .val (.int st1), .val (.int en1), .val (.int st2), .val (.int en2), .val (.ref a), .val (.int c1), .val (.int (1 : Int32)), .unset, .unset] [])) _
      refine XS.iload X0.here hx rfl (hb hby at_136) rfl ?_
      show Steps p.tables e below (T0.setTop (mkF m 138 #[.val (.int p1), .val (.int p2), .val (.int p3), .val (.int p4), .val (.long q5), .second, .val (.long q6), .second, .val (.ref bx), .val (.int sm), .val (.ref by_), .val (.int st1), .val (.int en1), .val (.int st2), .val (.int en2), .val (.ref a), .val (.int c1), .val (.int (1 : Int32)), .unset, .unset] [(.int (1 : Int32))])) _
      refine XS.ifNo X0.here hx rfl (hb hby at_138) rfl ((if0 _ _).trans (feq (by decide : ¬ ((1 : Int32) = (0 : Int32)))).1) ?_
      show Steps p.tables e below (T0.setTop (mkF m 141 #[.val (.int p1), .val (.int p2), .val (.int p3), .val (.int p4), .val (.long q5), .second, .val (.long q6), .second, .val (.ref bx), .val (.int sm), .val (.ref by_), .val (.int st1), .val (.int en1), .val (.int st2), .val (.int en2), .val (.ref a), .val (.int c1), .val (.int (1 : Int32)), .unset, .unset] [])) _
      refine XS.iload X0.here hx rfl (hb hby at_141) rfl ?_
      show Steps p.tables e below (T0.setTop (mkF m 143 #[.val (.int p1), .val (.int p2), .val (.int p3), .val (.int p4), .val (.long q5), .second, .val (.long q6), .second, .val (.ref bx), .val (.int sm), .val (.ref by_), .val (.int st1), .val (.int en1), .val (.int st2), .val (.int en2), .val (.ref a), .val (.int c1), .val (.int (1 : Int32)), .unset, .unset] [(.int c1)])) _
      refine XS.ifYes X0.here hx rfl (pc0 := 143) (pc' := 174) rfl (hb hby at_143) rfl ((if0 _ _).trans (flt (hc : ¬ ((0 : Int32) < c1))).2.2.2) (by decide) (by decide) ?_
      exact kt
    exact ⟨T0, h0, ar, [], 0, st1, locs, X0.more (by decide) (by decide), e0, N0, Z0, RV, BR, BA, g_ar, ne1, ne2, fun target kt => (fl149 _ kt)⟩
set_option maxRecDepth 65536 in
set_option maxHeartbeats 40000000 in
theorem own_p1 {p : Program} {l : Launch} {e : Env} {s : State} {m : MethodId} {args : Array Value} {below : List Frame} {meth : Method} {c : Code} {Z : State} {a0 : Array Value} {n0 : Nat} {T0 : State} {h0 : Heap} {locs : List Loc} (p1 : Int32) (p2 : Int32) (p3 : Int32) (p4 : Int32) (q5 : Int64) (q6 : Int64) (bx : Addr) (sm : Int32) (by_ : Addr) (ky : ClassId) (fy : Int32 → Int32) (kx : ClassId) (fx : Int32 → Int32) (X0 : Stand p l e room_1 s m args below meth c T0 locs 2 8) (hx : p.tables.exec = Jvm.exec) (hZ : Z.Warmed39 s.vm) (hw : ∀ d ∈ tables_1, d.before a0 Z = true) (hby : c.code = code) (hml : c.maxLocals = 20) (hown : s.vm.findClass "com/example/concept_ledger/conceptledger/model/RowViewSetPinLaw" = some m.cls) (e0 : T0.heap = h0) (N0 : Fr n0 locs) (Z0 : n0 ≤ h0.size) (BAx : own_BA Z h0 bx kx fx) (BA : own_BA Z h0 by_ ky fy) :
    ∃ (T' : State) (Ls : Array Slot) (L' : List Loc), Stand p l e room_1 s m args below meth c T' L' 17 64 ∧ Fr n0 L' ∧ ∀ target, Steps p.tables e below (T'.setTop (mkF m 338 Ls [(.int (1 : Int32))])) target → Steps p.tables e below (T0.setTop (mkF m 38 #[.val (.int p1), .val (.int p2), .val (.int p3), .val (.int p4), .val (.long q5), .second, .val (.long q6), .second, .val (.ref bx), .val (.int sm), .val (.ref by_), .unset, .unset, .unset, .unset, .unset, .unset, .unset, .unset, .unset] [])) target := by
  have fl150 : ∀ target, Steps p.tables e below (T0.setTop (mkF m 44 #[.val (.int p1), .val (.int p2), .val (.int p3), .val (.int p4), .val (.long q5), .second, .val (.long q6), .second, .val (.ref bx), .val (.int sm), .val (.ref by_), .unset, .unset, .unset, .unset, .unset, .unset, .unset, .unset, .unset] [(.int ((p3 &&& (7 : Int32)) % (5 : Int32)))])) target → Steps p.tables e below (T0.setTop (mkF m 38 #[.val (.int p1), .val (.int p2), .val (.int p3), .val (.int p4), .val (.long q5), .second, .val (.long q6), .second, .val (.ref bx), .val (.int sm), .val (.ref by_), .unset, .unset, .unset, .unset, .unset, .unset, .unset, .unset, .unset] [])) target := fun target kt => by
    show Steps p.tables e below (T0.setTop (mkF m 38 #[.val (.int p1), .val (.int p2), .val (.int p3), .val (.int p4), .val (.long q5), .second, .val (.long q6), .second, .val (.ref bx), .val (.int sm), .val (.ref by_), .unset, .unset, .unset, .unset, .unset, .unset, .unset, .unset, .unset] [])) _
    refine XS.iloadN X0.here hx rfl (hb hby at_38) rfl ?_
    show Steps p.tables e below (T0.setTop (mkF m 39 #[.val (.int p1), .val (.int p2), .val (.int p3), .val (.int p4), .val (.long q5), .second, .val (.long q6), .second, .val (.ref bx), .val (.int sm), .val (.ref by_), .unset, .unset, .unset, .unset, .unset, .unset, .unset, .unset, .unset] [(.int p3)])) _
    refine XS.bipush X0.here hx rfl (hb hby at_39) ?_
    show Steps p.tables e below (T0.setTop (mkF m 41 #[.val (.int p1), .val (.int p2), .val (.int p3), .val (.int p4), .val (.long q5), .second, .val (.long q6), .second, .val (.ref bx), .val (.int sm), .val (.ref by_), .unset, .unset, .unset, .unset, .unset, .unset, .unset, .unset, .unset] [(.int (7 : Int32)), (.int p3)])) _
    refine XS.iand X0.here hx rfl (hb hby at_41) rfl ?_
    show Steps p.tables e below (T0.setTop (mkF m 42 #[.val (.int p1), .val (.int p2), .val (.int p3), .val (.int p4), .val (.long q5), .second, .val (.long q6), .second, .val (.ref bx), .val (.int sm), .val (.ref by_), .unset, .unset, .unset, .unset, .unset, .unset, .unset, .unset, .unset] [(.int (p3 &&& (7 : Int32)))])) _
    refine XS.iconst X0.here hx rfl (hb hby at_42) ?_
    show Steps p.tables e below (T0.setTop (mkF m 43 #[.val (.int p1), .val (.int p2), .val (.int p3), .val (.int p4), .val (.long q5), .second, .val (.long q6), .second, .val (.ref bx), .val (.int sm), .val (.ref by_), .unset, .unset, .unset, .unset, .unset, .unset, .unset, .unset, .unset] [(.int (5 : Int32)), (.int (p3 &&& (7 : Int32)))])) _
    refine iremM X0 hx rfl (hb hby at_43) rfl (by decide) ?_
    exact kt
  obtain ⟨st1, hst1⟩ : ∃ z : Int32, ((p3 &&& (7 : Int32)) % (5 : Int32)) = z := ⟨_, rfl⟩
  have bst1 := own_st p3
  rw [hst1] at fl150 bst1
  have fl151 : ∀ target, Steps p.tables e below (T0.setTop (mkF m 60 #[.val (.int p1), .val (.int p2), .val (.int p3), .val (.int p4), .val (.long q5), .second, .val (.long q6), .second, .val (.ref bx), .val (.int sm), .val (.ref by_), .val (.int st1), .unset, .unset, .unset, .unset, .unset, .unset, .unset, .unset] [(.int (st1 + ((((p3.toUInt32 >>> ((3 : Int32) &&& 31).toUInt32).toInt32) &&& (7 : Int32)) % ((5 : Int32) - st1))))])) target → Steps p.tables e below (T0.setTop (mkF m 44 #[.val (.int p1), .val (.int p2), .val (.int p3), .val (.int p4), .val (.long q5), .second, .val (.long q6), .second, .val (.ref bx), .val (.int sm), .val (.ref by_), .unset, .unset, .unset, .unset, .unset, .unset, .unset, .unset, .unset] [(.int st1)])) target := fun target kt => by
    show Steps p.tables e below (T0.setTop (mkF m 44 #[.val (.int p1), .val (.int p2), .val (.int p3), .val (.int p4), .val (.long q5), .second, .val (.long q6), .second, .val (.ref bx), .val (.int sm), .val (.ref by_), .unset, .unset, .unset, .unset, .unset, .unset, .unset, .unset, .unset] [(.int st1)])) _
    refine XS.istore X0.here hx rfl (hb hby at_44) rfl (l' := #[.val (.int p1), .val (.int p2), .val (.int p3), .val (.int p4), .val (.long q5), .second, .val (.long q6), .second, .val (.ref bx), .val (.int sm), .val (.ref by_), .val (.int st1), .unset, .unset, .unset, .unset, .unset, .unset, .unset, .unset]) rfl ?_
    show Steps p.tables e below (T0.setTop (mkF m 46 #[.val (.int p1), .val (.int p2), .val (.int p3), .val (.int p4), .val (.long q5), .second, .val (.long q6), .second, .val (.ref bx), .val (.int sm), .val (.ref by_), .val (.int st1), .unset, .unset, .unset, .unset, .unset, .unset, .unset, .unset] [])) _
    refine XS.iload X0.here hx rfl (hb hby at_46) rfl ?_
    show Steps p.tables e below (T0.setTop (mkF m 48 #[.val (.int p1), .val (.int p2), .val (.int p3), .val (.int p4), .val (.long q5), .second, .val (.long q6), .second, .val (.ref bx), .val (.int sm), .val (.ref by_), .val (.int st1), .unset, .unset, .unset, .unset, .unset, .unset, .unset, .unset] [(.int st1)])) _
    refine XS.iloadN X0.here hx rfl (hb hby at_48) rfl ?_
    show Steps p.tables e below (T0.setTop (mkF m 49 #[.val (.int p1), .val (.int p2), .val (.int p3), .val (.int p4), .val (.long q5), .second, .val (.long q6), .second, .val (.ref bx), .val (.int sm), .val (.ref by_), .val (.int st1), .unset, .unset, .unset, .unset, .unset, .unset, .unset, .unset] [(.int p3), (.int st1)])) _
    refine XS.iconst X0.here hx rfl (hb hby at_49) ?_
    show Steps p.tables e below (T0.setTop (mkF m 50 #[.val (.int p1), .val (.int p2), .val (.int p3), .val (.int p4), .val (.long q5), .second, .val (.long q6), .second, .val (.ref bx), .val (.int sm), .val (.ref by_), .val (.int st1), .unset, .unset, .unset, .unset, .unset, .unset, .unset, .unset] [(.int (3 : Int32)), (.int p3), (.int st1)])) _
    refine XS.iushr X0.here hx rfl (hb hby at_50) rfl ?_
    show Steps p.tables e below (T0.setTop (mkF m 51 #[.val (.int p1), .val (.int p2), .val (.int p3), .val (.int p4), .val (.long q5), .second, .val (.long q6), .second, .val (.ref bx), .val (.int sm), .val (.ref by_), .val (.int st1), .unset, .unset, .unset, .unset, .unset, .unset, .unset, .unset] [(.int ((p3.toUInt32 >>> ((3 : Int32) &&& 31).toUInt32).toInt32)), (.int st1)])) _
    refine XS.bipush X0.here hx rfl (hb hby at_51) ?_
    show Steps p.tables e below (T0.setTop (mkF m 53 #[.val (.int p1), .val (.int p2), .val (.int p3), .val (.int p4), .val (.long q5), .second, .val (.long q6), .second, .val (.ref bx), .val (.int sm), .val (.ref by_), .val (.int st1), .unset, .unset, .unset, .unset, .unset, .unset, .unset, .unset] [(.int (7 : Int32)), (.int ((p3.toUInt32 >>> ((3 : Int32) &&& 31).toUInt32).toInt32)), (.int st1)])) _
    refine XS.iand X0.here hx rfl (hb hby at_53) rfl ?_
    show Steps p.tables e below (T0.setTop (mkF m 54 #[.val (.int p1), .val (.int p2), .val (.int p3), .val (.int p4), .val (.long q5), .second, .val (.long q6), .second, .val (.ref bx), .val (.int sm), .val (.ref by_), .val (.int st1), .unset, .unset, .unset, .unset, .unset, .unset, .unset, .unset] [(.int (((p3.toUInt32 >>> ((3 : Int32) &&& 31).toUInt32).toInt32) &&& (7 : Int32))), (.int st1)])) _
    refine XS.iconst X0.here hx rfl (hb hby at_54) ?_
    show Steps p.tables e below (T0.setTop (mkF m 55 #[.val (.int p1), .val (.int p2), .val (.int p3), .val (.int p4), .val (.long q5), .second, .val (.long q6), .second, .val (.ref bx), .val (.int sm), .val (.ref by_), .val (.int st1), .unset, .unset, .unset, .unset, .unset, .unset, .unset, .unset] [(.int (5 : Int32)), (.int (((p3.toUInt32 >>> ((3 : Int32) &&& 31).toUInt32).toInt32) &&& (7 : Int32))), (.int st1)])) _
    refine XS.iload X0.here hx rfl (hb hby at_55) rfl ?_
    show Steps p.tables e below (T0.setTop (mkF m 57 #[.val (.int p1), .val (.int p2), .val (.int p3), .val (.int p4), .val (.long q5), .second, .val (.long q6), .second, .val (.ref bx), .val (.int sm), .val (.ref by_), .val (.int st1), .unset, .unset, .unset, .unset, .unset, .unset, .unset, .unset] [(.int st1), (.int (5 : Int32)), (.int (((p3.toUInt32 >>> ((3 : Int32) &&& 31).toUInt32).toInt32) &&& (7 : Int32))), (.int st1)])) _
    refine XS.isub X0.here hx rfl (hb hby at_57) rfl ?_
    show Steps p.tables e below (T0.setTop (mkF m 58 #[.val (.int p1), .val (.int p2), .val (.int p3), .val (.int p4), .val (.long q5), .second, .val (.long q6), .second, .val (.ref bx), .val (.int sm), .val (.ref by_), .val (.int st1), .unset, .unset, .unset, .unset, .unset, .unset, .unset, .unset] [(.int ((5 : Int32) - st1)), (.int (((p3.toUInt32 >>> ((3 : Int32) &&& 31).toUInt32).toInt32) &&& (7 : Int32))), (.int st1)])) _
    refine iremM X0 hx rfl (hb hby at_58) rfl (own_5ne bst1) ?_
    show Steps p.tables e below (T0.setTop (mkF m 59 #[.val (.int p1), .val (.int p2), .val (.int p3), .val (.int p4), .val (.long q5), .second, .val (.long q6), .second, .val (.ref bx), .val (.int sm), .val (.ref by_), .val (.int st1), .unset, .unset, .unset, .unset, .unset, .unset, .unset, .unset] [(.int ((((p3.toUInt32 >>> ((3 : Int32) &&& 31).toUInt32).toInt32) &&& (7 : Int32)) % ((5 : Int32) - st1))), (.int st1)])) _
    refine XS.iadd X0.here hx rfl (hb hby at_59) rfl ?_
    exact kt
  obtain ⟨en1, hen1⟩ : ∃ z : Int32, (st1 + ((((p3.toUInt32 >>> ((3 : Int32) &&& 31).toUInt32).toInt32) &&& (7 : Int32)) % ((5 : Int32) - st1))) = z := ⟨_, rfl⟩
  have ben1 := own_en p3 bst1
  rw [hen1] at fl151 ben1
  have fl152 : ∀ target, Steps p.tables e below (T0.setTop (mkF m 68 #[.val (.int p1), .val (.int p2), .val (.int p3), .val (.int p4), .val (.long q5), .second, .val (.long q6), .second, .val (.ref bx), .val (.int sm), .val (.ref by_), .val (.int st1), .val (.int en1), .unset, .unset, .unset, .unset, .unset, .unset, .unset] [(.int ((p4 &&& (7 : Int32)) % (5 : Int32)))])) target → Steps p.tables e below (T0.setTop (mkF m 60 #[.val (.int p1), .val (.int p2), .val (.int p3), .val (.int p4), .val (.long q5), .second, .val (.long q6), .second, .val (.ref bx), .val (.int sm), .val (.ref by_), .val (.int st1), .unset, .unset, .unset, .unset, .unset, .unset, .unset, .unset] [(.int en1)])) target := fun target kt => by
    show Steps p.tables e below (T0.setTop (mkF m 60 #[.val (.int p1), .val (.int p2), .val (.int p3), .val (.int p4), .val (.long q5), .second, .val (.long q6), .second, .val (.ref bx), .val (.int sm), .val (.ref by_), .val (.int st1), .unset, .unset, .unset, .unset, .unset, .unset, .unset, .unset] [(.int en1)])) _
    refine XS.istore X0.here hx rfl (hb hby at_60) rfl (l' := #[.val (.int p1), .val (.int p2), .val (.int p3), .val (.int p4), .val (.long q5), .second, .val (.long q6), .second, .val (.ref bx), .val (.int sm), .val (.ref by_), .val (.int st1), .val (.int en1), .unset, .unset, .unset, .unset, .unset, .unset, .unset]) rfl ?_
    show Steps p.tables e below (T0.setTop (mkF m 62 #[.val (.int p1), .val (.int p2), .val (.int p3), .val (.int p4), .val (.long q5), .second, .val (.long q6), .second, .val (.ref bx), .val (.int sm), .val (.ref by_), .val (.int st1), .val (.int en1), .unset, .unset, .unset, .unset, .unset, .unset, .unset] [])) _
    refine XS.iloadN X0.here hx rfl (hb hby at_62) rfl ?_
    show Steps p.tables e below (T0.setTop (mkF m 63 #[.val (.int p1), .val (.int p2), .val (.int p3), .val (.int p4), .val (.long q5), .second, .val (.long q6), .second, .val (.ref bx), .val (.int sm), .val (.ref by_), .val (.int st1), .val (.int en1), .unset, .unset, .unset, .unset, .unset, .unset, .unset] [(.int p4)])) _
    refine XS.bipush X0.here hx rfl (hb hby at_63) ?_
    show Steps p.tables e below (T0.setTop (mkF m 65 #[.val (.int p1), .val (.int p2), .val (.int p3), .val (.int p4), .val (.long q5), .second, .val (.long q6), .second, .val (.ref bx), .val (.int sm), .val (.ref by_), .val (.int st1), .val (.int en1), .unset, .unset, .unset, .unset, .unset, .unset, .unset] [(.int (7 : Int32)), (.int p4)])) _
    refine XS.iand X0.here hx rfl (hb hby at_65) rfl ?_
    show Steps p.tables e below (T0.setTop (mkF m 66 #[.val (.int p1), .val (.int p2), .val (.int p3), .val (.int p4), .val (.long q5), .second, .val (.long q6), .second, .val (.ref bx), .val (.int sm), .val (.ref by_), .val (.int st1), .val (.int en1), .unset, .unset, .unset, .unset, .unset, .unset, .unset] [(.int (p4 &&& (7 : Int32)))])) _
    refine XS.iconst X0.here hx rfl (hb hby at_66) ?_
    show Steps p.tables e below (T0.setTop (mkF m 67 #[.val (.int p1), .val (.int p2), .val (.int p3), .val (.int p4), .val (.long q5), .second, .val (.long q6), .second, .val (.ref bx), .val (.int sm), .val (.ref by_), .val (.int st1), .val (.int en1), .unset, .unset, .unset, .unset, .unset, .unset, .unset] [(.int (5 : Int32)), (.int (p4 &&& (7 : Int32)))])) _
    refine iremM X0 hx rfl (hb hby at_67) rfl (by decide) ?_
    exact kt
  obtain ⟨st2, hst2⟩ : ∃ z : Int32, ((p4 &&& (7 : Int32)) % (5 : Int32)) = z := ⟨_, rfl⟩
  have bst2 := own_st p4
  rw [hst2] at fl152 bst2
  have fl153 : ∀ target, Steps p.tables e below (T0.setTop (mkF m 84 #[.val (.int p1), .val (.int p2), .val (.int p3), .val (.int p4), .val (.long q5), .second, .val (.long q6), .second, .val (.ref bx), .val (.int sm), .val (.ref by_), .val (.int st1), .val (.int en1), .val (.int st2), .unset, .unset, .unset, .unset, .unset, .unset] [(.int (st2 + ((((p4.toUInt32 >>> ((3 : Int32) &&& 31).toUInt32).toInt32) &&& (7 : Int32)) % ((5 : Int32) - st2))))])) target → Steps p.tables e below (T0.setTop (mkF m 68 #[.val (.int p1), .val (.int p2), .val (.int p3), .val (.int p4), .val (.long q5), .second, .val (.long q6), .second, .val (.ref bx), .val (.int sm), .val (.ref by_), .val (.int st1), .val (.int en1), .unset, .unset, .unset, .unset, .unset, .unset, .unset] [(.int st2)])) target := fun target kt => by
    show Steps p.tables e below (T0.setTop (mkF m 68 #[.val (.int p1), .val (.int p2), .val (.int p3), .val (.int p4), .val (.long q5), .second, .val (.long q6), .second, .val (.ref bx), .val (.int sm), .val (.ref by_), .val (.int st1), .val (.int en1), .unset, .unset, .unset, .unset, .unset, .unset, .unset] [(.int st2)])) _
    refine XS.istore X0.here hx rfl (hb hby at_68) rfl (l' := #[.val (.int p1), .val (.int p2), .val (.int p3), .val (.int p4), .val (.long q5), .second, .val (.long q6), .second, .val (.ref bx), .val (.int sm), .val (.ref by_), .val (.int st1), .val (.int en1), .val (.int st2), .unset, .unset, .unset, .unset, .unset, .unset]) rfl ?_
    show Steps p.tables e below (T0.setTop (mkF m 70 #[.val (.int p1), .val (.int p2), .val (.int p3), .val (.int p4), .val (.long q5), .second, .val (.long q6), .second, .val (.ref bx), .val (.int sm), .val (.ref by_), .val (.int st1), .val (.int en1), .val (.int st2), .unset, .unset, .unset, .unset, .unset, .unset] [])) _
    refine XS.iload X0.here hx rfl (hb hby at_70) rfl ?_
    show Steps p.tables e below (T0.setTop (mkF m 72 #[.val (.int p1), .val (.int p2), .val (.int p3), .val (.int p4), .val (.long q5), .second, .val (.long q6), .second, .val (.ref bx), .val (.int sm), .val (.ref by_), .val (.int st1), .val (.int en1), .val (.int st2), .unset, .unset, .unset, .unset, .unset, .unset] [(.int st2)])) _
    refine XS.iloadN X0.here hx rfl (hb hby at_72) rfl ?_
    show Steps p.tables e below (T0.setTop (mkF m 73 #[.val (.int p1), .val (.int p2), .val (.int p3), .val (.int p4), .val (.long q5), .second, .val (.long q6), .second, .val (.ref bx), .val (.int sm), .val (.ref by_), .val (.int st1), .val (.int en1), .val (.int st2), .unset, .unset, .unset, .unset, .unset, .unset] [(.int p4), (.int st2)])) _
    refine XS.iconst X0.here hx rfl (hb hby at_73) ?_
    show Steps p.tables e below (T0.setTop (mkF m 74 #[.val (.int p1), .val (.int p2), .val (.int p3), .val (.int p4), .val (.long q5), .second, .val (.long q6), .second, .val (.ref bx), .val (.int sm), .val (.ref by_), .val (.int st1), .val (.int en1), .val (.int st2), .unset, .unset, .unset, .unset, .unset, .unset] [(.int (3 : Int32)), (.int p4), (.int st2)])) _
    refine XS.iushr X0.here hx rfl (hb hby at_74) rfl ?_
    show Steps p.tables e below (T0.setTop (mkF m 75 #[.val (.int p1), .val (.int p2), .val (.int p3), .val (.int p4), .val (.long q5), .second, .val (.long q6), .second, .val (.ref bx), .val (.int sm), .val (.ref by_), .val (.int st1), .val (.int en1), .val (.int st2), .unset, .unset, .unset, .unset, .unset, .unset] [(.int ((p4.toUInt32 >>> ((3 : Int32) &&& 31).toUInt32).toInt32)), (.int st2)])) _
    refine XS.bipush X0.here hx rfl (hb hby at_75) ?_
    show Steps p.tables e below (T0.setTop (mkF m 77 #[.val (.int p1), .val (.int p2), .val (.int p3), .val (.int p4), .val (.long q5), .second, .val (.long q6), .second, .val (.ref bx), .val (.int sm), .val (.ref by_), .val (.int st1), .val (.int en1), .val (.int st2), .unset, .unset, .unset, .unset, .unset, .unset] [(.int (7 : Int32)), (.int ((p4.toUInt32 >>> ((3 : Int32) &&& 31).toUInt32).toInt32)), (.int st2)])) _
    refine XS.iand X0.here hx rfl (hb hby at_77) rfl ?_
    show Steps p.tables e below (T0.setTop (mkF m 78 #[.val (.int p1), .val (.int p2), .val (.int p3), .val (.int p4), .val (.long q5), .second, .val (.long q6), .second, .val (.ref bx), .val (.int sm), .val (.ref by_), .val (.int st1), .val (.int en1), .val (.int st2), .unset, .unset, .unset, .unset, .unset, .unset] [(.int (((p4.toUInt32 >>> ((3 : Int32) &&& 31).toUInt32).toInt32) &&& (7 : Int32))), (.int st2)])) _
    refine XS.iconst X0.here hx rfl (hb hby at_78) ?_
    show Steps p.tables e below (T0.setTop (mkF m 79 #[.val (.int p1), .val (.int p2), .val (.int p3), .val (.int p4), .val (.long q5), .second, .val (.long q6), .second, .val (.ref bx), .val (.int sm), .val (.ref by_), .val (.int st1), .val (.int en1), .val (.int st2), .unset, .unset, .unset, .unset, .unset, .unset] [(.int (5 : Int32)), (.int (((p4.toUInt32 >>> ((3 : Int32) &&& 31).toUInt32).toInt32) &&& (7 : Int32))), (.int st2)])) _
    refine XS.iload X0.here hx rfl (hb hby at_79) rfl ?_
    show Steps p.tables e below (T0.setTop (mkF m 81 #[.val (.int p1), .val (.int p2), .val (.int p3), .val (.int p4), .val (.long q5), .second, .val (.long q6), .second, .val (.ref bx), .val (.int sm), .val (.ref by_), .val (.int st1), .val (.int en1), .val (.int st2), .unset, .unset, .unset, .unset, .unset, .unset] [(.int st2), (.int (5 : Int32)), (.int (((p4.toUInt32 >>> ((3 : Int32) &&& 31).toUInt32).toInt32) &&& (7 : Int32))), (.int st2)])) _
    refine XS.isub X0.here hx rfl (hb hby at_81) rfl ?_
    show Steps p.tables e below (T0.setTop (mkF m 82 #[.val (.int p1), .val (.int p2), .val (.int p3), .val (.int p4), .val (.long q5), .second, .val (.long q6), .second, .val (.ref bx), .val (.int sm), .val (.ref by_), .val (.int st1), .val (.int en1), .val (.int st2), .unset, .unset, .unset, .unset, .unset, .unset] [(.int ((5 : Int32) - st2)), (.int (((p4.toUInt32 >>> ((3 : Int32) &&& 31).toUInt32).toInt32) &&& (7 : Int32))), (.int st2)])) _
    refine iremM X0 hx rfl (hb hby at_82) rfl (own_5ne bst2) ?_
    show Steps p.tables e below (T0.setTop (mkF m 83 #[.val (.int p1), .val (.int p2), .val (.int p3), .val (.int p4), .val (.long q5), .second, .val (.long q6), .second, .val (.ref bx), .val (.int sm), .val (.ref by_), .val (.int st1), .val (.int en1), .val (.int st2), .unset, .unset, .unset, .unset, .unset, .unset] [(.int ((((p4.toUInt32 >>> ((3 : Int32) &&& 31).toUInt32).toInt32) &&& (7 : Int32)) % ((5 : Int32) - st2))), (.int st2)])) _
    refine XS.iadd X0.here hx rfl (hb hby at_83) rfl ?_
    exact kt
  obtain ⟨en2, hen2⟩ : ∃ z : Int32, (st2 + ((((p4.toUInt32 >>> ((3 : Int32) &&& 31).toUInt32).toInt32) &&& (7 : Int32)) % ((5 : Int32) - st2))) = z := ⟨_, rfl⟩
  have ben2 := own_en p4 bst2
  rw [hen2] at fl153 ben2
  obtain ⟨T154, h154, X154, e154, E154, A154, D154, -, st154⟩ := newO X0 hx hZ hown (hw _ (List.mem_of_getElem? (i := 8) rfl)) (hw _ (List.mem_of_getElem? (i := 9) rfl)) (hw _ (List.mem_of_getElem? (i := 10) rfl)) e0 (g := (mkF m 86 #[.val (.int p1), .val (.int p2), .val (.int p3), .val (.int p4), .val (.long q5), .second, .val (.long q6), .second, .val (.ref bx), .val (.int sm), .val (.ref by_), .val (.int st1), .val (.int en1), .val (.int st2), .val (.int en2), .unset, .unset, .unset, .unset, .unset] [])) rfl (hb hby at_86) (by decide) (by decide)
  obtain ⟨b154, g154⟩ : ∃ z, z = h0.size := ⟨_, rfl⟩
  rw [← g154] at A154 D154 st154
  have ne_by__b154 : by_ ≠ b154 := Nat.ne_of_lt (by rw [g154]; exact BA.lt)
  have ne_bx_b154 : bx ≠ b154 := Nat.ne_of_lt (by rw [g154]; exact BAx.lt)
  have g_b154 : n0 ≤ b154 := Nat.le_trans Z0 (Nat.le_of_eq g154.symm)
  have sz_b154 : h0.size ≤ b154 := Nat.le_trans (Keep.refl h0 []).1 (Nat.le_of_eq g154.symm)
  have BA_154 := BA.ext E154
  have BAx_154 := BAx.ext E154
  have F154_bytes : Fld Z h154 b154 "com/example/concept_ledger/conceptledger/model/RowView" "bytes" "[B" .null := D154 (Or.inl (hw _ (List.mem_of_getElem? (i := 18) rfl))) (ty := (.array .byte)) (by decide)
  have F154_bars : Fld Z h154 b154 "com/example/concept_ledger/conceptledger/model/RowView" "bars" "[I" .null := D154 (Or.inl (hw _ (List.mem_of_getElem? (i := 21) rfl))) (ty := (.array .int)) (by decide)
  have F154_start : Fld Z h154 b154 "com/example/concept_ledger/conceptledger/model/RowView" "start" "I" (.int (0 : Int32)) := D154 (Or.inl (hw _ (List.mem_of_getElem? (i := 28) rfl))) (ty := .int) (by decide)
  have F154_end : Fld Z h154 b154 "com/example/concept_ledger/conceptledger/model/RowView" "end" "I" (.int (0 : Int32)) := D154 (Or.inl (hw _ (List.mem_of_getElem? (i := 30) rfl))) (ty := .int) (by decide)
  have F154_line : Fld Z h154 b154 "com/example/concept_ledger/conceptledger/model/RowView" "line" "J" (.long (0 : Int64)) := D154 (Or.inl (hw _ (List.mem_of_getElem? (i := 32) rfl))) (ty := .long) (by decide)
  have F154_count : Fld Z h154 b154 "com/example/concept_ledger/conceptledger/model/RowView" "count" "I" (.int (0 : Int32)) := D154 (Or.inl (hw _ (List.mem_of_getElem? (i := 34) rfl))) (ty := .int) (by decide)
  have F154_found : Fld Z h154 b154 "com/example/concept_ledger/conceptledger/model/RowView" "found" "I" (.int (0 : Int32)) := D154 (Or.inl (hw _ (List.mem_of_getElem? (i := 36) rfl))) (ty := .int) (by decide)
  have F154_searched : Fld Z h154 b154 "com/example/concept_ledger/conceptledger/model/RowView" "searched" "I" (.int (0 : Int32)) := D154 (Or.inl (hw _ (List.mem_of_getElem? (i := 38) rfl))) (ty := .int) (by decide)
  have K154 : Keep h0 h154 [] := (Keep.refl h0 []).ext E154
  have z154 : n0 ≤ h154.size := Nat.le_trans Z0 E154.1
  obtain ⟨_, _, ⟨T155, L155, k155, n155⟩, -, X155, ⟨Lc155, hQ155, l155, y155, z155⟩, st155⟩ := X154.specialBack hx (y := (⟨"com/example/concept_ledger/conceptledger/model/RowView", "<init>", "()V"⟩ : MethodName)) rfl hown (mvT hZ (hw _ (List.mem_of_getElem? (i := 11) rfl))) (mvT hZ (hw _ (List.mem_of_getElem? (i := 12) rfl))) (mvT hZ (hw _ (List.mem_of_getElem? (i := 13) rfl))) (by decide) (backOf (W := 1) (rm3 l Z a0 hw [] b154  h154 n0 z154 A154 F154_bytes F154_bars F154_start F154_end F154_line F154_count F154_found F154_searched g_b154) hZ (hw _ (List.mem_of_getElem? (i := 13) rfl)) (hw _ (List.mem_of_getElem? (i := 10) rfl)) (by decide) (by decide)) (g := (mkF m 90 #[.val (.int p1), .val (.int p2), .val (.int p3), .val (.int p4), .val (.long q5), .second, .val (.long q6), .second, .val (.ref bx), .val (.int sm), .val (.ref by_), .val (.int st1), .val (.int en1), .val (.int st2), .val (.int en2), .unset, .unset, .unset, .unset, .unset] [(.ref b154), (.ref b154)])) rfl (by rw [hml]; rfl) (Steps.refl _) (a := b154) (argsL := []) (rest := [(.ref b154)]) (lenOf pd_12 rfl) rfl (by show 2 * 0 + _ ≤ _; exact Nat.le_of_eq rfl) (hb hby at_90) (fun _ _ => ⟨rfl, e154, (by decide : 3 + 2 ≤ _), (by decide : 16 + 0 ≤ _)⟩)
  dsimp only [Pt.U, Pt.locs, Pt.cells, Pt.slots] at X155 l155 y155 z155 st155 hQ155
  subst l155 y155 z155
  obtain ⟨bz, ar, rfl, N155q, RVi, BRi, Kc155, gar, szar⟩ := hQ155
  have N155 := Fr.app N0 N155q
  have neaar : b154 ≠ ar := Nat.ne_of_lt (Nat.lt_of_lt_of_le A154.lt szar)
  have nexr : bx ≠ ar := Nat.ne_of_lt (Nat.lt_of_lt_of_le BAx_154.lt szar)
  have neyr : by_ ≠ ar := Nat.ne_of_lt (Nat.lt_of_lt_of_le BA_154.lt szar)
  have BA_155 := BA_154.keep Kc155 (ninS ne_by__b154 nin0)
  have BAx_155 := BAx_154.keep Kc155 (ninS ne_bx_b154 nin0)
  have A154_155 := A154.keep Kc155
  have K155 : Keep h0 T155.heap [] := K154.trans Kc155 (allS (Or.inr sz_b154) (all0))
  have z155z : n0 ≤ T155.heap.size := Nat.le_trans z154 Kc155.1
  obtain ⟨cq156, kq156, q156a, q156b, q156c⟩ := isOf hZ rfl RVi.1
  obtain ⟨_, _, ⟨T156, L156, k156, n156⟩, -, X156, ⟨Lc156, hQ156, l156, y156, z156⟩, st156⟩ := X155.virtualBack hx (y := (⟨"com/example/concept_ledger/conceptledger/model/RowView", "set", "([BIIJ)V"⟩ : MethodName)) (z := (⟨"com/example/concept_ledger/conceptledger/model/RowView", "set", "([BIIJ)V"⟩ : MethodName)) hown (mvT hZ (hw _ (List.mem_of_getElem? (i := 22) rfl))) (mvT hZ (hw _ (List.mem_of_getElem? (i := 23) rfl))) (notFace_of_selects (args := #[]) (mvT hZ (hw _ (List.mem_of_getElem? (i := 25) rfl)))) (mvT hZ (hw _ (List.mem_of_getElem? (i := 25) rfl))) (mvT hZ (hw _ (List.mem_of_getElem? (i := 24) rfl))) (by decide) (backOf (W := 0) (rm5 l Z a0 hw [] b154 bx st1 en1 q5 bz ar 0 0 0 0 0 0 T155.heap n0 z155z RVi g_b154) hZ (hw _ (List.mem_of_getElem? (i := 26) rfl)) (hw _ (List.mem_of_getElem? (i := 10) rfl)) (by decide) (by decide)) q156a q156c (g := (mkF m 105 #[.val (.int p1), .val (.int p2), .val (.int p3), .val (.int p4), .val (.long q5), .second, .val (.long q6), .second, .val (.ref bx), .val (.int sm), .val (.ref by_), .val (.int st1), .val (.int en1), .val (.int st2), .val (.int en2), .val (.ref b154), .unset, .unset, .unset, .unset] [(.long q5), (.int en1), (.int st1), (.ref bx), (.ref b154)])) rfl (by rw [hml]; rfl) (Steps.refl _) (argsL := [(.ref bx), (.int st1), (.int en1), (.long q5)]) (rest := []) (lenOf pd_7 rfl) rfl (by show 2 * 0 + _ ≤ _; exact Nat.le_of_eq rfl) (hb hby at_105) (fun _ _ => ⟨rfl, rfl, (by decide : 5 + 0 ≤ _), (by decide : 16 + 0 ≤ _)⟩)
  dsimp only [Pt.U, Pt.locs, Pt.cells, Pt.slots] at X156 l156 y156 z156 st156 hQ156
  subst l156 y156 z156
  obtain ⟨rfl, N156q, Kc156, RVs⟩ := hQ156
  have N156 := Fr.app N155 N156q
  have BA_156 := BA_155.keep Kc156 (ninS ne_by__b154 nin0)
  have BAx_156 := BAx_155.keep Kc156 (ninS ne_bx_b154 nin0)
  have RVi_1_156 := RVi.1.keep Kc156
  have BRi_156 := BRi.keep Kc156 (ninS (Ne.symm neaar) nin0)
  have K156 : Keep h0 T156.heap [] := K155.trans Kc156 (allS (Or.inr sz_b154) (all0))
  have z156z : n0 ≤ T156.heap.size := Nat.le_trans z155z Kc156.1
  obtain ⟨nn, hn, hn4⟩ := own_nn ben1
  obtain ⟨c1, hc1⟩ : ∃ z : Int32, z = own_cnt fx st1 en1 := ⟨_, rfl⟩
  have nums := own_nums fx st1 en1 nn ben1 hn
  obtain ⟨cq157, kq157, q157a, q157b, q157c⟩ := isOf hZ rfl RVs.1
  obtain ⟨_, _, ⟨T157, L157, k157, n157⟩, -, X157, ⟨Lc157, hQ157, l157, y157, z157⟩, st157⟩ := X156.virtualBack hx (y := (⟨"com/example/concept_ledger/conceptledger/model/RowView", "fieldCount", "()I"⟩ : MethodName)) (z := (⟨"com/example/concept_ledger/conceptledger/model/RowView", "fieldCount", "()I"⟩ : MethodName)) hown (mvT hZ (hw _ (List.mem_of_getElem? (i := 39) rfl))) (mvT hZ (hw _ (List.mem_of_getElem? (i := 40) rfl))) (notFace_of_selects (args := #[]) (mvT hZ (hw _ (List.mem_of_getElem? (i := 42) rfl)))) (mvT hZ (hw _ (List.mem_of_getElem? (i := 42) rfl))) (mvT hZ (hw _ (List.mem_of_getElem? (i := 41) rfl))) (by decide) (backOf (W := 0) (rm6 l Z a0 hw [] b154 bx ar st1 en1 q5 0 st1 kx fx nn c1 T156.heap n0 z156z RVs BAx_156 ben1 hn (by rw [hc1]; exact nums.1) g_b154) hZ (hw _ (List.mem_of_getElem? (i := 43) rfl)) (hw _ (List.mem_of_getElem? (i := 10) rfl)) (by decide) (by decide)) q157a q157c (g := (mkF m 110 #[.val (.int p1), .val (.int p2), .val (.int p3), .val (.int p4), .val (.long q5), .second, .val (.long q6), .second, .val (.ref bx), .val (.int sm), .val (.ref by_), .val (.int st1), .val (.int en1), .val (.int st2), .val (.int en2), .val (.ref b154), .unset, .unset, .unset, .unset] [(.ref b154)])) rfl (by rw [hml]; rfl) (Steps.refl _) (argsL := []) (rest := []) (lenOf pd_10 rfl) rfl (by show 2 * 0 + _ ≤ _; exact Nat.le_of_eq rfl) (hb hby at_110) (fun _ _ => ⟨rfl, rfl, (by decide : 5 + 0 ≤ _), (by decide : 16 + 0 ≤ _)⟩)
  dsimp only [Pt.U, Pt.locs, Pt.cells, Pt.slots] at X157 l157 y157 z157 st157 hQ157
  subst l157 y157 z157
  obtain ⟨rfl, N157q, Kc157, RVf⟩ := hQ157
  have N157 := Fr.app N156 N157q
  have BA_157 := BA_156.keep Kc157 (ninS ne_by__b154 nin0)
  have BAx_157 := BAx_156.keep Kc157 (ninS ne_bx_b154 nin0)
  have RVs_1_157 := RVs.1.keep Kc157
  have BRi_157 := BRi_156.keep Kc157 (ninS (Ne.symm neaar) nin0)
  have K157 : Keep h0 T157.heap [] := K156.trans Kc157 (allS (Or.inr sz_b154) (all0))
  have z157z : n0 ≤ T157.heap.size := Nat.le_trans z156z Kc157.1
  obtain ⟨_, _, ⟨T158, L158, k158, n158⟩, -, X158, ⟨Lc158, hQ158, l158, y158, z158⟩, st158⟩ := Jvm.LawKit.callS X157 hx (y := (⟨"com/example/concept_ledger/conceptledger/model/RowViewSetPinLaw", "count", "([BII)I"⟩ : MethodName)) hown (mvT hZ (hw _ (List.mem_of_getElem? (i := 44) rfl))) (mvT hZ (hw _ (List.mem_of_getElem? (i := 45) rfl))) (mvT hZ (hw _ (List.mem_of_getElem? (i := 2) rfl))) (mvT hZ (hw _ (List.mem_of_getElem? (i := 46) rfl))) (by decide) (backOf (W := 1) (rm7 l Z a0 hw [] bx st1 en1 kx fx c1 T157.heap n0 z157z BAx_157 hc1) hZ (hw _ (List.mem_of_getElem? (i := 46) rfl)) (hw _ (List.mem_of_getElem? (i := 2) rfl)) (by decide) (by decide)) (g := (mkF m 123 #[.val (.int p1), .val (.int p2), .val (.int p3), .val (.int p4), .val (.long q5), .second, .val (.long q6), .second, .val (.ref bx), .val (.int sm), .val (.ref by_), .val (.int st1), .val (.int en1), .val (.int st2), .val (.int en2), .val (.ref b154), .val (.int c1), .unset, .unset, .unset] [(.int en1), (.int st1), (.ref bx), (.int c1)])) rfl (by rw [hml]; rfl) (argsL := [(.ref bx), (.int st1), (.int en1)]) (rest := [(.int c1)]) (lenOf pd_8 rfl) rfl (by show 2 * 0 + _ ≤ _; exact Nat.le_of_eq rfl) (hb hby at_123) (fun _ _ => ⟨rfl, rfl, (by decide : 5 + 0 ≤ _), (by decide : 16 + 0 ≤ _)⟩)
  dsimp only [Pt.U, Pt.locs, Pt.cells, Pt.slots] at X158 l158 y158 z158 st158 hQ158
  subst l158 y158 z158
  obtain ⟨rfl, N158q, he158⟩ := hQ158
  have N158 := Fr.app N157 N158q
  have Kc158 : Keep T157.heap T158.heap [] := by rw [he158]; exact Keep.refl _ _
  have BA_158 := BA_157.keep Kc158 nin0
  have BAx_158 := BAx_157.keep Kc158 nin0
  have RVf_1_158 := RVf.1.keep Kc158
  have BRi_158 := BRi_157.keep Kc158 nin0
  have K158 : Keep h0 T158.heap [] := K157.trans Kc158 all0
  have z158z : n0 ≤ T158.heap.size := Nat.le_trans z157z Kc158.1
  have RVh := RVf.keep Kc158 nin0
  have fl159 : ∀ target, Steps p.tables e below (T158.setTop (mkF m 136 #[.val (.int p1), .val (.int p2), .val (.int p3), .val (.int p4), .val (.long q5), .second, .val (.long q6), .second, .val (.ref bx), .val (.int sm), .val (.ref by_), .val (.int st1), .val (.int en1), .val (.int st2), .val (.int en2), .val (.ref b154), .val (.int c1), .val (.int (1 : Int32)), .unset, .unset] [])) target → Steps p.tables e below (T0.setTop (mkF m 84 #[.val (.int p1), .val (.int p2), .val (.int p3), .val (.int p4), .val (.long q5), .second, .val (.long q6), .second, .val (.ref bx), .val (.int sm), .val (.ref by_), .val (.int st1), .val (.int en1), .val (.int st2), .unset, .unset, .unset, .unset, .unset, .unset] [(.int en2)])) target := fun target kt => by
    show Steps p.tables e below (T0.setTop (mkF m 84 #[.val (.int p1), .val (.int p2), .val (.int p3), .val (.int p4), .val (.long q5), .second, .val (.long q6), .second, .val (.ref bx), .val (.int sm), .val (.ref by_), .val (.int st1), .val (.int en1), .val (.int st2), .unset, .unset, .unset, .unset, .unset, .unset] [(.int en2)])) _
    refine XS.istore X0.here hx rfl (hb hby at_84) rfl (l' := #[.val (.int p1), .val (.int p2), .val (.int p3), .val (.int p4), .val (.long q5), .second, .val (.long q6), .second, .val (.ref bx), .val (.int sm), .val (.ref by_), .val (.int st1), .val (.int en1), .val (.int st2), .val (.int en2), .unset, .unset, .unset, .unset, .unset]) rfl ?_
    show Steps p.tables e below (T0.setTop (mkF m 86 #[.val (.int p1), .val (.int p2), .val (.int p3), .val (.int p4), .val (.long q5), .second, .val (.long q6), .second, .val (.ref bx), .val (.int sm), .val (.ref by_), .val (.int st1), .val (.int en1), .val (.int st2), .val (.int en2), .unset, .unset, .unset, .unset, .unset] [])) _
    refine st154 _ ?_
    show Steps p.tables e below (T154.setTop (mkF m 89 #[.val (.int p1), .val (.int p2), .val (.int p3), .val (.int p4), .val (.long q5), .second, .val (.long q6), .second, .val (.ref bx), .val (.int sm), .val (.ref by_), .val (.int st1), .val (.int en1), .val (.int st2), .val (.int en2), .unset, .unset, .unset, .unset, .unset] [(.ref b154)])) _
    refine XS.dup X154.here hx rfl (hb hby at_89) rfl rfl ?_
    show Steps p.tables e below (T154.setTop (mkF m 90 #[.val (.int p1), .val (.int p2), .val (.int p3), .val (.int p4), .val (.long q5), .second, .val (.long q6), .second, .val (.ref bx), .val (.int sm), .val (.ref by_), .val (.int st1), .val (.int en1), .val (.int st2), .val (.int en2), .unset, .unset, .unset, .unset, .unset] [(.ref b154), (.ref b154)])) _
    refine st155.trans ?_
    show Steps p.tables e below (T155.setTop (mkF m 93 #[.val (.int p1), .val (.int p2), .val (.int p3), .val (.int p4), .val (.long q5), .second, .val (.long q6), .second, .val (.ref bx), .val (.int sm), .val (.ref by_), .val (.int st1), .val (.int en1), .val (.int st2), .val (.int en2), .unset, .unset, .unset, .unset, .unset] [(.ref b154)])) _
    refine XS.astore X155.here hx rfl (hb hby at_93) rfl rfl (l' := #[.val (.int p1), .val (.int p2), .val (.int p3), .val (.int p4), .val (.long q5), .second, .val (.long q6), .second, .val (.ref bx), .val (.int sm), .val (.ref by_), .val (.int st1), .val (.int en1), .val (.int st2), .val (.int en2), .val (.ref b154), .unset, .unset, .unset, .unset]) rfl ?_
    show Steps p.tables e below (T155.setTop (mkF m 95 #[.val (.int p1), .val (.int p2), .val (.int p3), .val (.int p4), .val (.long q5), .second, .val (.long q6), .second, .val (.ref bx), .val (.int sm), .val (.ref by_), .val (.int st1), .val (.int en1), .val (.int st2), .val (.int en2), .val (.ref b154), .unset, .unset, .unset, .unset] [])) _
    refine XS.aload X155.here hx rfl (hb hby at_95) rfl rfl ?_
    show Steps p.tables e below (T155.setTop (mkF m 97 #[.val (.int p1), .val (.int p2), .val (.int p3), .val (.int p4), .val (.long q5), .second, .val (.long q6), .second, .val (.ref bx), .val (.int sm), .val (.ref by_), .val (.int st1), .val (.int en1), .val (.int st2), .val (.int en2), .val (.ref b154), .unset, .unset, .unset, .unset] [(.ref b154)])) _
    refine XS.aload X155.here hx rfl (hb hby at_97) rfl rfl ?_
    show Steps p.tables e below (T155.setTop (mkF m 99 #[.val (.int p1), .val (.int p2), .val (.int p3), .val (.int p4), .val (.long q5), .second, .val (.long q6), .second, .val (.ref bx), .val (.int sm), .val (.ref by_), .val (.int st1), .val (.int en1), .val (.int st2), .val (.int en2), .val (.ref b154), .unset, .unset, .unset, .unset] [(.ref bx), (.ref b154)])) _
    refine XS.iload X155.here hx rfl (hb hby at_99) rfl ?_
    show Steps p.tables e below (T155.setTop (mkF m 101 #[.val (.int p1), .val (.int p2), .val (.int p3), .val (.int p4), .val (.long q5), .second, .val (.long q6), .second, .val (.ref bx), .val (.int sm), .val (.ref by_), .val (.int st1), .val (.int en1), .val (.int st2), .val (.int en2), .val (.ref b154), .unset, .unset, .unset, .unset] [(.int st1), (.ref bx), (.ref b154)])) _
    refine XS.iload X155.here hx rfl (hb hby at_101) rfl ?_
    show Steps p.tables e below (T155.setTop (mkF m 103 #[.val (.int p1), .val (.int p2), .val (.int p3), .val (.int p4), .val (.long q5), .second, .val (.long q6), .second, .val (.ref bx), .val (.int sm), .val (.ref by_), .val (.int st1), .val (.int en1), .val (.int st2), .val (.int en2), .val (.ref b154), .unset, .unset, .unset, .unset] [(.int en1), (.int st1), (.ref bx), (.ref b154)])) _
    refine XS.lload X155.here hx rfl (hb hby at_103) rfl ?_
    show Steps p.tables e below (T155.setTop (mkF m 105 #[.val (.int p1), .val (.int p2), .val (.int p3), .val (.int p4), .val (.long q5), .second, .val (.long q6), .second, .val (.ref bx), .val (.int sm), .val (.ref by_), .val (.int st1), .val (.int en1), .val (.int st2), .val (.int en2), .val (.ref b154), .unset, .unset, .unset, .unset] [(.long q5), (.int en1), (.int st1), (.ref bx), (.ref b154)])) _
    refine st156.trans ?_
    show Steps p.tables e below (T156.setTop (mkF m 108 #[.val (.int p1), .val (.int p2), .val (.int p3), .val (.int p4), .val (.long q5), .second, .val (.long q6), .second, .val (.ref bx), .val (.int sm), .val (.ref by_), .val (.int st1), .val (.int en1), .val (.int st2), .val (.int en2), .val (.ref b154), .unset, .unset, .unset, .unset] [])) _
    refine XS.aload X156.here hx rfl (hb hby at_108) rfl rfl ?_
    show Steps p.tables e below (T156.setTop (mkF m 110 #[.val (.int p1), .val (.int p2), .val (.int p3), .val (.int p4), .val (.long q5), .second, .val (.long q6), .second, .val (.ref bx), .val (.int sm), .val (.ref by_), .val (.int st1), .val (.int en1), .val (.int st2), .val (.int en2), .val (.ref b154), .unset, .unset, .unset, .unset] [(.ref b154)])) _
    refine st157.trans ?_
    show Steps p.tables e below (T157.setTop (mkF m 113 #[.val (.int p1), .val (.int p2), .val (.int p3), .val (.int p4), .val (.long q5), .second, .val (.long q6), .second, .val (.ref bx), .val (.int sm), .val (.ref by_), .val (.int st1), .val (.int en1), .val (.int st2), .val (.int en2), .val (.ref b154), .unset, .unset, .unset, .unset] [(.int c1)])) _
    refine XS.istore X157.here hx rfl (hb hby at_113) rfl (l' := #[.val (.int p1), .val (.int p2), .val (.int p3), .val (.int p4), .val (.long q5), .second, .val (.long q6), .second, .val (.ref bx), .val (.int sm), .val (.ref by_), .val (.int st1), .val (.int en1), .val (.int st2), .val (.int en2), .val (.ref b154), .val (.int c1), .unset, .unset, .unset]) rfl ?_
    show Steps p.tables e below (T157.setTop (mkF m 115 #[.val (.int p1), .val (.int p2), .val (.int p3), .val (.int p4), .val (.long q5), .second, .val (.long q6), .second, .val (.ref bx), .val (.int sm), .val (.ref by_), .val (.int st1), .val (.int en1), .val (.int st2), .val (.int en2), .val (.ref b154), .val (.int c1), .unset, .unset, .unset] [])) _
    refine XS.iload X157.here hx rfl (hb hby at_115) rfl ?_
    show Steps p.tables e below (T157.setTop (mkF m 117 #[.val (.int p1), .val (.int p2), .val (.int p3), .val (.int p4), .val (.long q5), .second, .val (.long q6), .second, .val (.ref bx), .val (.int sm), .val (.ref by_), .val (.int st1), .val (.int en1), .val (.int st2), .val (.int en2), .val (.ref b154), .val (.int c1), .unset, .unset, .unset] [(.int c1)])) _
    refine XS.aload X157.here hx rfl (hb hby at_117) rfl rfl ?_
    show Steps p.tables e below (T157.setTop (mkF m 119 #[.val (.int p1), .val (.int p2), .val (.int p3), .val (.int p4), .val (.long q5), .second, .val (.long q6), .second, .val (.ref bx), .val (.int sm), .val (.ref by_), .val (.int st1), .val (.int en1), .val (.int st2), .val (.int en2), .val (.ref b154), .val (.int c1), .unset, .unset, .unset] [(.ref bx), (.int c1)])) _
    refine XS.iload X157.here hx rfl (hb hby at_119) rfl ?_
    show Steps p.tables e below (T157.setTop (mkF m 121 #[.val (.int p1), .val (.int p2), .val (.int p3), .val (.int p4), .val (.long q5), .second, .val (.long q6), .second, .val (.ref bx), .val (.int sm), .val (.ref by_), .val (.int st1), .val (.int en1), .val (.int st2), .val (.int en2), .val (.ref b154), .val (.int c1), .unset, .unset, .unset] [(.int st1), (.ref bx), (.int c1)])) _
    refine XS.iload X157.here hx rfl (hb hby at_121) rfl ?_
    show Steps p.tables e below (T157.setTop (mkF m 123 #[.val (.int p1), .val (.int p2), .val (.int p3), .val (.int p4), .val (.long q5), .second, .val (.long q6), .second, .val (.ref bx), .val (.int sm), .val (.ref by_), .val (.int st1), .val (.int en1), .val (.int st2), .val (.int en2), .val (.ref b154), .val (.int c1), .unset, .unset, .unset] [(.int en1), (.int st1), (.ref bx), (.int c1)])) _
    refine st158 _ ?_
    show Steps p.tables e below (T158.setTop (mkF m 126 #[.val (.int p1), .val (.int p2), .val (.int p3), .val (.int p4), .val (.long q5), .second, .val (.long q6), .second, .val (.ref bx), .val (.int sm), .val (.ref by_), .val (.int st1), .val (.int en1), .val (.int st2), .val (.int en2), .val (.ref b154), .val (.int c1), .unset, .unset, .unset] [(.int c1), (.int c1)])) _
    refine XS.icmpNo X158.here hx rfl (hb hby at_126) rfl (teq (rfl : c1 = c1)).2 ?_
    show Steps p.tables e below (T158.setTop (mkF m 129 #[.val (.int p1), .val (.int p2), .val (.int p3), .val (.int p4), .val (.long q5), .second, .val (.long q6), .second, .val (.ref bx), .val (.int sm), .val (.ref by_), .val (.int st1), .val (.int en1), .val (.int st2), .val (.int en2), .val (.ref b154), .val (.int c1), .unset, .unset, .unset] [])) _
    refine XS.iconst X158.here hx rfl (hb hby at_129) ?_
    show Steps p.tables e below (T158.setTop (mkF m 130 #[.val (.int p1), .val (.int p2), .val (.int p3), .val (.int p4), .val (.long q5), .second, .val (.long q6), .second, .val (.ref bx), .val (.int sm), .val (.ref by_), .val (.int st1), .val (.int en1), .val (.int st2), .val (.int en2), .val (.ref b154), .val (.int c1), .unset, .unset, .unset] [(.int (1 : Int32))])) _
    refine XS.goto X158.here hx rfl (pc0 := 130) (pc' := 134) rfl (hb hby at_130) (by decide) (by decide) ?_
    show Steps p.tables e below (T158.setTop (mkF m 134 #[.val (.int p1), .val (.int p2), .val (.int p3), .val (.int p4), .val (.long q5), .second, .val (.long q6), .second, .val (.ref bx), .val (.int sm), .val (.ref by_), .val (.int st1), .val (.int en1), .val (.int st2), .val (.int en2), .val (.ref b154), .val (.int c1), .unset, .unset, .unset] [(.int (1 : Int32))])) _
    refine XS.istore X158.here hx rfl (hb hby at_134) rfl (l' := #[.val (.int p1), .val (.int p2), .val (.int p3), .val (.int p4), .val (.long q5), .second, .val (.long q6), .second, .val (.ref bx), .val (.int sm), .val (.ref by_), .val (.int st1), .val (.int en1), .val (.int st2), .val (.int en2), .val (.ref b154), .val (.int c1), .val (.int (1 : Int32)), .unset, .unset]) rfl ?_
    exact kt
  obtain ⟨T2, h2, ar2, D2, fo2, se2, L2, X2, e2, N2, z2, RV2, BR2, BA2, g2, na2, nb2, st2'⟩ := own_p2 p1 p2 p3 p4 q5 q6 bx sm by_ ky fy kx fx st1 en1 st2 en2 b154 c1 ar nn X158 hx hZ hw hby hml hown rfl N158 z158z RVh BRi_158 BAx_158 BA_158 ben1 hn hn4 hc1 g_b154 gar neaar (Ne.symm ne_bx_b154) (Ne.symm ne_by__b154) nexr neyr
  obtain ⟨T3, Ls3, L3, X3, N3, st3'⟩ := own_p3 p1 p2 p3 p4 q5 q6 bx sm by_ ky fy st1 en1 st2 en2 b154 c1 bx ar2 fo2 se2 D2 X2 hx hZ hw hby hml hown e2 N2 z2 RV2 BR2 BA2 ben2 g_b154 g2 na2 (Ne.symm ne_by__b154) nb2
  exact ⟨T3, Ls3, L3, X3, N3, fun target kt => (fl150 _ (fl151 _ (fl152 _ (fl153 _ (fl159 _ (st2' _ (st3' _ kt)))))))⟩
theorem ef_0 (m : MethodId) (x0 : Int32) (x1 : Int32) (x2 : Int32) (x3 : Int32) (x4 : Int64) (x5 : Int64) : entryFrame m #[(.int x0), (.int x1), (.int x2), (.int x3), (.long x4), (.long x5)] maxLocals = mkF m 0 #[.val (.int x0), .val (.int x1), .val (.int x2), .val (.int x3), .val (.long x4), .second, .val (.long x5), .second, .unset, .unset, .unset, .unset, .unset, .unset, .unset, .unset, .unset, .unset, .unset, .unset] [] := by first | (simp [entryFrame, mkF, argsToLocals, Value.category, maxLocals]; done) | rfl
def Q0 (Z : State) (p1 : Int32) (p2 : Int32) (p3 : Int32) (p4 : Int32) (q5 : Int64) (q6 : Int64) (h0 : Heap) (n0 : Nat) (v : Option Value) (h : Heap) (L : List Loc) : Prop := v = some (.int (1 : Int32)) ∧ Fr n0 L
set_option maxRecDepth 65536 in
set_option maxHeartbeats 40000000 in
theorem rm0 (l : Launch) (Z : State) (a0 : Array Value) (hw : ∀ d ∈ tables_1, d.before a0 Z = true) (ws : List Jvm.Cond) (p1 : Int32) (p2 : Int32) (p3 : Int32) (p4 : Int32) (q5 : Int64) (q6 : Int64) (h0 : Heap) (n0 : Nat) (Z0 : n0 ≤ h0.size) :
    MetFree l x (head1 (Jvm.Cond.code x code maxLocals ret :: ws) room_1) (fun a U => a = #[(.int p1), (.int p2), (.int p3), (.int p4), (.long q5), (.long q6)] ∧ Z.Warmed39 U.vm ∧ U.heap = h0) (fun _ _ _ _ _ => True) (fun _ U o U' => ∃ v L, o = .returned v ∧ Q0 Z p1 p2 p3 p4 q5 q6 h0 n0 v U'.heap L ∧ FrameEnd U o U' L room_1.cells room_1.slots) := by
  refine MetFree.of_bodySF (plainFor_of_name pn_0) hisR ?_
  intro p e s m args below meth c s₁ Bd hml0 hP hK
  obtain ⟨rfl, hZ, hh⟩ := hP
  have hx := Bd.exec
  have hby := Bd.bytes
  have hml : c.maxLocals = 20 := hml0
  have hown : s.vm.findClass "com/example/concept_ledger/conceptledger/model/RowViewSetPinLaw" = some m.cls := findClass_of_methodNamed Bd.named
  have hnm := (name_of_methodNamed Bd.named Bd.method).1
  have X0 : Stand p l e room_1 s m #[(.int p1), (.int p2), (.int p3), (.int p4), (.long q5), (.long q6)] below meth c s₁ [] 0 0 := Stand.of_body Bd
  have e0 : s₁.heap = h0 := by rw [← hh, Bd.state]; rfl
  have N0 := Fr.nil n0
  have pre0 : ∀ t, Steps p.tables e below (s₁.setTop (mkF m 0 #[.val (.int p1), .val (.int p2), .val (.int p3), .val (.int p4), .val (.long q5), .second, .val (.long q6), .second, .unset, .unset, .unset, .unset, .unset, .unset, .unset, .unset, .unset, .unset, .unset, .unset] [])) t → Steps p.tables e below (s₁.setTop (entryFrame m #[(.int p1), (.int p2), (.int p3), (.int p4), (.long q5), (.long q6)] maxLocals)) t := fun t k => castTop (ef_0 m p1 p2 p3 p4 q5 q6) k
  obtain ⟨_, _, ⟨T160, L160, k160, n160⟩, -, X160, ⟨Lc160, hQ160, l160, y160, z160⟩, st160⟩ := Jvm.LawKit.callS X0 hx (y := (⟨"com/example/concept_ledger/conceptledger/model/RowViewSetPinLaw", "draw", "(I)[B"⟩ : MethodName)) hown (mvT hZ (hw _ (List.mem_of_getElem? (i := 0) rfl))) (mvT hZ (hw _ (List.mem_of_getElem? (i := 1) rfl))) (mvT hZ (hw _ (List.mem_of_getElem? (i := 2) rfl))) (mvT hZ (hw _ (List.mem_of_getElem? (i := 3) rfl))) (by decide) (backOf (W := 0) (rm1 l Z a0 hw [] p1  h0 n0 Z0 ) hZ (hw _ (List.mem_of_getElem? (i := 3) rfl)) (hw _ (List.mem_of_getElem? (i := 2) rfl)) (by decide) (by decide)) (g := (mkF m 1 #[.val (.int p1), .val (.int p2), .val (.int p3), .val (.int p4), .val (.long q5), .second, .val (.long q6), .second, .unset, .unset, .unset, .unset, .unset, .unset, .unset, .unset, .unset, .unset, .unset, .unset] [(.int p1)])) rfl (by rw [hml]; rfl) (argsL := [(.int p1)]) (rest := []) (lenOf pd_13 rfl) rfl (by show 2 * 0 + _ ≤ _; exact Nat.le_of_eq rfl) (hb hby at_1) (fun _ _ => ⟨rfl, e0, (by decide : 0 + 1 ≤ _), (by decide : 0 + 4 ≤ _)⟩)
  dsimp only [Pt.U, Pt.locs, Pt.cells, Pt.slots] at X160 l160 y160 z160 st160 hQ160
  subst l160 y160 z160
  obtain ⟨bx, kx, rfl, N160q, Kc160, BAx, szx, gx⟩ := hQ160
  have N160 := Fr.app N0 N160q
  have K160 : Keep h0 T160.heap [] := (Keep.refl h0 []).trans Kc160 all0
  have z160z : n0 ≤ T160.heap.size := Nat.le_trans Z0 Kc160.1
  by_cases hc : (((p4.toUInt32 >>> ((6 : Int32) &&& 31).toUInt32).toInt32) &&& (1 : Int32)) = (0 : Int32)
  · obtain ⟨_, _, ⟨T161, L161, k161, n161⟩, -, X161, ⟨Lc161, hQ161, l161, y161, z161⟩, st161⟩ := Jvm.LawKit.callS X160 hx (y := (⟨"com/example/concept_ledger/conceptledger/model/RowViewSetPinLaw", "draw", "(I)[B"⟩ : MethodName)) hown (mvT hZ (hw _ (List.mem_of_getElem? (i := 0) rfl))) (mvT hZ (hw _ (List.mem_of_getElem? (i := 1) rfl))) (mvT hZ (hw _ (List.mem_of_getElem? (i := 2) rfl))) (mvT hZ (hw _ (List.mem_of_getElem? (i := 3) rfl))) (by decide) (backOf (W := 0) (rm1 l Z a0 hw [] p2  T160.heap n0 z160z ) hZ (hw _ (List.mem_of_getElem? (i := 3) rfl)) (hw _ (List.mem_of_getElem? (i := 2) rfl)) (by decide) (by decide)) (g := (mkF m 33 #[.val (.int p1), .val (.int p2), .val (.int p3), .val (.int p4), .val (.long q5), .second, .val (.long q6), .second, .val (.ref bx), .val (.int (0 : Int32)), .unset, .unset, .unset, .unset, .unset, .unset, .unset, .unset, .unset, .unset] [(.int p2)])) rfl (by rw [hml]; rfl) (argsL := [(.int p2)]) (rest := []) (lenOf pd_13 rfl) rfl (by show 2 * 0 + _ ≤ _; exact Nat.le_of_eq rfl) (hb hby at_33) (fun _ _ => ⟨rfl, rfl, (by decide : 1 + 1 ≤ _), (by decide : 4 + 4 ≤ _)⟩)
    dsimp only [Pt.U, Pt.locs, Pt.cells, Pt.slots] at X161 l161 y161 z161 st161 hQ161
    subst l161 y161 z161
    obtain ⟨by_, ky, rfl, N161q, Kc161, BAy, szy, gy⟩ := hQ161
    have N161 := Fr.app N160 N161q
    have BAx_161 := BAx.keep Kc161 nin0
    have K161 : Keep h0 T161.heap [] := K160.trans Kc161 all0
    have z161z : n0 ≤ T161.heap.size := Nat.le_trans z160z Kc161.1
    have fl162 : ∀ target, Steps p.tables e below (T161.setTop (mkF m 38 #[.val (.int p1), .val (.int p2), .val (.int p3), .val (.int p4), .val (.long q5), .second, .val (.long q6), .second, .val (.ref bx), .val (.int (0 : Int32)), .val (.ref by_), .unset, .unset, .unset, .unset, .unset, .unset, .unset, .unset, .unset] [])) target → Steps p.tables e below (s₁.setTop (mkF m 0 #[.val (.int p1), .val (.int p2), .val (.int p3), .val (.int p4), .val (.long q5), .second, .val (.long q6), .second, .unset, .unset, .unset, .unset, .unset, .unset, .unset, .unset, .unset, .unset, .unset, .unset] [])) target := fun target kt => by
      show Steps p.tables e below (s₁.setTop (mkF m 0 #[.val (.int p1), .val (.int p2), .val (.int p3), .val (.int p4), .val (.long q5), .second, .val (.long q6), .second, .unset, .unset, .unset, .unset, .unset, .unset, .unset, .unset, .unset, .unset, .unset, .unset] [])) _
      refine XS.iloadN X0.here hx rfl (hb hby at_0) rfl ?_
      show Steps p.tables e below (s₁.setTop (mkF m 1 #[.val (.int p1), .val (.int p2), .val (.int p3), .val (.int p4), .val (.long q5), .second, .val (.long q6), .second, .unset, .unset, .unset, .unset, .unset, .unset, .unset, .unset, .unset, .unset, .unset, .unset] [(.int p1)])) _
      refine st160 _ ?_
      show Steps p.tables e below (T160.setTop (mkF m 4 #[.val (.int p1), .val (.int p2), .val (.int p3), .val (.int p4), .val (.long q5), .second, .val (.long q6), .second, .unset, .unset, .unset, .unset, .unset, .unset, .unset, .unset, .unset, .unset, .unset, .unset] [(.ref bx)])) _
      refine XS.astore X160.here hx rfl (hb hby at_4) rfl rfl (l' := #[.val (.int p1), .val (.int p2), .val (.int p3), .val (.int p4), .val (.long q5), .second, .val (.long q6), .second, .val (.ref bx), .unset, .unset, .unset, .unset, .unset, .unset, .unset, .unset, .unset, .unset, .unset]) rfl ?_
      show Steps p.tables e below (T160.setTop (mkF m 6 #[.val (.int p1), .val (.int p2), .val (.int p3), .val (.int p4), .val (.long q5), .second, .val (.long q6), .second, .val (.ref bx), .unset, .unset, .unset, .unset, .unset, .unset, .unset, .unset, .unset, .unset, .unset] [])) _
      refine XS.iloadN X160.here hx rfl (hb hby at_6) rfl ?_
      show Steps p.tables e below (T160.setTop (mkF m 7 #[.val (.int p1), .val (.int p2), .val (.int p3), .val (.int p4), .val (.long q5), .second, .val (.long q6), .second, .val (.ref bx), .unset, .unset, .unset, .unset, .unset, .unset, .unset, .unset, .unset, .unset, .unset] [(.int p4)])) _
      refine XS.bipush X160.here hx rfl (hb hby at_7) ?_
      show Steps p.tables e below (T160.setTop (mkF m 9 #[.val (.int p1), .val (.int p2), .val (.int p3), .val (.int p4), .val (.long q5), .second, .val (.long q6), .second, .val (.ref bx), .unset, .unset, .unset, .unset, .unset, .unset, .unset, .unset, .unset, .unset, .unset] [(.int (6 : Int32)), (.int p4)])) _
      refine XS.iushr X160.here hx rfl (hb hby at_9) rfl ?_
      show Steps p.tables e below (T160.setTop (mkF m 10 #[.val (.int p1), .val (.int p2), .val (.int p3), .val (.int p4), .val (.long q5), .second, .val (.long q6), .second, .val (.ref bx), .unset, .unset, .unset, .unset, .unset, .unset, .unset, .unset, .unset, .unset, .unset] [(.int ((p4.toUInt32 >>> ((6 : Int32) &&& 31).toUInt32).toInt32))])) _
      refine XS.iconst X160.here hx rfl (hb hby at_10) ?_
      show Steps p.tables e below (T160.setTop (mkF m 11 #[.val (.int p1), .val (.int p2), .val (.int p3), .val (.int p4), .val (.long q5), .second, .val (.long q6), .second, .val (.ref bx), .unset, .unset, .unset, .unset, .unset, .unset, .unset, .unset, .unset, .unset, .unset] [(.int (1 : Int32)), (.int ((p4.toUInt32 >>> ((6 : Int32) &&& 31).toUInt32).toInt32))])) _
      refine XS.iand X160.here hx rfl (hb hby at_11) rfl ?_
      show Steps p.tables e below (T160.setTop (mkF m 12 #[.val (.int p1), .val (.int p2), .val (.int p3), .val (.int p4), .val (.long q5), .second, .val (.long q6), .second, .val (.ref bx), .unset, .unset, .unset, .unset, .unset, .unset, .unset, .unset, .unset, .unset, .unset] [(.int (((p4.toUInt32 >>> ((6 : Int32) &&& 31).toUInt32).toInt32) &&& (1 : Int32)))])) _
      refine XS.ifYes X160.here hx rfl (pc0 := 12) (pc' := 19) rfl (hb hby at_12) rfl ((if0 _ _).trans (teq (hc : (((p4.toUInt32 >>> ((6 : Int32) &&& 31).toUInt32).toInt32) &&& (1 : Int32)) = (0 : Int32))).1) (by decide) (by decide) ?_
      show Steps p.tables e below (T160.setTop (mkF m 19 #[.val (.int p1), .val (.int p2), .val (.int p3), .val (.int p4), .val (.long q5), .second, .val (.long q6), .second, .val (.ref bx), .unset, .unset, .unset, .unset, .unset, .unset, .unset, .unset, .unset, .unset, .unset] [])) _
      refine XS.iconst X160.here hx rfl (hb hby at_19) ?_
      show Steps p.tables e below (T160.setTop (mkF m 20 #[.val (.int p1), .val (.int p2), .val (.int p3), .val (.int p4), .val (.long q5), .second, .val (.long q6), .second, .val (.ref bx), .unset, .unset, .unset, .unset, .unset, .unset, .unset, .unset, .unset, .unset, .unset] [(.int (0 : Int32))])) _
      refine XS.istore X160.here hx rfl (hb hby at_20) rfl (l' := #[.val (.int p1), .val (.int p2), .val (.int p3), .val (.int p4), .val (.long q5), .second, .val (.long q6), .second, .val (.ref bx), .val (.int (0 : Int32)), .unset, .unset, .unset, .unset, .unset, .unset, .unset, .unset, .unset, .unset]) rfl ?_
      show Steps p.tables e below (T160.setTop (mkF m 22 #[.val (.int p1), .val (.int p2), .val (.int p3), .val (.int p4), .val (.long q5), .second, .val (.long q6), .second, .val (.ref bx), .val (.int (0 : Int32)), .unset, .unset, .unset, .unset, .unset, .unset, .unset, .unset, .unset, .unset] [])) _
      refine XS.iload X160.here hx rfl (hb hby at_22) rfl ?_
      show Steps p.tables e below (T160.setTop (mkF m 24 #[.val (.int p1), .val (.int p2), .val (.int p3), .val (.int p4), .val (.long q5), .second, .val (.long q6), .second, .val (.ref bx), .val (.int (0 : Int32)), .unset, .unset, .unset, .unset, .unset, .unset, .unset, .unset, .unset, .unset] [(.int (0 : Int32))])) _
      refine XS.ifYes X160.here hx rfl (pc0 := 24) (pc' := 32) rfl (hb hby at_24) rfl ((if0 _ _).trans (teq (by decide : (0 : Int32) = (0 : Int32))).1) (by decide) (by decide) ?_
      show Steps p.tables e below (T160.setTop (mkF m 32 #[.val (.int p1), .val (.int p2), .val (.int p3), .val (.int p4), .val (.long q5), .second, .val (.long q6), .second, .val (.ref bx), .val (.int (0 : Int32)), .unset, .unset, .unset, .unset, .unset, .unset, .unset, .unset, .unset, .unset] [])) _
      refine XS.iloadN X160.here hx rfl (hb hby at_32) rfl ?_
      show Steps p.tables e below (T160.setTop (mkF m 33 #[.val (.int p1), .val (.int p2), .val (.int p3), .val (.int p4), .val (.long q5), .second, .val (.long q6), .second, .val (.ref bx), .val (.int (0 : Int32)), .unset, .unset, .unset, .unset, .unset, .unset, .unset, .unset, .unset, .unset] [(.int p2)])) _
      refine st161 _ ?_
      show Steps p.tables e below (T161.setTop (mkF m 36 #[.val (.int p1), .val (.int p2), .val (.int p3), .val (.int p4), .val (.long q5), .second, .val (.long q6), .second, .val (.ref bx), .val (.int (0 : Int32)), .unset, .unset, .unset, .unset, .unset, .unset, .unset, .unset, .unset, .unset] [(.ref by_)])) _
      refine XS.astore X161.here hx rfl (hb hby at_36) rfl rfl (l' := #[.val (.int p1), .val (.int p2), .val (.int p3), .val (.int p4), .val (.long q5), .second, .val (.long q6), .second, .val (.ref bx), .val (.int (0 : Int32)), .val (.ref by_), .unset, .unset, .unset, .unset, .unset, .unset, .unset, .unset, .unset]) rfl ?_
      exact kt
    obtain ⟨T3, Ls3, L3, X3, N3, st3'⟩ := own_p1 p1 p2 p3 p4 q5 q6 bx (0 : Int32) by_ ky (own_f p2) kx (own_f p1) X161 hx hZ hw hby hml hown rfl N161 z161z BAx_161 BAy
    obtain ⟨fs, hr, hrun, hended, hW, hsame⟩ := X3.leave (v := some (.int (1 : Int32))) (fun h => by rw [Bd.returns] at h; cases h)
    refine ⟨_, _, pre0 _ (fl162 _ (st3' _ ?_)), hrun, hended, _, _, rfl, ?_, ⟨_, rfl⟩, hW, hsame.mono (by decide) (by decide)⟩
    · exact retN X3 hx (t := .boolean) Bd.returns (by simp) (hb hby at_338) hr
    · exact ⟨rfl, N3⟩
  · have fl163 : ∀ target, Steps p.tables e below (T160.setTop (mkF m 38 #[.val (.int p1), .val (.int p2), .val (.int p3), .val (.int p4), .val (.long q5), .second, .val (.long q6), .second, .val (.ref bx), .val (.int (1 : Int32)), .val (.ref bx), .unset, .unset, .unset, .unset, .unset, .unset, .unset, .unset, .unset] [])) target → Steps p.tables e below (s₁.setTop (mkF m 0 #[.val (.int p1), .val (.int p2), .val (.int p3), .val (.int p4), .val (.long q5), .second, .val (.long q6), .second, .unset, .unset, .unset, .unset, .unset, .unset, .unset, .unset, .unset, .unset, .unset, .unset] [])) target := fun target kt => by
      show Steps p.tables e below (s₁.setTop (mkF m 0 #[.val (.int p1), .val (.int p2), .val (.int p3), .val (.int p4), .val (.long q5), .second, .val (.long q6), .second, .unset, .unset, .unset, .unset, .unset, .unset, .unset, .unset, .unset, .unset, .unset, .unset] [])) _
      refine XS.iloadN X0.here hx rfl (hb hby at_0) rfl ?_
      show Steps p.tables e below (s₁.setTop (mkF m 1 #[.val (.int p1), .val (.int p2), .val (.int p3), .val (.int p4), .val (.long q5), .second, .val (.long q6), .second, .unset, .unset, .unset, .unset, .unset, .unset, .unset, .unset, .unset, .unset, .unset, .unset] [(.int p1)])) _
      refine st160 _ ?_
      show Steps p.tables e below (T160.setTop (mkF m 4 #[.val (.int p1), .val (.int p2), .val (.int p3), .val (.int p4), .val (.long q5), .second, .val (.long q6), .second, .unset, .unset, .unset, .unset, .unset, .unset, .unset, .unset, .unset, .unset, .unset, .unset] [(.ref bx)])) _
      refine XS.astore X160.here hx rfl (hb hby at_4) rfl rfl (l' := #[.val (.int p1), .val (.int p2), .val (.int p3), .val (.int p4), .val (.long q5), .second, .val (.long q6), .second, .val (.ref bx), .unset, .unset, .unset, .unset, .unset, .unset, .unset, .unset, .unset, .unset, .unset]) rfl ?_
      show Steps p.tables e below (T160.setTop (mkF m 6 #[.val (.int p1), .val (.int p2), .val (.int p3), .val (.int p4), .val (.long q5), .second, .val (.long q6), .second, .val (.ref bx), .unset, .unset, .unset, .unset, .unset, .unset, .unset, .unset, .unset, .unset, .unset] [])) _
      refine XS.iloadN X160.here hx rfl (hb hby at_6) rfl ?_
      show Steps p.tables e below (T160.setTop (mkF m 7 #[.val (.int p1), .val (.int p2), .val (.int p3), .val (.int p4), .val (.long q5), .second, .val (.long q6), .second, .val (.ref bx), .unset, .unset, .unset, .unset, .unset, .unset, .unset, .unset, .unset, .unset, .unset] [(.int p4)])) _
      refine XS.bipush X160.here hx rfl (hb hby at_7) ?_
      show Steps p.tables e below (T160.setTop (mkF m 9 #[.val (.int p1), .val (.int p2), .val (.int p3), .val (.int p4), .val (.long q5), .second, .val (.long q6), .second, .val (.ref bx), .unset, .unset, .unset, .unset, .unset, .unset, .unset, .unset, .unset, .unset, .unset] [(.int (6 : Int32)), (.int p4)])) _
      refine XS.iushr X160.here hx rfl (hb hby at_9) rfl ?_
      show Steps p.tables e below (T160.setTop (mkF m 10 #[.val (.int p1), .val (.int p2), .val (.int p3), .val (.int p4), .val (.long q5), .second, .val (.long q6), .second, .val (.ref bx), .unset, .unset, .unset, .unset, .unset, .unset, .unset, .unset, .unset, .unset, .unset] [(.int ((p4.toUInt32 >>> ((6 : Int32) &&& 31).toUInt32).toInt32))])) _
      refine XS.iconst X160.here hx rfl (hb hby at_10) ?_
      show Steps p.tables e below (T160.setTop (mkF m 11 #[.val (.int p1), .val (.int p2), .val (.int p3), .val (.int p4), .val (.long q5), .second, .val (.long q6), .second, .val (.ref bx), .unset, .unset, .unset, .unset, .unset, .unset, .unset, .unset, .unset, .unset, .unset] [(.int (1 : Int32)), (.int ((p4.toUInt32 >>> ((6 : Int32) &&& 31).toUInt32).toInt32))])) _
      refine XS.iand X160.here hx rfl (hb hby at_11) rfl ?_
      show Steps p.tables e below (T160.setTop (mkF m 12 #[.val (.int p1), .val (.int p2), .val (.int p3), .val (.int p4), .val (.long q5), .second, .val (.long q6), .second, .val (.ref bx), .unset, .unset, .unset, .unset, .unset, .unset, .unset, .unset, .unset, .unset, .unset] [(.int (((p4.toUInt32 >>> ((6 : Int32) &&& 31).toUInt32).toInt32) &&& (1 : Int32)))])) _
      refine XS.ifNo X160.here hx rfl (hb hby at_12) rfl ((if0 _ _).trans (feq (hc : ¬ ((((p4.toUInt32 >>> ((6 : Int32) &&& 31).toUInt32).toInt32) &&& (1 : Int32)) = (0 : Int32)))).1) ?_
      show Steps p.tables e below (T160.setTop (mkF m 15 #[.val (.int p1), .val (.int p2), .val (.int p3), .val (.int p4), .val (.long q5), .second, .val (.long q6), .second, .val (.ref bx), .unset, .unset, .unset, .unset, .unset, .unset, .unset, .unset, .unset, .unset, .unset] [])) _
      refine XS.iconst X160.here hx rfl (hb hby at_15) ?_
      show Steps p.tables e below (T160.setTop (mkF m 16 #[.val (.int p1), .val (.int p2), .val (.int p3), .val (.int p4), .val (.long q5), .second, .val (.long q6), .second, .val (.ref bx), .unset, .unset, .unset, .unset, .unset, .unset, .unset, .unset, .unset, .unset, .unset] [(.int (1 : Int32))])) _
      refine XS.goto X160.here hx rfl (pc0 := 16) (pc' := 20) rfl (hb hby at_16) (by decide) (by decide) ?_
      show Steps p.tables e below (T160.setTop (mkF m 20 #[.val (.int p1), .val (.int p2), .val (.int p3), .val (.int p4), .val (.long q5), .second, .val (.long q6), .second, .val (.ref bx), .unset, .unset, .unset, .unset, .unset, .unset, .unset, .unset, .unset, .unset, .unset] [(.int (1 : Int32))])) _
      refine XS.istore X160.here hx rfl (hb hby at_20) rfl (l' := #[.val (.int p1), .val (.int p2), .val (.int p3), .val (.int p4), .val (.long q5), .second, .val (.long q6), .second, .val (.ref bx), .val (.int (1 : Int32)), .unset, .unset, .unset, .unset, .unset, .unset, .unset, .unset, .unset, .unset]) rfl ?_
      show Steps p.tables e below (T160.setTop (mkF m 22 #[.val (.int p1), .val (.int p2), .val (.int p3), .val (.int p4), .val (.long q5), .second, .val (.long q6), .second, .val (.ref bx), .val (.int (1 : Int32)), .unset, .unset, .unset, .unset, .unset, .unset, .unset, .unset, .unset, .unset] [])) _
      refine XS.iload X160.here hx rfl (hb hby at_22) rfl ?_
      show Steps p.tables e below (T160.setTop (mkF m 24 #[.val (.int p1), .val (.int p2), .val (.int p3), .val (.int p4), .val (.long q5), .second, .val (.long q6), .second, .val (.ref bx), .val (.int (1 : Int32)), .unset, .unset, .unset, .unset, .unset, .unset, .unset, .unset, .unset, .unset] [(.int (1 : Int32))])) _
      refine XS.ifNo X160.here hx rfl (hb hby at_24) rfl ((if0 _ _).trans (feq (by decide : ¬ ((1 : Int32) = (0 : Int32)))).1) ?_
      show Steps p.tables e below (T160.setTop (mkF m 27 #[.val (.int p1), .val (.int p2), .val (.int p3), .val (.int p4), .val (.long q5), .second, .val (.long q6), .second, .val (.ref bx), .val (.int (1 : Int32)), .unset, .unset, .unset, .unset, .unset, .unset, .unset, .unset, .unset, .unset] [])) _
      refine XS.aload X160.here hx rfl (hb hby at_27) rfl rfl ?_
      show Steps p.tables e below (T160.setTop (mkF m 29 #[.val (.int p1), .val (.int p2), .val (.int p3), .val (.int p4), .val (.long q5), .second, .val (.long q6), .second, .val (.ref bx), .val (.int (1 : Int32)), .unset, .unset, .unset, .unset, .unset, .unset, .unset, .unset, .unset, .unset] [(.ref bx)])) _
      refine XS.goto X160.here hx rfl (pc0 := 29) (pc' := 36) rfl (hb hby at_29) (by decide) (by decide) ?_
      show Steps p.tables e below (T160.setTop (mkF m 36 #[.val (.int p1), .val (.int p2), .val (.int p3), .val (.int p4), .val (.long q5), .second, .val (.long q6), .second, .val (.ref bx), .val (.int (1 : Int32)), .unset, .unset, .unset, .unset, .unset, .unset, .unset, .unset, .unset, .unset] [(.ref bx)])) _
      refine XS.astore X160.here hx rfl (hb hby at_36) rfl rfl (l' := #[.val (.int p1), .val (.int p2), .val (.int p3), .val (.int p4), .val (.long q5), .second, .val (.long q6), .second, .val (.ref bx), .val (.int (1 : Int32)), .val (.ref bx), .unset, .unset, .unset, .unset, .unset, .unset, .unset, .unset, .unset]) rfl ?_
      exact kt
    obtain ⟨T3, Ls3, L3, X3, N3, st3'⟩ := own_p1 p1 p2 p3 p4 q5 q6 bx (1 : Int32) bx kx (own_f p1) kx (own_f p1) (X160.more (cells' := 2) (slots' := 8) (by decide) (by decide)) hx hZ hw hby hml hown rfl N160 z160z BAx BAx
    obtain ⟨fs, hr, hrun, hended, hW, hsame⟩ := X3.leave (v := some (.int (1 : Int32))) (fun h => by rw [Bd.returns] at h; cases h)
    refine ⟨_, _, pre0 _ (fl163 _ (st3' _ ?_)), hrun, hended, _, _, rfl, ?_, ⟨_, rfl⟩, hW, hsame.mono (by decide) (by decide)⟩
    · exact retN X3 hx (t := .boolean) Bd.returns (by simp) (hb hby at_338) hr
    · exact ⟨rfl, N3⟩
set_option maxRecDepth 65536 in
set_option maxHeartbeats 40000000 in
theorem comes_1 {Post : Tables → Env → Array Value → State → Outcome → State → Prop} (hpost : ∀ tb e args s v u, (limb_1_1.after args s (.returned v) u = true ∧ limb_1_2.after args s (.returned v) u = true ∧ True) → FrameEnd s (.returned v) u (Jvm.fieldLocs frame_1_writes args s ++ Jvm.arrayLocs frame_1_arrays args s ++ Jvm.staticLocs frame_1_statics s) 24 128 → Post tb e args s (.returned v) u) :
    ArmFor flags0 classFile x code maxLocals ret World_1 tables_1 room_1 Calls_1 rest_1 Pre_1 Post := by
  intro l hfl _ _ p e ha hc hk s m args below hf hA hF happ hP
  obtain ⟨hcalls, hrest, hpre⟩ := hP
  obtain ⟨-, -, -, hnamed, -, -, -, hat⟩ := (Spec.applies_iff hf).mp happ
  obtain ⟨hg, hn⟩ := and_e (Cond.before_iff.mp (show (Jvm.Cond.and given_1 narrow_1).before args s = true from hpre))
  obtain ⟨ga0, gb0⟩ := and_e hg
  obtain ⟨ga1, gb1⟩ := and_e gb0
  obtain ⟨ga2, gb2⟩ := and_e gb1
  obtain ⟨ga3, gb3⟩ := and_e gb2
  obtain ⟨ga4, gb4⟩ := and_e gb3
  obtain ⟨ga5, gb5⟩ := and_e gb4
  obtain ⟨w0, w1, w2, w3, w4, w5, rfl⟩ : ∃ w0 w1 w2 w3 w4 w5 : Value, args = #[w0, w1, w2, w3, w4, w5] := by
    have hs : args.size = 6 := by simpa [Cond.value, given_1] using ga0
    obtain ⟨L⟩ := args
    match L, hs with
    | [w0, w1, w2, w3, w4, w5], _ => exact ⟨w0, w1, w2, w3, w4, w5, rfl⟩
  have hw := fun d (hd : d ∈ tables_1) => atoms_spec (ws := Jvm.Cond.code x code maxLocals ret :: tables_1) hat d (List.mem_cons_of_mem _ hd)
  obtain ⟨i0, ei0⟩ := is_v ga1
  obtain rfl : w0 = (.int i0) := Option.some.inj ei0
  obtain ⟨i1, ei1⟩ := is_v ga2
  obtain rfl : w1 = (.int i1) := Option.some.inj ei1
  obtain ⟨i2, ei2⟩ := is_v ga3
  obtain rfl : w2 = (.int i2) := Option.some.inj ei2
  obtain ⟨i3, ei3⟩ := is_v ga4
  obtain rfl : w3 = (.int i3) := Option.some.inj ei3
  obtain ⟨i4, ei4⟩ := isL_v ga5
  obtain rfl : w4 = (.long i4) := Option.some.inj ei4
  obtain ⟨i5, ei5⟩ := isL_v gb5
  obtain rfl : w5 = (.long i5) := Option.some.inj ei5
  obtain ⟨n, o, h1, h2, h3, _, L, rfl, ⟨rfl, N⟩, hq⟩ := rm0 l s _ hw tables_1 i0 i1 i2 i3 i4 i5 s.heap s.heap.size (Nat.le_refl _)  p e ha hc hk s m _ below hf ((Spec.applies_iff_loose hf).mp happ).1 ⟨rfl, State.Warmed39.refl s, rfl⟩ trivial
  refine ⟨n, _, h1, h2, h3, hpost _ _ _ _ _ _ ⟨Cond.after_iff.mpr rfl, Cond.after_iff.mpr (eq_i res_at (Term.int_eval (1)) rfl), trivial⟩ ⟨hq.1, hq.2.1, (hq.2.2.sift fun y hy => Or.inr (N y hy)).mono (by decide) (by decide)⟩⟩
theorem main_1_1 : Claimed_1_1 := comes_1 fun _ _ _ _ _ _ h hF => ⟨h.1, hF⟩
theorem main_1_2 : Claimed_1_2 := comes_1 fun _ _ _ _ _ _ h hF => ⟨h.2.1, hF⟩
end Jvm.Pilot.@@N@@
namespace Jvm.Pilot.@@N@@
open Jvm Jvm.ClassFile Sem Op Lib Jvm.Free Jvm.Stand Jvm.Pilot.@@N@@.Jvm.D
/-! MADE BY PROGRAM (witnessworld.py) out of the Statement's table words and the real class files: 12 classes; the members and pool entries that the words name. The judged class is class 1, her method 7. -/
namespace start1
open Jvm.ClassFile
def u (s : String) : CpInfo := .utf8 (stringToUtf16 s)
/-- a pool by its gaps: so many unusable entries, then the entry; so many at the end -/
def gap : Nat → List CpInfo → List CpInfo
  | 0, r => r
  | n + 1, r => .unusable :: gap n r
def poolList (es : List (Nat × CpInfo)) (last : Nat) : List CpInfo := es.foldr (fun e r => gap e.1 (e.2 :: r)) (gap last [])
def pool (es : List (Nat × CpInfo)) (last : Nat) : Array CpInfo := ⟨poolList es last⟩
def fileOf (pool : Array CpInfo) (this : Nat) (attrs : Array Attribute := #[]) (ms : Array MethodInfo := #[]) (fl : Nat := 33) (sup : Nat := 0) (ifs : Array Nat := #[]) (fds : Array FieldInfo := #[]) : ClassFile where
  minorVersion := 0
  majorVersion := 65
  constantPool := pool
  accessFlags := fl
  thisClass := this
  superClass := sup
  interfaces := ifs
  fields := fds
  methods := ms
  attributes := attrs
def plain (name : String) (sup : Option ClassId) : Class where
  name := name
  kind := .ordinary
  loader := none
  accessFlags := 33
  super := sup
  interfaces := #[]
  cf := none
  fields := #[]
  methods := #[]
  instanceTypes := #[]
  staticTypes := #[]
  resolved := #[]
  callSites := []
  init := .initialized
  statics := none
  mirror := none

def pool0 : Array CpInfo := pool [(5, u "<init>"), (0, u "()V"), (1, .class_ 10), (1, u "java/lang/Object")] 113

def k0c0 : Code := { maxStack := 0, maxLocals := 1, code := object_method_1_code, exceptionTable := #[], attributes := #[] }
def k0m0 : Method := { name := "<init>", desc := "()V", sig := { parameters := [], returnType := none }, accessFlags := 1, code := some k0c0 }
/-- java/lang/Object -/
def k0 : Class := { plain "java/lang/Object" none with
  accessFlags := 33
  interfaces := #[]
  cf := some (fileOf pool0 8 #[] #[{ accessFlags := 1, nameIndex := 5, descriptorIndex := 6, attributes := #[] }] 33 0 #[] #[])
  fields := #[]
  methods := #[k0m0]
  instanceTypes := #[]
  staticTypes := #[]
  resolved := Array.replicate 124 none
  statics := none }

def pool1 : Array CpInfo := pool [(2, .class_ 4), (0, .nameAndType 5 6), (0, u "java/lang/Object"), (0, u "<init>"), (0, u "()V"), (0, .methodref 8 9), (0, .class_ 10), (0, .nameAndType 11 12), (0, u "com/example/concept_ledger/conceptledger/model/RowViewSetPinLaw"), (0, u "pick"), (0, u "(I)B"), (0, .methodref 8 14), (0, .nameAndType 15 16), (0, u "bar"), (0, u "([BIII)I"), (0, .methodref 8 18), (0, .nameAndType 19 20), (0, u "draw"), (0, u "(I)[B"), (0, .class_ 22), (0, u "com/example/concept_ledger/conceptledger/model/RowView"), (0, .methodref 21 3), (0, .methodref 21 25), (0, .nameAndType 26 27), (0, u "set"), (0, u "([BIIJ)V"), (0, .methodref 21 29), (0, .nameAndType 30 31), (0, u "fieldCount"), (0, u "()I"), (0, .methodref 8 33), (0, .nameAndType 34 35), (0, u "count"), (0, u "([BII)I"), (0, .methodref 21 37), (0, .nameAndType 38 39), (0, u "fieldEnd"), (0, u "(I)I"), (0, .methodref 8 41), (0, .nameAndType 42 35), (0, u "lastBar"), (0, .methodref 21 44), (0, .nameAndType 45 46), (0, u "line"), (0, u "()J"), (0, .methodref 21 48), (0, .nameAndType 49 31), (0, u "length"), (0, .methodref 21 51), (0, .nameAndType 52 53), (0, u "isTerminated"), (0, u "()Z"), (0, .methodref 8 55), (0, .nameAndType 56 35), (0, u "firstBar"), (3, u "law"), (0, u "(IIIIJJ)Z")] 4

def k1m0 : Method := { name := "<init>", desc := "()V", sig := { parameters := [], returnType := none }, accessFlags := 1, code := none }
def k1c1 : Code := { maxStack := 2, maxLocals := 1, code := method_2_code, exceptionTable := #[], attributes := #[] }
def k1m1 : Method := { name := "pick", desc := "(I)B", sig := { parameters := [.int], returnType := some .byte }, accessFlags := 10, code := some k1c1 }
def k1c2 : Code := { maxStack := 4, maxLocals := 2, code := method_3_code, exceptionTable := #[], attributes := #[] }
def k1m2 : Method := { name := "draw", desc := "(I)[B", sig := { parameters := [.int], returnType := some (.array .byte) }, accessFlags := 10, code := some k1c2 }
def k1c3 : Code := { maxStack := 2, maxLocals := 4, code := method_4_code, exceptionTable := #[], attributes := #[] }
def k1m3 : Method := { name := "bar", desc := "([BIII)I", sig := { parameters := [(.array .byte), .int, .int, .int], returnType := some .int }, accessFlags := 10, code := some k1c3 }
def k1c4 : Code := { maxStack := 5, maxLocals := 3, code := method_5_code, exceptionTable := #[], attributes := #[] }
def k1m4 : Method := { name := "count", desc := "([BII)I", sig := { parameters := [(.array .byte), .int, .int], returnType := some .int }, accessFlags := 10, code := some k1c4 }
def k1c5 : Code := { maxStack := 4, maxLocals := 3, code := method_6_code, exceptionTable := #[], attributes := #[] }
def k1m5 : Method := { name := "firstBar", desc := "([BII)I", sig := { parameters := [(.array .byte), .int, .int], returnType := some .int }, accessFlags := 10, code := some k1c5 }
def k1c6 : Code := { maxStack := 4, maxLocals := 3, code := method_7_code, exceptionTable := #[], attributes := #[] }
def k1m6 : Method := { name := "lastBar", desc := "([BII)I", sig := { parameters := [(.array .byte), .int, .int], returnType := some .int }, accessFlags := 10, code := some k1c6 }
def k1c7 : Code := { maxStack := 6, maxLocals := 20, code := code, exceptionTable := #[], attributes := #[] }
def k1m7 : Method := { name := "law", desc := "(IIIIJJ)Z", sig := { parameters := [.int, .int, .int, .int, .long, .long], returnType := some .boolean }, accessFlags := 9, code := some k1c7 }
/-- com/example/concept_ledger/conceptledger/model/RowViewSetPinLaw -/
def k1 : Class := { plain "com/example/concept_ledger/conceptledger/model/RowViewSetPinLaw" (some 0) with
  accessFlags := 49
  interfaces := #[]
  cf := some (fileOf pool1 8 #[] #[{ accessFlags := 1, nameIndex := 5, descriptorIndex := 6, attributes := #[] }, { accessFlags := 10, nameIndex := 11, descriptorIndex := 12, attributes := #[] }, { accessFlags := 10, nameIndex := 19, descriptorIndex := 20, attributes := #[] }, { accessFlags := 10, nameIndex := 15, descriptorIndex := 16, attributes := #[] }, { accessFlags := 10, nameIndex := 34, descriptorIndex := 35, attributes := #[] }, { accessFlags := 10, nameIndex := 56, descriptorIndex := 35, attributes := #[] }, { accessFlags := 10, nameIndex := 42, descriptorIndex := 35, attributes := #[] }, { accessFlags := 9, nameIndex := 60, descriptorIndex := 61, attributes := #[] }] 49 2 #[] #[])
  fields := #[]
  methods := #[k1m0, k1m1, k1m2, k1m3, k1m4, k1m5, k1m6, k1m7]
  instanceTypes := #[]
  staticTypes := #[]
  resolved := Array.replicate 66 none
  statics := none }

def pool2 : Array CpInfo := pool [(1, .methodref 2 3), (0, .class_ 4), (0, .nameAndType 5 6), (0, u "java/lang/Object"), (0, u "<init>"), (0, u "()V"), (0, .fieldref 8 9), (0, .class_ 10), (0, .nameAndType 11 12), (0, u "com/example/concept_ledger/conceptledger/model/RowView"), (0, u "bytes"), (0, u "[B"), (0, .fieldref 8 14), (0, .nameAndType 15 16), (0, u "bars"), (0, u "[I"), (0, .fieldref 8 18), (0, .nameAndType 19 20), (0, u "start"), (0, u "I"), (0, .fieldref 8 22), (0, .nameAndType 23 20), (0, u "end"), (0, .fieldref 8 25), (0, .nameAndType 26 27), (0, u "line"), (0, u "J"), (0, .fieldref 8 29), (0, .nameAndType 30 20), (0, u "count"), (0, .fieldref 8 32), (0, .nameAndType 33 20), (0, u "found"), (0, .fieldref 8 35), (0, .nameAndType 36 20), (0, u "searched"), (4, u "BARS"), (10, .methodref 8 53), (0, .nameAndType 54 55), (0, u "bar"), (0, u "(I)I"), (7, u "fieldEnd"), (10, .class_ 76), (1, u "java/util/Arrays"), (28, u "set"), (0, u "([BIIJ)V"), (15, u "fieldCount"), (0, u "()I"), (11, u "(I)V"), (12, .methodref 8 149), (0, .nameAndType 150 135), (0, u "searchUntil"), (2, u "isTerminated"), (0, u "()Z"), (9, .methodref 8 165), (0, .nameAndType 166 167), (0, u "room"), (0, u "([III)[I"), (3, .methodref 172 173), (0, .class_ 174), (0, .nameAndType 175 176), (0, u "java/lang/Math"), (0, u "max"), (0, u "(II)I"), (0, .methodref 74 178), (0, .nameAndType 179 180), (0, u "copyOf"), (0, u "([II)[I"), (4, u "BAR"), (0, u "B"), (4, u "()J"), (16, u "length")] 31

def k2c0 : Code := { maxStack := 2, maxLocals := 1, code := prog_35_method_1_code, exceptionTable := #[], attributes := #[] }
def k2m0 : Method := { name := "<init>", desc := "()V", sig := { parameters := [], returnType := none }, accessFlags := 1, code := some k2c0 }
def k2c1 : Code := { maxStack := 3, maxLocals := 6, code := prog_35_method_2_code, exceptionTable := #[], attributes := #[] }
def k2m1 : Method := { name := "set", desc := "([BIIJ)V", sig := { parameters := [(.array .byte), .int, .int, .long], returnType := none }, accessFlags := 1, code := some k2c1 }
def k2c2 : Code := { maxStack := 2, maxLocals := 1, code := prog_35_method_3_code, exceptionTable := #[], attributes := #[] }
def k2m2 : Method := { name := "line", desc := "()J", sig := { parameters := [], returnType := some .long }, accessFlags := 1, code := some k2c2 }
def k2c3 : Code := { maxStack := 3, maxLocals := 1, code := prog_35_method_4_code, exceptionTable := #[], attributes := #[] }
def k2m3 : Method := { name := "isTerminated", desc := "()Z", sig := { parameters := [], returnType := some .boolean }, accessFlags := 1, code := some k2c3 }
def k2c4 : Code := { maxStack := 5, maxLocals := 3, code := prog_35_method_5_code, exceptionTable := #[], attributes := #[] }
def k2m4 : Method := { name := "fieldCount", desc := "()I", sig := { parameters := [], returnType := some .int }, accessFlags := 1, code := some k2c4 }
def k2c5 : Code := { maxStack := 2, maxLocals := 2, code := prog_35_method_8_code, exceptionTable := #[], attributes := #[] }
def k2m5 : Method := { name := "fieldEnd", desc := "(I)I", sig := { parameters := [.int], returnType := some .int }, accessFlags := 1, code := some k2c5 }
def k2c6 : Code := { maxStack := 2, maxLocals := 1, code := prog_35_method_18_code, exceptionTable := #[], attributes := #[] }
def k2m6 : Method := { name := "length", desc := "()I", sig := { parameters := [], returnType := some .int }, accessFlags := 1, code := some k2c6 }
def k2c7 : Code := { maxStack := 4, maxLocals := 2, code := prog_35_method_27_code, exceptionTable := #[], attributes := #[] }
def k2m7 : Method := { name := "bar", desc := "(I)I", sig := { parameters := [.int], returnType := some .int }, accessFlags := 2, code := some k2c7 }
def k2c8 : Code := { maxStack := 6, maxLocals := 8, code := prog_35_method_28_code, exceptionTable := #[], attributes := #[] }
def k2m8 : Method := { name := "searchUntil", desc := "(I)V", sig := { parameters := [.int], returnType := none }, accessFlags := 2, code := some k2c8 }
def k2c9 : Code := { maxStack := 5, maxLocals := 4, code := prog_35_method_29_code, exceptionTable := #[], attributes := #[] }
def k2m9 : Method := { name := "room", desc := "([III)[I", sig := { parameters := [(.array .int), .int, .int], returnType := some (.array .int) }, accessFlags := 2, code := some k2c9 }
/-- com/example/concept_ledger/conceptledger/model/RowView -/
def k2 : Class := { plain "com/example/concept_ledger/conceptledger/model/RowView" (some 0) with
  accessFlags := 49
  interfaces := #[]
  cf := some (fileOf pool2 8 #[] #[{ accessFlags := 1, nameIndex := 5, descriptorIndex := 6, attributes := #[] }, { accessFlags := 1, nameIndex := 105, descriptorIndex := 106, attributes := #[] }, { accessFlags := 1, nameIndex := 26, descriptorIndex := 191, attributes := #[] }, { accessFlags := 1, nameIndex := 153, descriptorIndex := 154, attributes := #[] }, { accessFlags := 1, nameIndex := 122, descriptorIndex := 123, attributes := #[] }, { accessFlags := 1, nameIndex := 63, descriptorIndex := 55, attributes := #[] }, { accessFlags := 1, nameIndex := 208, descriptorIndex := 123, attributes := #[] }, { accessFlags := 2, nameIndex := 54, descriptorIndex := 55, attributes := #[] }, { accessFlags := 2, nameIndex := 150, descriptorIndex := 135, attributes := #[] }, { accessFlags := 2, nameIndex := 166, descriptorIndex := 167, attributes := #[] }] 49 2 #[] #[{ accessFlags := 26, nameIndex := 185, descriptorIndex := 186, attributes := #[] }, { accessFlags := 26, nameIndex := 41, descriptorIndex := 27, attributes := #[] }, { accessFlags := 2, nameIndex := 11, descriptorIndex := 12, attributes := #[] }, { accessFlags := 2, nameIndex := 19, descriptorIndex := 20, attributes := #[] }, { accessFlags := 2, nameIndex := 23, descriptorIndex := 20, attributes := #[] }, { accessFlags := 2, nameIndex := 26, descriptorIndex := 27, attributes := #[] }, { accessFlags := 2, nameIndex := 30, descriptorIndex := 20, attributes := #[] }, { accessFlags := 2, nameIndex := 15, descriptorIndex := 16, attributes := #[] }, { accessFlags := 2, nameIndex := 33, descriptorIndex := 20, attributes := #[] }, { accessFlags := 2, nameIndex := 36, descriptorIndex := 20, attributes := #[] }])
  fields := #[{ name := "BAR", type := .byte, accessFlags := 26, slot := 0, constantValue := 0 }, { name := "BARS", type := .long, accessFlags := 26, slot := 1, constantValue := 0 }, { name := "bytes", type := (.array .byte), accessFlags := 2, slot := 0, constantValue := 0 }, { name := "start", type := .int, accessFlags := 2, slot := 1, constantValue := 0 }, { name := "end", type := .int, accessFlags := 2, slot := 2, constantValue := 0 }, { name := "line", type := .long, accessFlags := 2, slot := 3, constantValue := 0 }, { name := "count", type := .int, accessFlags := 2, slot := 4, constantValue := 0 }, { name := "bars", type := (.array .int), accessFlags := 2, slot := 5, constantValue := 0 }, { name := "found", type := .int, accessFlags := 2, slot := 6, constantValue := 0 }, { name := "searched", type := .int, accessFlags := 2, slot := 7, constantValue := 0 }]
  methods := #[k2m0, k2m1, k2m2, k2m3, k2m4, k2m5, k2m6, k2m7, k2m8, k2m9]
  instanceTypes := #[(.array .byte), .int, .int, .long, .int, (.array .int), .int, .int]
  staticTypes := #[.byte, .long]
  resolved := Array.replicate 240 none
  statics := none }

def pool3 : Array CpInfo := pool [(1, .class_ 2), (0, u "java/lang/Math"), (1, .class_ 6), (1, u "java/lang/Object"), (0, u "<init>"), (0, u "()V"), (89, .class_ 100), (1, u "java/lang/Math$RandomNumberGeneratorHolder"), (71, u "negativeZeroFloatBits"), (0, u "J"), (2, u "negativeZeroDoubleBits"), (21, u "max"), (2, u "min"), (43, u "$assertionsDisabled"), (0, u "Z"), (88, u "(II)I"), (2, u "twoToTheDoubleScaleDown"), (0, u "D"), (4, u "twoToTheDoubleScaleUp"), (9, u "E"), (3, u "PI"), (2, u "TAU"), (2, u "DEGREES_TO_RADIANS"), (0, u "RADIANS_TO_DEGREES")] 94

def k3m0 : Method := { name := "<init>", desc := "()V", sig := { parameters := [], returnType := none }, accessFlags := 2, code := none }
def k3c1 : Code := { maxStack := 2, maxLocals := 2, code := jdk_29_method_65_code, exceptionTable := #[], attributes := #[] }
def k3m1 : Method := { name := "max", desc := "(II)I", sig := { parameters := [.int, .int], returnType := some .int }, accessFlags := 9, code := some k3c1 }
def k3c2 : Code := { maxStack := 2, maxLocals := 2, code := jdk_29_method_69_code, exceptionTable := #[], attributes := #[] }
def k3m2 : Method := { name := "min", desc := "(II)I", sig := { parameters := [.int, .int], returnType := some .int }, accessFlags := 9, code := some k3c2 }
/-- java/lang/Math -/
def k3 : Class := { plain "java/lang/Math" (some 0) with
  accessFlags := 49
  interfaces := #[]
  cf := some (fileOf pool3 1 #[.nestMembers #[98]] #[{ accessFlags := 2, nameIndex := 7, descriptorIndex := 8, attributes := #[] }, { accessFlags := 9, nameIndex := 198, descriptorIndex := 335, attributes := #[] }, { accessFlags := 9, nameIndex := 201, descriptorIndex := 335, attributes := #[] }] 49 4 #[] #[{ accessFlags := 25, nameIndex := 354, descriptorIndex := 339, attributes := #[] }, { accessFlags := 25, nameIndex := 358, descriptorIndex := 339, attributes := #[] }, { accessFlags := 25, nameIndex := 361, descriptorIndex := 339, attributes := #[] }, { accessFlags := 26, nameIndex := 364, descriptorIndex := 339, attributes := #[] }, { accessFlags := 26, nameIndex := 365, descriptorIndex := 339, attributes := #[] }, { accessFlags := 26, nameIndex := 172, descriptorIndex := 173, attributes := #[] }, { accessFlags := 26, nameIndex := 176, descriptorIndex := 173, attributes := #[] }, { accessFlags := 8, nameIndex := 344, descriptorIndex := 339, attributes := #[] }, { accessFlags := 8, nameIndex := 338, descriptorIndex := 339, attributes := #[] }, { accessFlags := 4120, nameIndex := 245, descriptorIndex := 246, attributes := #[] }])
  fields := #[{ name := "E", type := .double, accessFlags := 25, slot := 0, constantValue := 0 }, { name := "PI", type := .double, accessFlags := 25, slot := 1, constantValue := 0 }, { name := "TAU", type := .double, accessFlags := 25, slot := 2, constantValue := 0 }, { name := "DEGREES_TO_RADIANS", type := .double, accessFlags := 26, slot := 3, constantValue := 0 }, { name := "RADIANS_TO_DEGREES", type := .double, accessFlags := 26, slot := 4, constantValue := 0 }, { name := "negativeZeroFloatBits", type := .long, accessFlags := 26, slot := 5, constantValue := 0 }, { name := "negativeZeroDoubleBits", type := .long, accessFlags := 26, slot := 6, constantValue := 0 }, { name := "twoToTheDoubleScaleUp", type := .double, accessFlags := 8, slot := 7, constantValue := 0 }, { name := "twoToTheDoubleScaleDown", type := .double, accessFlags := 8, slot := 8, constantValue := 0 }, { name := "$assertionsDisabled", type := .boolean, accessFlags := 4120, slot := 9, constantValue := 0 }]
  methods := #[k3m0, k3m1, k3m2]
  instanceTypes := #[]
  staticTypes := #[.double, .double, .double, .double, .double, .long, .long, .double, .double, .boolean]
  resolved := Array.replicate 460 none
  statics := none }

def pool4 : Array CpInfo := pool [(2, .class_ 4), (1, u "java/lang/Object"), (0, u "<init>"), (0, u "()V"), (7, .class_ 16), (1, u "java/util/Arrays"), (57, .class_ 76), (1, u "java/util/Arrays$NaturalOrder"), (36, .class_ 115), (1, u "java/util/Arrays$LegacyMergeSort"), (1, u "Z"), (32, .methodref 151 152), (0, .class_ 153), (0, .nameAndType 154 155), (0, u "java/lang/System"), (0, u "arraycopy"), (0, u "(Ljava/lang/Object;ILjava/lang/Object;II)V"), (146, u "copyOf"), (1, .methodref 305 306), (0, .class_ 307), (0, .nameAndType 308 309), (0, u "java/lang/Math"), (0, u "min"), (0, u "(II)I"), (65, .class_ 376), (0, u "java/util/Arrays$ArrayList"), (68, u "$assertionsDisabled"), (269, u "MIN_ARRAY_SORT_GRAN"), (0, u "I"), (2, u "INSERTIONSORT_THRESHOLD"), (151, u "([II)[I"), (103, .class_ 976), (0, u "java/util/Arrays$ArrayItr")] 52

def k4m0 : Method := { name := "<init>", desc := "()V", sig := { parameters := [], returnType := none }, accessFlags := 2, code := none }
def k4c1 : Code := { maxStack := 6, maxLocals := 3, code := jdk_65_method_123_code, exceptionTable := #[], attributes := #[] }
def k4m1 : Method := { name := "copyOf", desc := "([II)[I", sig := { parameters := [(.array .int), .int], returnType := some (.array .int) }, accessFlags := 9, code := some k4c1 }
/-- java/util/Arrays -/
def k4 : Class := { plain "java/util/Arrays" (some 0) with
  accessFlags := 49
  interfaces := #[]
  cf := some (fileOf pool4 14 #[.nestMembers #[975, 375, 113, 74]] #[{ accessFlags := 2, nameIndex := 5, descriptorIndex := 6, attributes := #[] }, { accessFlags := 9, nameIndex := 302, descriptorIndex := 871, attributes := #[] }] 49 2 #[] #[{ accessFlags := 26, nameIndex := 715, descriptorIndex := 716, attributes := #[] }, { accessFlags := 26, nameIndex := 719, descriptorIndex := 716, attributes := #[] }, { accessFlags := 4120, nameIndex := 445, descriptorIndex := 117, attributes := #[] }])
  fields := #[{ name := "MIN_ARRAY_SORT_GRAN", type := .int, accessFlags := 26, slot := 0, constantValue := 0 }, { name := "INSERTIONSORT_THRESHOLD", type := .int, accessFlags := 26, slot := 1, constantValue := 0 }, { name := "$assertionsDisabled", type := .boolean, accessFlags := 4120, slot := 2, constantValue := 0 }]
  methods := #[k4m0, k4m1]
  instanceTypes := #[]
  staticTypes := #[.int, .int, .boolean]
  resolved := Array.replicate 1029 none
  statics := none }

def pool5 : Array CpInfo := pool [(2, .class_ 4), (1, u "java/lang/Object"), (0, u "<init>"), (0, u "()V"), (1, .class_ 10), (1, u "java/lang/System"), (0, u "allowSecurityManager"), (0, u "I"), (16, u "cons"), (0, u "Ljava/io/Console;"), (77, .class_ 110), (1, u "java/lang/System$CallersHolder"), (43, u "initialErrStream"), (0, u "Ljava/io/PrintStream;"), (19, u "security"), (0, u "Ljava/lang/SecurityManager;"), (31, .class_ 209), (0, u "java/lang/System$1"), (7, u "props"), (0, u "Ljava/util/Properties;"), (2, u "lineSeparator"), (0, u "Ljava/lang/String;"), (96, .class_ 321), (1, u "java/lang/System$LoggerFinder"), (5, .class_ 328), (0, u "java/lang/System$Logger"), (67, u "err"), (2, u "out"), (91, u "notSupportedJnuEncoding"), (15, u "in"), (17, u "initialIn"), (0, u "Ljava/io/InputStream;"), (35, u "bootLayer"), (0, u "Ljava/lang/ModuleLayer;"), (99, .class_ 664), (0, u "java/lang/System$2"), (9, u "NEVER"), (2, u "MAYBE"), (49, u "arraycopy"), (0, u "(Ljava/lang/Object;ILjava/lang/Object;II)V"), (72, .class_ 802), (0, u "java/lang/System$Logger$Level")] 31

def k5m0 : Method := { name := "<init>", desc := "()V", sig := { parameters := [], returnType := none }, accessFlags := 2, code := none }
def k5m1 : Method := { name := "arraycopy", desc := "(Ljava/lang/Object;ILjava/lang/Object;II)V", sig := { parameters := [(.object "java/lang/Object"), .int, (.object "java/lang/Object"), .int, .int], returnType := none }, accessFlags := 265, code := none }
/-- java/lang/System -/
def k5 : Class := { plain "java/lang/System" (some 0) with
  accessFlags := 49
  interfaces := #[]
  cf := some (fileOf pool5 8 #[.nestMembers #[319, 327, 801, 108, 663, 208]] #[{ accessFlags := 2, nameIndex := 5, descriptorIndex := 6, attributes := #[] }, { accessFlags := 265, nameIndex := 727, descriptorIndex := 728, attributes := #[] }] 49 2 #[] #[{ accessFlags := 25, nameIndex := 507, descriptorIndex := 526, attributes := #[] }, { accessFlags := 25, nameIndex := 399, descriptorIndex := 155, attributes := #[] }, { accessFlags := 25, nameIndex := 396, descriptorIndex := 155, attributes := #[] }, { accessFlags := 10, nameIndex := 525, descriptorIndex := 526, attributes := #[] }, { accessFlags := 26, nameIndex := 674, descriptorIndex := 12, attributes := #[] }, { accessFlags := 26, nameIndex := 677, descriptorIndex := 12, attributes := #[] }, { accessFlags := 10, nameIndex := 11, descriptorIndex := 12, attributes := #[] }, { accessFlags := 74, nameIndex := 175, descriptorIndex := 176, attributes := #[] }, { accessFlags := 10, nameIndex := 491, descriptorIndex := 222, attributes := #[] }, { accessFlags := 74, nameIndex := 29, descriptorIndex := 30, attributes := #[] }, { accessFlags := 74, nameIndex := 154, descriptorIndex := 155, attributes := #[] }, { accessFlags := 10, nameIndex := 217, descriptorIndex := 218, attributes := #[] }, { accessFlags := 10, nameIndex := 221, descriptorIndex := 222, attributes := #[] }, { accessFlags := 8, nameIndex := 562, descriptorIndex := 563, attributes := #[] }])
  fields := #[{ name := "in", type := (.object "java/io/InputStream"), accessFlags := 25, slot := 0, constantValue := 0 }, { name := "out", type := (.object "java/io/PrintStream"), accessFlags := 25, slot := 1, constantValue := 0 }, { name := "err", type := (.object "java/io/PrintStream"), accessFlags := 25, slot := 2, constantValue := 0 }, { name := "initialIn", type := (.object "java/io/InputStream"), accessFlags := 10, slot := 3, constantValue := 0 }, { name := "NEVER", type := .int, accessFlags := 26, slot := 4, constantValue := 0 }, { name := "MAYBE", type := .int, accessFlags := 26, slot := 5, constantValue := 0 }, { name := "allowSecurityManager", type := .int, accessFlags := 10, slot := 6, constantValue := 0 }, { name := "security", type := (.object "java/lang/SecurityManager"), accessFlags := 74, slot := 7, constantValue := 0 }, { name := "notSupportedJnuEncoding", type := (.object "java/lang/String"), accessFlags := 10, slot := 8, constantValue := 0 }, { name := "cons", type := (.object "java/io/Console"), accessFlags := 74, slot := 9, constantValue := 0 }, { name := "initialErrStream", type := (.object "java/io/PrintStream"), accessFlags := 74, slot := 10, constantValue := 0 }, { name := "props", type := (.object "java/util/Properties"), accessFlags := 10, slot := 11, constantValue := 0 }, { name := "lineSeparator", type := (.object "java/lang/String"), accessFlags := 10, slot := 12, constantValue := 0 }, { name := "bootLayer", type := (.object "java/lang/ModuleLayer"), accessFlags := 8, slot := 13, constantValue := 0 }]
  methods := #[k5m0, k5m1]
  instanceTypes := #[]
  staticTypes := #[(.object "java/io/InputStream"), (.object "java/io/PrintStream"), (.object "java/io/PrintStream"), (.object "java/io/InputStream"), .int, .int, .int, (.object "java/lang/SecurityManager"), (.object "java/lang/String"), (.object "java/io/Console"), (.object "java/io/PrintStream"), (.object "java/util/Properties"), (.object "java/lang/String"), (.object "java/lang/ModuleLayer")]
  resolved := Array.replicate 834 none
  statics := none }

def pool6 : Array CpInfo := pool [(1, u "java/lang/Cloneable"), (0, .class_ 1), (0, u "java/lang/Object"), (0, .class_ 3)] 3

/-- java/lang/Cloneable -/
def k6 : Class := { plain "java/lang/Cloneable" (some 0) with
  accessFlags := 1537
  interfaces := #[]
  cf := some (fileOf pool6 2 #[] #[] 1537 4 #[] #[])
  fields := #[]
  methods := #[]
  instanceTypes := #[]
  staticTypes := #[]
  resolved := Array.replicate 8 none
  statics := none }

def pool7 : Array CpInfo := pool [(1, u "java/io/Serializable"), (0, .class_ 1), (0, u "java/lang/Object"), (0, .class_ 3)] 3

/-- java/io/Serializable -/
def k7 : Class := { plain "java/io/Serializable" (some 0) with
  accessFlags := 1537
  interfaces := #[]
  cf := some (fileOf pool7 2 #[] #[] 1537 4 #[] #[])
  fields := #[]
  methods := #[]
  instanceTypes := #[]
  staticTypes := #[]
  resolved := Array.replicate 8 none
  statics := none }

/-- the primitive byte -/
def k8 : Class := { plain "byte" none with kind := .primitive 'B', accessFlags := 0x411 }
/-- [B -/
def k9 : Class := { plain "[B" (some 0) with kind := .array 8 .byte, interfaces := #[6, 7], accessFlags := 1041 }

/-- the primitive int -/
def k10 : Class := { plain "int" none with kind := .primitive 'I', accessFlags := 0x411 }
/-- [I -/
def k11 : Class := { plain "[I" (some 0) with kind := .array 10 .int, interfaces := #[6, 7], accessFlags := 1041 }

def heap : Heap := #[]
def classes : Array Class := #[k0, k1, k2, k3, k4, k5, k6, k7, k8, k9, k10, k11]
def interned : List (Array UInt16 × Addr) := []
def slotsUsed : Nat := 0
def theMethod : MethodId := ⟨1, 7⟩
def args0 : Array Value := #[.int 5, .int 6, .int 7, .int 8, .long 1, .long 2]
def aboutOver (below : List Frame) : State where
  vm := { classes := classes, interned := interned.toArray }
  heap := heap
  slotsUsed := slotsUsed
  threads := #[{ frames := .invoking theMethod args0 :: below }]
def below0 : List Frame := [.native { method := ⟨0, 0⟩, args := #[] }]
def about1 : State := aboutOver below0
def p0 : Program := .bare "" "" ""
def e0 : Env := launch0.env 0 0 0
theorem w_frames : about1.frames = Frame.invoking theMethod args0 :: below0 := rfl
set_option maxRecDepth 65536 in
theorem w_args : argsFit about1.vm theMethod args0 = true := by decide +kernel
set_option maxRecDepth 65536 in
theorem w_heap : heapFits about1 = true := by decide +kernel
set_option maxRecDepth 65536 in
theorem w_runnable : about1.curStatus? = some .runnable := by decide +kernel
set_option maxRecDepth 65536 in
theorem w_alone : about1.alone = true := by decide +kernel
set_option maxRecDepth 65536 in
theorem w_named : about1.methodNamed? x = some theMethod := by decide +kernel
set_option maxRecDepth 65536 in
theorem w_hears : about1.hears theMethod below0 = true := by decide +kernel
set_option maxRecDepth 65536 in
theorem w_ripe : about1.ripe theMethod args0 below0 = true := by decide +kernel
theorem w_running : about1.status = .running := rfl
set_option maxRecDepth 65536 in
theorem w_room : about1.hasRoom e0.platform room_1 = true :=
  launch0.hasRoom_least _ room_1 (by decide +kernel) (by decide +kernel) (by decide +kernel) (by decide +kernel) (by decide +kernel) (by decide +kernel)
theorem allAtoms_all (ts : List Jvm.Cond) (a : Array Jvm.Value) (st : Jvm.State) : (allAtoms ts).before a st = ts.all (fun c => c.before a st) := by
  induction ts with
  | nil => rfl
  | cons c t ih =>
    show (Jvm.Cond.and c (allAtoms t)).before a st = _
    rw [Jvm.Cond.before_and, ih, List.all_cons]
def words1 : List Jvm.Cond := Jvm.Cond.code x code maxLocals ret :: tables_1
/-- a 'code' word, met by the world's own term for the bytes: nothing is compared byte by byte -/
theorem code_word {y : MethodName} {bytes : ByteArray} {mx : Nat} {rt : Option FieldType} {a : Array Value} {s : State} {m : MethodId} {meth : Method} {c : Code} (h1 : s.methodNamed? y = some m) (h2 : s.vm.method? m = some meth) (h3 : meth.code = some c) (h4 : c.code = bytes)
    (h5 : (c.maxLocals == mx && c.exceptionTable.isEmpty && decide (c.maxStack ≤ mostOperands) && decide (meth.sig.returnType = rt) && !meth.locks && decide (parseMethodDescriptor y.desc = some meth.sig)) = true) : (Jvm.Cond.code y bytes mx rt).before a s = true := by
  simp only [Bool.and_eq_true, beq_iff_eq, Bool.not_eq_true', decide_eq_true_eq] at h5
  obtain ⟨⟨⟨⟨⟨g1, g2⟩, g3⟩, g4⟩, g5⟩, g6⟩ := h5
  simp [Cond.before, Cond.holds, Cond.value, h1, h2, h3, h4, g1, g2, g3, g4, g5, g6]
def isCode : Jvm.Cond → Bool
  | .code _ _ _ _ => true
  | _ => false
theorem all_split {L : List Jvm.Cond} {P : Jvm.Cond → Bool} (h1 : L.all (fun c => isCode c || P c) = true) (h2 : ∀ c ∈ L.filter isCode, P c = true) : L.all P = true := by
  refine List.all_eq_true.mpr fun c hc => ?_
  have h := List.all_eq_true.mp h1 c hc
  rcases Bool.eq_false_or_eq_true (isCode c) with hi | hi
  · exact h2 c (List.mem_filter.mpr ⟨hc, hi⟩)
  · simpa [hi] using h
set_option maxRecDepth 65536 in
theorem w_c0 : (Jvm.Cond.code x code maxLocals ret).before args0 about1 = true := code_word (m := ⟨1, 7⟩) (meth := k1m7) (c := k1c7) (by decide +kernel) rfl rfl rfl (by decide +kernel)
set_option maxRecDepth 65536 in
theorem w_c1 : (Jvm.Cond.code ({ cls := "com/example/concept_ledger/conceptledger/model/RowViewSetPinLaw", name := "draw", desc := "(I)[B" } : Jvm.MethodName) method_3_code (2 : Nat) (Option.some (Jvm.ClassFile.FieldType.array Jvm.ClassFile.FieldType.byte))).before args0 about1 = true := code_word (m := ⟨1, 2⟩) (meth := k1m2) (c := k1c2) (by decide +kernel) rfl rfl rfl (by decide +kernel)
set_option maxRecDepth 65536 in
theorem w_c2 : (Jvm.Cond.code ({ cls := "com/example/concept_ledger/conceptledger/model/RowViewSetPinLaw", name := "pick", desc := "(I)B" } : Jvm.MethodName) method_2_code (1 : Nat) (Option.some Jvm.ClassFile.FieldType.byte)).before args0 about1 = true := code_word (m := ⟨1, 1⟩) (meth := k1m1) (c := k1c1) (by decide +kernel) rfl rfl rfl (by decide +kernel)
set_option maxRecDepth 65536 in
theorem w_c3 : (Jvm.Cond.code ({ cls := "com/example/concept_ledger/conceptledger/model/RowView", name := "<init>", desc := "()V" } : Jvm.MethodName) prog_35_method_1_code (1 : Nat) (Option.none : Option Jvm.ClassFile.FieldType)).before args0 about1 = true := code_word (m := ⟨2, 0⟩) (meth := k2m0) (c := k2c0) (by decide +kernel) rfl rfl rfl (by decide +kernel)
set_option maxRecDepth 65536 in
theorem w_c4 : (Jvm.Cond.code ({ cls := "java/lang/Object", name := "<init>", desc := "()V" } : Jvm.MethodName) object_method_1_code (1 : Nat) (Option.none : Option Jvm.ClassFile.FieldType)).before args0 about1 = true := code_word (m := ⟨0, 0⟩) (meth := k0m0) (c := k0c0) (by decide +kernel) rfl rfl rfl (by decide +kernel)
set_option maxRecDepth 65536 in
theorem w_c5 : (Jvm.Cond.code ({ cls := "com/example/concept_ledger/conceptledger/model/RowView", name := "set", desc := "([BIIJ)V" } : Jvm.MethodName) prog_35_method_2_code (6 : Nat) (Option.none : Option Jvm.ClassFile.FieldType)).before args0 about1 = true := code_word (m := ⟨2, 1⟩) (meth := k2m1) (c := k2c1) (by decide +kernel) rfl rfl rfl (by decide +kernel)
set_option maxRecDepth 65536 in
theorem w_c6 : (Jvm.Cond.code ({ cls := "com/example/concept_ledger/conceptledger/model/RowView", name := "fieldCount", desc := "()I" } : Jvm.MethodName) prog_35_method_5_code (3 : Nat) (Option.some Jvm.ClassFile.FieldType.int)).before args0 about1 = true := code_word (m := ⟨2, 4⟩) (meth := k2m4) (c := k2c4) (by decide +kernel) rfl rfl rfl (by decide +kernel)
set_option maxRecDepth 65536 in
theorem w_c7 : (Jvm.Cond.code ({ cls := "com/example/concept_ledger/conceptledger/model/RowViewSetPinLaw", name := "count", desc := "([BII)I" } : Jvm.MethodName) method_5_code (3 : Nat) (Option.some Jvm.ClassFile.FieldType.int)).before args0 about1 = true := code_word (m := ⟨1, 4⟩) (meth := k1m4) (c := k1c4) (by decide +kernel) rfl rfl rfl (by decide +kernel)
set_option maxRecDepth 65536 in
theorem w_c8 : (Jvm.Cond.code ({ cls := "com/example/concept_ledger/conceptledger/model/RowViewSetPinLaw", name := "bar", desc := "([BIII)I" } : Jvm.MethodName) method_4_code (4 : Nat) (Option.some Jvm.ClassFile.FieldType.int)).before args0 about1 = true := code_word (m := ⟨1, 3⟩) (meth := k1m3) (c := k1c3) (by decide +kernel) rfl rfl rfl (by decide +kernel)
set_option maxRecDepth 65536 in
theorem w_c9 : (Jvm.Cond.code ({ cls := "com/example/concept_ledger/conceptledger/model/RowView", name := "line", desc := "()J" } : Jvm.MethodName) prog_35_method_3_code (1 : Nat) (Option.some Jvm.ClassFile.FieldType.long)).before args0 about1 = true := code_word (m := ⟨2, 2⟩) (meth := k2m2) (c := k2c2) (by decide +kernel) rfl rfl rfl (by decide +kernel)
set_option maxRecDepth 65536 in
theorem w_c10 : (Jvm.Cond.code ({ cls := "com/example/concept_ledger/conceptledger/model/RowView", name := "length", desc := "()I" } : Jvm.MethodName) prog_35_method_18_code (1 : Nat) (Option.some Jvm.ClassFile.FieldType.int)).before args0 about1 = true := code_word (m := ⟨2, 6⟩) (meth := k2m6) (c := k2c6) (by decide +kernel) rfl rfl rfl (by decide +kernel)
set_option maxRecDepth 65536 in
theorem w_c11 : (Jvm.Cond.code ({ cls := "com/example/concept_ledger/conceptledger/model/RowView", name := "isTerminated", desc := "()Z" } : Jvm.MethodName) prog_35_method_4_code (1 : Nat) (Option.some Jvm.ClassFile.FieldType.boolean)).before args0 about1 = true := code_word (m := ⟨2, 3⟩) (meth := k2m3) (c := k2c3) (by decide +kernel) rfl rfl rfl (by decide +kernel)
set_option maxRecDepth 65536 in
theorem w_c12 : (Jvm.Cond.code ({ cls := "com/example/concept_ledger/conceptledger/model/RowView", name := "fieldEnd", desc := "(I)I" } : Jvm.MethodName) prog_35_method_8_code (2 : Nat) (Option.some Jvm.ClassFile.FieldType.int)).before args0 about1 = true := code_word (m := ⟨2, 5⟩) (meth := k2m5) (c := k2c5) (by decide +kernel) rfl rfl rfl (by decide +kernel)
set_option maxRecDepth 65536 in
theorem w_c13 : (Jvm.Cond.code ({ cls := "com/example/concept_ledger/conceptledger/model/RowView", name := "bar", desc := "(I)I" } : Jvm.MethodName) prog_35_method_27_code (2 : Nat) (Option.some Jvm.ClassFile.FieldType.int)).before args0 about1 = true := code_word (m := ⟨2, 7⟩) (meth := k2m7) (c := k2c7) (by decide +kernel) rfl rfl rfl (by decide +kernel)
set_option maxRecDepth 65536 in
theorem w_c14 : (Jvm.Cond.code ({ cls := "com/example/concept_ledger/conceptledger/model/RowView", name := "searchUntil", desc := "(I)V" } : Jvm.MethodName) prog_35_method_28_code (8 : Nat) (Option.none : Option Jvm.ClassFile.FieldType)).before args0 about1 = true := code_word (m := ⟨2, 8⟩) (meth := k2m8) (c := k2c8) (by decide +kernel) rfl rfl rfl (by decide +kernel)
set_option maxRecDepth 65536 in
theorem w_c15 : (Jvm.Cond.code ({ cls := "com/example/concept_ledger/conceptledger/model/RowView", name := "room", desc := "([III)[I" } : Jvm.MethodName) prog_35_method_29_code (4 : Nat) (Option.some (Jvm.ClassFile.FieldType.array Jvm.ClassFile.FieldType.int))).before args0 about1 = true := code_word (m := ⟨2, 9⟩) (meth := k2m9) (c := k2c9) (by decide +kernel) rfl rfl rfl (by decide +kernel)
set_option maxRecDepth 65536 in
theorem w_c16 : (Jvm.Cond.code ({ cls := "java/lang/Math", name := "max", desc := "(II)I" } : Jvm.MethodName) jdk_29_method_65_code (2 : Nat) (Option.some Jvm.ClassFile.FieldType.int)).before args0 about1 = true := code_word (m := ⟨3, 1⟩) (meth := k3m1) (c := k3c1) (by decide +kernel) rfl rfl rfl (by decide +kernel)
set_option maxRecDepth 65536 in
theorem w_c17 : (Jvm.Cond.code ({ cls := "java/util/Arrays", name := "copyOf", desc := "([II)[I" } : Jvm.MethodName) jdk_65_method_123_code (3 : Nat) (Option.some (Jvm.ClassFile.FieldType.array Jvm.ClassFile.FieldType.int))).before args0 about1 = true := code_word (m := ⟨4, 1⟩) (meth := k4m1) (c := k4c1) (by decide +kernel) rfl rfl rfl (by decide +kernel)
set_option maxRecDepth 65536 in
theorem w_c18 : (Jvm.Cond.code ({ cls := "java/lang/Math", name := "min", desc := "(II)I" } : Jvm.MethodName) jdk_29_method_69_code (2 : Nat) (Option.some Jvm.ClassFile.FieldType.int)).before args0 about1 = true := code_word (m := ⟨3, 2⟩) (meth := k3m2) (c := k3c2) (by decide +kernel) rfl rfl rfl (by decide +kernel)
set_option maxRecDepth 65536 in
theorem w_c19 : (Jvm.Cond.code ({ cls := "com/example/concept_ledger/conceptledger/model/RowViewSetPinLaw", name := "firstBar", desc := "([BII)I" } : Jvm.MethodName) method_6_code (3 : Nat) (Option.some Jvm.ClassFile.FieldType.int)).before args0 about1 = true := code_word (m := ⟨1, 5⟩) (meth := k1m5) (c := k1c5) (by decide +kernel) rfl rfl rfl (by decide +kernel)
set_option maxRecDepth 65536 in
theorem w_c20 : (Jvm.Cond.code ({ cls := "com/example/concept_ledger/conceptledger/model/RowViewSetPinLaw", name := "lastBar", desc := "([BII)I" } : Jvm.MethodName) method_7_code (3 : Nat) (Option.some Jvm.ClassFile.FieldType.int)).before args0 about1 = true := code_word (m := ⟨1, 6⟩) (meth := k1m6) (c := k1c6) (by decide +kernel) rfl rfl rfl (by decide +kernel)
def codes1 : List Jvm.Cond := [Jvm.Cond.code x code maxLocals ret, Jvm.Cond.code ({ cls := "com/example/concept_ledger/conceptledger/model/RowViewSetPinLaw", name := "draw", desc := "(I)[B" } : Jvm.MethodName) method_3_code (2 : Nat) (Option.some (Jvm.ClassFile.FieldType.array Jvm.ClassFile.FieldType.byte)), Jvm.Cond.code ({ cls := "com/example/concept_ledger/conceptledger/model/RowViewSetPinLaw", name := "pick", desc := "(I)B" } : Jvm.MethodName) method_2_code (1 : Nat) (Option.some Jvm.ClassFile.FieldType.byte), Jvm.Cond.code ({ cls := "com/example/concept_ledger/conceptledger/model/RowView", name := "<init>", desc := "()V" } : Jvm.MethodName) prog_35_method_1_code (1 : Nat) (Option.none : Option Jvm.ClassFile.FieldType), Jvm.Cond.code ({ cls := "java/lang/Object", name := "<init>", desc := "()V" } : Jvm.MethodName) object_method_1_code (1 : Nat) (Option.none : Option Jvm.ClassFile.FieldType), Jvm.Cond.code ({ cls := "com/example/concept_ledger/conceptledger/model/RowView", name := "set", desc := "([BIIJ)V" } : Jvm.MethodName) prog_35_method_2_code (6 : Nat) (Option.none : Option Jvm.ClassFile.FieldType), Jvm.Cond.code ({ cls := "com/example/concept_ledger/conceptledger/model/RowView", name := "fieldCount", desc := "()I" } : Jvm.MethodName) prog_35_method_5_code (3 : Nat) (Option.some Jvm.ClassFile.FieldType.int), Jvm.Cond.code ({ cls := "com/example/concept_ledger/conceptledger/model/RowViewSetPinLaw", name := "count", desc := "([BII)I" } : Jvm.MethodName) method_5_code (3 : Nat) (Option.some Jvm.ClassFile.FieldType.int), Jvm.Cond.code ({ cls := "com/example/concept_ledger/conceptledger/model/RowViewSetPinLaw", name := "bar", desc := "([BIII)I" } : Jvm.MethodName) method_4_code (4 : Nat) (Option.some Jvm.ClassFile.FieldType.int), Jvm.Cond.code ({ cls := "com/example/concept_ledger/conceptledger/model/RowView", name := "line", desc := "()J" } : Jvm.MethodName) prog_35_method_3_code (1 : Nat) (Option.some Jvm.ClassFile.FieldType.long), Jvm.Cond.code ({ cls := "com/example/concept_ledger/conceptledger/model/RowView", name := "length", desc := "()I" } : Jvm.MethodName) prog_35_method_18_code (1 : Nat) (Option.some Jvm.ClassFile.FieldType.int), Jvm.Cond.code ({ cls := "com/example/concept_ledger/conceptledger/model/RowView", name := "isTerminated", desc := "()Z" } : Jvm.MethodName) prog_35_method_4_code (1 : Nat) (Option.some Jvm.ClassFile.FieldType.boolean), Jvm.Cond.code ({ cls := "com/example/concept_ledger/conceptledger/model/RowView", name := "fieldEnd", desc := "(I)I" } : Jvm.MethodName) prog_35_method_8_code (2 : Nat) (Option.some Jvm.ClassFile.FieldType.int), Jvm.Cond.code ({ cls := "com/example/concept_ledger/conceptledger/model/RowView", name := "bar", desc := "(I)I" } : Jvm.MethodName) prog_35_method_27_code (2 : Nat) (Option.some Jvm.ClassFile.FieldType.int), Jvm.Cond.code ({ cls := "com/example/concept_ledger/conceptledger/model/RowView", name := "searchUntil", desc := "(I)V" } : Jvm.MethodName) prog_35_method_28_code (8 : Nat) (Option.none : Option Jvm.ClassFile.FieldType), Jvm.Cond.code ({ cls := "com/example/concept_ledger/conceptledger/model/RowView", name := "room", desc := "([III)[I" } : Jvm.MethodName) prog_35_method_29_code (4 : Nat) (Option.some (Jvm.ClassFile.FieldType.array Jvm.ClassFile.FieldType.int)), Jvm.Cond.code ({ cls := "java/lang/Math", name := "max", desc := "(II)I" } : Jvm.MethodName) jdk_29_method_65_code (2 : Nat) (Option.some Jvm.ClassFile.FieldType.int), Jvm.Cond.code ({ cls := "java/util/Arrays", name := "copyOf", desc := "([II)[I" } : Jvm.MethodName) jdk_65_method_123_code (3 : Nat) (Option.some (Jvm.ClassFile.FieldType.array Jvm.ClassFile.FieldType.int)), Jvm.Cond.code ({ cls := "java/lang/Math", name := "min", desc := "(II)I" } : Jvm.MethodName) jdk_29_method_69_code (2 : Nat) (Option.some Jvm.ClassFile.FieldType.int), Jvm.Cond.code ({ cls := "com/example/concept_ledger/conceptledger/model/RowViewSetPinLaw", name := "firstBar", desc := "([BII)I" } : Jvm.MethodName) method_6_code (3 : Nat) (Option.some Jvm.ClassFile.FieldType.int), Jvm.Cond.code ({ cls := "com/example/concept_ledger/conceptledger/model/RowViewSetPinLaw", name := "lastBar", desc := "([BII)I" } : Jvm.MethodName) method_7_code (3 : Nat) (Option.some Jvm.ClassFile.FieldType.int)]
set_option maxRecDepth 65536 in
theorem codes_eq : words1.filter isCode = codes1 := rfl
theorem w_codes : ∀ c ∈ words1.filter isCode, c.before args0 about1 = true := by
  rw [codes_eq]
  intro c hc
  simp only [codes1, List.mem_cons, List.not_mem_nil, or_false] at hc
  rcases hc with rfl | rfl | rfl | rfl | rfl | rfl | rfl | rfl | rfl | rfl | rfl | rfl | rfl | rfl | rfl | rfl | rfl | rfl | rfl | rfl | rfl
  · exact w_c0
  · exact w_c1
  · exact w_c2
  · exact w_c3
  · exact w_c4
  · exact w_c5
  · exact w_c6
  · exact w_c7
  · exact w_c8
  · exact w_c9
  · exact w_c10
  · exact w_c11
  · exact w_c12
  · exact w_c13
  · exact w_c14
  · exact w_c15
  · exact w_c16
  · exact w_c17
  · exact w_c18
  · exact w_c19
  · exact w_c20
set_option maxRecDepth 65536 in
theorem w_t1 : (words1.take 24).all (fun c => isCode c || c.before args0 about1) = true := by decide +kernel
set_option maxRecDepth 65536 in
theorem w_t2 : ((words1.drop 24).take 24).all (fun c => isCode c || c.before args0 about1) = true := by decide +kernel
set_option maxRecDepth 65536 in
theorem w_t3 : (((words1.drop 24).drop 24).take 24).all (fun c => isCode c || c.before args0 about1) = true := by decide +kernel
set_option maxRecDepth 65536 in
theorem w_t4 : ((((words1.drop 24).drop 24).drop 24).take 24).all (fun c => isCode c || c.before args0 about1) = true := by decide +kernel
set_option maxRecDepth 65536 in
theorem w_t5 : ((((words1.drop 24).drop 24).drop 24).drop 24).all (fun c => isCode c || c.before args0 about1) = true := by decide +kernel
theorem w_tables : (allAtoms (Jvm.Cond.code x code maxLocals ret :: tables_1)).before args0 about1 = true := by
  rw [allAtoms_all]
  show words1.all (fun c => c.before args0 about1) = true
  refine all_split ?_ w_codes
  rw [← List.take_append_drop 24 words1, List.all_append, w_t1, ← List.take_append_drop 24 (words1.drop 24), List.all_append, w_t2, ← List.take_append_drop 24 ((words1.drop 24).drop 24), List.all_append, w_t3, ← List.take_append_drop 24 (((words1.drop 24).drop 24).drop 24), List.all_append, w_t4, w_t5]
  rfl
set_option maxRecDepth 65536 in
theorem w_case : (Jvm.Cond.and given_1 narrow_1).before args0 about1 = true := by decide +kernel
theorem w_applies : (headSpec (Jvm.Cond.code x code maxLocals ret :: tables_1) room_1).applies x e0.platform about1 = true :=
  (Spec.applies_iff w_frames).mpr ⟨w_running, w_runnable, w_alone, w_named, w_hears, w_ripe, w_room, w_tables⟩
theorem atStart : AtStart classFile x code maxLocals ret World_1 tables_1 room_1 Calls_1 rest_1 Pre_1 launch0 p0 e0 about1 theMethod args0 below0 :=
  ⟨lists_1, trivial, launch0.admits_env _ _ _, launch0.least_env, fairChoices_fair.cas, fairChoices_fair.clock, w_frames, w_args, w_heap, w_applies, trivial, trivial, w_case⟩
end start1
theorem witness_1 : WitnessClaimed_1 := ⟨start1.p0, start1.e0, start1.about1, start1.theMethod, start1.args0, start1.below0, start1.atStart⟩
end Jvm.Pilot.@@N@@
