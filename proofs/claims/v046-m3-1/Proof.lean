import JvmDerived
import JvmDerived.Pilot.@@N@@Statement
import JvmDerived.Pilot.@@N@@Code
set_option linter.unusedVariables false
set_option linter.unusedSimpArgs false
namespace Jvm.RoadKit
open Sem ClassFile Op Lib Jvm.Stand Jvm.Free Jvm.LawKit
section New
variable {p : Program} {l : Launch} {e : Env} {R : Room} {s : State} {m : MethodId} {args : Array Value} {below : List Frame} {meth : Method} {c : Code} {T : State} {locs : List Loc} {cells slots : Nat}
theorem retI (X : Stand p l e R s m args below meth c T locs cells slots) (hx : p.tables.exec = Jvm.exec) {pc : Nat} {Ls : Array Slot} {z : Int32} {rest : List Value} (hret : meth.sig.returnType = some .int) (hd : decode c.code pc = .ok (.ireturn, 1)) {fs : List Frame}
    (hl : ∀ (f : JFrame) (acts : List Action), f.method = m → f.locked = none → f.entered = [] → (doReturn e (T.setTop f) acts (some (.int z))).1 = T.setFrames fs) : Steps p.tables e below (T.setTop (mkF m pc Ls (.int z :: rest))) (T.setFrames fs) :=
  retOut X hx hret rfl (Or.inl ⟨rfl, Or.inl rfl, z, rfl⟩) hd hl
end New
end Jvm.RoadKit
namespace Jvm.Pilot.@@N@@
open Jvm Jvm.ClassFile Sem Op Lib Jvm.Free Jvm.Stand Jvm.LawKit Jvm.RoadKit Bundle Jvm.Pilot.@@N@@.Jvm.D
theorem ow {d : Jvm.Cond} (i : Nat) (h : tables_1[i]? = some d) : d ∈ tables_1 := List.mem_of_getElem? h
/-- what a body that only reads leaves: its answer, nothing written, the heap as it was -/
def own_Q (r : Option Value) (h0 : Heap) (n0 : Nat) (v : Option Value) (h : Heap) (L : List Loc) : Prop := v = r ∧ Fr n0 L ∧ h = h0
section OwnWords
variable {args : Array Value} {first s : State} {o : Option Outcome} {idx : List Nat} {a b : Term}
theorem own_eqI {k : Int32} (h : (Jvm.Cond.eq a (.int k)).value args first o s idx = some true) : a.eval args first o idx s = some (.int k) := by
  obtain ⟨x, y, hx, hy, k1, -⟩ := cmp_v (r := true) (Or.inl h)
  have hy' : y = .int k := (Option.some.inj hy).symm
  subst hy'
  cases x <;> simp [Kin, Value.isRef] at k1
  simp [Jvm.Cond.value, hx, Term.eval] at h
  rw [hx, h]
theorem own_eqR {y : Addr} (h : (Jvm.Cond.eq a b).value args first o s idx = some true) (hb : b.eval args first o idx s = some (.ref y)) : a.eval args first o idx s = some (.ref y) := by
  obtain ⟨x, z, hx, hy, k1, -⟩ := cmp_v (r := true) (Or.inl h)
  cases hb.symm.trans hy
  cases x <;> simp [Kin, Value.isRef] at k1
  · simp [Jvm.Cond.value, hx, hb] at h
  · simp [Jvm.Cond.value, hx, hb] at h
    rw [hx, h]
theorem own_len {y : Addr} {c : Cell} {n : Int32} (h : (Term.length a).eval args first o idx s = some (.int n)) (ht : a.eval args first o idx s = some (.ref y)) (hc : s.heap[y]? = some c) : (c.slots.size : Int) = n.toInt := by
  simp only [Term.eval, Option.bind_eq_bind, ht, Option.bind_some] at h
  obtain ⟨cell, hcell, h⟩ := Option.bind_eq_some_iff.mp h
  cases hc.symm.trans (State.arrayAt?_spec hcell).1
  by_cases hn : c.slots.size < 2147483648
  · rw [if_pos hn] at h; cases h; exact (len_toInt hn).symm
  · rw [if_neg hn] at h; cases h
end OwnWords
/-- an array that stands in the heap, with all that lies in it -/
def own_Arr (Z : State) (h : Heap) (a : Addr) (ty : FieldType) (vs : List Value) : Prop := ∃ c : Cell, Arr Z h a c ty ∧ c.slots = vs.toArray
/-- what a law leaves that makes arrays of its own -/
def own_QH (r : Option Value) (n0 : Nat) (v : Option Value) (h : Heap) (L : List Loc) : Prop := v = r ∧ Fr n0 L ∧ True
/-- the same of an array whose class is known -/
def own_ArrK (Z : State) (h : Heap) (a : Addr) (k : ClassId) (ty : FieldType) (vs : List Value) : Prop := ∃ c : Cell, Arr Z h a c ty ∧ c.cls = k ∧ c.slots = vs.toArray
section OwnArr
variable {Z : State} {h0 h h' : Heap} {a b : Addr} {k : ClassId} {ty : FieldType} {vs : List Value} {v : Value} {sl : Nat} {c : Cell}
theorem own_Arr.ext (F : own_Arr Z h a ty vs) (E : Ext h h') : own_Arr Z h' a ty vs := by obtain ⟨c, A, r⟩ := F; exact ⟨c, A.ext E, r⟩
theorem own_ArrK.lt (F : own_ArrK Z h a k ty vs) : a < h.size := by obtain ⟨c, A, -⟩ := F; exact A.lt
theorem own_ArrK.ext (F : own_ArrK Z h a k ty vs) (E : Ext h h') : own_ArrK Z h' a k ty vs := by obtain ⟨c, A, r⟩ := F; exact ⟨c, A.ext E, r⟩
theorem own_ArrK.other (F : own_ArrK Z h b k ty vs) (W : Wr h h' a sl v) (q : b ≠ a) : own_ArrK Z h' b k ty vs := by obtain ⟨c, A, r⟩ := F; exact ⟨c, A.other W q, r⟩
theorem own_set (W : Wr h h' a sl v) (A : Arr Z h a c ty) (q : c.cls = k) (e : c.slots = vs.toArray) : own_ArrK Z h' a k ty (vs.set sl v) := ⟨_, A.same W, q, by simp [Cell.setSlot, e]⟩
theorem own_get {j : Int32} (e : c.slots = vs.toArray) (hj : ¬ j < 0) (q : vs[j.toNatClampNeg]? = some v) : (¬ (j < 0 ∨ c.slots.size ≤ j.toNatClampNeg)) ∧ c.slots[j.toNatClampNeg]? = some v := by
  have hl := (List.getElem?_eq_some_iff.mp q).1
  rw [e]
  refine ⟨?_, by simpa using q⟩
  rintro (h | h)
  · exact hj h
  · simp at h; omega
theorem own_ext_trans {h'' : Heap} (E : Ext h h') (E' : Ext h' h'') : Ext h h'' := ⟨Nat.le_trans E.1 E'.1, fun x y q => E'.2 x y (E.2 x y q)⟩
theorem own_ext_wr (E : Ext h0 h) (W : Wr h h' a sl v) (q : h0.size ≤ a) : Ext h0 h' := by
  refine ⟨Nat.le_trans E.1 (Nat.le_of_eq W.size.symm), fun x y hx => ?_⟩
  have hlt := (Array.getElem?_eq_some_iff.mp hx).1
  obtain ⟨c', e1, -, -, -, e5, -⟩ := wr_at W (E.2 x y hx)
  rw [← e5 (Nat.ne_of_lt (Nat.lt_of_lt_of_le hlt q))]; exact e1
theorem own_ext_keep (E : Ext h0 h) (K : Keep h h' [a]) (q : h0.size ≤ a) : Ext h0 h' := ⟨Nat.le_trans E.1 K.1, fun x y hx => K.2.1 x y (E.2 x y hx) (ninS (Nat.ne_of_lt (Nat.lt_of_lt_of_le (Array.getElem?_eq_some_iff.mp hx).1 q)) nin0)⟩
end OwnArr
def own_K (Z : State) (h : Heap) (w_INTEGER w_DECIMAL w_CHAR w_VARCHAR w_BOOLEAN w_INTERVAL w_DOUBLE w_BIGINT w_DATE : Addr) : Prop := Sta Z h "com/example/cairn/cairn/types/DataType$Kind" "INTEGER" "Lcom/example/cairn/cairn/types/DataType$Kind;" (.ref w_INTEGER) ∧ Exa Z h w_INTEGER "com/example/cairn/cairn/types/DataType$Kind" ∧ Sta Z h "com/example/cairn/cairn/types/DataType$Kind" "DECIMAL" "Lcom/example/cairn/cairn/types/DataType$Kind;" (.ref w_DECIMAL) ∧ Exa Z h w_DECIMAL "com/example/cairn/cairn/types/DataType$Kind" ∧ Fld Z h w_INTEGER "java/lang/Enum" "ordinal" "I" (.int (0 : Int32)) ∧ Fld Z h w_DECIMAL "java/lang/Enum" "ordinal" "I" (.int (2 : Int32)) ∧ Sta Z h "com/example/cairn/cairn/types/DataType$Kind" "CHAR" "Lcom/example/cairn/cairn/types/DataType$Kind;" (.ref w_CHAR) ∧ Exa Z h w_CHAR "com/example/cairn/cairn/types/DataType$Kind" ∧ Fld Z h w_CHAR "java/lang/Enum" "ordinal" "I" (.int (4 : Int32)) ∧ Sta Z h "com/example/cairn/cairn/types/DataType$Kind" "VARCHAR" "Lcom/example/cairn/cairn/types/DataType$Kind;" (.ref w_VARCHAR) ∧ Exa Z h w_VARCHAR "com/example/cairn/cairn/types/DataType$Kind" ∧ Fld Z h w_VARCHAR "java/lang/Enum" "ordinal" "I" (.int (5 : Int32)) ∧ Sta Z h "com/example/cairn/cairn/types/DataType$Kind" "BOOLEAN" "Lcom/example/cairn/cairn/types/DataType$Kind;" (.ref w_BOOLEAN) ∧ Exa Z h w_BOOLEAN "com/example/cairn/cairn/types/DataType$Kind" ∧ Fld Z h w_BOOLEAN "java/lang/Enum" "ordinal" "I" (.int (6 : Int32)) ∧ Sta Z h "com/example/cairn/cairn/types/DataType$Kind" "INTERVAL" "Lcom/example/cairn/cairn/types/DataType$Kind;" (.ref w_INTERVAL) ∧ Exa Z h w_INTERVAL "com/example/cairn/cairn/types/DataType$Kind" ∧ Fld Z h w_INTERVAL "java/lang/Enum" "ordinal" "I" (.int (7 : Int32)) ∧ Sta Z h "com/example/cairn/cairn/types/DataType$Kind" "DOUBLE" "Lcom/example/cairn/cairn/types/DataType$Kind;" (.ref w_DOUBLE) ∧ Exa Z h w_DOUBLE "com/example/cairn/cairn/types/DataType$Kind" ∧ Fld Z h w_DOUBLE "java/lang/Enum" "ordinal" "I" (.int (8 : Int32)) ∧ Sta Z h "com/example/cairn/cairn/types/DataType$Kind" "BIGINT" "Lcom/example/cairn/cairn/types/DataType$Kind;" (.ref w_BIGINT) ∧ Exa Z h w_BIGINT "com/example/cairn/cairn/types/DataType$Kind" ∧ Fld Z h w_BIGINT "java/lang/Enum" "ordinal" "I" (.int (1 : Int32)) ∧ Sta Z h "com/example/cairn/cairn/types/DataType$Kind" "DATE" "Lcom/example/cairn/cairn/types/DataType$Kind;" (.ref w_DATE) ∧ Exa Z h w_DATE "com/example/cairn/cairn/types/DataType$Kind" ∧ Fld Z h w_DATE "java/lang/Enum" "ordinal" "I" (.int (3 : Int32))
theorem own_K_ext {Z : State} {h h' : Heap} {w_INTEGER w_DECIMAL w_CHAR w_VARCHAR w_BOOLEAN w_INTERVAL w_DOUBLE w_BIGINT w_DATE : Addr} (E : Ext h h') (hK : own_K Z h w_INTEGER w_DECIMAL w_CHAR w_VARCHAR w_BOOLEAN w_INTERVAL w_DOUBLE w_BIGINT w_DATE) : own_K Z h' w_INTEGER w_DECIMAL w_CHAR w_VARCHAR w_BOOLEAN w_INTERVAL w_DOUBLE w_BIGINT w_DATE := by
  obtain ⟨S_w_INTEGER, E_w_INTEGER, S_w_DECIMAL, E_w_DECIMAL, F_ordinal_w_INTEGER, F_ordinal_w_DECIMAL, S_w_CHAR, E_w_CHAR, F_ordinal_w_CHAR, S_w_VARCHAR, E_w_VARCHAR, F_ordinal_w_VARCHAR, S_w_BOOLEAN, E_w_BOOLEAN, F_ordinal_w_BOOLEAN, S_w_INTERVAL, E_w_INTERVAL, F_ordinal_w_INTERVAL, S_w_DOUBLE, E_w_DOUBLE, F_ordinal_w_DOUBLE, S_w_BIGINT, E_w_BIGINT, F_ordinal_w_BIGINT, S_w_DATE, E_w_DATE, F_ordinal_w_DATE⟩ := hK
  exact ⟨S_w_INTEGER.ext E, E_w_INTEGER.ext E, S_w_DECIMAL.ext E, E_w_DECIMAL.ext E, F_ordinal_w_INTEGER.ext E, F_ordinal_w_DECIMAL.ext E, S_w_CHAR.ext E, E_w_CHAR.ext E, F_ordinal_w_CHAR.ext E, S_w_VARCHAR.ext E, E_w_VARCHAR.ext E, F_ordinal_w_VARCHAR.ext E, S_w_BOOLEAN.ext E, E_w_BOOLEAN.ext E, F_ordinal_w_BOOLEAN.ext E, S_w_INTERVAL.ext E, E_w_INTERVAL.ext E, F_ordinal_w_INTERVAL.ext E, S_w_DOUBLE.ext E, E_w_DOUBLE.ext E, F_ordinal_w_DOUBLE.ext E, S_w_BIGINT.ext E, E_w_BIGINT.ext E, F_ordinal_w_BIGINT.ext E, S_w_DATE.ext E, E_w_DATE.ext E, F_ordinal_w_DATE.ext E⟩
theorem d_method_2_0 : decode method_2_code 0 = .ok (.iload_n 0, 1) := by decide +kernel
theorem d_method_2_1 : decode method_2_code 1 = .ok (.ifCond .ne 7, 3) := by decide +kernel
theorem d_method_2_4 : decode method_2_code 4 = .ok (.getstatic 7, 3) := by decide +kernel
theorem d_method_2_7 : decode method_2_code 7 = .ok (.areturn, 1) := by decide +kernel
theorem d_method_2_8 : decode method_2_code 8 = .ok (.iload_n 0, 1) := by decide +kernel
theorem d_method_2_9 : decode method_2_code 9 = .ok (.iconst 1, 1) := by decide +kernel
theorem d_method_2_10 : decode method_2_code 10 = .ok (.if_icmp .ne 7, 3) := by decide +kernel
theorem d_method_2_13 : decode method_2_code 13 = .ok (.getstatic 13, 3) := by decide +kernel
theorem d_method_2_16 : decode method_2_code 16 = .ok (.areturn, 1) := by decide +kernel
theorem d_method_2_17 : decode method_2_code 17 = .ok (.iload_n 0, 1) := by decide +kernel
theorem d_method_2_18 : decode method_2_code 18 = .ok (.iconst 2, 1) := by decide +kernel
theorem d_method_2_19 : decode method_2_code 19 = .ok (.if_icmp .ne 7, 3) := by decide +kernel
theorem d_method_2_22 : decode method_2_code 22 = .ok (.getstatic 16, 3) := by decide +kernel
theorem d_method_2_25 : decode method_2_code 25 = .ok (.areturn, 1) := by decide +kernel
theorem d_method_2_26 : decode method_2_code 26 = .ok (.iload_n 0, 1) := by decide +kernel
theorem d_method_2_27 : decode method_2_code 27 = .ok (.iconst 3, 1) := by decide +kernel
theorem d_method_2_28 : decode method_2_code 28 = .ok (.if_icmp .ne 7, 3) := by decide +kernel
theorem d_method_2_31 : decode method_2_code 31 = .ok (.getstatic 19, 3) := by decide +kernel
theorem d_method_2_34 : decode method_2_code 34 = .ok (.areturn, 1) := by decide +kernel
theorem d_method_2_35 : decode method_2_code 35 = .ok (.iload_n 0, 1) := by decide +kernel
theorem d_method_2_36 : decode method_2_code 36 = .ok (.iconst 4, 1) := by decide +kernel
theorem d_method_2_37 : decode method_2_code 37 = .ok (.if_icmp .ne 7, 3) := by decide +kernel
theorem d_method_2_40 : decode method_2_code 40 = .ok (.getstatic 22, 3) := by decide +kernel
theorem d_method_2_43 : decode method_2_code 43 = .ok (.areturn, 1) := by decide +kernel
theorem d_method_2_44 : decode method_2_code 44 = .ok (.iload_n 0, 1) := by decide +kernel
theorem d_method_2_45 : decode method_2_code 45 = .ok (.iconst 5, 1) := by decide +kernel
theorem d_method_2_46 : decode method_2_code 46 = .ok (.if_icmp .ne 7, 3) := by decide +kernel
theorem d_method_2_49 : decode method_2_code 49 = .ok (.getstatic 25, 3) := by decide +kernel
theorem d_method_2_52 : decode method_2_code 52 = .ok (.areturn, 1) := by decide +kernel
theorem d_method_2_53 : decode method_2_code 53 = .ok (.iload_n 0, 1) := by decide +kernel
theorem d_method_2_54 : decode method_2_code 54 = .ok (.bipush 6, 2) := by decide +kernel
theorem d_method_2_56 : decode method_2_code 56 = .ok (.if_icmp .ne 7, 3) := by decide +kernel
theorem d_method_2_59 : decode method_2_code 59 = .ok (.getstatic 28, 3) := by decide +kernel
theorem d_method_2_62 : decode method_2_code 62 = .ok (.areturn, 1) := by decide +kernel
theorem d_method_2_63 : decode method_2_code 63 = .ok (.iload_n 0, 1) := by decide +kernel
theorem d_method_2_64 : decode method_2_code 64 = .ok (.bipush 7, 2) := by decide +kernel
theorem d_method_2_66 : decode method_2_code 66 = .ok (.if_icmp .ne 7, 3) := by decide +kernel
theorem d_method_2_69 : decode method_2_code 69 = .ok (.getstatic 31, 3) := by decide +kernel
theorem d_method_2_72 : decode method_2_code 72 = .ok (.areturn, 1) := by decide +kernel
theorem d_method_2_73 : decode method_2_code 73 = .ok (.getstatic 34, 3) := by decide +kernel
theorem d_method_2_76 : decode method_2_code 76 = .ok (.areturn, 1) := by decide +kernel
theorem pn_0 : plainName "com/example/cairn/cairn/types/DataTypeIsStorablePinLaw" = true := by first | (simp [plainName, overriddenIn]; done) | decide +kernel
theorem ef_pick (m : MethodId) (x0 : Int32) : entryFrame m #[(.int x0)] 1 = mkF m 0 #[.val (.int x0)] [] := by first | (simp [entryFrame, mkF, argsToLocals, Value.category]; done) | rfl
set_option maxRecDepth 65536 in
set_option maxHeartbeats 40000000 in
theorem rm_pick (l : Launch) (Z : State) (a0 : Array Value) (hw : ∀ d ∈ tables_1, d.before a0 Z = true) (ws : List Jvm.Cond) (p0 : Int32) (h0 : Heap) (n0 : Nat) (w_INTEGER w_DECIMAL w_CHAR w_VARCHAR w_BOOLEAN w_INTERVAL w_DOUBLE w_BIGINT w_DATE : Addr) (hK : own_K Z h0 w_INTEGER w_DECIMAL w_CHAR w_VARCHAR w_BOOLEAN w_INTERVAL w_DOUBLE w_BIGINT w_DATE) :
    MetFree l (⟨"com/example/cairn/cairn/types/DataTypeIsStorablePinLaw", "pick", "(I)Lcom/example/cairn/cairn/types/DataType$Kind;"⟩ : MethodName) (head1 (Jvm.Cond.code (⟨"com/example/cairn/cairn/types/DataTypeIsStorablePinLaw", "pick", "(I)Lcom/example/cairn/cairn/types/DataType$Kind;"⟩ : MethodName) method_2_code 1 (some (.object "com/example/cairn/cairn/types/DataType$Kind")) :: ws) ({ frames := 0, cells := 0, slots := 0, locals := 0 } : Room)) (fun a U => a = #[(.int p0)] ∧ Z.Warmed39 U.vm ∧ U.heap = h0) (fun _ _ _ _ _ => True) (fun _ U o U' => ∃ v L, o = .returned v ∧ own_Q (some (.ref (if p0 = (0 : Int32) then w_INTEGER else (if p0 = (1 : Int32) then w_BIGINT else (if p0 = (2 : Int32) then w_DECIMAL else (if p0 = (3 : Int32) then w_DATE else (if p0 = (4 : Int32) then w_CHAR else (if p0 = (5 : Int32) then w_VARCHAR else (if p0 = (6 : Int32) then w_BOOLEAN else (if p0 = (7 : Int32) then w_INTERVAL else w_DOUBLE)))))))))) h0 n0 v U'.heap L ∧ FrameEnd U o U' L ({ frames := 0, cells := 0, slots := 0, locals := 0 } : Room).cells ({ frames := 0, cells := 0, slots := 0, locals := 0 } : Room).slots) := by
  refine MetFree.of_bodySF (plainFor_of_name pn_0) hisR ?_
  intro p e s m args below meth c s₁ Bd hml0 hP hK0
  obtain ⟨rfl, hZ, hh⟩ := hP
  have hx := Bd.exec
  have hby := Bd.bytes
  have hml : c.maxLocals = 1 := hml0
  have hown : s.vm.findClass "com/example/cairn/cairn/types/DataTypeIsStorablePinLaw" = some m.cls := findClass_of_methodNamed Bd.named
  have hnm := (name_of_methodNamed Bd.named Bd.method).1
  have X0 : Stand p l e ({ frames := 0, cells := 0, slots := 0, locals := 0 } : Room) s m #[(.int p0)] below meth c s₁ [] 0 0 := Stand.of_body Bd
  have e0 : s₁.heap = h0 := by rw [← hh, Bd.state]; rfl
  have N0 := Fr.nil n0
  have pre0 : ∀ t, Steps p.tables e below (s₁.setTop (mkF m 0 #[.val (.int p0)] [])) t → Steps p.tables e below (s₁.setTop (entryFrame m #[(.int p0)] 1)) t := fun t k => castTop (ef_pick m p0) k
  have hK' := hK
  obtain ⟨S_w_INTEGER, E_w_INTEGER, S_w_DECIMAL, E_w_DECIMAL, F_ordinal_w_INTEGER, F_ordinal_w_DECIMAL, S_w_CHAR, E_w_CHAR, F_ordinal_w_CHAR, S_w_VARCHAR, E_w_VARCHAR, F_ordinal_w_VARCHAR, S_w_BOOLEAN, E_w_BOOLEAN, F_ordinal_w_BOOLEAN, S_w_INTERVAL, E_w_INTERVAL, F_ordinal_w_INTERVAL, S_w_DOUBLE, E_w_DOUBLE, F_ordinal_w_DOUBLE, S_w_BIGINT, E_w_BIGINT, F_ordinal_w_BIGINT, S_w_DATE, E_w_DATE, F_ordinal_w_DATE⟩ := hK'
  have pre2 : ∀ t, Steps p.tables e below (s₁.setTop (mkF m 1 #[.val (.int p0)] [(.int p0)])) t → Steps p.tables e below (s₁.setTop (entryFrame m #[(.int p0)] 1)) t := fun t k => pre0 t (by
    show Steps p.tables e below (s₁.setTop (mkF m 0 #[.val (.int p0)] [])) _
    refine XS.iloadN X0.here hx rfl (hb hby d_method_2_0) rfl ?_
    exact k)
  by_cases hc1_1 : p0 = (0 : Int32)
  · obtain ⟨T3, X3, e3, st3⟩ := getS2 X0 hx hZ hown (host := "") (Or.inl (hw _ (ow 5 rfl))) Via.refl e0 S_w_INTEGER (g := (mkF m 4 #[.val (.int p0)] [])) rfl (hb hby d_method_2_4)
    have pre4 : ∀ t, Steps p.tables e below (T3.setTop (mkF m 7 #[.val (.int p0)] [(.ref w_INTEGER)])) t → Steps p.tables e below (s₁.setTop (entryFrame m #[(.int p0)] 1)) t := fun t k => pre2 t (by
      show Steps p.tables e below (s₁.setTop (mkF m 1 #[.val (.int p0)] [(.int p0)])) _
      refine XS.ifNo X0.here hx rfl (hb hby d_method_2_1) rfl ((if0 _ _).trans (teq hc1_1).2) ?_
      show Steps p.tables e below (s₁.setTop (mkF m 4 #[.val (.int p0)] [])) _
      refine st3 _ ?_
      exact k)
    obtain ⟨fs, hr, hrun, hended, hW, hsame⟩ := X3.leave (v := some (.ref w_INTEGER)) (fun h => by rw [Bd.returns] at h; cases h)
    refine ⟨_, _, pre4 _ ?_, hrun, hended, _, _, rfl, ?_, ⟨_, rfl⟩, hW, hsame.mono (by decide) (by decide)⟩
    · show Steps p.tables e below (T3.setTop (mkF m 7 #[.val (.int p0)] [(.ref w_INTEGER)])) _
      exact retOut X3 hx Bd.returns rfl (Or.inr (Or.inr (Or.inr (Or.inr ⟨rfl, rfl, rfl⟩)))) (hb hby d_method_2_7) hr
    · exact ⟨congrArg (fun z => some (Value.ref z)) (Eq.symm (if_pos hc1_1)), N0, e3⟩
  · have pre6 : ∀ t, Steps p.tables e below (s₁.setTop (mkF m 10 #[.val (.int p0)] [(.int (1 : Int32)), (.int p0)])) t → Steps p.tables e below (s₁.setTop (entryFrame m #[(.int p0)] 1)) t := fun t k => pre2 t (by
      show Steps p.tables e below (s₁.setTop (mkF m 1 #[.val (.int p0)] [(.int p0)])) _
      refine XS.ifYes X0.here hx rfl (pc0 := 1) (pc' := 8) rfl (hb hby d_method_2_1) rfl ((if0 _ _).trans (feq hc1_1).2) (by decide) (by decide) ?_
      show Steps p.tables e below (s₁.setTop (mkF m 8 #[.val (.int p0)] [])) _
      refine XS.iloadN X0.here hx rfl (hb hby d_method_2_8) rfl ?_
      show Steps p.tables e below (s₁.setTop (mkF m 9 #[.val (.int p0)] [(.int p0)])) _
      refine XS.iconst X0.here hx rfl (hb hby d_method_2_9) ?_
      exact k)
    by_cases hc10_5 : p0 = (1 : Int32)
    · obtain ⟨T7, X7, e7, st7⟩ := getS2 X0 hx hZ hown (host := "") (Or.inl (hw _ (ow 45 rfl))) Via.refl e0 S_w_BIGINT (g := (mkF m 13 #[.val (.int p0)] [])) rfl (hb hby d_method_2_13)
      have pre8 : ∀ t, Steps p.tables e below (T7.setTop (mkF m 16 #[.val (.int p0)] [(.ref w_BIGINT)])) t → Steps p.tables e below (s₁.setTop (entryFrame m #[(.int p0)] 1)) t := fun t k => pre6 t (by
        show Steps p.tables e below (s₁.setTop (mkF m 10 #[.val (.int p0)] [(.int (1 : Int32)), (.int p0)])) _
        refine XS.icmpNo X0.here hx rfl (hb hby d_method_2_10) rfl (teq hc10_5).2 ?_
        show Steps p.tables e below (s₁.setTop (mkF m 13 #[.val (.int p0)] [])) _
        refine st7 _ ?_
        exact k)
      obtain ⟨fs, hr, hrun, hended, hW, hsame⟩ := X7.leave (v := some (.ref w_BIGINT)) (fun h => by rw [Bd.returns] at h; cases h)
      refine ⟨_, _, pre8 _ ?_, hrun, hended, _, _, rfl, ?_, ⟨_, rfl⟩, hW, hsame.mono (by decide) (by decide)⟩
      · show Steps p.tables e below (T7.setTop (mkF m 16 #[.val (.int p0)] [(.ref w_BIGINT)])) _
        exact retOut X7 hx Bd.returns rfl (Or.inr (Or.inr (Or.inr (Or.inr ⟨rfl, rfl, rfl⟩)))) (hb hby d_method_2_16) hr
      · exact ⟨congrArg (fun z => some (Value.ref z)) (Eq.symm ((if_neg hc1_1).trans (if_pos hc10_5))), N0, e7⟩
    · have pre10 : ∀ t, Steps p.tables e below (s₁.setTop (mkF m 19 #[.val (.int p0)] [(.int (2 : Int32)), (.int p0)])) t → Steps p.tables e below (s₁.setTop (entryFrame m #[(.int p0)] 1)) t := fun t k => pre6 t (by
        show Steps p.tables e below (s₁.setTop (mkF m 10 #[.val (.int p0)] [(.int (1 : Int32)), (.int p0)])) _
        refine XS.icmpYes X0.here hx rfl (pc0 := 10) (pc' := 17) rfl (hb hby d_method_2_10) rfl (feq hc10_5).2 (by decide) (by decide) ?_
        show Steps p.tables e below (s₁.setTop (mkF m 17 #[.val (.int p0)] [])) _
        refine XS.iloadN X0.here hx rfl (hb hby d_method_2_17) rfl ?_
        show Steps p.tables e below (s₁.setTop (mkF m 18 #[.val (.int p0)] [(.int p0)])) _
        refine XS.iconst X0.here hx rfl (hb hby d_method_2_18) ?_
        exact k)
      by_cases hc19_9 : p0 = (2 : Int32)
      · obtain ⟨T11, X11, e11, st11⟩ := getS2 X0 hx hZ hown (host := "") (Or.inl (hw _ (ow 47 rfl))) Via.refl e0 S_w_DECIMAL (g := (mkF m 22 #[.val (.int p0)] [])) rfl (hb hby d_method_2_22)
        have pre12 : ∀ t, Steps p.tables e below (T11.setTop (mkF m 25 #[.val (.int p0)] [(.ref w_DECIMAL)])) t → Steps p.tables e below (s₁.setTop (entryFrame m #[(.int p0)] 1)) t := fun t k => pre10 t (by
          show Steps p.tables e below (s₁.setTop (mkF m 19 #[.val (.int p0)] [(.int (2 : Int32)), (.int p0)])) _
          refine XS.icmpNo X0.here hx rfl (hb hby d_method_2_19) rfl (teq hc19_9).2 ?_
          show Steps p.tables e below (s₁.setTop (mkF m 22 #[.val (.int p0)] [])) _
          refine st11 _ ?_
          exact k)
        obtain ⟨fs, hr, hrun, hended, hW, hsame⟩ := X11.leave (v := some (.ref w_DECIMAL)) (fun h => by rw [Bd.returns] at h; cases h)
        refine ⟨_, _, pre12 _ ?_, hrun, hended, _, _, rfl, ?_, ⟨_, rfl⟩, hW, hsame.mono (by decide) (by decide)⟩
        · show Steps p.tables e below (T11.setTop (mkF m 25 #[.val (.int p0)] [(.ref w_DECIMAL)])) _
          exact retOut X11 hx Bd.returns rfl (Or.inr (Or.inr (Or.inr (Or.inr ⟨rfl, rfl, rfl⟩)))) (hb hby d_method_2_25) hr
        · exact ⟨congrArg (fun z => some (Value.ref z)) (Eq.symm ((if_neg hc1_1).trans ((if_neg hc10_5).trans (if_pos hc19_9)))), N0, e11⟩
      · have pre14 : ∀ t, Steps p.tables e below (s₁.setTop (mkF m 28 #[.val (.int p0)] [(.int (3 : Int32)), (.int p0)])) t → Steps p.tables e below (s₁.setTop (entryFrame m #[(.int p0)] 1)) t := fun t k => pre10 t (by
          show Steps p.tables e below (s₁.setTop (mkF m 19 #[.val (.int p0)] [(.int (2 : Int32)), (.int p0)])) _
          refine XS.icmpYes X0.here hx rfl (pc0 := 19) (pc' := 26) rfl (hb hby d_method_2_19) rfl (feq hc19_9).2 (by decide) (by decide) ?_
          show Steps p.tables e below (s₁.setTop (mkF m 26 #[.val (.int p0)] [])) _
          refine XS.iloadN X0.here hx rfl (hb hby d_method_2_26) rfl ?_
          show Steps p.tables e below (s₁.setTop (mkF m 27 #[.val (.int p0)] [(.int p0)])) _
          refine XS.iconst X0.here hx rfl (hb hby d_method_2_27) ?_
          exact k)
        by_cases hc28_13 : p0 = (3 : Int32)
        · obtain ⟨T15, X15, e15, st15⟩ := getS2 X0 hx hZ hown (host := "") (Or.inl (hw _ (ow 51 rfl))) Via.refl e0 S_w_DATE (g := (mkF m 31 #[.val (.int p0)] [])) rfl (hb hby d_method_2_31)
          have pre16 : ∀ t, Steps p.tables e below (T15.setTop (mkF m 34 #[.val (.int p0)] [(.ref w_DATE)])) t → Steps p.tables e below (s₁.setTop (entryFrame m #[(.int p0)] 1)) t := fun t k => pre14 t (by
            show Steps p.tables e below (s₁.setTop (mkF m 28 #[.val (.int p0)] [(.int (3 : Int32)), (.int p0)])) _
            refine XS.icmpNo X0.here hx rfl (hb hby d_method_2_28) rfl (teq hc28_13).2 ?_
            show Steps p.tables e below (s₁.setTop (mkF m 31 #[.val (.int p0)] [])) _
            refine st15 _ ?_
            exact k)
          obtain ⟨fs, hr, hrun, hended, hW, hsame⟩ := X15.leave (v := some (.ref w_DATE)) (fun h => by rw [Bd.returns] at h; cases h)
          refine ⟨_, _, pre16 _ ?_, hrun, hended, _, _, rfl, ?_, ⟨_, rfl⟩, hW, hsame.mono (by decide) (by decide)⟩
          · show Steps p.tables e below (T15.setTop (mkF m 34 #[.val (.int p0)] [(.ref w_DATE)])) _
            exact retOut X15 hx Bd.returns rfl (Or.inr (Or.inr (Or.inr (Or.inr ⟨rfl, rfl, rfl⟩)))) (hb hby d_method_2_34) hr
          · exact ⟨congrArg (fun z => some (Value.ref z)) (Eq.symm ((if_neg hc1_1).trans ((if_neg hc10_5).trans ((if_neg hc19_9).trans (if_pos hc28_13))))), N0, e15⟩
        · have pre18 : ∀ t, Steps p.tables e below (s₁.setTop (mkF m 37 #[.val (.int p0)] [(.int (4 : Int32)), (.int p0)])) t → Steps p.tables e below (s₁.setTop (entryFrame m #[(.int p0)] 1)) t := fun t k => pre14 t (by
            show Steps p.tables e below (s₁.setTop (mkF m 28 #[.val (.int p0)] [(.int (3 : Int32)), (.int p0)])) _
            refine XS.icmpYes X0.here hx rfl (pc0 := 28) (pc' := 35) rfl (hb hby d_method_2_28) rfl (feq hc28_13).2 (by decide) (by decide) ?_
            show Steps p.tables e below (s₁.setTop (mkF m 35 #[.val (.int p0)] [])) _
            refine XS.iloadN X0.here hx rfl (hb hby d_method_2_35) rfl ?_
            show Steps p.tables e below (s₁.setTop (mkF m 36 #[.val (.int p0)] [(.int p0)])) _
            refine XS.iconst X0.here hx rfl (hb hby d_method_2_36) ?_
            exact k)
          by_cases hc37_17 : p0 = (4 : Int32)
          · obtain ⟨T19, X19, e19, st19⟩ := getS2 X0 hx hZ hown (host := "") (Or.inl (hw _ (ow 53 rfl))) Via.refl e0 S_w_CHAR (g := (mkF m 40 #[.val (.int p0)] [])) rfl (hb hby d_method_2_40)
            have pre20 : ∀ t, Steps p.tables e below (T19.setTop (mkF m 43 #[.val (.int p0)] [(.ref w_CHAR)])) t → Steps p.tables e below (s₁.setTop (entryFrame m #[(.int p0)] 1)) t := fun t k => pre18 t (by
              show Steps p.tables e below (s₁.setTop (mkF m 37 #[.val (.int p0)] [(.int (4 : Int32)), (.int p0)])) _
              refine XS.icmpNo X0.here hx rfl (hb hby d_method_2_37) rfl (teq hc37_17).2 ?_
              show Steps p.tables e below (s₁.setTop (mkF m 40 #[.val (.int p0)] [])) _
              refine st19 _ ?_
              exact k)
            obtain ⟨fs, hr, hrun, hended, hW, hsame⟩ := X19.leave (v := some (.ref w_CHAR)) (fun h => by rw [Bd.returns] at h; cases h)
            refine ⟨_, _, pre20 _ ?_, hrun, hended, _, _, rfl, ?_, ⟨_, rfl⟩, hW, hsame.mono (by decide) (by decide)⟩
            · show Steps p.tables e below (T19.setTop (mkF m 43 #[.val (.int p0)] [(.ref w_CHAR)])) _
              exact retOut X19 hx Bd.returns rfl (Or.inr (Or.inr (Or.inr (Or.inr ⟨rfl, rfl, rfl⟩)))) (hb hby d_method_2_43) hr
            · exact ⟨congrArg (fun z => some (Value.ref z)) (Eq.symm ((if_neg hc1_1).trans ((if_neg hc10_5).trans ((if_neg hc19_9).trans ((if_neg hc28_13).trans (if_pos hc37_17)))))), N0, e19⟩
          · have pre22 : ∀ t, Steps p.tables e below (s₁.setTop (mkF m 46 #[.val (.int p0)] [(.int (5 : Int32)), (.int p0)])) t → Steps p.tables e below (s₁.setTop (entryFrame m #[(.int p0)] 1)) t := fun t k => pre18 t (by
              show Steps p.tables e below (s₁.setTop (mkF m 37 #[.val (.int p0)] [(.int (4 : Int32)), (.int p0)])) _
              refine XS.icmpYes X0.here hx rfl (pc0 := 37) (pc' := 44) rfl (hb hby d_method_2_37) rfl (feq hc37_17).2 (by decide) (by decide) ?_
              show Steps p.tables e below (s₁.setTop (mkF m 44 #[.val (.int p0)] [])) _
              refine XS.iloadN X0.here hx rfl (hb hby d_method_2_44) rfl ?_
              show Steps p.tables e below (s₁.setTop (mkF m 45 #[.val (.int p0)] [(.int p0)])) _
              refine XS.iconst X0.here hx rfl (hb hby d_method_2_45) ?_
              exact k)
            by_cases hc46_21 : p0 = (5 : Int32)
            · obtain ⟨T23, X23, e23, st23⟩ := getS2 X0 hx hZ hown (host := "") (Or.inl (hw _ (ow 58 rfl))) Via.refl e0 S_w_VARCHAR (g := (mkF m 49 #[.val (.int p0)] [])) rfl (hb hby d_method_2_49)
              have pre24 : ∀ t, Steps p.tables e below (T23.setTop (mkF m 52 #[.val (.int p0)] [(.ref w_VARCHAR)])) t → Steps p.tables e below (s₁.setTop (entryFrame m #[(.int p0)] 1)) t := fun t k => pre22 t (by
                show Steps p.tables e below (s₁.setTop (mkF m 46 #[.val (.int p0)] [(.int (5 : Int32)), (.int p0)])) _
                refine XS.icmpNo X0.here hx rfl (hb hby d_method_2_46) rfl (teq hc46_21).2 ?_
                show Steps p.tables e below (s₁.setTop (mkF m 49 #[.val (.int p0)] [])) _
                refine st23 _ ?_
                exact k)
              obtain ⟨fs, hr, hrun, hended, hW, hsame⟩ := X23.leave (v := some (.ref w_VARCHAR)) (fun h => by rw [Bd.returns] at h; cases h)
              refine ⟨_, _, pre24 _ ?_, hrun, hended, _, _, rfl, ?_, ⟨_, rfl⟩, hW, hsame.mono (by decide) (by decide)⟩
              · show Steps p.tables e below (T23.setTop (mkF m 52 #[.val (.int p0)] [(.ref w_VARCHAR)])) _
                exact retOut X23 hx Bd.returns rfl (Or.inr (Or.inr (Or.inr (Or.inr ⟨rfl, rfl, rfl⟩)))) (hb hby d_method_2_52) hr
              · exact ⟨congrArg (fun z => some (Value.ref z)) (Eq.symm ((if_neg hc1_1).trans ((if_neg hc10_5).trans ((if_neg hc19_9).trans ((if_neg hc28_13).trans ((if_neg hc37_17).trans (if_pos hc46_21))))))), N0, e23⟩
            · have pre26 : ∀ t, Steps p.tables e below (s₁.setTop (mkF m 56 #[.val (.int p0)] [(.int (6 : Int32)), (.int p0)])) t → Steps p.tables e below (s₁.setTop (entryFrame m #[(.int p0)] 1)) t := fun t k => pre22 t (by
                show Steps p.tables e below (s₁.setTop (mkF m 46 #[.val (.int p0)] [(.int (5 : Int32)), (.int p0)])) _
                refine XS.icmpYes X0.here hx rfl (pc0 := 46) (pc' := 53) rfl (hb hby d_method_2_46) rfl (feq hc46_21).2 (by decide) (by decide) ?_
                show Steps p.tables e below (s₁.setTop (mkF m 53 #[.val (.int p0)] [])) _
                refine XS.iloadN X0.here hx rfl (hb hby d_method_2_53) rfl ?_
                show Steps p.tables e below (s₁.setTop (mkF m 54 #[.val (.int p0)] [(.int p0)])) _
                refine XS.bipush X0.here hx rfl (hb hby d_method_2_54) ?_
                exact k)
              by_cases hc56_25 : p0 = (6 : Int32)
              · obtain ⟨T27, X27, e27, st27⟩ := getS2 X0 hx hZ hown (host := "") (Or.inl (hw _ (ow 49 rfl))) Via.refl e0 S_w_BOOLEAN (g := (mkF m 59 #[.val (.int p0)] [])) rfl (hb hby d_method_2_59)
                have pre28 : ∀ t, Steps p.tables e below (T27.setTop (mkF m 62 #[.val (.int p0)] [(.ref w_BOOLEAN)])) t → Steps p.tables e below (s₁.setTop (entryFrame m #[(.int p0)] 1)) t := fun t k => pre26 t (by
                  show Steps p.tables e below (s₁.setTop (mkF m 56 #[.val (.int p0)] [(.int (6 : Int32)), (.int p0)])) _
                  refine XS.icmpNo X0.here hx rfl (hb hby d_method_2_56) rfl (teq hc56_25).2 ?_
                  show Steps p.tables e below (s₁.setTop (mkF m 59 #[.val (.int p0)] [])) _
                  refine st27 _ ?_
                  exact k)
                obtain ⟨fs, hr, hrun, hended, hW, hsame⟩ := X27.leave (v := some (.ref w_BOOLEAN)) (fun h => by rw [Bd.returns] at h; cases h)
                refine ⟨_, _, pre28 _ ?_, hrun, hended, _, _, rfl, ?_, ⟨_, rfl⟩, hW, hsame.mono (by decide) (by decide)⟩
                · show Steps p.tables e below (T27.setTop (mkF m 62 #[.val (.int p0)] [(.ref w_BOOLEAN)])) _
                  exact retOut X27 hx Bd.returns rfl (Or.inr (Or.inr (Or.inr (Or.inr ⟨rfl, rfl, rfl⟩)))) (hb hby d_method_2_62) hr
                · exact ⟨congrArg (fun z => some (Value.ref z)) (Eq.symm ((if_neg hc1_1).trans ((if_neg hc10_5).trans ((if_neg hc19_9).trans ((if_neg hc28_13).trans ((if_neg hc37_17).trans ((if_neg hc46_21).trans (if_pos hc56_25)))))))), N0, e27⟩
              · have pre30 : ∀ t, Steps p.tables e below (s₁.setTop (mkF m 66 #[.val (.int p0)] [(.int (7 : Int32)), (.int p0)])) t → Steps p.tables e below (s₁.setTop (entryFrame m #[(.int p0)] 1)) t := fun t k => pre26 t (by
                  show Steps p.tables e below (s₁.setTop (mkF m 56 #[.val (.int p0)] [(.int (6 : Int32)), (.int p0)])) _
                  refine XS.icmpYes X0.here hx rfl (pc0 := 56) (pc' := 63) rfl (hb hby d_method_2_56) rfl (feq hc56_25).2 (by decide) (by decide) ?_
                  show Steps p.tables e below (s₁.setTop (mkF m 63 #[.val (.int p0)] [])) _
                  refine XS.iloadN X0.here hx rfl (hb hby d_method_2_63) rfl ?_
                  show Steps p.tables e below (s₁.setTop (mkF m 64 #[.val (.int p0)] [(.int p0)])) _
                  refine XS.bipush X0.here hx rfl (hb hby d_method_2_64) ?_
                  exact k)
                by_cases hc66_29 : p0 = (7 : Int32)
                · obtain ⟨T31, X31, e31, st31⟩ := getS2 X0 hx hZ hown (host := "") (Or.inl (hw _ (ow 50 rfl))) Via.refl e0 S_w_INTERVAL (g := (mkF m 69 #[.val (.int p0)] [])) rfl (hb hby d_method_2_69)
                  have pre32 : ∀ t, Steps p.tables e below (T31.setTop (mkF m 72 #[.val (.int p0)] [(.ref w_INTERVAL)])) t → Steps p.tables e below (s₁.setTop (entryFrame m #[(.int p0)] 1)) t := fun t k => pre30 t (by
                    show Steps p.tables e below (s₁.setTop (mkF m 66 #[.val (.int p0)] [(.int (7 : Int32)), (.int p0)])) _
                    refine XS.icmpNo X0.here hx rfl (hb hby d_method_2_66) rfl (teq hc66_29).2 ?_
                    show Steps p.tables e below (s₁.setTop (mkF m 69 #[.val (.int p0)] [])) _
                    refine st31 _ ?_
                    exact k)
                  obtain ⟨fs, hr, hrun, hended, hW, hsame⟩ := X31.leave (v := some (.ref w_INTERVAL)) (fun h => by rw [Bd.returns] at h; cases h)
                  refine ⟨_, _, pre32 _ ?_, hrun, hended, _, _, rfl, ?_, ⟨_, rfl⟩, hW, hsame.mono (by decide) (by decide)⟩
                  · show Steps p.tables e below (T31.setTop (mkF m 72 #[.val (.int p0)] [(.ref w_INTERVAL)])) _
                    exact retOut X31 hx Bd.returns rfl (Or.inr (Or.inr (Or.inr (Or.inr ⟨rfl, rfl, rfl⟩)))) (hb hby d_method_2_72) hr
                  · exact ⟨congrArg (fun z => some (Value.ref z)) (Eq.symm ((if_neg hc1_1).trans ((if_neg hc10_5).trans ((if_neg hc19_9).trans ((if_neg hc28_13).trans ((if_neg hc37_17).trans ((if_neg hc46_21).trans ((if_neg hc56_25).trans (if_pos hc66_29))))))))), N0, e31⟩
                · obtain ⟨T33, X33, e33, st33⟩ := getS2 X0 hx hZ hown (host := "") (Or.inl (hw _ (ow 48 rfl))) Via.refl e0 S_w_DOUBLE (g := (mkF m 73 #[.val (.int p0)] [])) rfl (hb hby d_method_2_73)
                  have pre34 : ∀ t, Steps p.tables e below (T33.setTop (mkF m 76 #[.val (.int p0)] [(.ref w_DOUBLE)])) t → Steps p.tables e below (s₁.setTop (entryFrame m #[(.int p0)] 1)) t := fun t k => pre30 t (by
                    show Steps p.tables e below (s₁.setTop (mkF m 66 #[.val (.int p0)] [(.int (7 : Int32)), (.int p0)])) _
                    refine XS.icmpYes X0.here hx rfl (pc0 := 66) (pc' := 73) rfl (hb hby d_method_2_66) rfl (feq hc66_29).2 (by decide) (by decide) ?_
                    show Steps p.tables e below (s₁.setTop (mkF m 73 #[.val (.int p0)] [])) _
                    refine st33 _ ?_
                    exact k)
                  obtain ⟨fs, hr, hrun, hended, hW, hsame⟩ := X33.leave (v := some (.ref w_DOUBLE)) (fun h => by rw [Bd.returns] at h; cases h)
                  refine ⟨_, _, pre34 _ ?_, hrun, hended, _, _, rfl, ?_, ⟨_, rfl⟩, hW, hsame.mono (by decide) (by decide)⟩
                  · show Steps p.tables e below (T33.setTop (mkF m 76 #[.val (.int p0)] [(.ref w_DOUBLE)])) _
                    exact retOut X33 hx Bd.returns rfl (Or.inr (Or.inr (Or.inr (Or.inr ⟨rfl, rfl, rfl⟩)))) (hb hby d_method_2_76) hr
                  · exact ⟨congrArg (fun z => some (Value.ref z)) (Eq.symm ((if_neg hc1_1).trans ((if_neg hc10_5).trans ((if_neg hc19_9).trans ((if_neg hc28_13).trans ((if_neg hc37_17).trans ((if_neg hc46_21).trans ((if_neg hc56_25).trans (if_neg hc66_29))))))))), N0, e33⟩
theorem d_jdk_29_method_65_0 : decode jdk_29_method_65_code 0 = .ok (.iload_n 0, 1) := by decide +kernel
theorem d_jdk_29_method_65_1 : decode jdk_29_method_65_code 1 = .ok (.iload_n 1, 1) := by decide +kernel
theorem d_jdk_29_method_65_2 : decode jdk_29_method_65_code 2 = .ok (.if_icmp .lt 7, 3) := by decide +kernel
theorem d_jdk_29_method_65_9 : decode jdk_29_method_65_code 9 = .ok (.iload_n 1, 1) := by decide +kernel
theorem d_jdk_29_method_65_10 : decode jdk_29_method_65_code 10 = .ok (.ireturn, 1) := by decide +kernel
theorem d_jdk_29_method_65_5 : decode jdk_29_method_65_code 5 = .ok (.iload_n 0, 1) := by decide +kernel
theorem d_jdk_29_method_65_6 : decode jdk_29_method_65_code 6 = .ok (.goto 4, 3) := by decide +kernel
theorem ef_max (m : MethodId) (x0 : Int32) (x1 : Int32) : entryFrame m #[(.int x0), (.int x1)] 2 = mkF m 0 #[.val (.int x0), .val (.int x1)] [] := by first | (simp [entryFrame, mkF, argsToLocals, Value.category]; done) | rfl
set_option maxRecDepth 65536 in
set_option maxHeartbeats 40000000 in
theorem rm_max (l : Launch) (Z : State) (a0 : Array Value) (hw : ∀ d ∈ tables_1, d.before a0 Z = true) (ws : List Jvm.Cond) (p0 : Int32) (p1 : Int32) (h0 : Heap) (n0 : Nat) :
    MetFree l (⟨"java/lang/Math", "max", "(II)I"⟩ : MethodName) (head1 (Jvm.Cond.code (⟨"java/lang/Math", "max", "(II)I"⟩ : MethodName) jdk_29_method_65_code 2 (some .int) :: ws) ({ frames := 0, cells := 0, slots := 0, locals := 0 } : Room)) (fun a U => a = #[(.int p0), (.int p1)] ∧ Z.Warmed39 U.vm ∧ U.heap = h0) (fun _ _ _ _ _ => True) (fun _ U o U' => ∃ v L, o = .returned v ∧ own_Q (some (.int (if p0 < p1 then p1 else p0))) h0 n0 v U'.heap L ∧ FrameEnd U o U' L ({ frames := 0, cells := 0, slots := 0, locals := 0 } : Room).cells ({ frames := 0, cells := 0, slots := 0, locals := 0 } : Room).slots) := by
  refine MetFree.of_bodySF (Jvm.Free.JP.mathPlain rfl (by decide +kernel)) hisR ?_
  intro p e s m args below meth c s₁ Bd hml0 hP hK0
  obtain ⟨rfl, hZ, hh⟩ := hP
  have hx := Bd.exec
  have hby := Bd.bytes
  have hml : c.maxLocals = 2 := hml0
  have hown : s.vm.findClass "java/lang/Math" = some m.cls := findClass_of_methodNamed Bd.named
  have hnm := (name_of_methodNamed Bd.named Bd.method).1
  have X0 : Stand p l e ({ frames := 0, cells := 0, slots := 0, locals := 0 } : Room) s m #[(.int p0), (.int p1)] below meth c s₁ [] 0 0 := Stand.of_body Bd
  have e0 : s₁.heap = h0 := by rw [← hh, Bd.state]; rfl
  have N0 := Fr.nil n0
  have pre0 : ∀ t, Steps p.tables e below (s₁.setTop (mkF m 0 #[.val (.int p0), .val (.int p1)] [])) t → Steps p.tables e below (s₁.setTop (entryFrame m #[(.int p0), (.int p1)] 2)) t := fun t k => castTop (ef_max m p0 p1) k
  have pre2 : ∀ t, Steps p.tables e below (s₁.setTop (mkF m 2 #[.val (.int p0), .val (.int p1)] [(.int p1), (.int p0)])) t → Steps p.tables e below (s₁.setTop (entryFrame m #[(.int p0), (.int p1)] 2)) t := fun t k => pre0 t (by
    show Steps p.tables e below (s₁.setTop (mkF m 0 #[.val (.int p0), .val (.int p1)] [])) _
    refine XS.iloadN X0.here hx rfl (hb hby d_jdk_29_method_65_0) rfl ?_
    show Steps p.tables e below (s₁.setTop (mkF m 1 #[.val (.int p0), .val (.int p1)] [(.int p0)])) _
    refine XS.iloadN X0.here hx rfl (hb hby d_jdk_29_method_65_1) rfl ?_
    exact k)
  by_cases hc2_1 : p0 < p1
  · have pre3 : ∀ t, Steps p.tables e below (s₁.setTop (mkF m 10 #[.val (.int p0), .val (.int p1)] [(.int p1)])) t → Steps p.tables e below (s₁.setTop (entryFrame m #[(.int p0), (.int p1)] 2)) t := fun t k => pre2 t (by
      show Steps p.tables e below (s₁.setTop (mkF m 2 #[.val (.int p0), .val (.int p1)] [(.int p1), (.int p0)])) _
      refine XS.icmpYes X0.here hx rfl (pc0 := 2) (pc' := 9) rfl (hb hby d_jdk_29_method_65_2) rfl (tlt hc2_1).1 (by decide) (by decide) ?_
      show Steps p.tables e below (s₁.setTop (mkF m 9 #[.val (.int p0), .val (.int p1)] [])) _
      refine XS.iloadN X0.here hx rfl (hb hby d_jdk_29_method_65_9) rfl ?_
      exact k)
    obtain ⟨fs, hr, hrun, hended, hW, hsame⟩ := X0.leave (v := some (.int p1)) (fun h => by rw [Bd.returns] at h; cases h)
    refine ⟨_, _, pre3 _ ?_, hrun, hended, _, _, rfl, ?_, ⟨_, rfl⟩, hW, hsame.mono (by decide) (by decide)⟩
    · show Steps p.tables e below (s₁.setTop (mkF m 10 #[.val (.int p0), .val (.int p1)] [(.int p1)])) _
      exact retI X0 hx Bd.returns (hb hby d_jdk_29_method_65_10) hr
    · exact ⟨congrArg (fun z => some (Value.int z)) (Eq.symm (if_pos hc2_1)), N0, e0⟩
  · have pre4 : ∀ t, Steps p.tables e below (s₁.setTop (mkF m 10 #[.val (.int p0), .val (.int p1)] [(.int p0)])) t → Steps p.tables e below (s₁.setTop (entryFrame m #[(.int p0), (.int p1)] 2)) t := fun t k => pre2 t (by
      show Steps p.tables e below (s₁.setTop (mkF m 2 #[.val (.int p0), .val (.int p1)] [(.int p1), (.int p0)])) _
      refine XS.icmpNo X0.here hx rfl (hb hby d_jdk_29_method_65_2) rfl (flt hc2_1).1 ?_
      show Steps p.tables e below (s₁.setTop (mkF m 5 #[.val (.int p0), .val (.int p1)] [])) _
      refine XS.iloadN X0.here hx rfl (hb hby d_jdk_29_method_65_5) rfl ?_
      show Steps p.tables e below (s₁.setTop (mkF m 6 #[.val (.int p0), .val (.int p1)] [(.int p0)])) _
      refine XS.goto X0.here hx rfl (pc0 := 6) (pc' := 10) rfl (hb hby d_jdk_29_method_65_6) (by decide) (by decide) ?_
      exact k)
    obtain ⟨fs, hr, hrun, hended, hW, hsame⟩ := X0.leave (v := some (.int p0)) (fun h => by rw [Bd.returns] at h; cases h)
    refine ⟨_, _, pre4 _ ?_, hrun, hended, _, _, rfl, ?_, ⟨_, rfl⟩, hW, hsame.mono (by decide) (by decide)⟩
    · show Steps p.tables e below (s₁.setTop (mkF m 10 #[.val (.int p0), .val (.int p1)] [(.int p0)])) _
      exact retI X0 hx Bd.returns (hb hby d_jdk_29_method_65_10) hr
    · exact ⟨congrArg (fun z => some (Value.int z)) (Eq.symm (if_neg hc2_1)), N0, e0⟩
theorem d_jdk_30_method_1_0 : decode jdk_30_method_1_code 0 = .ok (.aload_n 0, 1) := by decide +kernel
theorem d_jdk_30_method_1_1 : decode jdk_30_method_1_code 1 = .ok (.invokespecial 1, 3) := by decide +kernel
theorem d_jdk_30_method_1_4 : decode jdk_30_method_1_code 4 = .ok (.return_, 1) := by decide +kernel
theorem pn_1 : plainName "java/lang/Record" = true := by first | (simp [plainName, overriddenIn]; done) | decide +kernel
theorem ef_record (m : MethodId) (x0 : Addr) : entryFrame m #[(.ref x0)] 1 = mkF m 0 #[.val (.ref x0)] [] := by first | (simp [entryFrame, mkF, argsToLocals, Value.category]; done) | rfl
set_option maxRecDepth 65536 in
set_option maxHeartbeats 40000000 in
theorem rm_record (l : Launch) (Z : State) (a0 : Array Value) (hw : ∀ d ∈ tables_1, d.before a0 Z = true) (ws : List Jvm.Cond) (a1 : Addr) (h0 : Heap) (n0 : Nat) :
    MetFree l (⟨"java/lang/Record", "<init>", "()V"⟩ : MethodName) (head1 (Jvm.Cond.code (⟨"java/lang/Record", "<init>", "()V"⟩ : MethodName) jdk_30_method_1_code 1 none :: ws) ({ frames := 1, cells := 0, slots := 0, locals := 12 } : Room)) (fun a U => a = #[(.ref a1)] ∧ Z.Warmed39 U.vm ∧ U.heap = h0) (fun _ _ _ _ _ => True) (fun _ U o U' => ∃ v L, o = .returned v ∧ own_Q none h0 n0 v U'.heap L ∧ FrameEnd U o U' L ({ frames := 1, cells := 0, slots := 0, locals := 12 } : Room).cells ({ frames := 1, cells := 0, slots := 0, locals := 12 } : Room).slots) := by
  refine MetFree.of_bodySF (plainFor_of_name pn_1) hisR ?_
  intro p e s m args below meth c s₁ Bd hml0 hP hK0
  obtain ⟨rfl, hZ, hh⟩ := hP
  have hx := Bd.exec
  have hby := Bd.bytes
  have hml : c.maxLocals = 1 := hml0
  have hown : s.vm.findClass "java/lang/Record" = some m.cls := findClass_of_methodNamed Bd.named
  have hnm := (name_of_methodNamed Bd.named Bd.method).1
  have X0 : Stand p l e ({ frames := 1, cells := 0, slots := 0, locals := 12 } : Room) s m #[(.ref a1)] below meth c s₁ [] 0 0 := Stand.of_body Bd
  have e0 : s₁.heap = h0 := by rw [← hh, Bd.state]; rfl
  have N0 := Fr.nil n0
  have pre0 : ∀ t, Steps p.tables e below (s₁.setTop (mkF m 0 #[.val (.ref a1)] [])) t → Steps p.tables e below (s₁.setTop (entryFrame m #[(.ref a1)] 1)) t := fun t k => castTop (ef_record m a1) k
  obtain ⟨T1, X1, e1, st1⟩ := initO X0 hx hZ hown (hw _ (ow 19 rfl)) (hw _ (ow 20 rfl)) (hw _ (ow 21 rfl)) e0 (g := (mkF m 1 #[.val (.ref a1)] [(.ref a1)])) rfl (by rw [hml]; rfl) rfl (hb hby d_jdk_30_method_1_1) (by decide) (W := 0) (Nat.le_of_eq rfl) (by decide)
  have pre2 : ∀ t, Steps p.tables e below (T1.setTop (mkF m 4 #[.val (.ref a1)] [])) t → Steps p.tables e below (s₁.setTop (entryFrame m #[(.ref a1)] 1)) t := fun t k => pre0 t (by
    show Steps p.tables e below (s₁.setTop (mkF m 0 #[.val (.ref a1)] [])) _
    refine XS.aloadN X0.here hx rfl (hb hby d_jdk_30_method_1_0) rfl rfl ?_
    show Steps p.tables e below (s₁.setTop (mkF m 1 #[.val (.ref a1)] [(.ref a1)])) _
    refine st1 _ ?_
    exact k)
  obtain ⟨fs, hr, hrun, hended, hW, hsame⟩ := X1.leave (v := none) (fun _ => rfl)
  refine ⟨_, _, pre2 _ ?_, hrun, hended, _, _, rfl, ?_, ⟨_, rfl⟩, hW, hsame.mono (by decide) (by decide)⟩
  · show Steps p.tables e below (T1.setTop (mkF m 4 #[.val (.ref a1)] [])) _
    exact X1.returnOut hx Bd.returns (hb hby d_jdk_30_method_1_4) hr
  · exact ⟨rfl, N0, e1⟩
theorem d_prog_163_method_10_0 : decode prog_163_method_10_code 0 = .ok (.aload_n 0, 1) := by decide +kernel
theorem d_prog_163_method_10_1 : decode prog_163_method_10_code 1 = .ok (.getfield 39, 3) := by decide +kernel
theorem d_prog_163_method_10_4 : decode prog_163_method_10_code 4 = .ok (.getstatic 96, 3) := by decide +kernel
theorem d_prog_163_method_10_7 : decode prog_163_method_10_code 7 = .ok (.if_acmp .eq 27, 3) := by decide +kernel
theorem d_prog_163_method_10_34 : decode prog_163_method_10_code 34 = .ok (.iconst 0, 1) := by decide +kernel
theorem d_prog_163_method_10_35 : decode prog_163_method_10_code 35 = .ok (.ireturn, 1) := by decide +kernel
theorem d_prog_163_method_10_10 : decode prog_163_method_10_code 10 = .ok (.aload_n 0, 1) := by decide +kernel
theorem d_prog_163_method_10_11 : decode prog_163_method_10_code 11 = .ok (.getfield 39, 3) := by decide +kernel
theorem d_prog_163_method_10_14 : decode prog_163_method_10_code 14 = .ok (.getstatic 93, 3) := by decide +kernel
theorem d_prog_163_method_10_17 : decode prog_163_method_10_code 17 = .ok (.if_acmp .eq 17, 3) := by decide +kernel
theorem d_prog_163_method_10_20 : decode prog_163_method_10_code 20 = .ok (.aload_n 0, 1) := by decide +kernel
theorem d_prog_163_method_10_21 : decode prog_163_method_10_code 21 = .ok (.getfield 39, 3) := by decide +kernel
theorem d_prog_163_method_10_24 : decode prog_163_method_10_code 24 = .ok (.getstatic 99, 3) := by decide +kernel
theorem d_prog_163_method_10_27 : decode prog_163_method_10_code 27 = .ok (.if_acmp .eq 7, 3) := by decide +kernel
theorem d_prog_163_method_10_30 : decode prog_163_method_10_code 30 = .ok (.iconst 1, 1) := by decide +kernel
theorem d_prog_163_method_10_31 : decode prog_163_method_10_code 31 = .ok (.goto 4, 3) := by decide +kernel
theorem pn_2 : plainName "com/example/cairn/cairn/types/DataType" = true := by first | (simp [plainName, overriddenIn]; done) | decide +kernel
theorem ef_isStorable (m : MethodId) (x0 : Addr) : entryFrame m #[(.ref x0)] 1 = mkF m 0 #[.val (.ref x0)] [] := by first | (simp [entryFrame, mkF, argsToLocals, Value.category]; done) | rfl
set_option maxRecDepth 65536 in
set_option maxHeartbeats 40000000 in
theorem rm_isStorable (l : Launch) (Z : State) (a0 : Array Value) (hw : ∀ d ∈ tables_1, d.before a0 Z = true) (ws : List Jvm.Cond) (a1 : Addr) (f_kind : Addr) (h0 : Heap) (n0 : Nat) (w_INTEGER w_DECIMAL w_CHAR w_VARCHAR w_BOOLEAN w_INTERVAL w_DOUBLE w_BIGINT w_DATE : Addr) (hK : own_K Z h0 w_INTEGER w_DECIMAL w_CHAR w_VARCHAR w_BOOLEAN w_INTERVAL w_DOUBLE w_BIGINT w_DATE) (F_kind : Fld Z h0 a1 "com/example/cairn/cairn/types/DataType" "kind" "Lcom/example/cairn/cairn/types/DataType$Kind;" (.ref f_kind)) :
    MetFree l (⟨"com/example/cairn/cairn/types/DataType", "isStorable", "()Z"⟩ : MethodName) (head1 (Jvm.Cond.code (⟨"com/example/cairn/cairn/types/DataType", "isStorable", "()Z"⟩ : MethodName) prog_163_method_10_code 1 (some .boolean) :: ws) ({ frames := 0, cells := 0, slots := 0, locals := 0 } : Room)) (fun a U => a = #[(.ref a1)] ∧ Z.Warmed39 U.vm ∧ U.heap = h0) (fun _ _ _ _ _ => True) (fun _ U o U' => ∃ v L, o = .returned v ∧ own_Q (some (.int (if f_kind = w_BOOLEAN then (0 : Int32) else (if f_kind = w_INTERVAL then (0 : Int32) else (if f_kind = w_DOUBLE then (0 : Int32) else (1 : Int32)))))) h0 n0 v U'.heap L ∧ FrameEnd U o U' L ({ frames := 0, cells := 0, slots := 0, locals := 0 } : Room).cells ({ frames := 0, cells := 0, slots := 0, locals := 0 } : Room).slots) := by
  refine MetFree.of_bodySF (plainFor_of_name pn_2) hisR ?_
  intro p e s m args below meth c s₁ Bd hml0 hP hK0
  obtain ⟨rfl, hZ, hh⟩ := hP
  have hx := Bd.exec
  have hby := Bd.bytes
  have hml : c.maxLocals = 1 := hml0
  have hown : s.vm.findClass "com/example/cairn/cairn/types/DataType" = some m.cls := findClass_of_methodNamed Bd.named
  have hnm := (name_of_methodNamed Bd.named Bd.method).1
  have X0 : Stand p l e ({ frames := 0, cells := 0, slots := 0, locals := 0 } : Room) s m #[(.ref a1)] below meth c s₁ [] 0 0 := Stand.of_body Bd
  have e0 : s₁.heap = h0 := by rw [← hh, Bd.state]; rfl
  have N0 := Fr.nil n0
  have pre0 : ∀ t, Steps p.tables e below (s₁.setTop (mkF m 0 #[.val (.ref a1)] [])) t → Steps p.tables e below (s₁.setTop (entryFrame m #[(.ref a1)] 1)) t := fun t k => castTop (ef_isStorable m a1) k
  have hK' := hK
  obtain ⟨S_w_INTEGER, E_w_INTEGER, S_w_DECIMAL, E_w_DECIMAL, F_ordinal_w_INTEGER, F_ordinal_w_DECIMAL, S_w_CHAR, E_w_CHAR, F_ordinal_w_CHAR, S_w_VARCHAR, E_w_VARCHAR, F_ordinal_w_VARCHAR, S_w_BOOLEAN, E_w_BOOLEAN, F_ordinal_w_BOOLEAN, S_w_INTERVAL, E_w_INTERVAL, F_ordinal_w_INTERVAL, S_w_DOUBLE, E_w_DOUBLE, F_ordinal_w_DOUBLE, S_w_BIGINT, E_w_BIGINT, F_ordinal_w_BIGINT, S_w_DATE, E_w_DATE, F_ordinal_w_DATE⟩ := hK'
  obtain ⟨T1, X1, e1, st1⟩ := getF X0 hx hZ hown (host := "") (Or.inl (hw _ (ow 28 rfl))) Via.refl e0 F_kind (g := (mkF m 1 #[.val (.ref a1)] [(.ref a1)])) rfl rfl (hb hby d_prog_163_method_10_1)
  obtain ⟨T2, X2, e2, st2⟩ := getS2 X1 hx hZ hown (host := "") (Or.inl (hw _ (ow 39 rfl))) Via.refl e1 S_w_BOOLEAN (g := (mkF m 4 #[.val (.ref a1)] [(.ref f_kind)])) rfl (hb hby d_prog_163_method_10_4)
  have pre4 : ∀ t, Steps p.tables e below (T2.setTop (mkF m 7 #[.val (.ref a1)] [(.ref w_BOOLEAN), (.ref f_kind)])) t → Steps p.tables e below (s₁.setTop (entryFrame m #[(.ref a1)] 1)) t := fun t k => pre0 t (by
    show Steps p.tables e below (s₁.setTop (mkF m 0 #[.val (.ref a1)] [])) _
    refine XS.aloadN X0.here hx rfl (hb hby d_prog_163_method_10_0) rfl rfl ?_
    show Steps p.tables e below (s₁.setTop (mkF m 1 #[.val (.ref a1)] [(.ref a1)])) _
    refine st1 _ ?_
    show Steps p.tables e below (T1.setTop (mkF m 4 #[.val (.ref a1)] [(.ref f_kind)])) _
    refine st2 _ ?_
    exact k)
  by_cases hc7_3 : f_kind = w_BOOLEAN
  · have pre5 : ∀ t, Steps p.tables e below (T2.setTop (mkF m 35 #[.val (.ref a1)] [(.int (0 : Int32))])) t → Steps p.tables e below (s₁.setTop (entryFrame m #[(.ref a1)] 1)) t := fun t k => pre4 t (by
      show Steps p.tables e below (T2.setTop (mkF m 7 #[.val (.ref a1)] [(.ref w_BOOLEAN), (.ref f_kind)])) _
      refine Jvm.RoadKit.acmp (g := (mkF m 7 #[.val (.ref a1)] [(.ref w_BOOLEAN), (.ref f_kind)])) X2 hx rfl rfl rfl (pc0 := 7) (pc' := 34) (same := true) rfl (hb hby d_prog_163_method_10_7) rfl (decide_eq_true (congrArg Value.ref hc7_3)) (by decide) (by decide) ?_
      show Steps p.tables e below (T2.setTop (mkF m 34 #[.val (.ref a1)] [])) _
      refine XS.iconst X2.here hx rfl (hb hby d_prog_163_method_10_34) ?_
      exact k)
    obtain ⟨fs, hr, hrun, hended, hW, hsame⟩ := X2.leave (v := some (.int (0 : Int32))) (fun h => by rw [Bd.returns] at h; cases h)
    refine ⟨_, _, pre5 _ ?_, hrun, hended, _, _, rfl, ?_, ⟨_, rfl⟩, hW, hsame.mono (by decide) (by decide)⟩
    · show Steps p.tables e below (T2.setTop (mkF m 35 #[.val (.ref a1)] [(.int (0 : Int32))])) _
      exact retN X2 hx (t := .boolean) Bd.returns (by simp) (hb hby d_prog_163_method_10_35) hr
    · exact ⟨congrArg (fun z => some (Value.int z)) (Eq.symm (if_pos hc7_3)), N0, e2⟩
  · obtain ⟨T6, X6, e6, st6⟩ := getF X2 hx hZ hown (host := "") (Or.inl (hw _ (ow 28 rfl))) Via.refl e2 F_kind (g := (mkF m 11 #[.val (.ref a1)] [(.ref a1)])) rfl rfl (hb hby d_prog_163_method_10_11)
    obtain ⟨T7, X7, e7, st7⟩ := getS2 X6 hx hZ hown (host := "") (Or.inl (hw _ (ow 41 rfl))) Via.refl e6 S_w_INTERVAL (g := (mkF m 14 #[.val (.ref a1)] [(.ref f_kind)])) rfl (hb hby d_prog_163_method_10_14)
    have pre9 : ∀ t, Steps p.tables e below (T7.setTop (mkF m 17 #[.val (.ref a1)] [(.ref w_INTERVAL), (.ref f_kind)])) t → Steps p.tables e below (s₁.setTop (entryFrame m #[(.ref a1)] 1)) t := fun t k => pre4 t (by
      show Steps p.tables e below (T2.setTop (mkF m 7 #[.val (.ref a1)] [(.ref w_BOOLEAN), (.ref f_kind)])) _
      refine Jvm.RoadKit.acmp (g := (mkF m 7 #[.val (.ref a1)] [(.ref w_BOOLEAN), (.ref f_kind)])) X2 hx rfl rfl rfl (pc0 := 7) (pc' := 10) (same := false) rfl (hb hby d_prog_163_method_10_7) rfl (decide_eq_false fun q => hc7_3 (Value.ref.inj q)) (by decide) (by decide) ?_
      show Steps p.tables e below (T2.setTop (mkF m 10 #[.val (.ref a1)] [])) _
      refine XS.aloadN X2.here hx rfl (hb hby d_prog_163_method_10_10) rfl rfl ?_
      show Steps p.tables e below (T2.setTop (mkF m 11 #[.val (.ref a1)] [(.ref a1)])) _
      refine st6 _ ?_
      show Steps p.tables e below (T6.setTop (mkF m 14 #[.val (.ref a1)] [(.ref f_kind)])) _
      refine st7 _ ?_
      exact k)
    by_cases hc17_8 : f_kind = w_INTERVAL
    · have pre10 : ∀ t, Steps p.tables e below (T7.setTop (mkF m 35 #[.val (.ref a1)] [(.int (0 : Int32))])) t → Steps p.tables e below (s₁.setTop (entryFrame m #[(.ref a1)] 1)) t := fun t k => pre9 t (by
        show Steps p.tables e below (T7.setTop (mkF m 17 #[.val (.ref a1)] [(.ref w_INTERVAL), (.ref f_kind)])) _
        refine Jvm.RoadKit.acmp (g := (mkF m 17 #[.val (.ref a1)] [(.ref w_INTERVAL), (.ref f_kind)])) X7 hx rfl rfl rfl (pc0 := 17) (pc' := 34) (same := true) rfl (hb hby d_prog_163_method_10_17) rfl (decide_eq_true (congrArg Value.ref hc17_8)) (by decide) (by decide) ?_
        show Steps p.tables e below (T7.setTop (mkF m 34 #[.val (.ref a1)] [])) _
        refine XS.iconst X7.here hx rfl (hb hby d_prog_163_method_10_34) ?_
        exact k)
      obtain ⟨fs, hr, hrun, hended, hW, hsame⟩ := X7.leave (v := some (.int (0 : Int32))) (fun h => by rw [Bd.returns] at h; cases h)
      refine ⟨_, _, pre10 _ ?_, hrun, hended, _, _, rfl, ?_, ⟨_, rfl⟩, hW, hsame.mono (by decide) (by decide)⟩
      · show Steps p.tables e below (T7.setTop (mkF m 35 #[.val (.ref a1)] [(.int (0 : Int32))])) _
        exact retN X7 hx (t := .boolean) Bd.returns (by simp) (hb hby d_prog_163_method_10_35) hr
      · exact ⟨congrArg (fun z => some (Value.int z)) (Eq.symm ((if_neg hc7_3).trans (if_pos hc17_8))), N0, e7⟩
    · obtain ⟨T11, X11, e11, st11⟩ := getF X7 hx hZ hown (host := "") (Or.inl (hw _ (ow 28 rfl))) Via.refl e7 F_kind (g := (mkF m 21 #[.val (.ref a1)] [(.ref a1)])) rfl rfl (hb hby d_prog_163_method_10_21)
      obtain ⟨T12, X12, e12, st12⟩ := getS2 X11 hx hZ hown (host := "") (Or.inl (hw _ (ow 43 rfl))) Via.refl e11 S_w_DOUBLE (g := (mkF m 24 #[.val (.ref a1)] [(.ref f_kind)])) rfl (hb hby d_prog_163_method_10_24)
      have pre14 : ∀ t, Steps p.tables e below (T12.setTop (mkF m 27 #[.val (.ref a1)] [(.ref w_DOUBLE), (.ref f_kind)])) t → Steps p.tables e below (s₁.setTop (entryFrame m #[(.ref a1)] 1)) t := fun t k => pre9 t (by
        show Steps p.tables e below (T7.setTop (mkF m 17 #[.val (.ref a1)] [(.ref w_INTERVAL), (.ref f_kind)])) _
        refine Jvm.RoadKit.acmp (g := (mkF m 17 #[.val (.ref a1)] [(.ref w_INTERVAL), (.ref f_kind)])) X7 hx rfl rfl rfl (pc0 := 17) (pc' := 20) (same := false) rfl (hb hby d_prog_163_method_10_17) rfl (decide_eq_false fun q => hc17_8 (Value.ref.inj q)) (by decide) (by decide) ?_
        show Steps p.tables e below (T7.setTop (mkF m 20 #[.val (.ref a1)] [])) _
        refine XS.aloadN X7.here hx rfl (hb hby d_prog_163_method_10_20) rfl rfl ?_
        show Steps p.tables e below (T7.setTop (mkF m 21 #[.val (.ref a1)] [(.ref a1)])) _
        refine st11 _ ?_
        show Steps p.tables e below (T11.setTop (mkF m 24 #[.val (.ref a1)] [(.ref f_kind)])) _
        refine st12 _ ?_
        exact k)
      by_cases hc27_13 : f_kind = w_DOUBLE
      · have pre15 : ∀ t, Steps p.tables e below (T12.setTop (mkF m 35 #[.val (.ref a1)] [(.int (0 : Int32))])) t → Steps p.tables e below (s₁.setTop (entryFrame m #[(.ref a1)] 1)) t := fun t k => pre14 t (by
          show Steps p.tables e below (T12.setTop (mkF m 27 #[.val (.ref a1)] [(.ref w_DOUBLE), (.ref f_kind)])) _
          refine Jvm.RoadKit.acmp (g := (mkF m 27 #[.val (.ref a1)] [(.ref w_DOUBLE), (.ref f_kind)])) X12 hx rfl rfl rfl (pc0 := 27) (pc' := 34) (same := true) rfl (hb hby d_prog_163_method_10_27) rfl (decide_eq_true (congrArg Value.ref hc27_13)) (by decide) (by decide) ?_
          show Steps p.tables e below (T12.setTop (mkF m 34 #[.val (.ref a1)] [])) _
          refine XS.iconst X12.here hx rfl (hb hby d_prog_163_method_10_34) ?_
          exact k)
        obtain ⟨fs, hr, hrun, hended, hW, hsame⟩ := X12.leave (v := some (.int (0 : Int32))) (fun h => by rw [Bd.returns] at h; cases h)
        refine ⟨_, _, pre15 _ ?_, hrun, hended, _, _, rfl, ?_, ⟨_, rfl⟩, hW, hsame.mono (by decide) (by decide)⟩
        · show Steps p.tables e below (T12.setTop (mkF m 35 #[.val (.ref a1)] [(.int (0 : Int32))])) _
          exact retN X12 hx (t := .boolean) Bd.returns (by simp) (hb hby d_prog_163_method_10_35) hr
        · exact ⟨congrArg (fun z => some (Value.int z)) (Eq.symm ((if_neg hc7_3).trans ((if_neg hc17_8).trans (if_pos hc27_13)))), N0, e12⟩
      · have pre16 : ∀ t, Steps p.tables e below (T12.setTop (mkF m 35 #[.val (.ref a1)] [(.int (1 : Int32))])) t → Steps p.tables e below (s₁.setTop (entryFrame m #[(.ref a1)] 1)) t := fun t k => pre14 t (by
          show Steps p.tables e below (T12.setTop (mkF m 27 #[.val (.ref a1)] [(.ref w_DOUBLE), (.ref f_kind)])) _
          refine Jvm.RoadKit.acmp (g := (mkF m 27 #[.val (.ref a1)] [(.ref w_DOUBLE), (.ref f_kind)])) X12 hx rfl rfl rfl (pc0 := 27) (pc' := 30) (same := false) rfl (hb hby d_prog_163_method_10_27) rfl (decide_eq_false fun q => hc27_13 (Value.ref.inj q)) (by decide) (by decide) ?_
          show Steps p.tables e below (T12.setTop (mkF m 30 #[.val (.ref a1)] [])) _
          refine XS.iconst X12.here hx rfl (hb hby d_prog_163_method_10_30) ?_
          show Steps p.tables e below (T12.setTop (mkF m 31 #[.val (.ref a1)] [(.int (1 : Int32))])) _
          refine XS.goto X12.here hx rfl (pc0 := 31) (pc' := 35) rfl (hb hby d_prog_163_method_10_31) (by decide) (by decide) ?_
          exact k)
        obtain ⟨fs, hr, hrun, hended, hW, hsame⟩ := X12.leave (v := some (.int (1 : Int32))) (fun h => by rw [Bd.returns] at h; cases h)
        refine ⟨_, _, pre16 _ ?_, hrun, hended, _, _, rfl, ?_, ⟨_, rfl⟩, hW, hsame.mono (by decide) (by decide)⟩
        · show Steps p.tables e below (T12.setTop (mkF m 35 #[.val (.ref a1)] [(.int (1 : Int32))])) _
          exact retN X12 hx (t := .boolean) Bd.returns (by simp) (hb hby d_prog_163_method_10_35) hr
        · exact ⟨congrArg (fun z => some (Value.int z)) (Eq.symm ((if_neg hc7_3).trans ((if_neg hc17_8).trans (if_neg hc27_13)))), N0, e12⟩
def own_Q_init0 (Z : State) (a1 : Addr) (w_INTEGER w_DECIMAL w_CHAR w_VARCHAR w_BOOLEAN w_INTERVAL w_DOUBLE w_BIGINT w_DATE : Addr) (h0 : Heap) (n0 : Nat) (v : Option Value) (h : Heap) (L : List Loc) : Prop := v = none ∧ Fr n0 L ∧ Keep h0 h [a1] ∧ Exa Z h a1 "com/example/cairn/cairn/types/DataType" ∧ Fld Z h a1 "com/example/cairn/cairn/types/DataType" "kind" "Lcom/example/cairn/cairn/types/DataType$Kind;" (.ref w_INTEGER)
theorem d_prog_163_method_1_0 : decode prog_163_method_1_code 0 = .ok (.aload_n 0, 1) := by decide +kernel
theorem d_prog_163_method_1_1 : decode prog_163_method_1_code 1 = .ok (.invokespecial 1, 3) := by decide +kernel
theorem pd_0 : parseMethodDescriptor "()V" = some ⟨[], none⟩ := by decide +kernel
theorem d_prog_163_method_1_4 : decode prog_163_method_1_code 4 = .ok (.aload_n 1, 1) := by decide +kernel
theorem d_prog_163_method_1_5 : decode prog_163_method_1_code 5 = .ok (.getstatic 7, 3) := by decide +kernel
theorem d_prog_163_method_1_8 : decode prog_163_method_1_code 8 = .ok (.if_acmp .eq 17, 3) := by decide +kernel
theorem d_prog_163_method_1_11 : decode prog_163_method_1_code 11 = .ok (.aload_n 1, 1) := by decide +kernel
theorem d_prog_163_method_1_12 : decode prog_163_method_1_code 12 = .ok (.getstatic 13, 3) := by decide +kernel
theorem d_prog_163_method_1_15 : decode prog_163_method_1_code 15 = .ok (.if_acmp .eq 10, 3) := by decide +kernel
theorem d_prog_163_method_1_18 : decode prog_163_method_1_code 18 = .ok (.aload_n 1, 1) := by decide +kernel
theorem d_prog_163_method_1_19 : decode prog_163_method_1_code 19 = .ok (.getstatic 16, 3) := by decide +kernel
theorem d_prog_163_method_1_22 : decode prog_163_method_1_code 22 = .ok (.if_acmp .ne 7, 3) := by decide +kernel
theorem d_prog_163_method_1_29 : decode prog_163_method_1_code 29 = .ok (.iconst 0, 1) := by decide +kernel
theorem d_prog_163_method_1_30 : decode prog_163_method_1_code 30 = .ok (.istore 4, 2) := by decide +kernel
theorem d_prog_163_method_1_32 : decode prog_163_method_1_code 32 = .ok (.iload 4, 2) := by decide +kernel
theorem d_prog_163_method_1_34 : decode prog_163_method_1_code 34 = .ok (.ifCond .eq 11, 3) := by decide +kernel
theorem d_prog_163_method_1_45 : decode prog_163_method_1_code 45 = .ok (.iload_n 2, 1) := by decide +kernel
theorem d_prog_163_method_1_46 : decode prog_163_method_1_code 46 = .ok (.ifCond .eq 21, 3) := by decide +kernel
theorem d_prog_163_method_1_67 : decode prog_163_method_1_code 67 = .ok (.aload_n 1, 1) := by decide +kernel
theorem d_prog_163_method_1_68 : decode prog_163_method_1_code 68 = .ok (.getstatic 7, 3) := by decide +kernel
theorem d_prog_163_method_1_71 : decode prog_163_method_1_code 71 = .ok (.if_acmp .ne 21, 3) := by decide +kernel
theorem d_prog_163_method_1_92 : decode prog_163_method_1_code 92 = .ok (.iload_n 3, 1) := by decide +kernel
theorem d_prog_163_method_1_93 : decode prog_163_method_1_code 93 = .ok (.ifCond .eq 18, 3) := by decide +kernel
theorem d_prog_163_method_1_111 : decode prog_163_method_1_code 111 = .ok (.aload_n 0, 1) := by decide +kernel
theorem d_prog_163_method_1_112 : decode prog_163_method_1_code 112 = .ok (.aload_n 1, 1) := by decide +kernel
theorem d_prog_163_method_1_113 : decode prog_163_method_1_code 113 = .ok (.putfield 39, 3) := by decide +kernel
theorem d_prog_163_method_1_116 : decode prog_163_method_1_code 116 = .ok (.aload_n 0, 1) := by decide +kernel
theorem d_prog_163_method_1_117 : decode prog_163_method_1_code 117 = .ok (.iload_n 2, 1) := by decide +kernel
theorem d_prog_163_method_1_118 : decode prog_163_method_1_code 118 = .ok (.putfield 42, 3) := by decide +kernel
theorem d_prog_163_method_1_121 : decode prog_163_method_1_code 121 = .ok (.aload_n 0, 1) := by decide +kernel
theorem d_prog_163_method_1_122 : decode prog_163_method_1_code 122 = .ok (.iload_n 3, 1) := by decide +kernel
theorem d_prog_163_method_1_123 : decode prog_163_method_1_code 123 = .ok (.putfield 46, 3) := by decide +kernel
theorem d_prog_163_method_1_126 : decode prog_163_method_1_code 126 = .ok (.return_, 1) := by decide +kernel
theorem ef_init0 (m : MethodId) (x0 : Addr) (x1 : Addr) (x2 : Int32) (x3 : Int32) : entryFrame m #[(.ref x0), (.ref x1), (.int x2), (.int x3)] 5 = mkF m 0 #[.val (.ref x0), .val (.ref x1), .val (.int x2), .val (.int x3), .unset] [] := by first | (simp [entryFrame, mkF, argsToLocals, Value.category]; done) | rfl
set_option maxRecDepth 65536 in
set_option maxHeartbeats 40000000 in
theorem rm_init0 (l : Launch) (Z : State) (a0 : Array Value) (hw : ∀ d ∈ tables_1, d.before a0 Z = true) (ws : List Jvm.Cond) (a1 : Addr) (h0 : Heap) (n0 : Nat) (w_INTEGER w_DECIMAL w_CHAR w_VARCHAR w_BOOLEAN w_INTERVAL w_DOUBLE w_BIGINT w_DATE : Addr) (hK : own_K Z h0 w_INTEGER w_DECIMAL w_CHAR w_VARCHAR w_BOOLEAN w_INTERVAL w_DOUBLE w_BIGINT w_DATE) (F_kind : Fld Z h0 a1 "com/example/cairn/cairn/types/DataType" "kind" "Lcom/example/cairn/cairn/types/DataType$Kind;" .null) (F_precision : Fld Z h0 a1 "com/example/cairn/cairn/types/DataType" "precision" "I" (.int (0 : Int32))) (F_scale : Fld Z h0 a1 "com/example/cairn/cairn/types/DataType" "scale" "I" (.int (0 : Int32))) (E_a1 : Exa Z h0 a1 "com/example/cairn/cairn/types/DataType") (g_a1 : n0 ≤ a1) :
    MetFree l (⟨"com/example/cairn/cairn/types/DataType", "<init>", "(Lcom/example/cairn/cairn/types/DataType$Kind;II)V"⟩ : MethodName) (head1 (Jvm.Cond.code (⟨"com/example/cairn/cairn/types/DataType", "<init>", "(Lcom/example/cairn/cairn/types/DataType$Kind;II)V"⟩ : MethodName) prog_163_method_1_code 5 none :: ws) ({ frames := 2, cells := 0, slots := 0, locals := 24 } : Room)) (fun a U => a = #[(.ref a1), (.ref w_INTEGER), (.int (0 : Int32)), (.int (0 : Int32))] ∧ Z.Warmed39 U.vm ∧ U.heap = h0) (fun _ _ _ _ _ => True) (fun _ U o U' => ∃ v L, o = .returned v ∧ own_Q_init0 Z a1 w_INTEGER w_DECIMAL w_CHAR w_VARCHAR w_BOOLEAN w_INTERVAL w_DOUBLE w_BIGINT w_DATE h0 n0 v U'.heap L ∧ FrameEnd U o U' L ({ frames := 2, cells := 0, slots := 0, locals := 24 } : Room).cells ({ frames := 2, cells := 0, slots := 0, locals := 24 } : Room).slots) := by
  refine MetFree.of_bodySF (plainFor_of_name pn_2) hisR ?_
  intro p e s m args below meth c s₁ Bd hml0 hP hK0
  obtain ⟨rfl, hZ, hh⟩ := hP
  have hx := Bd.exec
  have hby := Bd.bytes
  have hml : c.maxLocals = 5 := hml0
  have hown : s.vm.findClass "com/example/cairn/cairn/types/DataType" = some m.cls := findClass_of_methodNamed Bd.named
  have hnm := (name_of_methodNamed Bd.named Bd.method).1
  have X0 : Stand p l e ({ frames := 2, cells := 0, slots := 0, locals := 24 } : Room) s m #[(.ref a1), (.ref w_INTEGER), (.int (0 : Int32)), (.int (0 : Int32))] below meth c s₁ [] 0 0 := Stand.of_body Bd
  have e0 : s₁.heap = h0 := by rw [← hh, Bd.state]; rfl
  have N0 := Fr.nil n0
  have pre0 : ∀ t, Steps p.tables e below (s₁.setTop (mkF m 0 #[.val (.ref a1), .val (.ref w_INTEGER), .val (.int (0 : Int32)), .val (.int (0 : Int32)), .unset] [])) t → Steps p.tables e below (s₁.setTop (entryFrame m #[(.ref a1), (.ref w_INTEGER), (.int (0 : Int32)), (.int (0 : Int32))] 5)) t := fun t k => castTop (ef_init0 m a1 w_INTEGER ((0 : Int32)) ((0 : Int32))) k
  have hK' := hK
  obtain ⟨S_w_INTEGER, E_w_INTEGER, S_w_DECIMAL, E_w_DECIMAL, F_ordinal_w_INTEGER, F_ordinal_w_DECIMAL, S_w_CHAR, E_w_CHAR, F_ordinal_w_CHAR, S_w_VARCHAR, E_w_VARCHAR, F_ordinal_w_VARCHAR, S_w_BOOLEAN, E_w_BOOLEAN, F_ordinal_w_BOOLEAN, S_w_INTERVAL, E_w_INTERVAL, F_ordinal_w_INTERVAL, S_w_DOUBLE, E_w_DOUBLE, F_ordinal_w_DOUBLE, S_w_BIGINT, E_w_BIGINT, F_ordinal_w_BIGINT, S_w_DATE, E_w_DATE, F_ordinal_w_DATE⟩ := hK'
  obtain ⟨v1, _, ⟨T1, L1, k1, n1⟩, -, X1, ⟨Lc1, hQ1, l1, y1, z1⟩, st1⟩ := X0.specialBack hx (y := (⟨"java/lang/Record", "<init>", "()V"⟩ : MethodName)) rfl hown (mvT hZ (hw _ (ow 14 rfl))) (mvT hZ (hw _ (ow 15 rfl))) (mvT hZ (hw _ (ow 18 rfl))) (by decide) (backOf (W := 0) (rm_record l Z a0 hw [] a1 h0 n0) hZ (hw _ (ow 18 rfl)) (hw _ (ow 17 rfl)) (by decide) (by decide)) (g := (mkF m 1 #[.val (.ref a1), .val (.ref w_INTEGER), .val (.int (0 : Int32)), .val (.int (0 : Int32)), .unset] [(.ref a1)])) rfl (by rw [hml]; rfl) (Steps.refl _) (a := a1) (argsL := []) (rest := []) (lenOf pd_0 rfl) rfl (Nat.le_of_eq rfl) (hb hby d_prog_163_method_1_1) (fun _ _ => ⟨rfl, e0, (by decide : 0 + 0 ≤ _), (by decide : 0 + 0 ≤ _)⟩)
  dsimp only [Pt.U, Pt.locs, Pt.cells, Pt.slots] at X1 l1 y1 z1 st1 hQ1
  subst l1 y1 z1
  obtain ⟨hv1, Nq1, e1⟩ := hQ1
  obtain rfl : v1 = none := hv1
  have N1 := Fr.app N0 Nq1
  obtain ⟨T2, X2, e2, st2⟩ := getS2 X1 hx hZ hown (host := "") (Or.inl (hw _ (ow 22 rfl))) Via.refl e1 S_w_DECIMAL (g := (mkF m 5 #[.val (.ref a1), .val (.ref w_INTEGER), .val (.int (0 : Int32)), .val (.int (0 : Int32)), .unset] [(.ref w_INTEGER)])) rfl (hb hby d_prog_163_method_1_5)
  obtain ⟨T3, X3, e3, st3⟩ := getS2 X2 hx hZ hown (host := "") (Or.inl (hw _ (ow 24 rfl))) Via.refl e2 S_w_CHAR (g := (mkF m 12 #[.val (.ref a1), .val (.ref w_INTEGER), .val (.int (0 : Int32)), .val (.int (0 : Int32)), .unset] [(.ref w_INTEGER)])) rfl (hb hby d_prog_163_method_1_12)
  obtain ⟨T4, X4, e4, st4⟩ := getS2 X3 hx hZ hown (host := "") (Or.inl (hw _ (ow 26 rfl))) Via.refl e3 S_w_VARCHAR (g := (mkF m 19 #[.val (.ref a1), .val (.ref w_INTEGER), .val (.int (0 : Int32)), .val (.int (0 : Int32)), .unset] [(.ref w_INTEGER)])) rfl (hb hby d_prog_163_method_1_19)
  obtain ⟨T5, X5, e5, st5⟩ := getS2 X4 hx hZ hown (host := "") (Or.inl (hw _ (ow 22 rfl))) Via.refl e4 S_w_DECIMAL (g := (mkF m 68 #[.val (.ref a1), .val (.ref w_INTEGER), .val (.int (0 : Int32)), .val (.int (0 : Int32)), .val (.int (0 : Int32))] [(.ref w_INTEGER)])) rfl (hb hby d_prog_163_method_1_68)
  obtain ⟨T6, h6, X6, e6, W6, st6⟩ := putF X5 hx hZ hown (host := "") (Or.inl (hw _ (ow 28 rfl))) Via.refl e5 F_kind E_a1 (Or.inr ⟨(hw _ (ow 29 rfl)), rfl, hnm⟩) (hw _ (ow 9 rfl)) (ty := (.object "com/example/cairn/cairn/types/DataType$Kind")) (by decide) rfl rfl (g := (mkF m 113 #[.val (.ref a1), .val (.ref w_INTEGER), .val (.int (0 : Int32)), .val (.int (0 : Int32)), .val (.int (0 : Int32))] [(.ref w_INTEGER), (.ref a1)])) rfl rfl (hb hby d_prog_163_method_1_113)
  have Fw6 := F_kind.same W6
  have Ew6 := E_a1.wr W6
  have K6 : Keep h0 h6 [a1] := (Keep.refl h0 [a1]).wr W6 (Or.inl (List.mem_of_getElem? (i := 0) rfl))
  have N6 := Fr.snoc X6 N1 g_a1
  have F6_precision := F_precision.other W6 (Or.inr (slot_ne (Or.inr (hw _ (ow 31 rfl))) (Or.inr (hw _ (ow 29 rfl))) (by decide) (t := .int) (t' := (.object "com/example/cairn/cairn/types/DataType$Kind")) (by decide) (by decide)))
  have F6_scale := F_scale.other W6 (Or.inr (slot_ne (Or.inr (hw _ (ow 33 rfl))) (Or.inr (hw _ (ow 29 rfl))) (by decide) (t := .int) (t' := (.object "com/example/cairn/cairn/types/DataType$Kind")) (by decide) (by decide)))
  obtain ⟨T7, h7, X7, e7, W7, st7⟩ := putF X6 hx hZ hown (host := "") (Or.inl (hw _ (ow 30 rfl))) Via.refl e6 F6_precision Ew6 (Or.inr ⟨(hw _ (ow 31 rfl)), rfl, hnm⟩) (hw _ (ow 9 rfl)) (ty := .int) (by decide) rfl rfl (g := (mkF m 118 #[.val (.ref a1), .val (.ref w_INTEGER), .val (.int (0 : Int32)), .val (.int (0 : Int32)), .val (.int (0 : Int32))] [(.int (0 : Int32)), (.ref a1)])) rfl rfl (hb hby d_prog_163_method_1_118)
  have Fw7 := F6_precision.same W7
  have Ew7 := Ew6.wr W7
  have K7 : Keep h0 h7 [a1] := K6.wr W7 (Or.inl (List.mem_of_getElem? (i := 0) rfl))
  have N7 := Fr.snoc X7 N6 g_a1
  have F7_kind := Fw6.other W7 (Or.inr (slot_ne (Or.inr (hw _ (ow 29 rfl))) (Or.inr (hw _ (ow 31 rfl))) (by decide) (t := (.object "com/example/cairn/cairn/types/DataType$Kind")) (t' := .int) (by decide) (by decide)))
  have F7_scale := F6_scale.other W7 (Or.inr (slot_ne (Or.inr (hw _ (ow 33 rfl))) (Or.inr (hw _ (ow 31 rfl))) (by decide) (t := .int) (t' := .int) (by decide) (by decide)))
  obtain ⟨T8, h8, X8, e8, W8, st8⟩ := putF X7 hx hZ hown (host := "") (Or.inl (hw _ (ow 32 rfl))) Via.refl e7 F7_scale Ew7 (Or.inr ⟨(hw _ (ow 33 rfl)), rfl, hnm⟩) (hw _ (ow 9 rfl)) (ty := .int) (by decide) rfl rfl (g := (mkF m 123 #[.val (.ref a1), .val (.ref w_INTEGER), .val (.int (0 : Int32)), .val (.int (0 : Int32)), .val (.int (0 : Int32))] [(.int (0 : Int32)), (.ref a1)])) rfl rfl (hb hby d_prog_163_method_1_123)
  have Fw8 := F7_scale.same W8
  have Ew8 := Ew7.wr W8
  have K8 : Keep h0 h8 [a1] := K7.wr W8 (Or.inl (List.mem_of_getElem? (i := 0) rfl))
  have N8 := Fr.snoc X8 N7 g_a1
  have F8_kind := F7_kind.other W8 (Or.inr (slot_ne (Or.inr (hw _ (ow 29 rfl))) (Or.inr (hw _ (ow 33 rfl))) (by decide) (t := (.object "com/example/cairn/cairn/types/DataType$Kind")) (t' := .int) (by decide) (by decide)))
  have F8_precision := Fw7.other W8 (Or.inr (slot_ne (Or.inr (hw _ (ow 31 rfl))) (Or.inr (hw _ (ow 33 rfl))) (by decide) (t := .int) (t' := .int) (by decide) (by decide)))
  have pre9 : ∀ t, Steps p.tables e below (T8.setTop (mkF m 126 #[.val (.ref a1), .val (.ref w_INTEGER), .val (.int (0 : Int32)), .val (.int (0 : Int32)), .val (.int (0 : Int32))] [])) t → Steps p.tables e below (s₁.setTop (entryFrame m #[(.ref a1), (.ref w_INTEGER), (.int (0 : Int32)), (.int (0 : Int32))] 5)) t := fun t k => pre0 t (by
    show Steps p.tables e below (s₁.setTop (mkF m 0 #[.val (.ref a1), .val (.ref w_INTEGER), .val (.int (0 : Int32)), .val (.int (0 : Int32)), .unset] [])) _
    refine XS.aloadN X0.here hx rfl (hb hby d_prog_163_method_1_0) rfl rfl ?_
    show Steps p.tables e below (s₁.setTop (mkF m 1 #[.val (.ref a1), .val (.ref w_INTEGER), .val (.int (0 : Int32)), .val (.int (0 : Int32)), .unset] [(.ref a1)])) _
    refine st1.trans ?_
    show Steps p.tables e below (T1.setTop (mkF m 4 #[.val (.ref a1), .val (.ref w_INTEGER), .val (.int (0 : Int32)), .val (.int (0 : Int32)), .unset] [])) _
    refine XS.aloadN X1.here hx rfl (hb hby d_prog_163_method_1_4) rfl rfl ?_
    show Steps p.tables e below (T1.setTop (mkF m 5 #[.val (.ref a1), .val (.ref w_INTEGER), .val (.int (0 : Int32)), .val (.int (0 : Int32)), .unset] [(.ref w_INTEGER)])) _
    refine st2 _ ?_
    show Steps p.tables e below (T2.setTop (mkF m 8 #[.val (.ref a1), .val (.ref w_INTEGER), .val (.int (0 : Int32)), .val (.int (0 : Int32)), .unset] [(.ref w_DECIMAL), (.ref w_INTEGER)])) _
    refine Jvm.RoadKit.acmp (g := (mkF m 8 #[.val (.ref a1), .val (.ref w_INTEGER), .val (.int (0 : Int32)), .val (.int (0 : Int32)), .unset] [(.ref w_DECIMAL), (.ref w_INTEGER)])) X2 hx rfl rfl rfl (pc0 := 8) (pc' := 11) (same := false) rfl (hb hby d_prog_163_method_1_8) rfl (decide_eq_false fun q => (Fld.ne F_ordinal_w_INTEGER F_ordinal_w_DECIMAL (by decide)) (Value.ref.inj q)) (by decide) (by decide) ?_
    show Steps p.tables e below (T2.setTop (mkF m 11 #[.val (.ref a1), .val (.ref w_INTEGER), .val (.int (0 : Int32)), .val (.int (0 : Int32)), .unset] [])) _
    refine XS.aloadN X2.here hx rfl (hb hby d_prog_163_method_1_11) rfl rfl ?_
    show Steps p.tables e below (T2.setTop (mkF m 12 #[.val (.ref a1), .val (.ref w_INTEGER), .val (.int (0 : Int32)), .val (.int (0 : Int32)), .unset] [(.ref w_INTEGER)])) _
    refine st3 _ ?_
    show Steps p.tables e below (T3.setTop (mkF m 15 #[.val (.ref a1), .val (.ref w_INTEGER), .val (.int (0 : Int32)), .val (.int (0 : Int32)), .unset] [(.ref w_CHAR), (.ref w_INTEGER)])) _
    refine Jvm.RoadKit.acmp (g := (mkF m 15 #[.val (.ref a1), .val (.ref w_INTEGER), .val (.int (0 : Int32)), .val (.int (0 : Int32)), .unset] [(.ref w_CHAR), (.ref w_INTEGER)])) X3 hx rfl rfl rfl (pc0 := 15) (pc' := 18) (same := false) rfl (hb hby d_prog_163_method_1_15) rfl (decide_eq_false fun q => (Fld.ne F_ordinal_w_INTEGER F_ordinal_w_CHAR (by decide)) (Value.ref.inj q)) (by decide) (by decide) ?_
    show Steps p.tables e below (T3.setTop (mkF m 18 #[.val (.ref a1), .val (.ref w_INTEGER), .val (.int (0 : Int32)), .val (.int (0 : Int32)), .unset] [])) _
    refine XS.aloadN X3.here hx rfl (hb hby d_prog_163_method_1_18) rfl rfl ?_
    show Steps p.tables e below (T3.setTop (mkF m 19 #[.val (.ref a1), .val (.ref w_INTEGER), .val (.int (0 : Int32)), .val (.int (0 : Int32)), .unset] [(.ref w_INTEGER)])) _
    refine st4 _ ?_
    show Steps p.tables e below (T4.setTop (mkF m 22 #[.val (.ref a1), .val (.ref w_INTEGER), .val (.int (0 : Int32)), .val (.int (0 : Int32)), .unset] [(.ref w_VARCHAR), (.ref w_INTEGER)])) _
    refine Jvm.RoadKit.acmp (g := (mkF m 22 #[.val (.ref a1), .val (.ref w_INTEGER), .val (.int (0 : Int32)), .val (.int (0 : Int32)), .unset] [(.ref w_VARCHAR), (.ref w_INTEGER)])) X4 hx rfl rfl rfl (pc0 := 22) (pc' := 29) (same := false) rfl (hb hby d_prog_163_method_1_22) rfl (decide_eq_false fun q => (Fld.ne F_ordinal_w_INTEGER F_ordinal_w_VARCHAR (by decide)) (Value.ref.inj q)) (by decide) (by decide) ?_
    show Steps p.tables e below (T4.setTop (mkF m 29 #[.val (.ref a1), .val (.ref w_INTEGER), .val (.int (0 : Int32)), .val (.int (0 : Int32)), .unset] [])) _
    refine XS.iconst X4.here hx rfl (hb hby d_prog_163_method_1_29) ?_
    show Steps p.tables e below (T4.setTop (mkF m 30 #[.val (.ref a1), .val (.ref w_INTEGER), .val (.int (0 : Int32)), .val (.int (0 : Int32)), .unset] [(.int (0 : Int32))])) _
    refine XS.istore X4.here hx rfl (hb hby d_prog_163_method_1_30) rfl (l' := #[.val (.ref a1), .val (.ref w_INTEGER), .val (.int (0 : Int32)), .val (.int (0 : Int32)), .val (.int (0 : Int32))]) rfl ?_
    show Steps p.tables e below (T4.setTop (mkF m 32 #[.val (.ref a1), .val (.ref w_INTEGER), .val (.int (0 : Int32)), .val (.int (0 : Int32)), .val (.int (0 : Int32))] [])) _
    refine XS.iload X4.here hx rfl (hb hby d_prog_163_method_1_32) rfl ?_
    show Steps p.tables e below (T4.setTop (mkF m 34 #[.val (.ref a1), .val (.ref w_INTEGER), .val (.int (0 : Int32)), .val (.int (0 : Int32)), .val (.int (0 : Int32))] [(.int (0 : Int32))])) _
    refine XS.ifYes X4.here hx rfl (pc0 := 34) (pc' := 45) rfl (hb hby d_prog_163_method_1_34) rfl ((if0 _ _).trans (teq (by decide)).1) (by decide) (by decide) ?_
    show Steps p.tables e below (T4.setTop (mkF m 45 #[.val (.ref a1), .val (.ref w_INTEGER), .val (.int (0 : Int32)), .val (.int (0 : Int32)), .val (.int (0 : Int32))] [])) _
    refine XS.iloadN X4.here hx rfl (hb hby d_prog_163_method_1_45) rfl ?_
    show Steps p.tables e below (T4.setTop (mkF m 46 #[.val (.ref a1), .val (.ref w_INTEGER), .val (.int (0 : Int32)), .val (.int (0 : Int32)), .val (.int (0 : Int32))] [(.int (0 : Int32))])) _
    refine XS.ifYes X4.here hx rfl (pc0 := 46) (pc' := 67) rfl (hb hby d_prog_163_method_1_46) rfl ((if0 _ _).trans (teq (by decide)).1) (by decide) (by decide) ?_
    show Steps p.tables e below (T4.setTop (mkF m 67 #[.val (.ref a1), .val (.ref w_INTEGER), .val (.int (0 : Int32)), .val (.int (0 : Int32)), .val (.int (0 : Int32))] [])) _
    refine XS.aloadN X4.here hx rfl (hb hby d_prog_163_method_1_67) rfl rfl ?_
    show Steps p.tables e below (T4.setTop (mkF m 68 #[.val (.ref a1), .val (.ref w_INTEGER), .val (.int (0 : Int32)), .val (.int (0 : Int32)), .val (.int (0 : Int32))] [(.ref w_INTEGER)])) _
    refine st5 _ ?_
    show Steps p.tables e below (T5.setTop (mkF m 71 #[.val (.ref a1), .val (.ref w_INTEGER), .val (.int (0 : Int32)), .val (.int (0 : Int32)), .val (.int (0 : Int32))] [(.ref w_DECIMAL), (.ref w_INTEGER)])) _
    refine Jvm.RoadKit.acmp (g := (mkF m 71 #[.val (.ref a1), .val (.ref w_INTEGER), .val (.int (0 : Int32)), .val (.int (0 : Int32)), .val (.int (0 : Int32))] [(.ref w_DECIMAL), (.ref w_INTEGER)])) X5 hx rfl rfl rfl (pc0 := 71) (pc' := 92) (same := false) rfl (hb hby d_prog_163_method_1_71) rfl (decide_eq_false fun q => (Fld.ne F_ordinal_w_INTEGER F_ordinal_w_DECIMAL (by decide)) (Value.ref.inj q)) (by decide) (by decide) ?_
    show Steps p.tables e below (T5.setTop (mkF m 92 #[.val (.ref a1), .val (.ref w_INTEGER), .val (.int (0 : Int32)), .val (.int (0 : Int32)), .val (.int (0 : Int32))] [])) _
    refine XS.iloadN X5.here hx rfl (hb hby d_prog_163_method_1_92) rfl ?_
    show Steps p.tables e below (T5.setTop (mkF m 93 #[.val (.ref a1), .val (.ref w_INTEGER), .val (.int (0 : Int32)), .val (.int (0 : Int32)), .val (.int (0 : Int32))] [(.int (0 : Int32))])) _
    refine XS.ifYes X5.here hx rfl (pc0 := 93) (pc' := 111) rfl (hb hby d_prog_163_method_1_93) rfl ((if0 _ _).trans (teq (by decide)).1) (by decide) (by decide) ?_
    show Steps p.tables e below (T5.setTop (mkF m 111 #[.val (.ref a1), .val (.ref w_INTEGER), .val (.int (0 : Int32)), .val (.int (0 : Int32)), .val (.int (0 : Int32))] [])) _
    refine XS.aloadN X5.here hx rfl (hb hby d_prog_163_method_1_111) rfl rfl ?_
    show Steps p.tables e below (T5.setTop (mkF m 112 #[.val (.ref a1), .val (.ref w_INTEGER), .val (.int (0 : Int32)), .val (.int (0 : Int32)), .val (.int (0 : Int32))] [(.ref a1)])) _
    refine XS.aloadN X5.here hx rfl (hb hby d_prog_163_method_1_112) rfl rfl ?_
    show Steps p.tables e below (T5.setTop (mkF m 113 #[.val (.ref a1), .val (.ref w_INTEGER), .val (.int (0 : Int32)), .val (.int (0 : Int32)), .val (.int (0 : Int32))] [(.ref w_INTEGER), (.ref a1)])) _
    refine st6 _ ?_
    show Steps p.tables e below (T6.setTop (mkF m 116 #[.val (.ref a1), .val (.ref w_INTEGER), .val (.int (0 : Int32)), .val (.int (0 : Int32)), .val (.int (0 : Int32))] [])) _
    refine XS.aloadN X6.here hx rfl (hb hby d_prog_163_method_1_116) rfl rfl ?_
    show Steps p.tables e below (T6.setTop (mkF m 117 #[.val (.ref a1), .val (.ref w_INTEGER), .val (.int (0 : Int32)), .val (.int (0 : Int32)), .val (.int (0 : Int32))] [(.ref a1)])) _
    refine XS.iloadN X6.here hx rfl (hb hby d_prog_163_method_1_117) rfl ?_
    show Steps p.tables e below (T6.setTop (mkF m 118 #[.val (.ref a1), .val (.ref w_INTEGER), .val (.int (0 : Int32)), .val (.int (0 : Int32)), .val (.int (0 : Int32))] [(.int (0 : Int32)), (.ref a1)])) _
    refine st7 _ ?_
    show Steps p.tables e below (T7.setTop (mkF m 121 #[.val (.ref a1), .val (.ref w_INTEGER), .val (.int (0 : Int32)), .val (.int (0 : Int32)), .val (.int (0 : Int32))] [])) _
    refine XS.aloadN X7.here hx rfl (hb hby d_prog_163_method_1_121) rfl rfl ?_
    show Steps p.tables e below (T7.setTop (mkF m 122 #[.val (.ref a1), .val (.ref w_INTEGER), .val (.int (0 : Int32)), .val (.int (0 : Int32)), .val (.int (0 : Int32))] [(.ref a1)])) _
    refine XS.iloadN X7.here hx rfl (hb hby d_prog_163_method_1_122) rfl ?_
    show Steps p.tables e below (T7.setTop (mkF m 123 #[.val (.ref a1), .val (.ref w_INTEGER), .val (.int (0 : Int32)), .val (.int (0 : Int32)), .val (.int (0 : Int32))] [(.int (0 : Int32)), (.ref a1)])) _
    refine st8 _ ?_
    exact k)
  obtain ⟨fs, hr, hrun, hended, hW, hsame⟩ := X8.leave (v := none) (fun _ => rfl)
  refine ⟨_, _, pre9 _ ?_, hrun, hended, _, _, rfl, ?_, ⟨_, rfl⟩, hW, hsame.mono (by decide) (by decide)⟩
  · show Steps p.tables e below (T8.setTop (mkF m 126 #[.val (.ref a1), .val (.ref w_INTEGER), .val (.int (0 : Int32)), .val (.int (0 : Int32)), .val (.int (0 : Int32))] [])) _
    exact X8.returnOut hx Bd.returns (hb hby d_prog_163_method_1_126) hr
  · exact ⟨rfl, N8, by rw [show (T8.setFrames fs).heap = _ from e8]; exact ⟨K8, Ew8, F8_kind⟩⟩
theorem pd_1 : parseMethodDescriptor "(I)Lcom/example/cairn/cairn/types/DataType$Kind;" = some ⟨[.int], some (.object "com/example/cairn/cairn/types/DataType$Kind")⟩ := by decide +kernel
theorem pd_2 : parseMethodDescriptor "(Lcom/example/cairn/cairn/types/DataType$Kind;II)V" = some ⟨[(.object "com/example/cairn/cairn/types/DataType$Kind"), .int, .int], none⟩ := by decide +kernel
theorem pd_3 : parseMethodDescriptor "()Z" = some ⟨[], some .boolean⟩ := by decide +kernel
theorem ef_law0 (m : MethodId) (x0 : Int32) (x1 : Int32) (x2 : Int32) : entryFrame m #[(.int x0), (.int x1), (.int x2)] maxLocals = mkF m 0 #[.val (.int x0), .val (.int x1), .val (.int x2), .unset, .unset, .unset, .unset, .unset, .unset] [] := by first | (simp [entryFrame, mkF, argsToLocals, Value.category, maxLocals]; done) | rfl
set_option maxRecDepth 65536 in
set_option maxHeartbeats 40000000 in
theorem rm_law0 (l : Launch) (Z : State) (a0 : Array Value) (hw : ∀ d ∈ tables_1, d.before a0 Z = true) (ws : List Jvm.Cond) (p1 : Int32) (p2 : Int32) (p3 : Int32) (h0 : Heap) (n0 : Nat) (Z0 : n0 ≤ h0.size) (w_INTEGER w_DECIMAL w_CHAR w_VARCHAR w_BOOLEAN w_INTERVAL w_DOUBLE w_BIGINT w_DATE : Addr) (hK : own_K Z h0 w_INTEGER w_DECIMAL w_CHAR w_VARCHAR w_BOOLEAN w_INTERVAL w_DOUBLE w_BIGINT w_DATE) (hk : ((p1 &&& (2147483647 : Int32)) % (9 : Int32)) = (0 : Int32)) :
    MetFree l x (head1 (Jvm.Cond.code x code maxLocals ret :: ws) room_1) (fun a U => a = #[(.int p1), (.int p2), (.int p3)] ∧ Z.Warmed39 U.vm ∧ U.heap = h0) (fun _ _ _ _ _ => True) (fun _ U o U' => ∃ v L, o = .returned v ∧ own_QH (some (.int (1 : Int32))) n0 v U'.heap L ∧ FrameEnd U o U' L room_1.cells room_1.slots) := by
  refine MetFree.of_bodySF (plainFor_of_name pn_0) hisR ?_
  intro p e s m args below meth c s₁ Bd hml0 hP hK0
  obtain ⟨rfl, hZ, hh⟩ := hP
  have hx := Bd.exec
  have hby := Bd.bytes
  have hml : c.maxLocals = 9 := hml0
  have hown : s.vm.findClass "com/example/cairn/cairn/types/DataTypeIsStorablePinLaw" = some m.cls := findClass_of_methodNamed Bd.named
  have hnm := (name_of_methodNamed Bd.named Bd.method).1
  have X0 : Stand p l e room_1 s m #[(.int p1), (.int p2), (.int p3)] below meth c s₁ [] 0 0 := Stand.of_body Bd
  have e0 : s₁.heap = h0 := by rw [← hh, Bd.state]; rfl
  have N0 := Fr.nil n0
  have pre0 : ∀ t, Steps p.tables e below (s₁.setTop (mkF m 0 #[.val (.int p1), .val (.int p2), .val (.int p3), .unset, .unset, .unset, .unset, .unset, .unset] [])) t → Steps p.tables e below (s₁.setTop (entryFrame m #[(.int p1), (.int p2), (.int p3)] maxLocals)) t := fun t k => castTop (ef_law0 m p1 p2 p3) k
  have hK' := hK
  obtain ⟨S_w_INTEGER, E_w_INTEGER, S_w_DECIMAL, E_w_DECIMAL, F_ordinal_w_INTEGER, F_ordinal_w_DECIMAL, S_w_CHAR, E_w_CHAR, F_ordinal_w_CHAR, S_w_VARCHAR, E_w_VARCHAR, F_ordinal_w_VARCHAR, S_w_BOOLEAN, E_w_BOOLEAN, F_ordinal_w_BOOLEAN, S_w_INTERVAL, E_w_INTERVAL, F_ordinal_w_INTERVAL, S_w_DOUBLE, E_w_DOUBLE, F_ordinal_w_DOUBLE, S_w_BIGINT, E_w_BIGINT, F_ordinal_w_BIGINT, S_w_DATE, E_w_DATE, F_ordinal_w_DATE⟩ := hK'
  obtain ⟨v1, _, ⟨T1, L1, k1, n1⟩, -, X1, ⟨Lc1, hQ1, l1, y1, z1⟩, st1⟩ := Jvm.LawKit.callS X0 hx (y := (⟨"com/example/cairn/cairn/types/DataTypeIsStorablePinLaw", "pick", "(I)Lcom/example/cairn/cairn/types/DataType$Kind;"⟩ : MethodName)) hown (mvT hZ (hw _ (ow 1 rfl))) (mvT hZ (hw _ (ow 2 rfl))) (mvT hZ (hw _ (ow 3 rfl))) (mvT hZ (hw _ (ow 4 rfl))) (by decide) (backOf (W := 0) (rm_pick l Z a0 hw [] (0 : Int32) h0 n0 w_INTEGER w_DECIMAL w_CHAR w_VARCHAR w_BOOLEAN w_INTERVAL w_DOUBLE w_BIGINT w_DATE hK) hZ (hw _ (ow 4 rfl)) (hw _ (ow 3 rfl)) (by decide) (by decide)) (g := (mkF m 9 #[.val (.int p1), .val (.int p2), .val (.int p3), .val (.int (0 : Int32)), .unset, .unset, .unset, .unset, .unset] [(.int (0 : Int32))])) rfl (by rw [hml]; rfl) (argsL := [(.int (0 : Int32))]) (rest := []) (lenOf pd_1 rfl) rfl (Nat.le_of_eq rfl) (hb hby at_9) (fun _ _ => ⟨rfl, e0, (by decide : 0 + 0 ≤ _), (by decide : 0 + 0 ≤ _)⟩)
  dsimp only [Pt.U, Pt.locs, Pt.cells, Pt.slots] at X1 l1 y1 z1 st1 hQ1
  subst l1 y1 z1
  obtain ⟨hv1, Nq1, e1⟩ := hQ1
  obtain rfl : v1 = some (.ref w_INTEGER) := hv1.trans (congrArg some (congrArg Value.ref (if_pos (by decide))))
  have N1 := Fr.app N0 Nq1
  obtain ⟨T2, h2, X2, e2, Eq2, A2, D2, -, st2⟩ := newO X1 hx hZ hown (hw _ (ow 8 rfl)) (hw _ (ow 9 rfl)) (hw _ (ow 10 rfl)) e1 (g := (mkF m 70 #[.val (.int p1), .val (.int p2), .val (.int p3), .val (.int (0 : Int32)), .val (.ref w_INTEGER), .val (.int (0 : Int32)), .val (.int (0 : Int32)), .unset, .unset] [])) rfl (hb hby at_70) (by decide) (by decide)
  obtain ⟨b2, gb2⟩ : ∃ z, z = h0.size := ⟨_, rfl⟩
  rw [← gb2] at A2 D2 st2
  have F2_kind : Fld Z h2 b2 "com/example/cairn/cairn/types/DataType" "kind" "Lcom/example/cairn/cairn/types/DataType$Kind;" .null := D2 (Or.inr (hw _ (ow 29 rfl))) (ty := (.object "com/example/cairn/cairn/types/DataType$Kind")) (by decide)
  have F2_precision : Fld Z h2 b2 "com/example/cairn/cairn/types/DataType" "precision" "I" (.int (0 : Int32)) := D2 (Or.inr (hw _ (ow 31 rfl))) (ty := .int) (by decide)
  have F2_scale : Fld Z h2 b2 "com/example/cairn/cairn/types/DataType" "scale" "I" (.int (0 : Int32)) := D2 (Or.inr (hw _ (ow 33 rfl))) (ty := .int) (by decide)
  have sz_b2 : h0.size ≤ b2 := Nat.le_of_eq gb2.symm
  have g_b2 : n0 ≤ b2 := Nat.le_trans Z0 sz_b2
  have EX2 : Ext h0 h2 := Eq2
  obtain ⟨v3, _, ⟨T3, L3, k3, n3⟩, -, X3, ⟨Lc3, hQ3, l3, y3, z3⟩, st3⟩ := X2.specialBack hx (y := (⟨"com/example/cairn/cairn/types/DataType", "<init>", "(Lcom/example/cairn/cairn/types/DataType$Kind;II)V"⟩ : MethodName)) rfl hown (mvT hZ (hw _ (ow 11 rfl))) (mvT hZ (hw _ (ow 12 rfl))) (mvT hZ (hw _ (ow 13 rfl))) (by decide) (backOf (W := 1) (rm_init0 l Z a0 hw [] b2 h2 n0 w_INTEGER w_DECIMAL w_CHAR w_VARCHAR w_BOOLEAN w_INTERVAL w_DOUBLE w_BIGINT w_DATE (own_K_ext EX2 hK) F2_kind F2_precision F2_scale A2 g_b2) hZ (hw _ (ow 13 rfl)) (hw _ (ow 10 rfl)) (by decide) (by decide)) (g := (mkF m 80 #[.val (.int p1), .val (.int p2), .val (.int p3), .val (.int (0 : Int32)), .val (.ref w_INTEGER), .val (.int (0 : Int32)), .val (.int (0 : Int32)), .unset, .unset] [(.int (0 : Int32)), (.int (0 : Int32)), (.ref w_INTEGER), (.ref b2), (.ref b2)])) rfl (by rw [hml]; rfl) (Steps.refl _) (a := b2) (argsL := [(.ref w_INTEGER), (.int (0 : Int32)), (.int (0 : Int32))]) (rest := [(.ref b2)]) (lenOf pd_2 rfl) rfl (Nat.le_of_eq rfl) (hb hby at_80) (fun _ _ => ⟨rfl, e2, (by decide : 1 + 0 ≤ _), (by decide : 3 + 0 ≤ _)⟩)
  dsimp only [Pt.U, Pt.locs, Pt.cells, Pt.slots] at X3 l3 y3 z3 st3 hQ3
  subst l3 y3 z3
  obtain ⟨hv3, Nq3, Kq3, Ei3, Fi3⟩ := hQ3
  obtain rfl : v3 = none := hv3
  have N3 := Fr.app N1 Nq3
  have EX3 : Ext h0 T3.heap := own_ext_keep EX2 Kq3 sz_b2
  obtain ⟨cq4, kq4, q4a, q4b, q4c⟩ := isOf hZ (rfl : T3.heap = T3.heap) Ei3
  obtain ⟨v4, _, ⟨T4, L4, k4, n4⟩, -, X4, ⟨Lc4, hQ4, l4, y4, z4⟩, st4⟩ := X3.virtualBack hx (y := (⟨"com/example/cairn/cairn/types/DataType", "isStorable", "()Z"⟩ : MethodName)) (z := (⟨"com/example/cairn/cairn/types/DataType", "isStorable", "()Z"⟩ : MethodName)) hown (mvT hZ (hw _ (ow 34 rfl))) (mvT hZ (hw _ (ow 35 rfl))) (notFace_of_selects (args := #[]) (mvT hZ (hw _ (ow 37 rfl)))) (mvT hZ (hw _ (ow 37 rfl))) (mvT hZ (hw _ (ow 36 rfl))) (by decide) (backOf (W := 0) (rm_isStorable l Z a0 hw [] b2 w_INTEGER T3.heap n0 w_INTEGER w_DECIMAL w_CHAR w_VARCHAR w_BOOLEAN w_INTERVAL w_DOUBLE w_BIGINT w_DATE (own_K_ext EX3 hK) Fi3) hZ (hw _ (ow 38 rfl)) (hw _ (ow 10 rfl)) (by decide) (by decide)) q4a q4c (g := (mkF m 99 #[.val (.int p1), .val (.int p2), .val (.int p3), .val (.int (0 : Int32)), .val (.ref w_INTEGER), .val (.int (0 : Int32)), .val (.int (0 : Int32)), .val (.ref b2), .val (.int (1 : Int32))] [(.ref b2)])) rfl (by rw [hml]; rfl) (Steps.refl _) (argsL := []) (rest := []) (lenOf pd_3 rfl) rfl (Nat.le_of_eq rfl) (hb hby at_99) (fun _ _ => ⟨rfl, (rfl : T3.heap = T3.heap), (by decide : 1 + 0 ≤ _), (by decide : 3 + 0 ≤ _)⟩)
  dsimp only [Pt.U, Pt.locs, Pt.cells, Pt.slots] at X4 l4 y4 z4 st4 hQ4
  subst l4 y4 z4
  obtain ⟨hv4, Nq4, e4⟩ := hQ4
  obtain rfl : v4 = some (.int (1 : Int32)) := hv4.trans (congrArg some (congrArg Value.int ((if_neg (Fld.ne F_ordinal_w_INTEGER F_ordinal_w_BOOLEAN (by decide))).trans ((if_neg (Fld.ne F_ordinal_w_INTEGER F_ordinal_w_INTERVAL (by decide))).trans (if_neg (Fld.ne F_ordinal_w_INTEGER F_ordinal_w_DOUBLE (by decide)))))))
  have N4 := Fr.app N3 Nq4
  have pre5 : ∀ t, Steps p.tables e below (T4.setTop (mkF m 112 #[.val (.int p1), .val (.int p2), .val (.int p3), .val (.int (0 : Int32)), .val (.ref w_INTEGER), .val (.int (0 : Int32)), .val (.int (0 : Int32)), .val (.ref b2), .val (.int (1 : Int32))] [(.int (1 : Int32))])) t → Steps p.tables e below (s₁.setTop (entryFrame m #[(.int p1), (.int p2), (.int p3)] maxLocals)) t := fun t k => pre0 t (by
    show Steps p.tables e below (s₁.setTop (mkF m 0 #[.val (.int p1), .val (.int p2), .val (.int p3), .unset, .unset, .unset, .unset, .unset, .unset] [])) _
    refine XS.iloadN X0.here hx rfl (hb hby at_0) rfl ?_
    show Steps p.tables e below (s₁.setTop (mkF m 1 #[.val (.int p1), .val (.int p2), .val (.int p3), .unset, .unset, .unset, .unset, .unset, .unset] [(.int p1)])) _
    refine X0.ldcInt hx hown (mvT hZ (hw _ (ow 0 rfl))) (g := (mkF m 1 #[.val (.int p1), .val (.int p2), .val (.int p3), .unset, .unset, .unset, .unset, .unset, .unset] [(.int p1)])) rfl (hb hby at_1) _ ?_
    show Steps p.tables e below (s₁.setTop (mkF m 3 #[.val (.int p1), .val (.int p2), .val (.int p3), .unset, .unset, .unset, .unset, .unset, .unset] [(.int (2147483647 : Int32)), (.int p1)])) _
    refine XS.iand X0.here hx rfl (hb hby at_3) rfl ?_
    show Steps p.tables e below (s₁.setTop (mkF m 4 #[.val (.int p1), .val (.int p2), .val (.int p3), .unset, .unset, .unset, .unset, .unset, .unset] [(.int (p1 &&& (2147483647 : Int32)))])) _
    refine XS.bipush X0.here hx rfl (hb hby at_4) ?_
    show Steps p.tables e below (s₁.setTop (mkF m 6 #[.val (.int p1), .val (.int p2), .val (.int p3), .unset, .unset, .unset, .unset, .unset, .unset] [(.int (9 : Int32)), (.int (p1 &&& (2147483647 : Int32)))])) _
    refine iremM X0 hx rfl (hb hby at_6) rfl (by decide) ?_
    show Steps p.tables e below (s₁.setTop (mkF m 7 #[.val (.int p1), .val (.int p2), .val (.int p3), .unset, .unset, .unset, .unset, .unset, .unset] [(.int ((p1 &&& (2147483647 : Int32)) % (9 : Int32)))])) _
    rw [hk]
    show Steps p.tables e below (s₁.setTop (mkF m 7 #[.val (.int p1), .val (.int p2), .val (.int p3), .unset, .unset, .unset, .unset, .unset, .unset] [(.int (0 : Int32))])) _
    refine XS.istoreN X0.here hx rfl (hb hby at_7) rfl (l' := #[.val (.int p1), .val (.int p2), .val (.int p3), .val (.int (0 : Int32)), .unset, .unset, .unset, .unset, .unset]) rfl ?_
    show Steps p.tables e below (s₁.setTop (mkF m 8 #[.val (.int p1), .val (.int p2), .val (.int p3), .val (.int (0 : Int32)), .unset, .unset, .unset, .unset, .unset] [])) _
    refine XS.iloadN X0.here hx rfl (hb hby at_8) rfl ?_
    show Steps p.tables e below (s₁.setTop (mkF m 9 #[.val (.int p1), .val (.int p2), .val (.int p3), .val (.int (0 : Int32)), .unset, .unset, .unset, .unset, .unset] [(.int (0 : Int32))])) _
    refine st1 _ ?_
    show Steps p.tables e below (T1.setTop (mkF m 12 #[.val (.int p1), .val (.int p2), .val (.int p3), .val (.int (0 : Int32)), .unset, .unset, .unset, .unset, .unset] [(.ref w_INTEGER)])) _
    refine XS.astore X1.here hx rfl (hb hby at_12) rfl rfl (l' := #[.val (.int p1), .val (.int p2), .val (.int p3), .val (.int (0 : Int32)), .val (.ref w_INTEGER), .unset, .unset, .unset, .unset]) rfl ?_
    show Steps p.tables e below (T1.setTop (mkF m 14 #[.val (.int p1), .val (.int p2), .val (.int p3), .val (.int (0 : Int32)), .val (.ref w_INTEGER), .unset, .unset, .unset, .unset] [])) _
    refine XS.iconst X1.here hx rfl (hb hby at_14) ?_
    show Steps p.tables e below (T1.setTop (mkF m 15 #[.val (.int p1), .val (.int p2), .val (.int p3), .val (.int (0 : Int32)), .val (.ref w_INTEGER), .unset, .unset, .unset, .unset] [(.int (0 : Int32))])) _
    refine XS.istore X1.here hx rfl (hb hby at_15) rfl (l' := #[.val (.int p1), .val (.int p2), .val (.int p3), .val (.int (0 : Int32)), .val (.ref w_INTEGER), .val (.int (0 : Int32)), .unset, .unset, .unset]) rfl ?_
    show Steps p.tables e below (T1.setTop (mkF m 17 #[.val (.int p1), .val (.int p2), .val (.int p3), .val (.int (0 : Int32)), .val (.ref w_INTEGER), .val (.int (0 : Int32)), .unset, .unset, .unset] [])) _
    refine XS.iconst X1.here hx rfl (hb hby at_17) ?_
    show Steps p.tables e below (T1.setTop (mkF m 18 #[.val (.int p1), .val (.int p2), .val (.int p3), .val (.int (0 : Int32)), .val (.ref w_INTEGER), .val (.int (0 : Int32)), .unset, .unset, .unset] [(.int (0 : Int32))])) _
    refine XS.istore X1.here hx rfl (hb hby at_18) rfl (l' := #[.val (.int p1), .val (.int p2), .val (.int p3), .val (.int (0 : Int32)), .val (.ref w_INTEGER), .val (.int (0 : Int32)), .val (.int (0 : Int32)), .unset, .unset]) rfl ?_
    show Steps p.tables e below (T1.setTop (mkF m 20 #[.val (.int p1), .val (.int p2), .val (.int p3), .val (.int (0 : Int32)), .val (.ref w_INTEGER), .val (.int (0 : Int32)), .val (.int (0 : Int32)), .unset, .unset] [])) _
    refine XS.iloadN X1.here hx rfl (hb hby at_20) rfl ?_
    show Steps p.tables e below (T1.setTop (mkF m 21 #[.val (.int p1), .val (.int p2), .val (.int p3), .val (.int (0 : Int32)), .val (.ref w_INTEGER), .val (.int (0 : Int32)), .val (.int (0 : Int32)), .unset, .unset] [(.int (0 : Int32))])) _
    refine XS.iconst X1.here hx rfl (hb hby at_21) ?_
    show Steps p.tables e below (T1.setTop (mkF m 22 #[.val (.int p1), .val (.int p2), .val (.int p3), .val (.int (0 : Int32)), .val (.ref w_INTEGER), .val (.int (0 : Int32)), .val (.int (0 : Int32)), .unset, .unset] [(.int (2 : Int32)), (.int (0 : Int32))])) _
    refine XS.icmpYes X1.here hx rfl (pc0 := 22) (pc' := 50) rfl (hb hby at_22) rfl (feq (by decide)).2 (by decide) (by decide) ?_
    show Steps p.tables e below (T1.setTop (mkF m 50 #[.val (.int p1), .val (.int p2), .val (.int p3), .val (.int (0 : Int32)), .val (.ref w_INTEGER), .val (.int (0 : Int32)), .val (.int (0 : Int32)), .unset, .unset] [])) _
    refine XS.iloadN X1.here hx rfl (hb hby at_50) rfl ?_
    show Steps p.tables e below (T1.setTop (mkF m 51 #[.val (.int p1), .val (.int p2), .val (.int p3), .val (.int (0 : Int32)), .val (.ref w_INTEGER), .val (.int (0 : Int32)), .val (.int (0 : Int32)), .unset, .unset] [(.int (0 : Int32))])) _
    refine XS.iconst X1.here hx rfl (hb hby at_51) ?_
    show Steps p.tables e below (T1.setTop (mkF m 52 #[.val (.int p1), .val (.int p2), .val (.int p3), .val (.int (0 : Int32)), .val (.ref w_INTEGER), .val (.int (0 : Int32)), .val (.int (0 : Int32)), .unset, .unset] [(.int (4 : Int32)), (.int (0 : Int32))])) _
    refine XS.icmpNo X1.here hx rfl (hb hby at_52) rfl (feq (by decide)).1 ?_
    show Steps p.tables e below (T1.setTop (mkF m 55 #[.val (.int p1), .val (.int p2), .val (.int p3), .val (.int (0 : Int32)), .val (.ref w_INTEGER), .val (.int (0 : Int32)), .val (.int (0 : Int32)), .unset, .unset] [])) _
    refine XS.iloadN X1.here hx rfl (hb hby at_55) rfl ?_
    show Steps p.tables e below (T1.setTop (mkF m 56 #[.val (.int p1), .val (.int p2), .val (.int p3), .val (.int (0 : Int32)), .val (.ref w_INTEGER), .val (.int (0 : Int32)), .val (.int (0 : Int32)), .unset, .unset] [(.int (0 : Int32))])) _
    refine XS.iconst X1.here hx rfl (hb hby at_56) ?_
    show Steps p.tables e below (T1.setTop (mkF m 57 #[.val (.int p1), .val (.int p2), .val (.int p3), .val (.int (0 : Int32)), .val (.ref w_INTEGER), .val (.int (0 : Int32)), .val (.int (0 : Int32)), .unset, .unset] [(.int (5 : Int32)), (.int (0 : Int32))])) _
    refine XS.icmpYes X1.here hx rfl (pc0 := 57) (pc' := 70) rfl (hb hby at_57) rfl (feq (by decide)).2 (by decide) (by decide) ?_
    show Steps p.tables e below (T1.setTop (mkF m 70 #[.val (.int p1), .val (.int p2), .val (.int p3), .val (.int (0 : Int32)), .val (.ref w_INTEGER), .val (.int (0 : Int32)), .val (.int (0 : Int32)), .unset, .unset] [])) _
    refine st2 _ ?_
    show Steps p.tables e below (T2.setTop (mkF m 73 #[.val (.int p1), .val (.int p2), .val (.int p3), .val (.int (0 : Int32)), .val (.ref w_INTEGER), .val (.int (0 : Int32)), .val (.int (0 : Int32)), .unset, .unset] [(.ref b2)])) _
    refine XS.dup X2.here hx rfl (hb hby at_73) rfl rfl ?_
    show Steps p.tables e below (T2.setTop (mkF m 74 #[.val (.int p1), .val (.int p2), .val (.int p3), .val (.int (0 : Int32)), .val (.ref w_INTEGER), .val (.int (0 : Int32)), .val (.int (0 : Int32)), .unset, .unset] [(.ref b2), (.ref b2)])) _
    refine XS.aload X2.here hx rfl (hb hby at_74) rfl rfl ?_
    show Steps p.tables e below (T2.setTop (mkF m 76 #[.val (.int p1), .val (.int p2), .val (.int p3), .val (.int (0 : Int32)), .val (.ref w_INTEGER), .val (.int (0 : Int32)), .val (.int (0 : Int32)), .unset, .unset] [(.ref w_INTEGER), (.ref b2), (.ref b2)])) _
    refine XS.iload X2.here hx rfl (hb hby at_76) rfl ?_
    show Steps p.tables e below (T2.setTop (mkF m 78 #[.val (.int p1), .val (.int p2), .val (.int p3), .val (.int (0 : Int32)), .val (.ref w_INTEGER), .val (.int (0 : Int32)), .val (.int (0 : Int32)), .unset, .unset] [(.int (0 : Int32)), (.ref w_INTEGER), (.ref b2), (.ref b2)])) _
    refine XS.iload X2.here hx rfl (hb hby at_78) rfl ?_
    show Steps p.tables e below (T2.setTop (mkF m 80 #[.val (.int p1), .val (.int p2), .val (.int p3), .val (.int (0 : Int32)), .val (.ref w_INTEGER), .val (.int (0 : Int32)), .val (.int (0 : Int32)), .unset, .unset] [(.int (0 : Int32)), (.int (0 : Int32)), (.ref w_INTEGER), (.ref b2), (.ref b2)])) _
    refine st3.trans ?_
    show Steps p.tables e below (T3.setTop (mkF m 83 #[.val (.int p1), .val (.int p2), .val (.int p3), .val (.int (0 : Int32)), .val (.ref w_INTEGER), .val (.int (0 : Int32)), .val (.int (0 : Int32)), .unset, .unset] [(.ref b2)])) _
    refine XS.astore X3.here hx rfl (hb hby at_83) rfl rfl (l' := #[.val (.int p1), .val (.int p2), .val (.int p3), .val (.int (0 : Int32)), .val (.ref w_INTEGER), .val (.int (0 : Int32)), .val (.int (0 : Int32)), .val (.ref b2), .unset]) rfl ?_
    show Steps p.tables e below (T3.setTop (mkF m 85 #[.val (.int p1), .val (.int p2), .val (.int p3), .val (.int (0 : Int32)), .val (.ref w_INTEGER), .val (.int (0 : Int32)), .val (.int (0 : Int32)), .val (.ref b2), .unset] [])) _
    refine XS.iloadN X3.here hx rfl (hb hby at_85) rfl ?_
    show Steps p.tables e below (T3.setTop (mkF m 86 #[.val (.int p1), .val (.int p2), .val (.int p3), .val (.int (0 : Int32)), .val (.ref w_INTEGER), .val (.int (0 : Int32)), .val (.int (0 : Int32)), .val (.ref b2), .unset] [(.int (0 : Int32))])) _
    refine XS.iconst X3.here hx rfl (hb hby at_86) ?_
    show Steps p.tables e below (T3.setTop (mkF m 87 #[.val (.int p1), .val (.int p2), .val (.int p3), .val (.int (0 : Int32)), .val (.ref w_INTEGER), .val (.int (0 : Int32)), .val (.int (0 : Int32)), .val (.ref b2), .unset] [(.int (5 : Int32)), (.int (0 : Int32))])) _
    refine XS.icmpNo X3.here hx rfl (hb hby at_87) rfl (flt (by decide)).2.2.1 ?_
    show Steps p.tables e below (T3.setTop (mkF m 90 #[.val (.int p1), .val (.int p2), .val (.int p3), .val (.int (0 : Int32)), .val (.ref w_INTEGER), .val (.int (0 : Int32)), .val (.int (0 : Int32)), .val (.ref b2), .unset] [])) _
    refine XS.iconst X3.here hx rfl (hb hby at_90) ?_
    show Steps p.tables e below (T3.setTop (mkF m 91 #[.val (.int p1), .val (.int p2), .val (.int p3), .val (.int (0 : Int32)), .val (.ref w_INTEGER), .val (.int (0 : Int32)), .val (.int (0 : Int32)), .val (.ref b2), .unset] [(.int (1 : Int32))])) _
    refine XS.goto X3.here hx rfl (pc0 := 91) (pc' := 95) rfl (hb hby at_91) (by decide) (by decide) ?_
    show Steps p.tables e below (T3.setTop (mkF m 95 #[.val (.int p1), .val (.int p2), .val (.int p3), .val (.int (0 : Int32)), .val (.ref w_INTEGER), .val (.int (0 : Int32)), .val (.int (0 : Int32)), .val (.ref b2), .unset] [(.int (1 : Int32))])) _
    refine XS.istore X3.here hx rfl (hb hby at_95) rfl (l' := #[.val (.int p1), .val (.int p2), .val (.int p3), .val (.int (0 : Int32)), .val (.ref w_INTEGER), .val (.int (0 : Int32)), .val (.int (0 : Int32)), .val (.ref b2), .val (.int (1 : Int32))]) rfl ?_
    show Steps p.tables e below (T3.setTop (mkF m 97 #[.val (.int p1), .val (.int p2), .val (.int p3), .val (.int (0 : Int32)), .val (.ref w_INTEGER), .val (.int (0 : Int32)), .val (.int (0 : Int32)), .val (.ref b2), .val (.int (1 : Int32))] [])) _
    refine XS.aload X3.here hx rfl (hb hby at_97) rfl rfl ?_
    show Steps p.tables e below (T3.setTop (mkF m 99 #[.val (.int p1), .val (.int p2), .val (.int p3), .val (.int (0 : Int32)), .val (.ref w_INTEGER), .val (.int (0 : Int32)), .val (.int (0 : Int32)), .val (.ref b2), .val (.int (1 : Int32))] [(.ref b2)])) _
    refine st4.trans ?_
    show Steps p.tables e below (T4.setTop (mkF m 102 #[.val (.int p1), .val (.int p2), .val (.int p3), .val (.int (0 : Int32)), .val (.ref w_INTEGER), .val (.int (0 : Int32)), .val (.int (0 : Int32)), .val (.ref b2), .val (.int (1 : Int32))] [(.int (1 : Int32))])) _
    refine XS.iload X4.here hx rfl (hb hby at_102) rfl ?_
    show Steps p.tables e below (T4.setTop (mkF m 104 #[.val (.int p1), .val (.int p2), .val (.int p3), .val (.int (0 : Int32)), .val (.ref w_INTEGER), .val (.int (0 : Int32)), .val (.int (0 : Int32)), .val (.ref b2), .val (.int (1 : Int32))] [(.int (1 : Int32)), (.int (1 : Int32))])) _
    refine XS.icmpNo X4.here hx rfl (hb hby at_104) rfl (teq (by decide)).2 ?_
    show Steps p.tables e below (T4.setTop (mkF m 107 #[.val (.int p1), .val (.int p2), .val (.int p3), .val (.int (0 : Int32)), .val (.ref w_INTEGER), .val (.int (0 : Int32)), .val (.int (0 : Int32)), .val (.ref b2), .val (.int (1 : Int32))] [])) _
    refine XS.iconst X4.here hx rfl (hb hby at_107) ?_
    show Steps p.tables e below (T4.setTop (mkF m 108 #[.val (.int p1), .val (.int p2), .val (.int p3), .val (.int (0 : Int32)), .val (.ref w_INTEGER), .val (.int (0 : Int32)), .val (.int (0 : Int32)), .val (.ref b2), .val (.int (1 : Int32))] [(.int (1 : Int32))])) _
    refine XS.goto X4.here hx rfl (pc0 := 108) (pc' := 112) rfl (hb hby at_108) (by decide) (by decide) ?_
    exact k)
  obtain ⟨fs, hr, hrun, hended, hW, hsame⟩ := X4.leave (v := some (.int (1 : Int32))) (fun h => by rw [Bd.returns] at h; cases h)
  refine ⟨_, _, pre5 _ ?_, hrun, hended, _, _, rfl, ?_, ⟨_, rfl⟩, hW, hsame.mono (by decide) (by decide)⟩
  · show Steps p.tables e below (T4.setTop (mkF m 112 #[.val (.int p1), .val (.int p2), .val (.int p3), .val (.int (0 : Int32)), .val (.ref w_INTEGER), .val (.int (0 : Int32)), .val (.int (0 : Int32)), .val (.ref b2), .val (.int (1 : Int32))] [(.int (1 : Int32))])) _
    exact retN X4 hx (t := .boolean) Bd.returns (by simp) (hb hby at_112) hr
  · exact ⟨rfl, N4, trivial⟩
def own_Q_init1 (Z : State) (a1 : Addr) (w_INTEGER w_DECIMAL w_CHAR w_VARCHAR w_BOOLEAN w_INTERVAL w_DOUBLE w_BIGINT w_DATE : Addr) (h0 : Heap) (n0 : Nat) (v : Option Value) (h : Heap) (L : List Loc) : Prop := v = none ∧ Fr n0 L ∧ Keep h0 h [a1] ∧ Exa Z h a1 "com/example/cairn/cairn/types/DataType" ∧ Fld Z h a1 "com/example/cairn/cairn/types/DataType" "kind" "Lcom/example/cairn/cairn/types/DataType$Kind;" (.ref w_BIGINT)
theorem ef_init1 (m : MethodId) (x0 : Addr) (x1 : Addr) (x2 : Int32) (x3 : Int32) : entryFrame m #[(.ref x0), (.ref x1), (.int x2), (.int x3)] 5 = mkF m 0 #[.val (.ref x0), .val (.ref x1), .val (.int x2), .val (.int x3), .unset] [] := by first | (simp [entryFrame, mkF, argsToLocals, Value.category]; done) | rfl
set_option maxRecDepth 65536 in
set_option maxHeartbeats 40000000 in
theorem rm_init1 (l : Launch) (Z : State) (a0 : Array Value) (hw : ∀ d ∈ tables_1, d.before a0 Z = true) (ws : List Jvm.Cond) (a1 : Addr) (h0 : Heap) (n0 : Nat) (w_INTEGER w_DECIMAL w_CHAR w_VARCHAR w_BOOLEAN w_INTERVAL w_DOUBLE w_BIGINT w_DATE : Addr) (hK : own_K Z h0 w_INTEGER w_DECIMAL w_CHAR w_VARCHAR w_BOOLEAN w_INTERVAL w_DOUBLE w_BIGINT w_DATE) (F_kind : Fld Z h0 a1 "com/example/cairn/cairn/types/DataType" "kind" "Lcom/example/cairn/cairn/types/DataType$Kind;" .null) (F_precision : Fld Z h0 a1 "com/example/cairn/cairn/types/DataType" "precision" "I" (.int (0 : Int32))) (F_scale : Fld Z h0 a1 "com/example/cairn/cairn/types/DataType" "scale" "I" (.int (0 : Int32))) (E_a1 : Exa Z h0 a1 "com/example/cairn/cairn/types/DataType") (g_a1 : n0 ≤ a1) :
    MetFree l (⟨"com/example/cairn/cairn/types/DataType", "<init>", "(Lcom/example/cairn/cairn/types/DataType$Kind;II)V"⟩ : MethodName) (head1 (Jvm.Cond.code (⟨"com/example/cairn/cairn/types/DataType", "<init>", "(Lcom/example/cairn/cairn/types/DataType$Kind;II)V"⟩ : MethodName) prog_163_method_1_code 5 none :: ws) ({ frames := 2, cells := 0, slots := 0, locals := 24 } : Room)) (fun a U => a = #[(.ref a1), (.ref w_BIGINT), (.int (0 : Int32)), (.int (0 : Int32))] ∧ Z.Warmed39 U.vm ∧ U.heap = h0) (fun _ _ _ _ _ => True) (fun _ U o U' => ∃ v L, o = .returned v ∧ own_Q_init1 Z a1 w_INTEGER w_DECIMAL w_CHAR w_VARCHAR w_BOOLEAN w_INTERVAL w_DOUBLE w_BIGINT w_DATE h0 n0 v U'.heap L ∧ FrameEnd U o U' L ({ frames := 2, cells := 0, slots := 0, locals := 24 } : Room).cells ({ frames := 2, cells := 0, slots := 0, locals := 24 } : Room).slots) := by
  refine MetFree.of_bodySF (plainFor_of_name pn_2) hisR ?_
  intro p e s m args below meth c s₁ Bd hml0 hP hK0
  obtain ⟨rfl, hZ, hh⟩ := hP
  have hx := Bd.exec
  have hby := Bd.bytes
  have hml : c.maxLocals = 5 := hml0
  have hown : s.vm.findClass "com/example/cairn/cairn/types/DataType" = some m.cls := findClass_of_methodNamed Bd.named
  have hnm := (name_of_methodNamed Bd.named Bd.method).1
  have X0 : Stand p l e ({ frames := 2, cells := 0, slots := 0, locals := 24 } : Room) s m #[(.ref a1), (.ref w_BIGINT), (.int (0 : Int32)), (.int (0 : Int32))] below meth c s₁ [] 0 0 := Stand.of_body Bd
  have e0 : s₁.heap = h0 := by rw [← hh, Bd.state]; rfl
  have N0 := Fr.nil n0
  have pre0 : ∀ t, Steps p.tables e below (s₁.setTop (mkF m 0 #[.val (.ref a1), .val (.ref w_BIGINT), .val (.int (0 : Int32)), .val (.int (0 : Int32)), .unset] [])) t → Steps p.tables e below (s₁.setTop (entryFrame m #[(.ref a1), (.ref w_BIGINT), (.int (0 : Int32)), (.int (0 : Int32))] 5)) t := fun t k => castTop (ef_init1 m a1 w_BIGINT ((0 : Int32)) ((0 : Int32))) k
  have hK' := hK
  obtain ⟨S_w_INTEGER, E_w_INTEGER, S_w_DECIMAL, E_w_DECIMAL, F_ordinal_w_INTEGER, F_ordinal_w_DECIMAL, S_w_CHAR, E_w_CHAR, F_ordinal_w_CHAR, S_w_VARCHAR, E_w_VARCHAR, F_ordinal_w_VARCHAR, S_w_BOOLEAN, E_w_BOOLEAN, F_ordinal_w_BOOLEAN, S_w_INTERVAL, E_w_INTERVAL, F_ordinal_w_INTERVAL, S_w_DOUBLE, E_w_DOUBLE, F_ordinal_w_DOUBLE, S_w_BIGINT, E_w_BIGINT, F_ordinal_w_BIGINT, S_w_DATE, E_w_DATE, F_ordinal_w_DATE⟩ := hK'
  obtain ⟨v1, _, ⟨T1, L1, k1, n1⟩, -, X1, ⟨Lc1, hQ1, l1, y1, z1⟩, st1⟩ := X0.specialBack hx (y := (⟨"java/lang/Record", "<init>", "()V"⟩ : MethodName)) rfl hown (mvT hZ (hw _ (ow 14 rfl))) (mvT hZ (hw _ (ow 15 rfl))) (mvT hZ (hw _ (ow 18 rfl))) (by decide) (backOf (W := 0) (rm_record l Z a0 hw [] a1 h0 n0) hZ (hw _ (ow 18 rfl)) (hw _ (ow 17 rfl)) (by decide) (by decide)) (g := (mkF m 1 #[.val (.ref a1), .val (.ref w_BIGINT), .val (.int (0 : Int32)), .val (.int (0 : Int32)), .unset] [(.ref a1)])) rfl (by rw [hml]; rfl) (Steps.refl _) (a := a1) (argsL := []) (rest := []) (lenOf pd_0 rfl) rfl (Nat.le_of_eq rfl) (hb hby d_prog_163_method_1_1) (fun _ _ => ⟨rfl, e0, (by decide : 0 + 0 ≤ _), (by decide : 0 + 0 ≤ _)⟩)
  dsimp only [Pt.U, Pt.locs, Pt.cells, Pt.slots] at X1 l1 y1 z1 st1 hQ1
  subst l1 y1 z1
  obtain ⟨hv1, Nq1, e1⟩ := hQ1
  obtain rfl : v1 = none := hv1
  have N1 := Fr.app N0 Nq1
  obtain ⟨T2, X2, e2, st2⟩ := getS2 X1 hx hZ hown (host := "") (Or.inl (hw _ (ow 22 rfl))) Via.refl e1 S_w_DECIMAL (g := (mkF m 5 #[.val (.ref a1), .val (.ref w_BIGINT), .val (.int (0 : Int32)), .val (.int (0 : Int32)), .unset] [(.ref w_BIGINT)])) rfl (hb hby d_prog_163_method_1_5)
  obtain ⟨T3, X3, e3, st3⟩ := getS2 X2 hx hZ hown (host := "") (Or.inl (hw _ (ow 24 rfl))) Via.refl e2 S_w_CHAR (g := (mkF m 12 #[.val (.ref a1), .val (.ref w_BIGINT), .val (.int (0 : Int32)), .val (.int (0 : Int32)), .unset] [(.ref w_BIGINT)])) rfl (hb hby d_prog_163_method_1_12)
  obtain ⟨T4, X4, e4, st4⟩ := getS2 X3 hx hZ hown (host := "") (Or.inl (hw _ (ow 26 rfl))) Via.refl e3 S_w_VARCHAR (g := (mkF m 19 #[.val (.ref a1), .val (.ref w_BIGINT), .val (.int (0 : Int32)), .val (.int (0 : Int32)), .unset] [(.ref w_BIGINT)])) rfl (hb hby d_prog_163_method_1_19)
  obtain ⟨T5, X5, e5, st5⟩ := getS2 X4 hx hZ hown (host := "") (Or.inl (hw _ (ow 22 rfl))) Via.refl e4 S_w_DECIMAL (g := (mkF m 68 #[.val (.ref a1), .val (.ref w_BIGINT), .val (.int (0 : Int32)), .val (.int (0 : Int32)), .val (.int (0 : Int32))] [(.ref w_BIGINT)])) rfl (hb hby d_prog_163_method_1_68)
  obtain ⟨T6, h6, X6, e6, W6, st6⟩ := putF X5 hx hZ hown (host := "") (Or.inl (hw _ (ow 28 rfl))) Via.refl e5 F_kind E_a1 (Or.inr ⟨(hw _ (ow 29 rfl)), rfl, hnm⟩) (hw _ (ow 9 rfl)) (ty := (.object "com/example/cairn/cairn/types/DataType$Kind")) (by decide) rfl rfl (g := (mkF m 113 #[.val (.ref a1), .val (.ref w_BIGINT), .val (.int (0 : Int32)), .val (.int (0 : Int32)), .val (.int (0 : Int32))] [(.ref w_BIGINT), (.ref a1)])) rfl rfl (hb hby d_prog_163_method_1_113)
  have Fw6 := F_kind.same W6
  have Ew6 := E_a1.wr W6
  have K6 : Keep h0 h6 [a1] := (Keep.refl h0 [a1]).wr W6 (Or.inl (List.mem_of_getElem? (i := 0) rfl))
  have N6 := Fr.snoc X6 N1 g_a1
  have F6_precision := F_precision.other W6 (Or.inr (slot_ne (Or.inr (hw _ (ow 31 rfl))) (Or.inr (hw _ (ow 29 rfl))) (by decide) (t := .int) (t' := (.object "com/example/cairn/cairn/types/DataType$Kind")) (by decide) (by decide)))
  have F6_scale := F_scale.other W6 (Or.inr (slot_ne (Or.inr (hw _ (ow 33 rfl))) (Or.inr (hw _ (ow 29 rfl))) (by decide) (t := .int) (t' := (.object "com/example/cairn/cairn/types/DataType$Kind")) (by decide) (by decide)))
  obtain ⟨T7, h7, X7, e7, W7, st7⟩ := putF X6 hx hZ hown (host := "") (Or.inl (hw _ (ow 30 rfl))) Via.refl e6 F6_precision Ew6 (Or.inr ⟨(hw _ (ow 31 rfl)), rfl, hnm⟩) (hw _ (ow 9 rfl)) (ty := .int) (by decide) rfl rfl (g := (mkF m 118 #[.val (.ref a1), .val (.ref w_BIGINT), .val (.int (0 : Int32)), .val (.int (0 : Int32)), .val (.int (0 : Int32))] [(.int (0 : Int32)), (.ref a1)])) rfl rfl (hb hby d_prog_163_method_1_118)
  have Fw7 := F6_precision.same W7
  have Ew7 := Ew6.wr W7
  have K7 : Keep h0 h7 [a1] := K6.wr W7 (Or.inl (List.mem_of_getElem? (i := 0) rfl))
  have N7 := Fr.snoc X7 N6 g_a1
  have F7_kind := Fw6.other W7 (Or.inr (slot_ne (Or.inr (hw _ (ow 29 rfl))) (Or.inr (hw _ (ow 31 rfl))) (by decide) (t := (.object "com/example/cairn/cairn/types/DataType$Kind")) (t' := .int) (by decide) (by decide)))
  have F7_scale := F6_scale.other W7 (Or.inr (slot_ne (Or.inr (hw _ (ow 33 rfl))) (Or.inr (hw _ (ow 31 rfl))) (by decide) (t := .int) (t' := .int) (by decide) (by decide)))
  obtain ⟨T8, h8, X8, e8, W8, st8⟩ := putF X7 hx hZ hown (host := "") (Or.inl (hw _ (ow 32 rfl))) Via.refl e7 F7_scale Ew7 (Or.inr ⟨(hw _ (ow 33 rfl)), rfl, hnm⟩) (hw _ (ow 9 rfl)) (ty := .int) (by decide) rfl rfl (g := (mkF m 123 #[.val (.ref a1), .val (.ref w_BIGINT), .val (.int (0 : Int32)), .val (.int (0 : Int32)), .val (.int (0 : Int32))] [(.int (0 : Int32)), (.ref a1)])) rfl rfl (hb hby d_prog_163_method_1_123)
  have Fw8 := F7_scale.same W8
  have Ew8 := Ew7.wr W8
  have K8 : Keep h0 h8 [a1] := K7.wr W8 (Or.inl (List.mem_of_getElem? (i := 0) rfl))
  have N8 := Fr.snoc X8 N7 g_a1
  have F8_kind := F7_kind.other W8 (Or.inr (slot_ne (Or.inr (hw _ (ow 29 rfl))) (Or.inr (hw _ (ow 33 rfl))) (by decide) (t := (.object "com/example/cairn/cairn/types/DataType$Kind")) (t' := .int) (by decide) (by decide)))
  have F8_precision := Fw7.other W8 (Or.inr (slot_ne (Or.inr (hw _ (ow 31 rfl))) (Or.inr (hw _ (ow 33 rfl))) (by decide) (t := .int) (t' := .int) (by decide) (by decide)))
  have pre9 : ∀ t, Steps p.tables e below (T8.setTop (mkF m 126 #[.val (.ref a1), .val (.ref w_BIGINT), .val (.int (0 : Int32)), .val (.int (0 : Int32)), .val (.int (0 : Int32))] [])) t → Steps p.tables e below (s₁.setTop (entryFrame m #[(.ref a1), (.ref w_BIGINT), (.int (0 : Int32)), (.int (0 : Int32))] 5)) t := fun t k => pre0 t (by
    show Steps p.tables e below (s₁.setTop (mkF m 0 #[.val (.ref a1), .val (.ref w_BIGINT), .val (.int (0 : Int32)), .val (.int (0 : Int32)), .unset] [])) _
    refine XS.aloadN X0.here hx rfl (hb hby d_prog_163_method_1_0) rfl rfl ?_
    show Steps p.tables e below (s₁.setTop (mkF m 1 #[.val (.ref a1), .val (.ref w_BIGINT), .val (.int (0 : Int32)), .val (.int (0 : Int32)), .unset] [(.ref a1)])) _
    refine st1.trans ?_
    show Steps p.tables e below (T1.setTop (mkF m 4 #[.val (.ref a1), .val (.ref w_BIGINT), .val (.int (0 : Int32)), .val (.int (0 : Int32)), .unset] [])) _
    refine XS.aloadN X1.here hx rfl (hb hby d_prog_163_method_1_4) rfl rfl ?_
    show Steps p.tables e below (T1.setTop (mkF m 5 #[.val (.ref a1), .val (.ref w_BIGINT), .val (.int (0 : Int32)), .val (.int (0 : Int32)), .unset] [(.ref w_BIGINT)])) _
    refine st2 _ ?_
    show Steps p.tables e below (T2.setTop (mkF m 8 #[.val (.ref a1), .val (.ref w_BIGINT), .val (.int (0 : Int32)), .val (.int (0 : Int32)), .unset] [(.ref w_DECIMAL), (.ref w_BIGINT)])) _
    refine Jvm.RoadKit.acmp (g := (mkF m 8 #[.val (.ref a1), .val (.ref w_BIGINT), .val (.int (0 : Int32)), .val (.int (0 : Int32)), .unset] [(.ref w_DECIMAL), (.ref w_BIGINT)])) X2 hx rfl rfl rfl (pc0 := 8) (pc' := 11) (same := false) rfl (hb hby d_prog_163_method_1_8) rfl (decide_eq_false fun q => (Fld.ne F_ordinal_w_BIGINT F_ordinal_w_DECIMAL (by decide)) (Value.ref.inj q)) (by decide) (by decide) ?_
    show Steps p.tables e below (T2.setTop (mkF m 11 #[.val (.ref a1), .val (.ref w_BIGINT), .val (.int (0 : Int32)), .val (.int (0 : Int32)), .unset] [])) _
    refine XS.aloadN X2.here hx rfl (hb hby d_prog_163_method_1_11) rfl rfl ?_
    show Steps p.tables e below (T2.setTop (mkF m 12 #[.val (.ref a1), .val (.ref w_BIGINT), .val (.int (0 : Int32)), .val (.int (0 : Int32)), .unset] [(.ref w_BIGINT)])) _
    refine st3 _ ?_
    show Steps p.tables e below (T3.setTop (mkF m 15 #[.val (.ref a1), .val (.ref w_BIGINT), .val (.int (0 : Int32)), .val (.int (0 : Int32)), .unset] [(.ref w_CHAR), (.ref w_BIGINT)])) _
    refine Jvm.RoadKit.acmp (g := (mkF m 15 #[.val (.ref a1), .val (.ref w_BIGINT), .val (.int (0 : Int32)), .val (.int (0 : Int32)), .unset] [(.ref w_CHAR), (.ref w_BIGINT)])) X3 hx rfl rfl rfl (pc0 := 15) (pc' := 18) (same := false) rfl (hb hby d_prog_163_method_1_15) rfl (decide_eq_false fun q => (Fld.ne F_ordinal_w_BIGINT F_ordinal_w_CHAR (by decide)) (Value.ref.inj q)) (by decide) (by decide) ?_
    show Steps p.tables e below (T3.setTop (mkF m 18 #[.val (.ref a1), .val (.ref w_BIGINT), .val (.int (0 : Int32)), .val (.int (0 : Int32)), .unset] [])) _
    refine XS.aloadN X3.here hx rfl (hb hby d_prog_163_method_1_18) rfl rfl ?_
    show Steps p.tables e below (T3.setTop (mkF m 19 #[.val (.ref a1), .val (.ref w_BIGINT), .val (.int (0 : Int32)), .val (.int (0 : Int32)), .unset] [(.ref w_BIGINT)])) _
    refine st4 _ ?_
    show Steps p.tables e below (T4.setTop (mkF m 22 #[.val (.ref a1), .val (.ref w_BIGINT), .val (.int (0 : Int32)), .val (.int (0 : Int32)), .unset] [(.ref w_VARCHAR), (.ref w_BIGINT)])) _
    refine Jvm.RoadKit.acmp (g := (mkF m 22 #[.val (.ref a1), .val (.ref w_BIGINT), .val (.int (0 : Int32)), .val (.int (0 : Int32)), .unset] [(.ref w_VARCHAR), (.ref w_BIGINT)])) X4 hx rfl rfl rfl (pc0 := 22) (pc' := 29) (same := false) rfl (hb hby d_prog_163_method_1_22) rfl (decide_eq_false fun q => (Fld.ne F_ordinal_w_BIGINT F_ordinal_w_VARCHAR (by decide)) (Value.ref.inj q)) (by decide) (by decide) ?_
    show Steps p.tables e below (T4.setTop (mkF m 29 #[.val (.ref a1), .val (.ref w_BIGINT), .val (.int (0 : Int32)), .val (.int (0 : Int32)), .unset] [])) _
    refine XS.iconst X4.here hx rfl (hb hby d_prog_163_method_1_29) ?_
    show Steps p.tables e below (T4.setTop (mkF m 30 #[.val (.ref a1), .val (.ref w_BIGINT), .val (.int (0 : Int32)), .val (.int (0 : Int32)), .unset] [(.int (0 : Int32))])) _
    refine XS.istore X4.here hx rfl (hb hby d_prog_163_method_1_30) rfl (l' := #[.val (.ref a1), .val (.ref w_BIGINT), .val (.int (0 : Int32)), .val (.int (0 : Int32)), .val (.int (0 : Int32))]) rfl ?_
    show Steps p.tables e below (T4.setTop (mkF m 32 #[.val (.ref a1), .val (.ref w_BIGINT), .val (.int (0 : Int32)), .val (.int (0 : Int32)), .val (.int (0 : Int32))] [])) _
    refine XS.iload X4.here hx rfl (hb hby d_prog_163_method_1_32) rfl ?_
    show Steps p.tables e below (T4.setTop (mkF m 34 #[.val (.ref a1), .val (.ref w_BIGINT), .val (.int (0 : Int32)), .val (.int (0 : Int32)), .val (.int (0 : Int32))] [(.int (0 : Int32))])) _
    refine XS.ifYes X4.here hx rfl (pc0 := 34) (pc' := 45) rfl (hb hby d_prog_163_method_1_34) rfl ((if0 _ _).trans (teq (by decide)).1) (by decide) (by decide) ?_
    show Steps p.tables e below (T4.setTop (mkF m 45 #[.val (.ref a1), .val (.ref w_BIGINT), .val (.int (0 : Int32)), .val (.int (0 : Int32)), .val (.int (0 : Int32))] [])) _
    refine XS.iloadN X4.here hx rfl (hb hby d_prog_163_method_1_45) rfl ?_
    show Steps p.tables e below (T4.setTop (mkF m 46 #[.val (.ref a1), .val (.ref w_BIGINT), .val (.int (0 : Int32)), .val (.int (0 : Int32)), .val (.int (0 : Int32))] [(.int (0 : Int32))])) _
    refine XS.ifYes X4.here hx rfl (pc0 := 46) (pc' := 67) rfl (hb hby d_prog_163_method_1_46) rfl ((if0 _ _).trans (teq (by decide)).1) (by decide) (by decide) ?_
    show Steps p.tables e below (T4.setTop (mkF m 67 #[.val (.ref a1), .val (.ref w_BIGINT), .val (.int (0 : Int32)), .val (.int (0 : Int32)), .val (.int (0 : Int32))] [])) _
    refine XS.aloadN X4.here hx rfl (hb hby d_prog_163_method_1_67) rfl rfl ?_
    show Steps p.tables e below (T4.setTop (mkF m 68 #[.val (.ref a1), .val (.ref w_BIGINT), .val (.int (0 : Int32)), .val (.int (0 : Int32)), .val (.int (0 : Int32))] [(.ref w_BIGINT)])) _
    refine st5 _ ?_
    show Steps p.tables e below (T5.setTop (mkF m 71 #[.val (.ref a1), .val (.ref w_BIGINT), .val (.int (0 : Int32)), .val (.int (0 : Int32)), .val (.int (0 : Int32))] [(.ref w_DECIMAL), (.ref w_BIGINT)])) _
    refine Jvm.RoadKit.acmp (g := (mkF m 71 #[.val (.ref a1), .val (.ref w_BIGINT), .val (.int (0 : Int32)), .val (.int (0 : Int32)), .val (.int (0 : Int32))] [(.ref w_DECIMAL), (.ref w_BIGINT)])) X5 hx rfl rfl rfl (pc0 := 71) (pc' := 92) (same := false) rfl (hb hby d_prog_163_method_1_71) rfl (decide_eq_false fun q => (Fld.ne F_ordinal_w_BIGINT F_ordinal_w_DECIMAL (by decide)) (Value.ref.inj q)) (by decide) (by decide) ?_
    show Steps p.tables e below (T5.setTop (mkF m 92 #[.val (.ref a1), .val (.ref w_BIGINT), .val (.int (0 : Int32)), .val (.int (0 : Int32)), .val (.int (0 : Int32))] [])) _
    refine XS.iloadN X5.here hx rfl (hb hby d_prog_163_method_1_92) rfl ?_
    show Steps p.tables e below (T5.setTop (mkF m 93 #[.val (.ref a1), .val (.ref w_BIGINT), .val (.int (0 : Int32)), .val (.int (0 : Int32)), .val (.int (0 : Int32))] [(.int (0 : Int32))])) _
    refine XS.ifYes X5.here hx rfl (pc0 := 93) (pc' := 111) rfl (hb hby d_prog_163_method_1_93) rfl ((if0 _ _).trans (teq (by decide)).1) (by decide) (by decide) ?_
    show Steps p.tables e below (T5.setTop (mkF m 111 #[.val (.ref a1), .val (.ref w_BIGINT), .val (.int (0 : Int32)), .val (.int (0 : Int32)), .val (.int (0 : Int32))] [])) _
    refine XS.aloadN X5.here hx rfl (hb hby d_prog_163_method_1_111) rfl rfl ?_
    show Steps p.tables e below (T5.setTop (mkF m 112 #[.val (.ref a1), .val (.ref w_BIGINT), .val (.int (0 : Int32)), .val (.int (0 : Int32)), .val (.int (0 : Int32))] [(.ref a1)])) _
    refine XS.aloadN X5.here hx rfl (hb hby d_prog_163_method_1_112) rfl rfl ?_
    show Steps p.tables e below (T5.setTop (mkF m 113 #[.val (.ref a1), .val (.ref w_BIGINT), .val (.int (0 : Int32)), .val (.int (0 : Int32)), .val (.int (0 : Int32))] [(.ref w_BIGINT), (.ref a1)])) _
    refine st6 _ ?_
    show Steps p.tables e below (T6.setTop (mkF m 116 #[.val (.ref a1), .val (.ref w_BIGINT), .val (.int (0 : Int32)), .val (.int (0 : Int32)), .val (.int (0 : Int32))] [])) _
    refine XS.aloadN X6.here hx rfl (hb hby d_prog_163_method_1_116) rfl rfl ?_
    show Steps p.tables e below (T6.setTop (mkF m 117 #[.val (.ref a1), .val (.ref w_BIGINT), .val (.int (0 : Int32)), .val (.int (0 : Int32)), .val (.int (0 : Int32))] [(.ref a1)])) _
    refine XS.iloadN X6.here hx rfl (hb hby d_prog_163_method_1_117) rfl ?_
    show Steps p.tables e below (T6.setTop (mkF m 118 #[.val (.ref a1), .val (.ref w_BIGINT), .val (.int (0 : Int32)), .val (.int (0 : Int32)), .val (.int (0 : Int32))] [(.int (0 : Int32)), (.ref a1)])) _
    refine st7 _ ?_
    show Steps p.tables e below (T7.setTop (mkF m 121 #[.val (.ref a1), .val (.ref w_BIGINT), .val (.int (0 : Int32)), .val (.int (0 : Int32)), .val (.int (0 : Int32))] [])) _
    refine XS.aloadN X7.here hx rfl (hb hby d_prog_163_method_1_121) rfl rfl ?_
    show Steps p.tables e below (T7.setTop (mkF m 122 #[.val (.ref a1), .val (.ref w_BIGINT), .val (.int (0 : Int32)), .val (.int (0 : Int32)), .val (.int (0 : Int32))] [(.ref a1)])) _
    refine XS.iloadN X7.here hx rfl (hb hby d_prog_163_method_1_122) rfl ?_
    show Steps p.tables e below (T7.setTop (mkF m 123 #[.val (.ref a1), .val (.ref w_BIGINT), .val (.int (0 : Int32)), .val (.int (0 : Int32)), .val (.int (0 : Int32))] [(.int (0 : Int32)), (.ref a1)])) _
    refine st8 _ ?_
    exact k)
  obtain ⟨fs, hr, hrun, hended, hW, hsame⟩ := X8.leave (v := none) (fun _ => rfl)
  refine ⟨_, _, pre9 _ ?_, hrun, hended, _, _, rfl, ?_, ⟨_, rfl⟩, hW, hsame.mono (by decide) (by decide)⟩
  · show Steps p.tables e below (T8.setTop (mkF m 126 #[.val (.ref a1), .val (.ref w_BIGINT), .val (.int (0 : Int32)), .val (.int (0 : Int32)), .val (.int (0 : Int32))] [])) _
    exact X8.returnOut hx Bd.returns (hb hby d_prog_163_method_1_126) hr
  · exact ⟨rfl, N8, by rw [show (T8.setFrames fs).heap = _ from e8]; exact ⟨K8, Ew8, F8_kind⟩⟩
theorem ef_law1 (m : MethodId) (x0 : Int32) (x1 : Int32) (x2 : Int32) : entryFrame m #[(.int x0), (.int x1), (.int x2)] maxLocals = mkF m 0 #[.val (.int x0), .val (.int x1), .val (.int x2), .unset, .unset, .unset, .unset, .unset, .unset] [] := by first | (simp [entryFrame, mkF, argsToLocals, Value.category, maxLocals]; done) | rfl
set_option maxRecDepth 65536 in
set_option maxHeartbeats 40000000 in
theorem rm_law1 (l : Launch) (Z : State) (a0 : Array Value) (hw : ∀ d ∈ tables_1, d.before a0 Z = true) (ws : List Jvm.Cond) (p1 : Int32) (p2 : Int32) (p3 : Int32) (h0 : Heap) (n0 : Nat) (Z0 : n0 ≤ h0.size) (w_INTEGER w_DECIMAL w_CHAR w_VARCHAR w_BOOLEAN w_INTERVAL w_DOUBLE w_BIGINT w_DATE : Addr) (hK : own_K Z h0 w_INTEGER w_DECIMAL w_CHAR w_VARCHAR w_BOOLEAN w_INTERVAL w_DOUBLE w_BIGINT w_DATE) (hk : ((p1 &&& (2147483647 : Int32)) % (9 : Int32)) = (1 : Int32)) :
    MetFree l x (head1 (Jvm.Cond.code x code maxLocals ret :: ws) room_1) (fun a U => a = #[(.int p1), (.int p2), (.int p3)] ∧ Z.Warmed39 U.vm ∧ U.heap = h0) (fun _ _ _ _ _ => True) (fun _ U o U' => ∃ v L, o = .returned v ∧ own_QH (some (.int (1 : Int32))) n0 v U'.heap L ∧ FrameEnd U o U' L room_1.cells room_1.slots) := by
  refine MetFree.of_bodySF (plainFor_of_name pn_0) hisR ?_
  intro p e s m args below meth c s₁ Bd hml0 hP hK0
  obtain ⟨rfl, hZ, hh⟩ := hP
  have hx := Bd.exec
  have hby := Bd.bytes
  have hml : c.maxLocals = 9 := hml0
  have hown : s.vm.findClass "com/example/cairn/cairn/types/DataTypeIsStorablePinLaw" = some m.cls := findClass_of_methodNamed Bd.named
  have hnm := (name_of_methodNamed Bd.named Bd.method).1
  have X0 : Stand p l e room_1 s m #[(.int p1), (.int p2), (.int p3)] below meth c s₁ [] 0 0 := Stand.of_body Bd
  have e0 : s₁.heap = h0 := by rw [← hh, Bd.state]; rfl
  have N0 := Fr.nil n0
  have pre0 : ∀ t, Steps p.tables e below (s₁.setTop (mkF m 0 #[.val (.int p1), .val (.int p2), .val (.int p3), .unset, .unset, .unset, .unset, .unset, .unset] [])) t → Steps p.tables e below (s₁.setTop (entryFrame m #[(.int p1), (.int p2), (.int p3)] maxLocals)) t := fun t k => castTop (ef_law1 m p1 p2 p3) k
  have hK' := hK
  obtain ⟨S_w_INTEGER, E_w_INTEGER, S_w_DECIMAL, E_w_DECIMAL, F_ordinal_w_INTEGER, F_ordinal_w_DECIMAL, S_w_CHAR, E_w_CHAR, F_ordinal_w_CHAR, S_w_VARCHAR, E_w_VARCHAR, F_ordinal_w_VARCHAR, S_w_BOOLEAN, E_w_BOOLEAN, F_ordinal_w_BOOLEAN, S_w_INTERVAL, E_w_INTERVAL, F_ordinal_w_INTERVAL, S_w_DOUBLE, E_w_DOUBLE, F_ordinal_w_DOUBLE, S_w_BIGINT, E_w_BIGINT, F_ordinal_w_BIGINT, S_w_DATE, E_w_DATE, F_ordinal_w_DATE⟩ := hK'
  obtain ⟨v1, _, ⟨T1, L1, k1, n1⟩, -, X1, ⟨Lc1, hQ1, l1, y1, z1⟩, st1⟩ := Jvm.LawKit.callS X0 hx (y := (⟨"com/example/cairn/cairn/types/DataTypeIsStorablePinLaw", "pick", "(I)Lcom/example/cairn/cairn/types/DataType$Kind;"⟩ : MethodName)) hown (mvT hZ (hw _ (ow 1 rfl))) (mvT hZ (hw _ (ow 2 rfl))) (mvT hZ (hw _ (ow 3 rfl))) (mvT hZ (hw _ (ow 4 rfl))) (by decide) (backOf (W := 0) (rm_pick l Z a0 hw [] (1 : Int32) h0 n0 w_INTEGER w_DECIMAL w_CHAR w_VARCHAR w_BOOLEAN w_INTERVAL w_DOUBLE w_BIGINT w_DATE hK) hZ (hw _ (ow 4 rfl)) (hw _ (ow 3 rfl)) (by decide) (by decide)) (g := (mkF m 9 #[.val (.int p1), .val (.int p2), .val (.int p3), .val (.int (1 : Int32)), .unset, .unset, .unset, .unset, .unset] [(.int (1 : Int32))])) rfl (by rw [hml]; rfl) (argsL := [(.int (1 : Int32))]) (rest := []) (lenOf pd_1 rfl) rfl (Nat.le_of_eq rfl) (hb hby at_9) (fun _ _ => ⟨rfl, e0, (by decide : 0 + 0 ≤ _), (by decide : 0 + 0 ≤ _)⟩)
  dsimp only [Pt.U, Pt.locs, Pt.cells, Pt.slots] at X1 l1 y1 z1 st1 hQ1
  subst l1 y1 z1
  obtain ⟨hv1, Nq1, e1⟩ := hQ1
  obtain rfl : v1 = some (.ref w_BIGINT) := hv1.trans (congrArg some (congrArg Value.ref ((if_neg (by decide)).trans (if_pos (by decide)))))
  have N1 := Fr.app N0 Nq1
  obtain ⟨T2, h2, X2, e2, Eq2, A2, D2, -, st2⟩ := newO X1 hx hZ hown (hw _ (ow 8 rfl)) (hw _ (ow 9 rfl)) (hw _ (ow 10 rfl)) e1 (g := (mkF m 70 #[.val (.int p1), .val (.int p2), .val (.int p3), .val (.int (1 : Int32)), .val (.ref w_BIGINT), .val (.int (0 : Int32)), .val (.int (0 : Int32)), .unset, .unset] [])) rfl (hb hby at_70) (by decide) (by decide)
  obtain ⟨b2, gb2⟩ : ∃ z, z = h0.size := ⟨_, rfl⟩
  rw [← gb2] at A2 D2 st2
  have F2_kind : Fld Z h2 b2 "com/example/cairn/cairn/types/DataType" "kind" "Lcom/example/cairn/cairn/types/DataType$Kind;" .null := D2 (Or.inr (hw _ (ow 29 rfl))) (ty := (.object "com/example/cairn/cairn/types/DataType$Kind")) (by decide)
  have F2_precision : Fld Z h2 b2 "com/example/cairn/cairn/types/DataType" "precision" "I" (.int (0 : Int32)) := D2 (Or.inr (hw _ (ow 31 rfl))) (ty := .int) (by decide)
  have F2_scale : Fld Z h2 b2 "com/example/cairn/cairn/types/DataType" "scale" "I" (.int (0 : Int32)) := D2 (Or.inr (hw _ (ow 33 rfl))) (ty := .int) (by decide)
  have sz_b2 : h0.size ≤ b2 := Nat.le_of_eq gb2.symm
  have g_b2 : n0 ≤ b2 := Nat.le_trans Z0 sz_b2
  have EX2 : Ext h0 h2 := Eq2
  obtain ⟨v3, _, ⟨T3, L3, k3, n3⟩, -, X3, ⟨Lc3, hQ3, l3, y3, z3⟩, st3⟩ := X2.specialBack hx (y := (⟨"com/example/cairn/cairn/types/DataType", "<init>", "(Lcom/example/cairn/cairn/types/DataType$Kind;II)V"⟩ : MethodName)) rfl hown (mvT hZ (hw _ (ow 11 rfl))) (mvT hZ (hw _ (ow 12 rfl))) (mvT hZ (hw _ (ow 13 rfl))) (by decide) (backOf (W := 1) (rm_init1 l Z a0 hw [] b2 h2 n0 w_INTEGER w_DECIMAL w_CHAR w_VARCHAR w_BOOLEAN w_INTERVAL w_DOUBLE w_BIGINT w_DATE (own_K_ext EX2 hK) F2_kind F2_precision F2_scale A2 g_b2) hZ (hw _ (ow 13 rfl)) (hw _ (ow 10 rfl)) (by decide) (by decide)) (g := (mkF m 80 #[.val (.int p1), .val (.int p2), .val (.int p3), .val (.int (1 : Int32)), .val (.ref w_BIGINT), .val (.int (0 : Int32)), .val (.int (0 : Int32)), .unset, .unset] [(.int (0 : Int32)), (.int (0 : Int32)), (.ref w_BIGINT), (.ref b2), (.ref b2)])) rfl (by rw [hml]; rfl) (Steps.refl _) (a := b2) (argsL := [(.ref w_BIGINT), (.int (0 : Int32)), (.int (0 : Int32))]) (rest := [(.ref b2)]) (lenOf pd_2 rfl) rfl (Nat.le_of_eq rfl) (hb hby at_80) (fun _ _ => ⟨rfl, e2, (by decide : 1 + 0 ≤ _), (by decide : 3 + 0 ≤ _)⟩)
  dsimp only [Pt.U, Pt.locs, Pt.cells, Pt.slots] at X3 l3 y3 z3 st3 hQ3
  subst l3 y3 z3
  obtain ⟨hv3, Nq3, Kq3, Ei3, Fi3⟩ := hQ3
  obtain rfl : v3 = none := hv3
  have N3 := Fr.app N1 Nq3
  have EX3 : Ext h0 T3.heap := own_ext_keep EX2 Kq3 sz_b2
  obtain ⟨cq4, kq4, q4a, q4b, q4c⟩ := isOf hZ (rfl : T3.heap = T3.heap) Ei3
  obtain ⟨v4, _, ⟨T4, L4, k4, n4⟩, -, X4, ⟨Lc4, hQ4, l4, y4, z4⟩, st4⟩ := X3.virtualBack hx (y := (⟨"com/example/cairn/cairn/types/DataType", "isStorable", "()Z"⟩ : MethodName)) (z := (⟨"com/example/cairn/cairn/types/DataType", "isStorable", "()Z"⟩ : MethodName)) hown (mvT hZ (hw _ (ow 34 rfl))) (mvT hZ (hw _ (ow 35 rfl))) (notFace_of_selects (args := #[]) (mvT hZ (hw _ (ow 37 rfl)))) (mvT hZ (hw _ (ow 37 rfl))) (mvT hZ (hw _ (ow 36 rfl))) (by decide) (backOf (W := 0) (rm_isStorable l Z a0 hw [] b2 w_BIGINT T3.heap n0 w_INTEGER w_DECIMAL w_CHAR w_VARCHAR w_BOOLEAN w_INTERVAL w_DOUBLE w_BIGINT w_DATE (own_K_ext EX3 hK) Fi3) hZ (hw _ (ow 38 rfl)) (hw _ (ow 10 rfl)) (by decide) (by decide)) q4a q4c (g := (mkF m 99 #[.val (.int p1), .val (.int p2), .val (.int p3), .val (.int (1 : Int32)), .val (.ref w_BIGINT), .val (.int (0 : Int32)), .val (.int (0 : Int32)), .val (.ref b2), .val (.int (1 : Int32))] [(.ref b2)])) rfl (by rw [hml]; rfl) (Steps.refl _) (argsL := []) (rest := []) (lenOf pd_3 rfl) rfl (Nat.le_of_eq rfl) (hb hby at_99) (fun _ _ => ⟨rfl, (rfl : T3.heap = T3.heap), (by decide : 1 + 0 ≤ _), (by decide : 3 + 0 ≤ _)⟩)
  dsimp only [Pt.U, Pt.locs, Pt.cells, Pt.slots] at X4 l4 y4 z4 st4 hQ4
  subst l4 y4 z4
  obtain ⟨hv4, Nq4, e4⟩ := hQ4
  obtain rfl : v4 = some (.int (1 : Int32)) := hv4.trans (congrArg some (congrArg Value.int ((if_neg (Fld.ne F_ordinal_w_BIGINT F_ordinal_w_BOOLEAN (by decide))).trans ((if_neg (Fld.ne F_ordinal_w_BIGINT F_ordinal_w_INTERVAL (by decide))).trans (if_neg (Fld.ne F_ordinal_w_BIGINT F_ordinal_w_DOUBLE (by decide)))))))
  have N4 := Fr.app N3 Nq4
  have pre5 : ∀ t, Steps p.tables e below (T4.setTop (mkF m 112 #[.val (.int p1), .val (.int p2), .val (.int p3), .val (.int (1 : Int32)), .val (.ref w_BIGINT), .val (.int (0 : Int32)), .val (.int (0 : Int32)), .val (.ref b2), .val (.int (1 : Int32))] [(.int (1 : Int32))])) t → Steps p.tables e below (s₁.setTop (entryFrame m #[(.int p1), (.int p2), (.int p3)] maxLocals)) t := fun t k => pre0 t (by
    show Steps p.tables e below (s₁.setTop (mkF m 0 #[.val (.int p1), .val (.int p2), .val (.int p3), .unset, .unset, .unset, .unset, .unset, .unset] [])) _
    refine XS.iloadN X0.here hx rfl (hb hby at_0) rfl ?_
    show Steps p.tables e below (s₁.setTop (mkF m 1 #[.val (.int p1), .val (.int p2), .val (.int p3), .unset, .unset, .unset, .unset, .unset, .unset] [(.int p1)])) _
    refine X0.ldcInt hx hown (mvT hZ (hw _ (ow 0 rfl))) (g := (mkF m 1 #[.val (.int p1), .val (.int p2), .val (.int p3), .unset, .unset, .unset, .unset, .unset, .unset] [(.int p1)])) rfl (hb hby at_1) _ ?_
    show Steps p.tables e below (s₁.setTop (mkF m 3 #[.val (.int p1), .val (.int p2), .val (.int p3), .unset, .unset, .unset, .unset, .unset, .unset] [(.int (2147483647 : Int32)), (.int p1)])) _
    refine XS.iand X0.here hx rfl (hb hby at_3) rfl ?_
    show Steps p.tables e below (s₁.setTop (mkF m 4 #[.val (.int p1), .val (.int p2), .val (.int p3), .unset, .unset, .unset, .unset, .unset, .unset] [(.int (p1 &&& (2147483647 : Int32)))])) _
    refine XS.bipush X0.here hx rfl (hb hby at_4) ?_
    show Steps p.tables e below (s₁.setTop (mkF m 6 #[.val (.int p1), .val (.int p2), .val (.int p3), .unset, .unset, .unset, .unset, .unset, .unset] [(.int (9 : Int32)), (.int (p1 &&& (2147483647 : Int32)))])) _
    refine iremM X0 hx rfl (hb hby at_6) rfl (by decide) ?_
    show Steps p.tables e below (s₁.setTop (mkF m 7 #[.val (.int p1), .val (.int p2), .val (.int p3), .unset, .unset, .unset, .unset, .unset, .unset] [(.int ((p1 &&& (2147483647 : Int32)) % (9 : Int32)))])) _
    rw [hk]
    show Steps p.tables e below (s₁.setTop (mkF m 7 #[.val (.int p1), .val (.int p2), .val (.int p3), .unset, .unset, .unset, .unset, .unset, .unset] [(.int (1 : Int32))])) _
    refine XS.istoreN X0.here hx rfl (hb hby at_7) rfl (l' := #[.val (.int p1), .val (.int p2), .val (.int p3), .val (.int (1 : Int32)), .unset, .unset, .unset, .unset, .unset]) rfl ?_
    show Steps p.tables e below (s₁.setTop (mkF m 8 #[.val (.int p1), .val (.int p2), .val (.int p3), .val (.int (1 : Int32)), .unset, .unset, .unset, .unset, .unset] [])) _
    refine XS.iloadN X0.here hx rfl (hb hby at_8) rfl ?_
    show Steps p.tables e below (s₁.setTop (mkF m 9 #[.val (.int p1), .val (.int p2), .val (.int p3), .val (.int (1 : Int32)), .unset, .unset, .unset, .unset, .unset] [(.int (1 : Int32))])) _
    refine st1 _ ?_
    show Steps p.tables e below (T1.setTop (mkF m 12 #[.val (.int p1), .val (.int p2), .val (.int p3), .val (.int (1 : Int32)), .unset, .unset, .unset, .unset, .unset] [(.ref w_BIGINT)])) _
    refine XS.astore X1.here hx rfl (hb hby at_12) rfl rfl (l' := #[.val (.int p1), .val (.int p2), .val (.int p3), .val (.int (1 : Int32)), .val (.ref w_BIGINT), .unset, .unset, .unset, .unset]) rfl ?_
    show Steps p.tables e below (T1.setTop (mkF m 14 #[.val (.int p1), .val (.int p2), .val (.int p3), .val (.int (1 : Int32)), .val (.ref w_BIGINT), .unset, .unset, .unset, .unset] [])) _
    refine XS.iconst X1.here hx rfl (hb hby at_14) ?_
    show Steps p.tables e below (T1.setTop (mkF m 15 #[.val (.int p1), .val (.int p2), .val (.int p3), .val (.int (1 : Int32)), .val (.ref w_BIGINT), .unset, .unset, .unset, .unset] [(.int (0 : Int32))])) _
    refine XS.istore X1.here hx rfl (hb hby at_15) rfl (l' := #[.val (.int p1), .val (.int p2), .val (.int p3), .val (.int (1 : Int32)), .val (.ref w_BIGINT), .val (.int (0 : Int32)), .unset, .unset, .unset]) rfl ?_
    show Steps p.tables e below (T1.setTop (mkF m 17 #[.val (.int p1), .val (.int p2), .val (.int p3), .val (.int (1 : Int32)), .val (.ref w_BIGINT), .val (.int (0 : Int32)), .unset, .unset, .unset] [])) _
    refine XS.iconst X1.here hx rfl (hb hby at_17) ?_
    show Steps p.tables e below (T1.setTop (mkF m 18 #[.val (.int p1), .val (.int p2), .val (.int p3), .val (.int (1 : Int32)), .val (.ref w_BIGINT), .val (.int (0 : Int32)), .unset, .unset, .unset] [(.int (0 : Int32))])) _
    refine XS.istore X1.here hx rfl (hb hby at_18) rfl (l' := #[.val (.int p1), .val (.int p2), .val (.int p3), .val (.int (1 : Int32)), .val (.ref w_BIGINT), .val (.int (0 : Int32)), .val (.int (0 : Int32)), .unset, .unset]) rfl ?_
    show Steps p.tables e below (T1.setTop (mkF m 20 #[.val (.int p1), .val (.int p2), .val (.int p3), .val (.int (1 : Int32)), .val (.ref w_BIGINT), .val (.int (0 : Int32)), .val (.int (0 : Int32)), .unset, .unset] [])) _
    refine XS.iloadN X1.here hx rfl (hb hby at_20) rfl ?_
    show Steps p.tables e below (T1.setTop (mkF m 21 #[.val (.int p1), .val (.int p2), .val (.int p3), .val (.int (1 : Int32)), .val (.ref w_BIGINT), .val (.int (0 : Int32)), .val (.int (0 : Int32)), .unset, .unset] [(.int (1 : Int32))])) _
    refine XS.iconst X1.here hx rfl (hb hby at_21) ?_
    show Steps p.tables e below (T1.setTop (mkF m 22 #[.val (.int p1), .val (.int p2), .val (.int p3), .val (.int (1 : Int32)), .val (.ref w_BIGINT), .val (.int (0 : Int32)), .val (.int (0 : Int32)), .unset, .unset] [(.int (2 : Int32)), (.int (1 : Int32))])) _
    refine XS.icmpYes X1.here hx rfl (pc0 := 22) (pc' := 50) rfl (hb hby at_22) rfl (feq (by decide)).2 (by decide) (by decide) ?_
    show Steps p.tables e below (T1.setTop (mkF m 50 #[.val (.int p1), .val (.int p2), .val (.int p3), .val (.int (1 : Int32)), .val (.ref w_BIGINT), .val (.int (0 : Int32)), .val (.int (0 : Int32)), .unset, .unset] [])) _
    refine XS.iloadN X1.here hx rfl (hb hby at_50) rfl ?_
    show Steps p.tables e below (T1.setTop (mkF m 51 #[.val (.int p1), .val (.int p2), .val (.int p3), .val (.int (1 : Int32)), .val (.ref w_BIGINT), .val (.int (0 : Int32)), .val (.int (0 : Int32)), .unset, .unset] [(.int (1 : Int32))])) _
    refine XS.iconst X1.here hx rfl (hb hby at_51) ?_
    show Steps p.tables e below (T1.setTop (mkF m 52 #[.val (.int p1), .val (.int p2), .val (.int p3), .val (.int (1 : Int32)), .val (.ref w_BIGINT), .val (.int (0 : Int32)), .val (.int (0 : Int32)), .unset, .unset] [(.int (4 : Int32)), (.int (1 : Int32))])) _
    refine XS.icmpNo X1.here hx rfl (hb hby at_52) rfl (feq (by decide)).1 ?_
    show Steps p.tables e below (T1.setTop (mkF m 55 #[.val (.int p1), .val (.int p2), .val (.int p3), .val (.int (1 : Int32)), .val (.ref w_BIGINT), .val (.int (0 : Int32)), .val (.int (0 : Int32)), .unset, .unset] [])) _
    refine XS.iloadN X1.here hx rfl (hb hby at_55) rfl ?_
    show Steps p.tables e below (T1.setTop (mkF m 56 #[.val (.int p1), .val (.int p2), .val (.int p3), .val (.int (1 : Int32)), .val (.ref w_BIGINT), .val (.int (0 : Int32)), .val (.int (0 : Int32)), .unset, .unset] [(.int (1 : Int32))])) _
    refine XS.iconst X1.here hx rfl (hb hby at_56) ?_
    show Steps p.tables e below (T1.setTop (mkF m 57 #[.val (.int p1), .val (.int p2), .val (.int p3), .val (.int (1 : Int32)), .val (.ref w_BIGINT), .val (.int (0 : Int32)), .val (.int (0 : Int32)), .unset, .unset] [(.int (5 : Int32)), (.int (1 : Int32))])) _
    refine XS.icmpYes X1.here hx rfl (pc0 := 57) (pc' := 70) rfl (hb hby at_57) rfl (feq (by decide)).2 (by decide) (by decide) ?_
    show Steps p.tables e below (T1.setTop (mkF m 70 #[.val (.int p1), .val (.int p2), .val (.int p3), .val (.int (1 : Int32)), .val (.ref w_BIGINT), .val (.int (0 : Int32)), .val (.int (0 : Int32)), .unset, .unset] [])) _
    refine st2 _ ?_
    show Steps p.tables e below (T2.setTop (mkF m 73 #[.val (.int p1), .val (.int p2), .val (.int p3), .val (.int (1 : Int32)), .val (.ref w_BIGINT), .val (.int (0 : Int32)), .val (.int (0 : Int32)), .unset, .unset] [(.ref b2)])) _
    refine XS.dup X2.here hx rfl (hb hby at_73) rfl rfl ?_
    show Steps p.tables e below (T2.setTop (mkF m 74 #[.val (.int p1), .val (.int p2), .val (.int p3), .val (.int (1 : Int32)), .val (.ref w_BIGINT), .val (.int (0 : Int32)), .val (.int (0 : Int32)), .unset, .unset] [(.ref b2), (.ref b2)])) _
    refine XS.aload X2.here hx rfl (hb hby at_74) rfl rfl ?_
    show Steps p.tables e below (T2.setTop (mkF m 76 #[.val (.int p1), .val (.int p2), .val (.int p3), .val (.int (1 : Int32)), .val (.ref w_BIGINT), .val (.int (0 : Int32)), .val (.int (0 : Int32)), .unset, .unset] [(.ref w_BIGINT), (.ref b2), (.ref b2)])) _
    refine XS.iload X2.here hx rfl (hb hby at_76) rfl ?_
    show Steps p.tables e below (T2.setTop (mkF m 78 #[.val (.int p1), .val (.int p2), .val (.int p3), .val (.int (1 : Int32)), .val (.ref w_BIGINT), .val (.int (0 : Int32)), .val (.int (0 : Int32)), .unset, .unset] [(.int (0 : Int32)), (.ref w_BIGINT), (.ref b2), (.ref b2)])) _
    refine XS.iload X2.here hx rfl (hb hby at_78) rfl ?_
    show Steps p.tables e below (T2.setTop (mkF m 80 #[.val (.int p1), .val (.int p2), .val (.int p3), .val (.int (1 : Int32)), .val (.ref w_BIGINT), .val (.int (0 : Int32)), .val (.int (0 : Int32)), .unset, .unset] [(.int (0 : Int32)), (.int (0 : Int32)), (.ref w_BIGINT), (.ref b2), (.ref b2)])) _
    refine st3.trans ?_
    show Steps p.tables e below (T3.setTop (mkF m 83 #[.val (.int p1), .val (.int p2), .val (.int p3), .val (.int (1 : Int32)), .val (.ref w_BIGINT), .val (.int (0 : Int32)), .val (.int (0 : Int32)), .unset, .unset] [(.ref b2)])) _
    refine XS.astore X3.here hx rfl (hb hby at_83) rfl rfl (l' := #[.val (.int p1), .val (.int p2), .val (.int p3), .val (.int (1 : Int32)), .val (.ref w_BIGINT), .val (.int (0 : Int32)), .val (.int (0 : Int32)), .val (.ref b2), .unset]) rfl ?_
    show Steps p.tables e below (T3.setTop (mkF m 85 #[.val (.int p1), .val (.int p2), .val (.int p3), .val (.int (1 : Int32)), .val (.ref w_BIGINT), .val (.int (0 : Int32)), .val (.int (0 : Int32)), .val (.ref b2), .unset] [])) _
    refine XS.iloadN X3.here hx rfl (hb hby at_85) rfl ?_
    show Steps p.tables e below (T3.setTop (mkF m 86 #[.val (.int p1), .val (.int p2), .val (.int p3), .val (.int (1 : Int32)), .val (.ref w_BIGINT), .val (.int (0 : Int32)), .val (.int (0 : Int32)), .val (.ref b2), .unset] [(.int (1 : Int32))])) _
    refine XS.iconst X3.here hx rfl (hb hby at_86) ?_
    show Steps p.tables e below (T3.setTop (mkF m 87 #[.val (.int p1), .val (.int p2), .val (.int p3), .val (.int (1 : Int32)), .val (.ref w_BIGINT), .val (.int (0 : Int32)), .val (.int (0 : Int32)), .val (.ref b2), .unset] [(.int (5 : Int32)), (.int (1 : Int32))])) _
    refine XS.icmpNo X3.here hx rfl (hb hby at_87) rfl (flt (by decide)).2.2.1 ?_
    show Steps p.tables e below (T3.setTop (mkF m 90 #[.val (.int p1), .val (.int p2), .val (.int p3), .val (.int (1 : Int32)), .val (.ref w_BIGINT), .val (.int (0 : Int32)), .val (.int (0 : Int32)), .val (.ref b2), .unset] [])) _
    refine XS.iconst X3.here hx rfl (hb hby at_90) ?_
    show Steps p.tables e below (T3.setTop (mkF m 91 #[.val (.int p1), .val (.int p2), .val (.int p3), .val (.int (1 : Int32)), .val (.ref w_BIGINT), .val (.int (0 : Int32)), .val (.int (0 : Int32)), .val (.ref b2), .unset] [(.int (1 : Int32))])) _
    refine XS.goto X3.here hx rfl (pc0 := 91) (pc' := 95) rfl (hb hby at_91) (by decide) (by decide) ?_
    show Steps p.tables e below (T3.setTop (mkF m 95 #[.val (.int p1), .val (.int p2), .val (.int p3), .val (.int (1 : Int32)), .val (.ref w_BIGINT), .val (.int (0 : Int32)), .val (.int (0 : Int32)), .val (.ref b2), .unset] [(.int (1 : Int32))])) _
    refine XS.istore X3.here hx rfl (hb hby at_95) rfl (l' := #[.val (.int p1), .val (.int p2), .val (.int p3), .val (.int (1 : Int32)), .val (.ref w_BIGINT), .val (.int (0 : Int32)), .val (.int (0 : Int32)), .val (.ref b2), .val (.int (1 : Int32))]) rfl ?_
    show Steps p.tables e below (T3.setTop (mkF m 97 #[.val (.int p1), .val (.int p2), .val (.int p3), .val (.int (1 : Int32)), .val (.ref w_BIGINT), .val (.int (0 : Int32)), .val (.int (0 : Int32)), .val (.ref b2), .val (.int (1 : Int32))] [])) _
    refine XS.aload X3.here hx rfl (hb hby at_97) rfl rfl ?_
    show Steps p.tables e below (T3.setTop (mkF m 99 #[.val (.int p1), .val (.int p2), .val (.int p3), .val (.int (1 : Int32)), .val (.ref w_BIGINT), .val (.int (0 : Int32)), .val (.int (0 : Int32)), .val (.ref b2), .val (.int (1 : Int32))] [(.ref b2)])) _
    refine st4.trans ?_
    show Steps p.tables e below (T4.setTop (mkF m 102 #[.val (.int p1), .val (.int p2), .val (.int p3), .val (.int (1 : Int32)), .val (.ref w_BIGINT), .val (.int (0 : Int32)), .val (.int (0 : Int32)), .val (.ref b2), .val (.int (1 : Int32))] [(.int (1 : Int32))])) _
    refine XS.iload X4.here hx rfl (hb hby at_102) rfl ?_
    show Steps p.tables e below (T4.setTop (mkF m 104 #[.val (.int p1), .val (.int p2), .val (.int p3), .val (.int (1 : Int32)), .val (.ref w_BIGINT), .val (.int (0 : Int32)), .val (.int (0 : Int32)), .val (.ref b2), .val (.int (1 : Int32))] [(.int (1 : Int32)), (.int (1 : Int32))])) _
    refine XS.icmpNo X4.here hx rfl (hb hby at_104) rfl (teq (by decide)).2 ?_
    show Steps p.tables e below (T4.setTop (mkF m 107 #[.val (.int p1), .val (.int p2), .val (.int p3), .val (.int (1 : Int32)), .val (.ref w_BIGINT), .val (.int (0 : Int32)), .val (.int (0 : Int32)), .val (.ref b2), .val (.int (1 : Int32))] [])) _
    refine XS.iconst X4.here hx rfl (hb hby at_107) ?_
    show Steps p.tables e below (T4.setTop (mkF m 108 #[.val (.int p1), .val (.int p2), .val (.int p3), .val (.int (1 : Int32)), .val (.ref w_BIGINT), .val (.int (0 : Int32)), .val (.int (0 : Int32)), .val (.ref b2), .val (.int (1 : Int32))] [(.int (1 : Int32))])) _
    refine XS.goto X4.here hx rfl (pc0 := 108) (pc' := 112) rfl (hb hby at_108) (by decide) (by decide) ?_
    exact k)
  obtain ⟨fs, hr, hrun, hended, hW, hsame⟩ := X4.leave (v := some (.int (1 : Int32))) (fun h => by rw [Bd.returns] at h; cases h)
  refine ⟨_, _, pre5 _ ?_, hrun, hended, _, _, rfl, ?_, ⟨_, rfl⟩, hW, hsame.mono (by decide) (by decide)⟩
  · show Steps p.tables e below (T4.setTop (mkF m 112 #[.val (.int p1), .val (.int p2), .val (.int p3), .val (.int (1 : Int32)), .val (.ref w_BIGINT), .val (.int (0 : Int32)), .val (.int (0 : Int32)), .val (.ref b2), .val (.int (1 : Int32))] [(.int (1 : Int32))])) _
    exact retN X4 hx (t := .boolean) Bd.returns (by simp) (hb hby at_112) hr
  · exact ⟨rfl, N4, trivial⟩
def own_Q_init2 (Z : State) (a1 : Addr) (w_INTEGER w_DECIMAL w_CHAR w_VARCHAR w_BOOLEAN w_INTERVAL w_DOUBLE w_BIGINT w_DATE : Addr) (h0 : Heap) (n0 : Nat) (v : Option Value) (h : Heap) (L : List Loc) : Prop := v = none ∧ Fr n0 L ∧ Keep h0 h [a1] ∧ Exa Z h a1 "com/example/cairn/cairn/types/DataType" ∧ Fld Z h a1 "com/example/cairn/cairn/types/DataType" "kind" "Lcom/example/cairn/cairn/types/DataType$Kind;" (.ref w_DECIMAL)
theorem d_prog_163_method_1_25 : decode prog_163_method_1_code 25 = .ok (.iconst 1, 1) := by decide +kernel
theorem d_prog_163_method_1_26 : decode prog_163_method_1_code 26 = .ok (.goto 4, 3) := by decide +kernel
theorem d_prog_163_method_1_37 : decode prog_163_method_1_code 37 = .ok (.iload_n 2, 1) := by decide +kernel
theorem d_prog_163_method_1_38 : decode prog_163_method_1_code 38 = .ok (.iconst 1, 1) := by decide +kernel
theorem d_prog_163_method_1_39 : decode prog_163_method_1_code 39 = .ok (.if_icmp .ge 28, 3) := by decide +kernel
theorem d_prog_163_method_1_74 : decode prog_163_method_1_code 74 = .ok (.iload_n 3, 1) := by decide +kernel
theorem d_prog_163_method_1_75 : decode prog_163_method_1_code 75 = .ok (.ifCond .lt 21, 3) := by decide +kernel
theorem d_prog_163_method_1_78 : decode prog_163_method_1_code 78 = .ok (.iload_n 3, 1) := by decide +kernel
theorem d_prog_163_method_1_79 : decode prog_163_method_1_code 79 = .ok (.iload_n 2, 1) := by decide +kernel
theorem d_prog_163_method_1_80 : decode prog_163_method_1_code 80 = .ok (.if_icmp .gt 16, 3) := by decide +kernel
theorem d_prog_163_method_1_83 : decode prog_163_method_1_code 83 = .ok (.iload_n 2, 1) := by decide +kernel
theorem d_prog_163_method_1_84 : decode prog_163_method_1_code 84 = .ok (.bipush 38, 2) := by decide +kernel
theorem d_prog_163_method_1_86 : decode prog_163_method_1_code 86 = .ok (.if_icmp .le 25, 3) := by decide +kernel
theorem ef_init2 (m : MethodId) (x0 : Addr) (x1 : Addr) (x2 : Int32) (x3 : Int32) : entryFrame m #[(.ref x0), (.ref x1), (.int x2), (.int x3)] 5 = mkF m 0 #[.val (.ref x0), .val (.ref x1), .val (.int x2), .val (.int x3), .unset] [] := by first | (simp [entryFrame, mkF, argsToLocals, Value.category]; done) | rfl
set_option maxRecDepth 65536 in
set_option maxHeartbeats 40000000 in
theorem rm_init2 (l : Launch) (Z : State) (a0 : Array Value) (hw : ∀ d ∈ tables_1, d.before a0 Z = true) (ws : List Jvm.Cond) (a1 : Addr) (p3 : Int32) (p4 : Int32) (h0 : Heap) (n0 : Nat) (w_INTEGER w_DECIMAL w_CHAR w_VARCHAR w_BOOLEAN w_INTERVAL w_DOUBLE w_BIGINT w_DATE : Addr) (hK : own_K Z h0 w_INTEGER w_DECIMAL w_CHAR w_VARCHAR w_BOOLEAN w_INTERVAL w_DOUBLE w_BIGINT w_DATE) (F_kind : Fld Z h0 a1 "com/example/cairn/cairn/types/DataType" "kind" "Lcom/example/cairn/cairn/types/DataType$Kind;" .null) (F_precision : Fld Z h0 a1 "com/example/cairn/cairn/types/DataType" "precision" "I" (.int (0 : Int32))) (F_scale : Fld Z h0 a1 "com/example/cairn/cairn/types/DataType" "scale" "I" (.int (0 : Int32))) (E_a1 : Exa Z h0 a1 "com/example/cairn/cairn/types/DataType") (g_a1 : n0 ≤ a1) (hp1 : ¬ p3 < (1 : Int32)) (hp2 : ¬ p4 < (0 : Int32)) (hp3 : ¬ p3 < p4) (hp4 : ¬ (38 : Int32) < p3) :
    MetFree l (⟨"com/example/cairn/cairn/types/DataType", "<init>", "(Lcom/example/cairn/cairn/types/DataType$Kind;II)V"⟩ : MethodName) (head1 (Jvm.Cond.code (⟨"com/example/cairn/cairn/types/DataType", "<init>", "(Lcom/example/cairn/cairn/types/DataType$Kind;II)V"⟩ : MethodName) prog_163_method_1_code 5 none :: ws) ({ frames := 2, cells := 0, slots := 0, locals := 24 } : Room)) (fun a U => a = #[(.ref a1), (.ref w_DECIMAL), (.int p3), (.int p4)] ∧ Z.Warmed39 U.vm ∧ U.heap = h0) (fun _ _ _ _ _ => True) (fun _ U o U' => ∃ v L, o = .returned v ∧ own_Q_init2 Z a1 w_INTEGER w_DECIMAL w_CHAR w_VARCHAR w_BOOLEAN w_INTERVAL w_DOUBLE w_BIGINT w_DATE h0 n0 v U'.heap L ∧ FrameEnd U o U' L ({ frames := 2, cells := 0, slots := 0, locals := 24 } : Room).cells ({ frames := 2, cells := 0, slots := 0, locals := 24 } : Room).slots) := by
  refine MetFree.of_bodySF (plainFor_of_name pn_2) hisR ?_
  intro p e s m args below meth c s₁ Bd hml0 hP hK0
  obtain ⟨rfl, hZ, hh⟩ := hP
  have hx := Bd.exec
  have hby := Bd.bytes
  have hml : c.maxLocals = 5 := hml0
  have hown : s.vm.findClass "com/example/cairn/cairn/types/DataType" = some m.cls := findClass_of_methodNamed Bd.named
  have hnm := (name_of_methodNamed Bd.named Bd.method).1
  have X0 : Stand p l e ({ frames := 2, cells := 0, slots := 0, locals := 24 } : Room) s m #[(.ref a1), (.ref w_DECIMAL), (.int p3), (.int p4)] below meth c s₁ [] 0 0 := Stand.of_body Bd
  have e0 : s₁.heap = h0 := by rw [← hh, Bd.state]; rfl
  have N0 := Fr.nil n0
  have pre0 : ∀ t, Steps p.tables e below (s₁.setTop (mkF m 0 #[.val (.ref a1), .val (.ref w_DECIMAL), .val (.int p3), .val (.int p4), .unset] [])) t → Steps p.tables e below (s₁.setTop (entryFrame m #[(.ref a1), (.ref w_DECIMAL), (.int p3), (.int p4)] 5)) t := fun t k => castTop (ef_init2 m a1 w_DECIMAL p3 p4) k
  have hK' := hK
  obtain ⟨S_w_INTEGER, E_w_INTEGER, S_w_DECIMAL, E_w_DECIMAL, F_ordinal_w_INTEGER, F_ordinal_w_DECIMAL, S_w_CHAR, E_w_CHAR, F_ordinal_w_CHAR, S_w_VARCHAR, E_w_VARCHAR, F_ordinal_w_VARCHAR, S_w_BOOLEAN, E_w_BOOLEAN, F_ordinal_w_BOOLEAN, S_w_INTERVAL, E_w_INTERVAL, F_ordinal_w_INTERVAL, S_w_DOUBLE, E_w_DOUBLE, F_ordinal_w_DOUBLE, S_w_BIGINT, E_w_BIGINT, F_ordinal_w_BIGINT, S_w_DATE, E_w_DATE, F_ordinal_w_DATE⟩ := hK'
  obtain ⟨v1, _, ⟨T1, L1, k1, n1⟩, -, X1, ⟨Lc1, hQ1, l1, y1, z1⟩, st1⟩ := X0.specialBack hx (y := (⟨"java/lang/Record", "<init>", "()V"⟩ : MethodName)) rfl hown (mvT hZ (hw _ (ow 14 rfl))) (mvT hZ (hw _ (ow 15 rfl))) (mvT hZ (hw _ (ow 18 rfl))) (by decide) (backOf (W := 0) (rm_record l Z a0 hw [] a1 h0 n0) hZ (hw _ (ow 18 rfl)) (hw _ (ow 17 rfl)) (by decide) (by decide)) (g := (mkF m 1 #[.val (.ref a1), .val (.ref w_DECIMAL), .val (.int p3), .val (.int p4), .unset] [(.ref a1)])) rfl (by rw [hml]; rfl) (Steps.refl _) (a := a1) (argsL := []) (rest := []) (lenOf pd_0 rfl) rfl (Nat.le_of_eq rfl) (hb hby d_prog_163_method_1_1) (fun _ _ => ⟨rfl, e0, (by decide : 0 + 0 ≤ _), (by decide : 0 + 0 ≤ _)⟩)
  dsimp only [Pt.U, Pt.locs, Pt.cells, Pt.slots] at X1 l1 y1 z1 st1 hQ1
  subst l1 y1 z1
  obtain ⟨hv1, Nq1, e1⟩ := hQ1
  obtain rfl : v1 = none := hv1
  have N1 := Fr.app N0 Nq1
  obtain ⟨T2, X2, e2, st2⟩ := getS2 X1 hx hZ hown (host := "") (Or.inl (hw _ (ow 22 rfl))) Via.refl e1 S_w_DECIMAL (g := (mkF m 5 #[.val (.ref a1), .val (.ref w_DECIMAL), .val (.int p3), .val (.int p4), .unset] [(.ref w_DECIMAL)])) rfl (hb hby d_prog_163_method_1_5)
  obtain ⟨T3, X3, e3, st3⟩ := getS2 X2 hx hZ hown (host := "") (Or.inl (hw _ (ow 22 rfl))) Via.refl e2 S_w_DECIMAL (g := (mkF m 68 #[.val (.ref a1), .val (.ref w_DECIMAL), .val (.int p3), .val (.int p4), .val (.int (1 : Int32))] [(.ref w_DECIMAL)])) rfl (hb hby d_prog_163_method_1_68)
  obtain ⟨T4, h4, X4, e4, W4, st4⟩ := putF X3 hx hZ hown (host := "") (Or.inl (hw _ (ow 28 rfl))) Via.refl e3 F_kind E_a1 (Or.inr ⟨(hw _ (ow 29 rfl)), rfl, hnm⟩) (hw _ (ow 9 rfl)) (ty := (.object "com/example/cairn/cairn/types/DataType$Kind")) (by decide) rfl rfl (g := (mkF m 113 #[.val (.ref a1), .val (.ref w_DECIMAL), .val (.int p3), .val (.int p4), .val (.int (1 : Int32))] [(.ref w_DECIMAL), (.ref a1)])) rfl rfl (hb hby d_prog_163_method_1_113)
  have Fw4 := F_kind.same W4
  have Ew4 := E_a1.wr W4
  have K4 : Keep h0 h4 [a1] := (Keep.refl h0 [a1]).wr W4 (Or.inl (List.mem_of_getElem? (i := 0) rfl))
  have N4 := Fr.snoc X4 N1 g_a1
  have F4_precision := F_precision.other W4 (Or.inr (slot_ne (Or.inr (hw _ (ow 31 rfl))) (Or.inr (hw _ (ow 29 rfl))) (by decide) (t := .int) (t' := (.object "com/example/cairn/cairn/types/DataType$Kind")) (by decide) (by decide)))
  have F4_scale := F_scale.other W4 (Or.inr (slot_ne (Or.inr (hw _ (ow 33 rfl))) (Or.inr (hw _ (ow 29 rfl))) (by decide) (t := .int) (t' := (.object "com/example/cairn/cairn/types/DataType$Kind")) (by decide) (by decide)))
  obtain ⟨T5, h5, X5, e5, W5, st5⟩ := putF X4 hx hZ hown (host := "") (Or.inl (hw _ (ow 30 rfl))) Via.refl e4 F4_precision Ew4 (Or.inr ⟨(hw _ (ow 31 rfl)), rfl, hnm⟩) (hw _ (ow 9 rfl)) (ty := .int) (by decide) rfl rfl (g := (mkF m 118 #[.val (.ref a1), .val (.ref w_DECIMAL), .val (.int p3), .val (.int p4), .val (.int (1 : Int32))] [(.int p3), (.ref a1)])) rfl rfl (hb hby d_prog_163_method_1_118)
  have Fw5 := F4_precision.same W5
  have Ew5 := Ew4.wr W5
  have K5 : Keep h0 h5 [a1] := K4.wr W5 (Or.inl (List.mem_of_getElem? (i := 0) rfl))
  have N5 := Fr.snoc X5 N4 g_a1
  have F5_kind := Fw4.other W5 (Or.inr (slot_ne (Or.inr (hw _ (ow 29 rfl))) (Or.inr (hw _ (ow 31 rfl))) (by decide) (t := (.object "com/example/cairn/cairn/types/DataType$Kind")) (t' := .int) (by decide) (by decide)))
  have F5_scale := F4_scale.other W5 (Or.inr (slot_ne (Or.inr (hw _ (ow 33 rfl))) (Or.inr (hw _ (ow 31 rfl))) (by decide) (t := .int) (t' := .int) (by decide) (by decide)))
  obtain ⟨T6, h6, X6, e6, W6, st6⟩ := putF X5 hx hZ hown (host := "") (Or.inl (hw _ (ow 32 rfl))) Via.refl e5 F5_scale Ew5 (Or.inr ⟨(hw _ (ow 33 rfl)), rfl, hnm⟩) (hw _ (ow 9 rfl)) (ty := .int) (by decide) rfl rfl (g := (mkF m 123 #[.val (.ref a1), .val (.ref w_DECIMAL), .val (.int p3), .val (.int p4), .val (.int (1 : Int32))] [(.int p4), (.ref a1)])) rfl rfl (hb hby d_prog_163_method_1_123)
  have Fw6 := F5_scale.same W6
  have Ew6 := Ew5.wr W6
  have K6 : Keep h0 h6 [a1] := K5.wr W6 (Or.inl (List.mem_of_getElem? (i := 0) rfl))
  have N6 := Fr.snoc X6 N5 g_a1
  have F6_kind := F5_kind.other W6 (Or.inr (slot_ne (Or.inr (hw _ (ow 29 rfl))) (Or.inr (hw _ (ow 33 rfl))) (by decide) (t := (.object "com/example/cairn/cairn/types/DataType$Kind")) (t' := .int) (by decide) (by decide)))
  have F6_precision := Fw5.other W6 (Or.inr (slot_ne (Or.inr (hw _ (ow 31 rfl))) (Or.inr (hw _ (ow 33 rfl))) (by decide) (t := .int) (t' := .int) (by decide) (by decide)))
  have pre7 : ∀ t, Steps p.tables e below (T6.setTop (mkF m 126 #[.val (.ref a1), .val (.ref w_DECIMAL), .val (.int p3), .val (.int p4), .val (.int (1 : Int32))] [])) t → Steps p.tables e below (s₁.setTop (entryFrame m #[(.ref a1), (.ref w_DECIMAL), (.int p3), (.int p4)] 5)) t := fun t k => pre0 t (by
    show Steps p.tables e below (s₁.setTop (mkF m 0 #[.val (.ref a1), .val (.ref w_DECIMAL), .val (.int p3), .val (.int p4), .unset] [])) _
    refine XS.aloadN X0.here hx rfl (hb hby d_prog_163_method_1_0) rfl rfl ?_
    show Steps p.tables e below (s₁.setTop (mkF m 1 #[.val (.ref a1), .val (.ref w_DECIMAL), .val (.int p3), .val (.int p4), .unset] [(.ref a1)])) _
    refine st1.trans ?_
    show Steps p.tables e below (T1.setTop (mkF m 4 #[.val (.ref a1), .val (.ref w_DECIMAL), .val (.int p3), .val (.int p4), .unset] [])) _
    refine XS.aloadN X1.here hx rfl (hb hby d_prog_163_method_1_4) rfl rfl ?_
    show Steps p.tables e below (T1.setTop (mkF m 5 #[.val (.ref a1), .val (.ref w_DECIMAL), .val (.int p3), .val (.int p4), .unset] [(.ref w_DECIMAL)])) _
    refine st2 _ ?_
    show Steps p.tables e below (T2.setTop (mkF m 8 #[.val (.ref a1), .val (.ref w_DECIMAL), .val (.int p3), .val (.int p4), .unset] [(.ref w_DECIMAL), (.ref w_DECIMAL)])) _
    refine Jvm.RoadKit.acmp (g := (mkF m 8 #[.val (.ref a1), .val (.ref w_DECIMAL), .val (.int p3), .val (.int p4), .unset] [(.ref w_DECIMAL), (.ref w_DECIMAL)])) X2 hx rfl rfl rfl (pc0 := 8) (pc' := 25) (same := true) rfl (hb hby d_prog_163_method_1_8) rfl (decide_eq_true rfl) (by decide) (by decide) ?_
    show Steps p.tables e below (T2.setTop (mkF m 25 #[.val (.ref a1), .val (.ref w_DECIMAL), .val (.int p3), .val (.int p4), .unset] [])) _
    refine XS.iconst X2.here hx rfl (hb hby d_prog_163_method_1_25) ?_
    show Steps p.tables e below (T2.setTop (mkF m 26 #[.val (.ref a1), .val (.ref w_DECIMAL), .val (.int p3), .val (.int p4), .unset] [(.int (1 : Int32))])) _
    refine XS.goto X2.here hx rfl (pc0 := 26) (pc' := 30) rfl (hb hby d_prog_163_method_1_26) (by decide) (by decide) ?_
    show Steps p.tables e below (T2.setTop (mkF m 30 #[.val (.ref a1), .val (.ref w_DECIMAL), .val (.int p3), .val (.int p4), .unset] [(.int (1 : Int32))])) _
    refine XS.istore X2.here hx rfl (hb hby d_prog_163_method_1_30) rfl (l' := #[.val (.ref a1), .val (.ref w_DECIMAL), .val (.int p3), .val (.int p4), .val (.int (1 : Int32))]) rfl ?_
    show Steps p.tables e below (T2.setTop (mkF m 32 #[.val (.ref a1), .val (.ref w_DECIMAL), .val (.int p3), .val (.int p4), .val (.int (1 : Int32))] [])) _
    refine XS.iload X2.here hx rfl (hb hby d_prog_163_method_1_32) rfl ?_
    show Steps p.tables e below (T2.setTop (mkF m 34 #[.val (.ref a1), .val (.ref w_DECIMAL), .val (.int p3), .val (.int p4), .val (.int (1 : Int32))] [(.int (1 : Int32))])) _
    refine XS.ifNo X2.here hx rfl (hb hby d_prog_163_method_1_34) rfl ((if0 _ _).trans (feq (by decide)).1) ?_
    show Steps p.tables e below (T2.setTop (mkF m 37 #[.val (.ref a1), .val (.ref w_DECIMAL), .val (.int p3), .val (.int p4), .val (.int (1 : Int32))] [])) _
    refine XS.iloadN X2.here hx rfl (hb hby d_prog_163_method_1_37) rfl ?_
    show Steps p.tables e below (T2.setTop (mkF m 38 #[.val (.ref a1), .val (.ref w_DECIMAL), .val (.int p3), .val (.int p4), .val (.int (1 : Int32))] [(.int p3)])) _
    refine XS.iconst X2.here hx rfl (hb hby d_prog_163_method_1_38) ?_
    show Steps p.tables e below (T2.setTop (mkF m 39 #[.val (.ref a1), .val (.ref w_DECIMAL), .val (.int p3), .val (.int p4), .val (.int (1 : Int32))] [(.int (1 : Int32)), (.int p3)])) _
    refine XS.icmpYes X2.here hx rfl (pc0 := 39) (pc' := 67) rfl (hb hby d_prog_163_method_1_39) rfl (flt hp1).2.1 (by decide) (by decide) ?_
    show Steps p.tables e below (T2.setTop (mkF m 67 #[.val (.ref a1), .val (.ref w_DECIMAL), .val (.int p3), .val (.int p4), .val (.int (1 : Int32))] [])) _
    refine XS.aloadN X2.here hx rfl (hb hby d_prog_163_method_1_67) rfl rfl ?_
    show Steps p.tables e below (T2.setTop (mkF m 68 #[.val (.ref a1), .val (.ref w_DECIMAL), .val (.int p3), .val (.int p4), .val (.int (1 : Int32))] [(.ref w_DECIMAL)])) _
    refine st3 _ ?_
    show Steps p.tables e below (T3.setTop (mkF m 71 #[.val (.ref a1), .val (.ref w_DECIMAL), .val (.int p3), .val (.int p4), .val (.int (1 : Int32))] [(.ref w_DECIMAL), (.ref w_DECIMAL)])) _
    refine Jvm.RoadKit.acmp (g := (mkF m 71 #[.val (.ref a1), .val (.ref w_DECIMAL), .val (.int p3), .val (.int p4), .val (.int (1 : Int32))] [(.ref w_DECIMAL), (.ref w_DECIMAL)])) X3 hx rfl rfl rfl (pc0 := 71) (pc' := 74) (same := true) rfl (hb hby d_prog_163_method_1_71) rfl (decide_eq_true rfl) (by decide) (by decide) ?_
    show Steps p.tables e below (T3.setTop (mkF m 74 #[.val (.ref a1), .val (.ref w_DECIMAL), .val (.int p3), .val (.int p4), .val (.int (1 : Int32))] [])) _
    refine XS.iloadN X3.here hx rfl (hb hby d_prog_163_method_1_74) rfl ?_
    show Steps p.tables e below (T3.setTop (mkF m 75 #[.val (.ref a1), .val (.ref w_DECIMAL), .val (.int p3), .val (.int p4), .val (.int (1 : Int32))] [(.int p4)])) _
    refine XS.ifNo X3.here hx rfl (hb hby d_prog_163_method_1_75) rfl ((if0 _ _).trans (flt hp2).1) ?_
    show Steps p.tables e below (T3.setTop (mkF m 78 #[.val (.ref a1), .val (.ref w_DECIMAL), .val (.int p3), .val (.int p4), .val (.int (1 : Int32))] [])) _
    refine XS.iloadN X3.here hx rfl (hb hby d_prog_163_method_1_78) rfl ?_
    show Steps p.tables e below (T3.setTop (mkF m 79 #[.val (.ref a1), .val (.ref w_DECIMAL), .val (.int p3), .val (.int p4), .val (.int (1 : Int32))] [(.int p4)])) _
    refine XS.iloadN X3.here hx rfl (hb hby d_prog_163_method_1_79) rfl ?_
    show Steps p.tables e below (T3.setTop (mkF m 80 #[.val (.ref a1), .val (.ref w_DECIMAL), .val (.int p3), .val (.int p4), .val (.int (1 : Int32))] [(.int p3), (.int p4)])) _
    refine XS.icmpNo X3.here hx rfl (hb hby d_prog_163_method_1_80) rfl (flt hp3).2.2.1 ?_
    show Steps p.tables e below (T3.setTop (mkF m 83 #[.val (.ref a1), .val (.ref w_DECIMAL), .val (.int p3), .val (.int p4), .val (.int (1 : Int32))] [])) _
    refine XS.iloadN X3.here hx rfl (hb hby d_prog_163_method_1_83) rfl ?_
    show Steps p.tables e below (T3.setTop (mkF m 84 #[.val (.ref a1), .val (.ref w_DECIMAL), .val (.int p3), .val (.int p4), .val (.int (1 : Int32))] [(.int p3)])) _
    refine XS.bipush X3.here hx rfl (hb hby d_prog_163_method_1_84) ?_
    show Steps p.tables e below (T3.setTop (mkF m 86 #[.val (.ref a1), .val (.ref w_DECIMAL), .val (.int p3), .val (.int p4), .val (.int (1 : Int32))] [(.int (38 : Int32)), (.int p3)])) _
    refine XS.icmpYes X3.here hx rfl (pc0 := 86) (pc' := 111) rfl (hb hby d_prog_163_method_1_86) rfl (flt hp4).2.2.2 (by decide) (by decide) ?_
    show Steps p.tables e below (T3.setTop (mkF m 111 #[.val (.ref a1), .val (.ref w_DECIMAL), .val (.int p3), .val (.int p4), .val (.int (1 : Int32))] [])) _
    refine XS.aloadN X3.here hx rfl (hb hby d_prog_163_method_1_111) rfl rfl ?_
    show Steps p.tables e below (T3.setTop (mkF m 112 #[.val (.ref a1), .val (.ref w_DECIMAL), .val (.int p3), .val (.int p4), .val (.int (1 : Int32))] [(.ref a1)])) _
    refine XS.aloadN X3.here hx rfl (hb hby d_prog_163_method_1_112) rfl rfl ?_
    show Steps p.tables e below (T3.setTop (mkF m 113 #[.val (.ref a1), .val (.ref w_DECIMAL), .val (.int p3), .val (.int p4), .val (.int (1 : Int32))] [(.ref w_DECIMAL), (.ref a1)])) _
    refine st4 _ ?_
    show Steps p.tables e below (T4.setTop (mkF m 116 #[.val (.ref a1), .val (.ref w_DECIMAL), .val (.int p3), .val (.int p4), .val (.int (1 : Int32))] [])) _
    refine XS.aloadN X4.here hx rfl (hb hby d_prog_163_method_1_116) rfl rfl ?_
    show Steps p.tables e below (T4.setTop (mkF m 117 #[.val (.ref a1), .val (.ref w_DECIMAL), .val (.int p3), .val (.int p4), .val (.int (1 : Int32))] [(.ref a1)])) _
    refine XS.iloadN X4.here hx rfl (hb hby d_prog_163_method_1_117) rfl ?_
    show Steps p.tables e below (T4.setTop (mkF m 118 #[.val (.ref a1), .val (.ref w_DECIMAL), .val (.int p3), .val (.int p4), .val (.int (1 : Int32))] [(.int p3), (.ref a1)])) _
    refine st5 _ ?_
    show Steps p.tables e below (T5.setTop (mkF m 121 #[.val (.ref a1), .val (.ref w_DECIMAL), .val (.int p3), .val (.int p4), .val (.int (1 : Int32))] [])) _
    refine XS.aloadN X5.here hx rfl (hb hby d_prog_163_method_1_121) rfl rfl ?_
    show Steps p.tables e below (T5.setTop (mkF m 122 #[.val (.ref a1), .val (.ref w_DECIMAL), .val (.int p3), .val (.int p4), .val (.int (1 : Int32))] [(.ref a1)])) _
    refine XS.iloadN X5.here hx rfl (hb hby d_prog_163_method_1_122) rfl ?_
    show Steps p.tables e below (T5.setTop (mkF m 123 #[.val (.ref a1), .val (.ref w_DECIMAL), .val (.int p3), .val (.int p4), .val (.int (1 : Int32))] [(.int p4), (.ref a1)])) _
    refine st6 _ ?_
    exact k)
  obtain ⟨fs, hr, hrun, hended, hW, hsame⟩ := X6.leave (v := none) (fun _ => rfl)
  refine ⟨_, _, pre7 _ ?_, hrun, hended, _, _, rfl, ?_, ⟨_, rfl⟩, hW, hsame.mono (by decide) (by decide)⟩
  · show Steps p.tables e below (T6.setTop (mkF m 126 #[.val (.ref a1), .val (.ref w_DECIMAL), .val (.int p3), .val (.int p4), .val (.int (1 : Int32))] [])) _
    exact X6.returnOut hx Bd.returns (hb hby d_prog_163_method_1_126) hr
  · exact ⟨rfl, N6, by rw [show (T6.setFrames fs).heap = _ from e6]; exact ⟨K6, Ew6, F6_kind⟩⟩
theorem ef_law2 (m : MethodId) (x0 : Int32) (x1 : Int32) (x2 : Int32) : entryFrame m #[(.int x0), (.int x1), (.int x2)] maxLocals = mkF m 0 #[.val (.int x0), .val (.int x1), .val (.int x2), .unset, .unset, .unset, .unset, .unset, .unset] [] := by first | (simp [entryFrame, mkF, argsToLocals, Value.category, maxLocals]; done) | rfl
set_option maxRecDepth 65536 in
set_option maxHeartbeats 40000000 in
theorem rm_law2 (l : Launch) (Z : State) (a0 : Array Value) (hw : ∀ d ∈ tables_1, d.before a0 Z = true) (ws : List Jvm.Cond) (p1 : Int32) (p2 : Int32) (p3 : Int32) (h0 : Heap) (n0 : Nat) (Z0 : n0 ≤ h0.size) (w_INTEGER w_DECIMAL w_CHAR w_VARCHAR w_BOOLEAN w_INTERVAL w_DOUBLE w_BIGINT w_DATE : Addr) (hK : own_K Z h0 w_INTEGER w_DECIMAL w_CHAR w_VARCHAR w_BOOLEAN w_INTERVAL w_DOUBLE w_BIGINT w_DATE) (z y : Int32) (hk : ((p1 &&& (2147483647 : Int32)) % (9 : Int32)) = (2 : Int32)) (hz : ((1 : Int32) + ((p2 &&& (2147483647 : Int32)) % (38 : Int32))) = z) (hzn : z + (1 : Int32) ≠ 0) (hy : ((p3 &&& (2147483647 : Int32)) % (z + (1 : Int32))) = y) (hz1 : ¬ z < (1 : Int32)) (hy1 : ¬ y < (0 : Int32)) (hy2 : ¬ z < y) (hz2 : ¬ (38 : Int32) < z) :
    MetFree l x (head1 (Jvm.Cond.code x code maxLocals ret :: ws) room_1) (fun a U => a = #[(.int p1), (.int p2), (.int p3)] ∧ Z.Warmed39 U.vm ∧ U.heap = h0) (fun _ _ _ _ _ => True) (fun _ U o U' => ∃ v L, o = .returned v ∧ own_QH (some (.int (1 : Int32))) n0 v U'.heap L ∧ FrameEnd U o U' L room_1.cells room_1.slots) := by
  refine MetFree.of_bodySF (plainFor_of_name pn_0) hisR ?_
  intro p e s m args below meth c s₁ Bd hml0 hP hK0
  obtain ⟨rfl, hZ, hh⟩ := hP
  have hx := Bd.exec
  have hby := Bd.bytes
  have hml : c.maxLocals = 9 := hml0
  have hown : s.vm.findClass "com/example/cairn/cairn/types/DataTypeIsStorablePinLaw" = some m.cls := findClass_of_methodNamed Bd.named
  have hnm := (name_of_methodNamed Bd.named Bd.method).1
  have X0 : Stand p l e room_1 s m #[(.int p1), (.int p2), (.int p3)] below meth c s₁ [] 0 0 := Stand.of_body Bd
  have e0 : s₁.heap = h0 := by rw [← hh, Bd.state]; rfl
  have N0 := Fr.nil n0
  have pre0 : ∀ t, Steps p.tables e below (s₁.setTop (mkF m 0 #[.val (.int p1), .val (.int p2), .val (.int p3), .unset, .unset, .unset, .unset, .unset, .unset] [])) t → Steps p.tables e below (s₁.setTop (entryFrame m #[(.int p1), (.int p2), (.int p3)] maxLocals)) t := fun t k => castTop (ef_law2 m p1 p2 p3) k
  have hK' := hK
  obtain ⟨S_w_INTEGER, E_w_INTEGER, S_w_DECIMAL, E_w_DECIMAL, F_ordinal_w_INTEGER, F_ordinal_w_DECIMAL, S_w_CHAR, E_w_CHAR, F_ordinal_w_CHAR, S_w_VARCHAR, E_w_VARCHAR, F_ordinal_w_VARCHAR, S_w_BOOLEAN, E_w_BOOLEAN, F_ordinal_w_BOOLEAN, S_w_INTERVAL, E_w_INTERVAL, F_ordinal_w_INTERVAL, S_w_DOUBLE, E_w_DOUBLE, F_ordinal_w_DOUBLE, S_w_BIGINT, E_w_BIGINT, F_ordinal_w_BIGINT, S_w_DATE, E_w_DATE, F_ordinal_w_DATE⟩ := hK'
  obtain ⟨v1, _, ⟨T1, L1, k1, n1⟩, -, X1, ⟨Lc1, hQ1, l1, y1, z1⟩, st1⟩ := Jvm.LawKit.callS X0 hx (y := (⟨"com/example/cairn/cairn/types/DataTypeIsStorablePinLaw", "pick", "(I)Lcom/example/cairn/cairn/types/DataType$Kind;"⟩ : MethodName)) hown (mvT hZ (hw _ (ow 1 rfl))) (mvT hZ (hw _ (ow 2 rfl))) (mvT hZ (hw _ (ow 3 rfl))) (mvT hZ (hw _ (ow 4 rfl))) (by decide) (backOf (W := 0) (rm_pick l Z a0 hw [] (2 : Int32) h0 n0 w_INTEGER w_DECIMAL w_CHAR w_VARCHAR w_BOOLEAN w_INTERVAL w_DOUBLE w_BIGINT w_DATE hK) hZ (hw _ (ow 4 rfl)) (hw _ (ow 3 rfl)) (by decide) (by decide)) (g := (mkF m 9 #[.val (.int p1), .val (.int p2), .val (.int p3), .val (.int (2 : Int32)), .unset, .unset, .unset, .unset, .unset] [(.int (2 : Int32))])) rfl (by rw [hml]; rfl) (argsL := [(.int (2 : Int32))]) (rest := []) (lenOf pd_1 rfl) rfl (Nat.le_of_eq rfl) (hb hby at_9) (fun _ _ => ⟨rfl, e0, (by decide : 0 + 0 ≤ _), (by decide : 0 + 0 ≤ _)⟩)
  dsimp only [Pt.U, Pt.locs, Pt.cells, Pt.slots] at X1 l1 y1 z1 st1 hQ1
  subst l1 y1 z1
  obtain ⟨hv1, Nq1, e1⟩ := hQ1
  obtain rfl : v1 = some (.ref w_DECIMAL) := hv1.trans (congrArg some (congrArg Value.ref ((if_neg (by decide)).trans ((if_neg (by decide)).trans (if_pos (by decide))))))
  have N1 := Fr.app N0 Nq1
  obtain ⟨T2, h2, X2, e2, Eq2, A2, D2, -, st2⟩ := newO X1 hx hZ hown (hw _ (ow 8 rfl)) (hw _ (ow 9 rfl)) (hw _ (ow 10 rfl)) e1 (g := (mkF m 70 #[.val (.int p1), .val (.int p2), .val (.int p3), .val (.int (2 : Int32)), .val (.ref w_DECIMAL), .val (.int z), .val (.int y), .unset, .unset] [])) rfl (hb hby at_70) (by decide) (by decide)
  obtain ⟨b2, gb2⟩ : ∃ z, z = h0.size := ⟨_, rfl⟩
  rw [← gb2] at A2 D2 st2
  have F2_kind : Fld Z h2 b2 "com/example/cairn/cairn/types/DataType" "kind" "Lcom/example/cairn/cairn/types/DataType$Kind;" .null := D2 (Or.inr (hw _ (ow 29 rfl))) (ty := (.object "com/example/cairn/cairn/types/DataType$Kind")) (by decide)
  have F2_precision : Fld Z h2 b2 "com/example/cairn/cairn/types/DataType" "precision" "I" (.int (0 : Int32)) := D2 (Or.inr (hw _ (ow 31 rfl))) (ty := .int) (by decide)
  have F2_scale : Fld Z h2 b2 "com/example/cairn/cairn/types/DataType" "scale" "I" (.int (0 : Int32)) := D2 (Or.inr (hw _ (ow 33 rfl))) (ty := .int) (by decide)
  have sz_b2 : h0.size ≤ b2 := Nat.le_of_eq gb2.symm
  have g_b2 : n0 ≤ b2 := Nat.le_trans Z0 sz_b2
  have EX2 : Ext h0 h2 := Eq2
  obtain ⟨v3, _, ⟨T3, L3, k3, n3⟩, -, X3, ⟨Lc3, hQ3, l3, y3, z3⟩, st3⟩ := X2.specialBack hx (y := (⟨"com/example/cairn/cairn/types/DataType", "<init>", "(Lcom/example/cairn/cairn/types/DataType$Kind;II)V"⟩ : MethodName)) rfl hown (mvT hZ (hw _ (ow 11 rfl))) (mvT hZ (hw _ (ow 12 rfl))) (mvT hZ (hw _ (ow 13 rfl))) (by decide) (backOf (W := 1) (rm_init2 l Z a0 hw [] b2 z y h2 n0 w_INTEGER w_DECIMAL w_CHAR w_VARCHAR w_BOOLEAN w_INTERVAL w_DOUBLE w_BIGINT w_DATE (own_K_ext EX2 hK) F2_kind F2_precision F2_scale A2 g_b2 hz1 hy1 hy2 hz2) hZ (hw _ (ow 13 rfl)) (hw _ (ow 10 rfl)) (by decide) (by decide)) (g := (mkF m 80 #[.val (.int p1), .val (.int p2), .val (.int p3), .val (.int (2 : Int32)), .val (.ref w_DECIMAL), .val (.int z), .val (.int y), .unset, .unset] [(.int y), (.int z), (.ref w_DECIMAL), (.ref b2), (.ref b2)])) rfl (by rw [hml]; rfl) (Steps.refl _) (a := b2) (argsL := [(.ref w_DECIMAL), (.int z), (.int y)]) (rest := [(.ref b2)]) (lenOf pd_2 rfl) rfl (Nat.le_of_eq rfl) (hb hby at_80) (fun _ _ => ⟨rfl, e2, (by decide : 1 + 0 ≤ _), (by decide : 3 + 0 ≤ _)⟩)
  dsimp only [Pt.U, Pt.locs, Pt.cells, Pt.slots] at X3 l3 y3 z3 st3 hQ3
  subst l3 y3 z3
  obtain ⟨hv3, Nq3, Kq3, Ei3, Fi3⟩ := hQ3
  obtain rfl : v3 = none := hv3
  have N3 := Fr.app N1 Nq3
  have EX3 : Ext h0 T3.heap := own_ext_keep EX2 Kq3 sz_b2
  obtain ⟨cq4, kq4, q4a, q4b, q4c⟩ := isOf hZ (rfl : T3.heap = T3.heap) Ei3
  obtain ⟨v4, _, ⟨T4, L4, k4, n4⟩, -, X4, ⟨Lc4, hQ4, l4, y4, z4⟩, st4⟩ := X3.virtualBack hx (y := (⟨"com/example/cairn/cairn/types/DataType", "isStorable", "()Z"⟩ : MethodName)) (z := (⟨"com/example/cairn/cairn/types/DataType", "isStorable", "()Z"⟩ : MethodName)) hown (mvT hZ (hw _ (ow 34 rfl))) (mvT hZ (hw _ (ow 35 rfl))) (notFace_of_selects (args := #[]) (mvT hZ (hw _ (ow 37 rfl)))) (mvT hZ (hw _ (ow 37 rfl))) (mvT hZ (hw _ (ow 36 rfl))) (by decide) (backOf (W := 0) (rm_isStorable l Z a0 hw [] b2 w_DECIMAL T3.heap n0 w_INTEGER w_DECIMAL w_CHAR w_VARCHAR w_BOOLEAN w_INTERVAL w_DOUBLE w_BIGINT w_DATE (own_K_ext EX3 hK) Fi3) hZ (hw _ (ow 38 rfl)) (hw _ (ow 10 rfl)) (by decide) (by decide)) q4a q4c (g := (mkF m 99 #[.val (.int p1), .val (.int p2), .val (.int p3), .val (.int (2 : Int32)), .val (.ref w_DECIMAL), .val (.int z), .val (.int y), .val (.ref b2), .val (.int (1 : Int32))] [(.ref b2)])) rfl (by rw [hml]; rfl) (Steps.refl _) (argsL := []) (rest := []) (lenOf pd_3 rfl) rfl (Nat.le_of_eq rfl) (hb hby at_99) (fun _ _ => ⟨rfl, (rfl : T3.heap = T3.heap), (by decide : 1 + 0 ≤ _), (by decide : 3 + 0 ≤ _)⟩)
  dsimp only [Pt.U, Pt.locs, Pt.cells, Pt.slots] at X4 l4 y4 z4 st4 hQ4
  subst l4 y4 z4
  obtain ⟨hv4, Nq4, e4⟩ := hQ4
  obtain rfl : v4 = some (.int (1 : Int32)) := hv4.trans (congrArg some (congrArg Value.int ((if_neg (Fld.ne F_ordinal_w_DECIMAL F_ordinal_w_BOOLEAN (by decide))).trans ((if_neg (Fld.ne F_ordinal_w_DECIMAL F_ordinal_w_INTERVAL (by decide))).trans (if_neg (Fld.ne F_ordinal_w_DECIMAL F_ordinal_w_DOUBLE (by decide)))))))
  have N4 := Fr.app N3 Nq4
  have pre5 : ∀ t, Steps p.tables e below (T4.setTop (mkF m 112 #[.val (.int p1), .val (.int p2), .val (.int p3), .val (.int (2 : Int32)), .val (.ref w_DECIMAL), .val (.int z), .val (.int y), .val (.ref b2), .val (.int (1 : Int32))] [(.int (1 : Int32))])) t → Steps p.tables e below (s₁.setTop (entryFrame m #[(.int p1), (.int p2), (.int p3)] maxLocals)) t := fun t k => pre0 t (by
    show Steps p.tables e below (s₁.setTop (mkF m 0 #[.val (.int p1), .val (.int p2), .val (.int p3), .unset, .unset, .unset, .unset, .unset, .unset] [])) _
    refine XS.iloadN X0.here hx rfl (hb hby at_0) rfl ?_
    show Steps p.tables e below (s₁.setTop (mkF m 1 #[.val (.int p1), .val (.int p2), .val (.int p3), .unset, .unset, .unset, .unset, .unset, .unset] [(.int p1)])) _
    refine X0.ldcInt hx hown (mvT hZ (hw _ (ow 0 rfl))) (g := (mkF m 1 #[.val (.int p1), .val (.int p2), .val (.int p3), .unset, .unset, .unset, .unset, .unset, .unset] [(.int p1)])) rfl (hb hby at_1) _ ?_
    show Steps p.tables e below (s₁.setTop (mkF m 3 #[.val (.int p1), .val (.int p2), .val (.int p3), .unset, .unset, .unset, .unset, .unset, .unset] [(.int (2147483647 : Int32)), (.int p1)])) _
    refine XS.iand X0.here hx rfl (hb hby at_3) rfl ?_
    show Steps p.tables e below (s₁.setTop (mkF m 4 #[.val (.int p1), .val (.int p2), .val (.int p3), .unset, .unset, .unset, .unset, .unset, .unset] [(.int (p1 &&& (2147483647 : Int32)))])) _
    refine XS.bipush X0.here hx rfl (hb hby at_4) ?_
    show Steps p.tables e below (s₁.setTop (mkF m 6 #[.val (.int p1), .val (.int p2), .val (.int p3), .unset, .unset, .unset, .unset, .unset, .unset] [(.int (9 : Int32)), (.int (p1 &&& (2147483647 : Int32)))])) _
    refine iremM X0 hx rfl (hb hby at_6) rfl (by decide) ?_
    show Steps p.tables e below (s₁.setTop (mkF m 7 #[.val (.int p1), .val (.int p2), .val (.int p3), .unset, .unset, .unset, .unset, .unset, .unset] [(.int ((p1 &&& (2147483647 : Int32)) % (9 : Int32)))])) _
    rw [hk]
    show Steps p.tables e below (s₁.setTop (mkF m 7 #[.val (.int p1), .val (.int p2), .val (.int p3), .unset, .unset, .unset, .unset, .unset, .unset] [(.int (2 : Int32))])) _
    refine XS.istoreN X0.here hx rfl (hb hby at_7) rfl (l' := #[.val (.int p1), .val (.int p2), .val (.int p3), .val (.int (2 : Int32)), .unset, .unset, .unset, .unset, .unset]) rfl ?_
    show Steps p.tables e below (s₁.setTop (mkF m 8 #[.val (.int p1), .val (.int p2), .val (.int p3), .val (.int (2 : Int32)), .unset, .unset, .unset, .unset, .unset] [])) _
    refine XS.iloadN X0.here hx rfl (hb hby at_8) rfl ?_
    show Steps p.tables e below (s₁.setTop (mkF m 9 #[.val (.int p1), .val (.int p2), .val (.int p3), .val (.int (2 : Int32)), .unset, .unset, .unset, .unset, .unset] [(.int (2 : Int32))])) _
    refine st1 _ ?_
    show Steps p.tables e below (T1.setTop (mkF m 12 #[.val (.int p1), .val (.int p2), .val (.int p3), .val (.int (2 : Int32)), .unset, .unset, .unset, .unset, .unset] [(.ref w_DECIMAL)])) _
    refine XS.astore X1.here hx rfl (hb hby at_12) rfl rfl (l' := #[.val (.int p1), .val (.int p2), .val (.int p3), .val (.int (2 : Int32)), .val (.ref w_DECIMAL), .unset, .unset, .unset, .unset]) rfl ?_
    show Steps p.tables e below (T1.setTop (mkF m 14 #[.val (.int p1), .val (.int p2), .val (.int p3), .val (.int (2 : Int32)), .val (.ref w_DECIMAL), .unset, .unset, .unset, .unset] [])) _
    refine XS.iconst X1.here hx rfl (hb hby at_14) ?_
    show Steps p.tables e below (T1.setTop (mkF m 15 #[.val (.int p1), .val (.int p2), .val (.int p3), .val (.int (2 : Int32)), .val (.ref w_DECIMAL), .unset, .unset, .unset, .unset] [(.int (0 : Int32))])) _
    refine XS.istore X1.here hx rfl (hb hby at_15) rfl (l' := #[.val (.int p1), .val (.int p2), .val (.int p3), .val (.int (2 : Int32)), .val (.ref w_DECIMAL), .val (.int (0 : Int32)), .unset, .unset, .unset]) rfl ?_
    show Steps p.tables e below (T1.setTop (mkF m 17 #[.val (.int p1), .val (.int p2), .val (.int p3), .val (.int (2 : Int32)), .val (.ref w_DECIMAL), .val (.int (0 : Int32)), .unset, .unset, .unset] [])) _
    refine XS.iconst X1.here hx rfl (hb hby at_17) ?_
    show Steps p.tables e below (T1.setTop (mkF m 18 #[.val (.int p1), .val (.int p2), .val (.int p3), .val (.int (2 : Int32)), .val (.ref w_DECIMAL), .val (.int (0 : Int32)), .unset, .unset, .unset] [(.int (0 : Int32))])) _
    refine XS.istore X1.here hx rfl (hb hby at_18) rfl (l' := #[.val (.int p1), .val (.int p2), .val (.int p3), .val (.int (2 : Int32)), .val (.ref w_DECIMAL), .val (.int (0 : Int32)), .val (.int (0 : Int32)), .unset, .unset]) rfl ?_
    show Steps p.tables e below (T1.setTop (mkF m 20 #[.val (.int p1), .val (.int p2), .val (.int p3), .val (.int (2 : Int32)), .val (.ref w_DECIMAL), .val (.int (0 : Int32)), .val (.int (0 : Int32)), .unset, .unset] [])) _
    refine XS.iloadN X1.here hx rfl (hb hby at_20) rfl ?_
    show Steps p.tables e below (T1.setTop (mkF m 21 #[.val (.int p1), .val (.int p2), .val (.int p3), .val (.int (2 : Int32)), .val (.ref w_DECIMAL), .val (.int (0 : Int32)), .val (.int (0 : Int32)), .unset, .unset] [(.int (2 : Int32))])) _
    refine XS.iconst X1.here hx rfl (hb hby at_21) ?_
    show Steps p.tables e below (T1.setTop (mkF m 22 #[.val (.int p1), .val (.int p2), .val (.int p3), .val (.int (2 : Int32)), .val (.ref w_DECIMAL), .val (.int (0 : Int32)), .val (.int (0 : Int32)), .unset, .unset] [(.int (2 : Int32)), (.int (2 : Int32))])) _
    refine XS.icmpNo X1.here hx rfl (hb hby at_22) rfl (teq (by decide)).2 ?_
    show Steps p.tables e below (T1.setTop (mkF m 25 #[.val (.int p1), .val (.int p2), .val (.int p3), .val (.int (2 : Int32)), .val (.ref w_DECIMAL), .val (.int (0 : Int32)), .val (.int (0 : Int32)), .unset, .unset] [])) _
    refine XS.iconst X1.here hx rfl (hb hby at_25) ?_
    show Steps p.tables e below (T1.setTop (mkF m 26 #[.val (.int p1), .val (.int p2), .val (.int p3), .val (.int (2 : Int32)), .val (.ref w_DECIMAL), .val (.int (0 : Int32)), .val (.int (0 : Int32)), .unset, .unset] [(.int (1 : Int32))])) _
    refine XS.iloadN X1.here hx rfl (hb hby at_26) rfl ?_
    show Steps p.tables e below (T1.setTop (mkF m 27 #[.val (.int p1), .val (.int p2), .val (.int p3), .val (.int (2 : Int32)), .val (.ref w_DECIMAL), .val (.int (0 : Int32)), .val (.int (0 : Int32)), .unset, .unset] [(.int p2), (.int (1 : Int32))])) _
    refine X1.ldcInt hx hown (mvT hZ (hw _ (ow 0 rfl))) (g := (mkF m 27 #[.val (.int p1), .val (.int p2), .val (.int p3), .val (.int (2 : Int32)), .val (.ref w_DECIMAL), .val (.int (0 : Int32)), .val (.int (0 : Int32)), .unset, .unset] [(.int p2), (.int (1 : Int32))])) rfl (hb hby at_27) _ ?_
    show Steps p.tables e below (T1.setTop (mkF m 29 #[.val (.int p1), .val (.int p2), .val (.int p3), .val (.int (2 : Int32)), .val (.ref w_DECIMAL), .val (.int (0 : Int32)), .val (.int (0 : Int32)), .unset, .unset] [(.int (2147483647 : Int32)), (.int p2), (.int (1 : Int32))])) _
    refine XS.iand X1.here hx rfl (hb hby at_29) rfl ?_
    show Steps p.tables e below (T1.setTop (mkF m 30 #[.val (.int p1), .val (.int p2), .val (.int p3), .val (.int (2 : Int32)), .val (.ref w_DECIMAL), .val (.int (0 : Int32)), .val (.int (0 : Int32)), .unset, .unset] [(.int (p2 &&& (2147483647 : Int32))), (.int (1 : Int32))])) _
    refine XS.bipush X1.here hx rfl (hb hby at_30) ?_
    show Steps p.tables e below (T1.setTop (mkF m 32 #[.val (.int p1), .val (.int p2), .val (.int p3), .val (.int (2 : Int32)), .val (.ref w_DECIMAL), .val (.int (0 : Int32)), .val (.int (0 : Int32)), .unset, .unset] [(.int (38 : Int32)), (.int (p2 &&& (2147483647 : Int32))), (.int (1 : Int32))])) _
    refine iremM X1 hx rfl (hb hby at_32) rfl (by decide) ?_
    show Steps p.tables e below (T1.setTop (mkF m 33 #[.val (.int p1), .val (.int p2), .val (.int p3), .val (.int (2 : Int32)), .val (.ref w_DECIMAL), .val (.int (0 : Int32)), .val (.int (0 : Int32)), .unset, .unset] [(.int ((p2 &&& (2147483647 : Int32)) % (38 : Int32))), (.int (1 : Int32))])) _
    refine XS.iadd X1.here hx rfl (hb hby at_33) rfl ?_
    show Steps p.tables e below (T1.setTop (mkF m 34 #[.val (.int p1), .val (.int p2), .val (.int p3), .val (.int (2 : Int32)), .val (.ref w_DECIMAL), .val (.int (0 : Int32)), .val (.int (0 : Int32)), .unset, .unset] [(.int ((1 : Int32) + ((p2 &&& (2147483647 : Int32)) % (38 : Int32))))])) _
    rw [hz]
    show Steps p.tables e below (T1.setTop (mkF m 34 #[.val (.int p1), .val (.int p2), .val (.int p3), .val (.int (2 : Int32)), .val (.ref w_DECIMAL), .val (.int (0 : Int32)), .val (.int (0 : Int32)), .unset, .unset] [(.int z)])) _
    refine XS.istore X1.here hx rfl (hb hby at_34) rfl (l' := #[.val (.int p1), .val (.int p2), .val (.int p3), .val (.int (2 : Int32)), .val (.ref w_DECIMAL), .val (.int z), .val (.int (0 : Int32)), .unset, .unset]) rfl ?_
    show Steps p.tables e below (T1.setTop (mkF m 36 #[.val (.int p1), .val (.int p2), .val (.int p3), .val (.int (2 : Int32)), .val (.ref w_DECIMAL), .val (.int z), .val (.int (0 : Int32)), .unset, .unset] [])) _
    refine XS.iloadN X1.here hx rfl (hb hby at_36) rfl ?_
    show Steps p.tables e below (T1.setTop (mkF m 37 #[.val (.int p1), .val (.int p2), .val (.int p3), .val (.int (2 : Int32)), .val (.ref w_DECIMAL), .val (.int z), .val (.int (0 : Int32)), .unset, .unset] [(.int p3)])) _
    refine X1.ldcInt hx hown (mvT hZ (hw _ (ow 0 rfl))) (g := (mkF m 37 #[.val (.int p1), .val (.int p2), .val (.int p3), .val (.int (2 : Int32)), .val (.ref w_DECIMAL), .val (.int z), .val (.int (0 : Int32)), .unset, .unset] [(.int p3)])) rfl (hb hby at_37) _ ?_
    show Steps p.tables e below (T1.setTop (mkF m 39 #[.val (.int p1), .val (.int p2), .val (.int p3), .val (.int (2 : Int32)), .val (.ref w_DECIMAL), .val (.int z), .val (.int (0 : Int32)), .unset, .unset] [(.int (2147483647 : Int32)), (.int p3)])) _
    refine XS.iand X1.here hx rfl (hb hby at_39) rfl ?_
    show Steps p.tables e below (T1.setTop (mkF m 40 #[.val (.int p1), .val (.int p2), .val (.int p3), .val (.int (2 : Int32)), .val (.ref w_DECIMAL), .val (.int z), .val (.int (0 : Int32)), .unset, .unset] [(.int (p3 &&& (2147483647 : Int32)))])) _
    refine XS.iload X1.here hx rfl (hb hby at_40) rfl ?_
    show Steps p.tables e below (T1.setTop (mkF m 42 #[.val (.int p1), .val (.int p2), .val (.int p3), .val (.int (2 : Int32)), .val (.ref w_DECIMAL), .val (.int z), .val (.int (0 : Int32)), .unset, .unset] [(.int z), (.int (p3 &&& (2147483647 : Int32)))])) _
    refine XS.iconst X1.here hx rfl (hb hby at_42) ?_
    show Steps p.tables e below (T1.setTop (mkF m 43 #[.val (.int p1), .val (.int p2), .val (.int p3), .val (.int (2 : Int32)), .val (.ref w_DECIMAL), .val (.int z), .val (.int (0 : Int32)), .unset, .unset] [(.int (1 : Int32)), (.int z), (.int (p3 &&& (2147483647 : Int32)))])) _
    refine XS.iadd X1.here hx rfl (hb hby at_43) rfl ?_
    show Steps p.tables e below (T1.setTop (mkF m 44 #[.val (.int p1), .val (.int p2), .val (.int p3), .val (.int (2 : Int32)), .val (.ref w_DECIMAL), .val (.int z), .val (.int (0 : Int32)), .unset, .unset] [(.int (z + (1 : Int32))), (.int (p3 &&& (2147483647 : Int32)))])) _
    refine iremM X1 hx rfl (hb hby at_44) rfl hzn ?_
    show Steps p.tables e below (T1.setTop (mkF m 45 #[.val (.int p1), .val (.int p2), .val (.int p3), .val (.int (2 : Int32)), .val (.ref w_DECIMAL), .val (.int z), .val (.int (0 : Int32)), .unset, .unset] [(.int ((p3 &&& (2147483647 : Int32)) % (z + (1 : Int32))))])) _
    rw [hy]
    show Steps p.tables e below (T1.setTop (mkF m 45 #[.val (.int p1), .val (.int p2), .val (.int p3), .val (.int (2 : Int32)), .val (.ref w_DECIMAL), .val (.int z), .val (.int (0 : Int32)), .unset, .unset] [(.int y)])) _
    refine XS.istore X1.here hx rfl (hb hby at_45) rfl (l' := #[.val (.int p1), .val (.int p2), .val (.int p3), .val (.int (2 : Int32)), .val (.ref w_DECIMAL), .val (.int z), .val (.int y), .unset, .unset]) rfl ?_
    show Steps p.tables e below (T1.setTop (mkF m 47 #[.val (.int p1), .val (.int p2), .val (.int p3), .val (.int (2 : Int32)), .val (.ref w_DECIMAL), .val (.int z), .val (.int y), .unset, .unset] [])) _
    refine XS.goto X1.here hx rfl (pc0 := 47) (pc' := 70) rfl (hb hby at_47) (by decide) (by decide) ?_
    show Steps p.tables e below (T1.setTop (mkF m 70 #[.val (.int p1), .val (.int p2), .val (.int p3), .val (.int (2 : Int32)), .val (.ref w_DECIMAL), .val (.int z), .val (.int y), .unset, .unset] [])) _
    refine st2 _ ?_
    show Steps p.tables e below (T2.setTop (mkF m 73 #[.val (.int p1), .val (.int p2), .val (.int p3), .val (.int (2 : Int32)), .val (.ref w_DECIMAL), .val (.int z), .val (.int y), .unset, .unset] [(.ref b2)])) _
    refine XS.dup X2.here hx rfl (hb hby at_73) rfl rfl ?_
    show Steps p.tables e below (T2.setTop (mkF m 74 #[.val (.int p1), .val (.int p2), .val (.int p3), .val (.int (2 : Int32)), .val (.ref w_DECIMAL), .val (.int z), .val (.int y), .unset, .unset] [(.ref b2), (.ref b2)])) _
    refine XS.aload X2.here hx rfl (hb hby at_74) rfl rfl ?_
    show Steps p.tables e below (T2.setTop (mkF m 76 #[.val (.int p1), .val (.int p2), .val (.int p3), .val (.int (2 : Int32)), .val (.ref w_DECIMAL), .val (.int z), .val (.int y), .unset, .unset] [(.ref w_DECIMAL), (.ref b2), (.ref b2)])) _
    refine XS.iload X2.here hx rfl (hb hby at_76) rfl ?_
    show Steps p.tables e below (T2.setTop (mkF m 78 #[.val (.int p1), .val (.int p2), .val (.int p3), .val (.int (2 : Int32)), .val (.ref w_DECIMAL), .val (.int z), .val (.int y), .unset, .unset] [(.int z), (.ref w_DECIMAL), (.ref b2), (.ref b2)])) _
    refine XS.iload X2.here hx rfl (hb hby at_78) rfl ?_
    show Steps p.tables e below (T2.setTop (mkF m 80 #[.val (.int p1), .val (.int p2), .val (.int p3), .val (.int (2 : Int32)), .val (.ref w_DECIMAL), .val (.int z), .val (.int y), .unset, .unset] [(.int y), (.int z), (.ref w_DECIMAL), (.ref b2), (.ref b2)])) _
    refine st3.trans ?_
    show Steps p.tables e below (T3.setTop (mkF m 83 #[.val (.int p1), .val (.int p2), .val (.int p3), .val (.int (2 : Int32)), .val (.ref w_DECIMAL), .val (.int z), .val (.int y), .unset, .unset] [(.ref b2)])) _
    refine XS.astore X3.here hx rfl (hb hby at_83) rfl rfl (l' := #[.val (.int p1), .val (.int p2), .val (.int p3), .val (.int (2 : Int32)), .val (.ref w_DECIMAL), .val (.int z), .val (.int y), .val (.ref b2), .unset]) rfl ?_
    show Steps p.tables e below (T3.setTop (mkF m 85 #[.val (.int p1), .val (.int p2), .val (.int p3), .val (.int (2 : Int32)), .val (.ref w_DECIMAL), .val (.int z), .val (.int y), .val (.ref b2), .unset] [])) _
    refine XS.iloadN X3.here hx rfl (hb hby at_85) rfl ?_
    show Steps p.tables e below (T3.setTop (mkF m 86 #[.val (.int p1), .val (.int p2), .val (.int p3), .val (.int (2 : Int32)), .val (.ref w_DECIMAL), .val (.int z), .val (.int y), .val (.ref b2), .unset] [(.int (2 : Int32))])) _
    refine XS.iconst X3.here hx rfl (hb hby at_86) ?_
    show Steps p.tables e below (T3.setTop (mkF m 87 #[.val (.int p1), .val (.int p2), .val (.int p3), .val (.int (2 : Int32)), .val (.ref w_DECIMAL), .val (.int z), .val (.int y), .val (.ref b2), .unset] [(.int (5 : Int32)), (.int (2 : Int32))])) _
    refine XS.icmpNo X3.here hx rfl (hb hby at_87) rfl (flt (by decide)).2.2.1 ?_
    show Steps p.tables e below (T3.setTop (mkF m 90 #[.val (.int p1), .val (.int p2), .val (.int p3), .val (.int (2 : Int32)), .val (.ref w_DECIMAL), .val (.int z), .val (.int y), .val (.ref b2), .unset] [])) _
    refine XS.iconst X3.here hx rfl (hb hby at_90) ?_
    show Steps p.tables e below (T3.setTop (mkF m 91 #[.val (.int p1), .val (.int p2), .val (.int p3), .val (.int (2 : Int32)), .val (.ref w_DECIMAL), .val (.int z), .val (.int y), .val (.ref b2), .unset] [(.int (1 : Int32))])) _
    refine XS.goto X3.here hx rfl (pc0 := 91) (pc' := 95) rfl (hb hby at_91) (by decide) (by decide) ?_
    show Steps p.tables e below (T3.setTop (mkF m 95 #[.val (.int p1), .val (.int p2), .val (.int p3), .val (.int (2 : Int32)), .val (.ref w_DECIMAL), .val (.int z), .val (.int y), .val (.ref b2), .unset] [(.int (1 : Int32))])) _
    refine XS.istore X3.here hx rfl (hb hby at_95) rfl (l' := #[.val (.int p1), .val (.int p2), .val (.int p3), .val (.int (2 : Int32)), .val (.ref w_DECIMAL), .val (.int z), .val (.int y), .val (.ref b2), .val (.int (1 : Int32))]) rfl ?_
    show Steps p.tables e below (T3.setTop (mkF m 97 #[.val (.int p1), .val (.int p2), .val (.int p3), .val (.int (2 : Int32)), .val (.ref w_DECIMAL), .val (.int z), .val (.int y), .val (.ref b2), .val (.int (1 : Int32))] [])) _
    refine XS.aload X3.here hx rfl (hb hby at_97) rfl rfl ?_
    show Steps p.tables e below (T3.setTop (mkF m 99 #[.val (.int p1), .val (.int p2), .val (.int p3), .val (.int (2 : Int32)), .val (.ref w_DECIMAL), .val (.int z), .val (.int y), .val (.ref b2), .val (.int (1 : Int32))] [(.ref b2)])) _
    refine st4.trans ?_
    show Steps p.tables e below (T4.setTop (mkF m 102 #[.val (.int p1), .val (.int p2), .val (.int p3), .val (.int (2 : Int32)), .val (.ref w_DECIMAL), .val (.int z), .val (.int y), .val (.ref b2), .val (.int (1 : Int32))] [(.int (1 : Int32))])) _
    refine XS.iload X4.here hx rfl (hb hby at_102) rfl ?_
    show Steps p.tables e below (T4.setTop (mkF m 104 #[.val (.int p1), .val (.int p2), .val (.int p3), .val (.int (2 : Int32)), .val (.ref w_DECIMAL), .val (.int z), .val (.int y), .val (.ref b2), .val (.int (1 : Int32))] [(.int (1 : Int32)), (.int (1 : Int32))])) _
    refine XS.icmpNo X4.here hx rfl (hb hby at_104) rfl (teq (by decide)).2 ?_
    show Steps p.tables e below (T4.setTop (mkF m 107 #[.val (.int p1), .val (.int p2), .val (.int p3), .val (.int (2 : Int32)), .val (.ref w_DECIMAL), .val (.int z), .val (.int y), .val (.ref b2), .val (.int (1 : Int32))] [])) _
    refine XS.iconst X4.here hx rfl (hb hby at_107) ?_
    show Steps p.tables e below (T4.setTop (mkF m 108 #[.val (.int p1), .val (.int p2), .val (.int p3), .val (.int (2 : Int32)), .val (.ref w_DECIMAL), .val (.int z), .val (.int y), .val (.ref b2), .val (.int (1 : Int32))] [(.int (1 : Int32))])) _
    refine XS.goto X4.here hx rfl (pc0 := 108) (pc' := 112) rfl (hb hby at_108) (by decide) (by decide) ?_
    exact k)
  obtain ⟨fs, hr, hrun, hended, hW, hsame⟩ := X4.leave (v := some (.int (1 : Int32))) (fun h => by rw [Bd.returns] at h; cases h)
  refine ⟨_, _, pre5 _ ?_, hrun, hended, _, _, rfl, ?_, ⟨_, rfl⟩, hW, hsame.mono (by decide) (by decide)⟩
  · show Steps p.tables e below (T4.setTop (mkF m 112 #[.val (.int p1), .val (.int p2), .val (.int p3), .val (.int (2 : Int32)), .val (.ref w_DECIMAL), .val (.int z), .val (.int y), .val (.ref b2), .val (.int (1 : Int32))] [(.int (1 : Int32))])) _
    exact retN X4 hx (t := .boolean) Bd.returns (by simp) (hb hby at_112) hr
  · exact ⟨rfl, N4, trivial⟩
def own_Q_init3 (Z : State) (a1 : Addr) (w_INTEGER w_DECIMAL w_CHAR w_VARCHAR w_BOOLEAN w_INTERVAL w_DOUBLE w_BIGINT w_DATE : Addr) (h0 : Heap) (n0 : Nat) (v : Option Value) (h : Heap) (L : List Loc) : Prop := v = none ∧ Fr n0 L ∧ Keep h0 h [a1] ∧ Exa Z h a1 "com/example/cairn/cairn/types/DataType" ∧ Fld Z h a1 "com/example/cairn/cairn/types/DataType" "kind" "Lcom/example/cairn/cairn/types/DataType$Kind;" (.ref w_DATE)
theorem ef_init3 (m : MethodId) (x0 : Addr) (x1 : Addr) (x2 : Int32) (x3 : Int32) : entryFrame m #[(.ref x0), (.ref x1), (.int x2), (.int x3)] 5 = mkF m 0 #[.val (.ref x0), .val (.ref x1), .val (.int x2), .val (.int x3), .unset] [] := by first | (simp [entryFrame, mkF, argsToLocals, Value.category]; done) | rfl
set_option maxRecDepth 65536 in
set_option maxHeartbeats 40000000 in
theorem rm_init3 (l : Launch) (Z : State) (a0 : Array Value) (hw : ∀ d ∈ tables_1, d.before a0 Z = true) (ws : List Jvm.Cond) (a1 : Addr) (h0 : Heap) (n0 : Nat) (w_INTEGER w_DECIMAL w_CHAR w_VARCHAR w_BOOLEAN w_INTERVAL w_DOUBLE w_BIGINT w_DATE : Addr) (hK : own_K Z h0 w_INTEGER w_DECIMAL w_CHAR w_VARCHAR w_BOOLEAN w_INTERVAL w_DOUBLE w_BIGINT w_DATE) (F_kind : Fld Z h0 a1 "com/example/cairn/cairn/types/DataType" "kind" "Lcom/example/cairn/cairn/types/DataType$Kind;" .null) (F_precision : Fld Z h0 a1 "com/example/cairn/cairn/types/DataType" "precision" "I" (.int (0 : Int32))) (F_scale : Fld Z h0 a1 "com/example/cairn/cairn/types/DataType" "scale" "I" (.int (0 : Int32))) (E_a1 : Exa Z h0 a1 "com/example/cairn/cairn/types/DataType") (g_a1 : n0 ≤ a1) :
    MetFree l (⟨"com/example/cairn/cairn/types/DataType", "<init>", "(Lcom/example/cairn/cairn/types/DataType$Kind;II)V"⟩ : MethodName) (head1 (Jvm.Cond.code (⟨"com/example/cairn/cairn/types/DataType", "<init>", "(Lcom/example/cairn/cairn/types/DataType$Kind;II)V"⟩ : MethodName) prog_163_method_1_code 5 none :: ws) ({ frames := 2, cells := 0, slots := 0, locals := 24 } : Room)) (fun a U => a = #[(.ref a1), (.ref w_DATE), (.int (0 : Int32)), (.int (0 : Int32))] ∧ Z.Warmed39 U.vm ∧ U.heap = h0) (fun _ _ _ _ _ => True) (fun _ U o U' => ∃ v L, o = .returned v ∧ own_Q_init3 Z a1 w_INTEGER w_DECIMAL w_CHAR w_VARCHAR w_BOOLEAN w_INTERVAL w_DOUBLE w_BIGINT w_DATE h0 n0 v U'.heap L ∧ FrameEnd U o U' L ({ frames := 2, cells := 0, slots := 0, locals := 24 } : Room).cells ({ frames := 2, cells := 0, slots := 0, locals := 24 } : Room).slots) := by
  refine MetFree.of_bodySF (plainFor_of_name pn_2) hisR ?_
  intro p e s m args below meth c s₁ Bd hml0 hP hK0
  obtain ⟨rfl, hZ, hh⟩ := hP
  have hx := Bd.exec
  have hby := Bd.bytes
  have hml : c.maxLocals = 5 := hml0
  have hown : s.vm.findClass "com/example/cairn/cairn/types/DataType" = some m.cls := findClass_of_methodNamed Bd.named
  have hnm := (name_of_methodNamed Bd.named Bd.method).1
  have X0 : Stand p l e ({ frames := 2, cells := 0, slots := 0, locals := 24 } : Room) s m #[(.ref a1), (.ref w_DATE), (.int (0 : Int32)), (.int (0 : Int32))] below meth c s₁ [] 0 0 := Stand.of_body Bd
  have e0 : s₁.heap = h0 := by rw [← hh, Bd.state]; rfl
  have N0 := Fr.nil n0
  have pre0 : ∀ t, Steps p.tables e below (s₁.setTop (mkF m 0 #[.val (.ref a1), .val (.ref w_DATE), .val (.int (0 : Int32)), .val (.int (0 : Int32)), .unset] [])) t → Steps p.tables e below (s₁.setTop (entryFrame m #[(.ref a1), (.ref w_DATE), (.int (0 : Int32)), (.int (0 : Int32))] 5)) t := fun t k => castTop (ef_init3 m a1 w_DATE ((0 : Int32)) ((0 : Int32))) k
  have hK' := hK
  obtain ⟨S_w_INTEGER, E_w_INTEGER, S_w_DECIMAL, E_w_DECIMAL, F_ordinal_w_INTEGER, F_ordinal_w_DECIMAL, S_w_CHAR, E_w_CHAR, F_ordinal_w_CHAR, S_w_VARCHAR, E_w_VARCHAR, F_ordinal_w_VARCHAR, S_w_BOOLEAN, E_w_BOOLEAN, F_ordinal_w_BOOLEAN, S_w_INTERVAL, E_w_INTERVAL, F_ordinal_w_INTERVAL, S_w_DOUBLE, E_w_DOUBLE, F_ordinal_w_DOUBLE, S_w_BIGINT, E_w_BIGINT, F_ordinal_w_BIGINT, S_w_DATE, E_w_DATE, F_ordinal_w_DATE⟩ := hK'
  obtain ⟨v1, _, ⟨T1, L1, k1, n1⟩, -, X1, ⟨Lc1, hQ1, l1, y1, z1⟩, st1⟩ := X0.specialBack hx (y := (⟨"java/lang/Record", "<init>", "()V"⟩ : MethodName)) rfl hown (mvT hZ (hw _ (ow 14 rfl))) (mvT hZ (hw _ (ow 15 rfl))) (mvT hZ (hw _ (ow 18 rfl))) (by decide) (backOf (W := 0) (rm_record l Z a0 hw [] a1 h0 n0) hZ (hw _ (ow 18 rfl)) (hw _ (ow 17 rfl)) (by decide) (by decide)) (g := (mkF m 1 #[.val (.ref a1), .val (.ref w_DATE), .val (.int (0 : Int32)), .val (.int (0 : Int32)), .unset] [(.ref a1)])) rfl (by rw [hml]; rfl) (Steps.refl _) (a := a1) (argsL := []) (rest := []) (lenOf pd_0 rfl) rfl (Nat.le_of_eq rfl) (hb hby d_prog_163_method_1_1) (fun _ _ => ⟨rfl, e0, (by decide : 0 + 0 ≤ _), (by decide : 0 + 0 ≤ _)⟩)
  dsimp only [Pt.U, Pt.locs, Pt.cells, Pt.slots] at X1 l1 y1 z1 st1 hQ1
  subst l1 y1 z1
  obtain ⟨hv1, Nq1, e1⟩ := hQ1
  obtain rfl : v1 = none := hv1
  have N1 := Fr.app N0 Nq1
  obtain ⟨T2, X2, e2, st2⟩ := getS2 X1 hx hZ hown (host := "") (Or.inl (hw _ (ow 22 rfl))) Via.refl e1 S_w_DECIMAL (g := (mkF m 5 #[.val (.ref a1), .val (.ref w_DATE), .val (.int (0 : Int32)), .val (.int (0 : Int32)), .unset] [(.ref w_DATE)])) rfl (hb hby d_prog_163_method_1_5)
  obtain ⟨T3, X3, e3, st3⟩ := getS2 X2 hx hZ hown (host := "") (Or.inl (hw _ (ow 24 rfl))) Via.refl e2 S_w_CHAR (g := (mkF m 12 #[.val (.ref a1), .val (.ref w_DATE), .val (.int (0 : Int32)), .val (.int (0 : Int32)), .unset] [(.ref w_DATE)])) rfl (hb hby d_prog_163_method_1_12)
  obtain ⟨T4, X4, e4, st4⟩ := getS2 X3 hx hZ hown (host := "") (Or.inl (hw _ (ow 26 rfl))) Via.refl e3 S_w_VARCHAR (g := (mkF m 19 #[.val (.ref a1), .val (.ref w_DATE), .val (.int (0 : Int32)), .val (.int (0 : Int32)), .unset] [(.ref w_DATE)])) rfl (hb hby d_prog_163_method_1_19)
  obtain ⟨T5, X5, e5, st5⟩ := getS2 X4 hx hZ hown (host := "") (Or.inl (hw _ (ow 22 rfl))) Via.refl e4 S_w_DECIMAL (g := (mkF m 68 #[.val (.ref a1), .val (.ref w_DATE), .val (.int (0 : Int32)), .val (.int (0 : Int32)), .val (.int (0 : Int32))] [(.ref w_DATE)])) rfl (hb hby d_prog_163_method_1_68)
  obtain ⟨T6, h6, X6, e6, W6, st6⟩ := putF X5 hx hZ hown (host := "") (Or.inl (hw _ (ow 28 rfl))) Via.refl e5 F_kind E_a1 (Or.inr ⟨(hw _ (ow 29 rfl)), rfl, hnm⟩) (hw _ (ow 9 rfl)) (ty := (.object "com/example/cairn/cairn/types/DataType$Kind")) (by decide) rfl rfl (g := (mkF m 113 #[.val (.ref a1), .val (.ref w_DATE), .val (.int (0 : Int32)), .val (.int (0 : Int32)), .val (.int (0 : Int32))] [(.ref w_DATE), (.ref a1)])) rfl rfl (hb hby d_prog_163_method_1_113)
  have Fw6 := F_kind.same W6
  have Ew6 := E_a1.wr W6
  have K6 : Keep h0 h6 [a1] := (Keep.refl h0 [a1]).wr W6 (Or.inl (List.mem_of_getElem? (i := 0) rfl))
  have N6 := Fr.snoc X6 N1 g_a1
  have F6_precision := F_precision.other W6 (Or.inr (slot_ne (Or.inr (hw _ (ow 31 rfl))) (Or.inr (hw _ (ow 29 rfl))) (by decide) (t := .int) (t' := (.object "com/example/cairn/cairn/types/DataType$Kind")) (by decide) (by decide)))
  have F6_scale := F_scale.other W6 (Or.inr (slot_ne (Or.inr (hw _ (ow 33 rfl))) (Or.inr (hw _ (ow 29 rfl))) (by decide) (t := .int) (t' := (.object "com/example/cairn/cairn/types/DataType$Kind")) (by decide) (by decide)))
  obtain ⟨T7, h7, X7, e7, W7, st7⟩ := putF X6 hx hZ hown (host := "") (Or.inl (hw _ (ow 30 rfl))) Via.refl e6 F6_precision Ew6 (Or.inr ⟨(hw _ (ow 31 rfl)), rfl, hnm⟩) (hw _ (ow 9 rfl)) (ty := .int) (by decide) rfl rfl (g := (mkF m 118 #[.val (.ref a1), .val (.ref w_DATE), .val (.int (0 : Int32)), .val (.int (0 : Int32)), .val (.int (0 : Int32))] [(.int (0 : Int32)), (.ref a1)])) rfl rfl (hb hby d_prog_163_method_1_118)
  have Fw7 := F6_precision.same W7
  have Ew7 := Ew6.wr W7
  have K7 : Keep h0 h7 [a1] := K6.wr W7 (Or.inl (List.mem_of_getElem? (i := 0) rfl))
  have N7 := Fr.snoc X7 N6 g_a1
  have F7_kind := Fw6.other W7 (Or.inr (slot_ne (Or.inr (hw _ (ow 29 rfl))) (Or.inr (hw _ (ow 31 rfl))) (by decide) (t := (.object "com/example/cairn/cairn/types/DataType$Kind")) (t' := .int) (by decide) (by decide)))
  have F7_scale := F6_scale.other W7 (Or.inr (slot_ne (Or.inr (hw _ (ow 33 rfl))) (Or.inr (hw _ (ow 31 rfl))) (by decide) (t := .int) (t' := .int) (by decide) (by decide)))
  obtain ⟨T8, h8, X8, e8, W8, st8⟩ := putF X7 hx hZ hown (host := "") (Or.inl (hw _ (ow 32 rfl))) Via.refl e7 F7_scale Ew7 (Or.inr ⟨(hw _ (ow 33 rfl)), rfl, hnm⟩) (hw _ (ow 9 rfl)) (ty := .int) (by decide) rfl rfl (g := (mkF m 123 #[.val (.ref a1), .val (.ref w_DATE), .val (.int (0 : Int32)), .val (.int (0 : Int32)), .val (.int (0 : Int32))] [(.int (0 : Int32)), (.ref a1)])) rfl rfl (hb hby d_prog_163_method_1_123)
  have Fw8 := F7_scale.same W8
  have Ew8 := Ew7.wr W8
  have K8 : Keep h0 h8 [a1] := K7.wr W8 (Or.inl (List.mem_of_getElem? (i := 0) rfl))
  have N8 := Fr.snoc X8 N7 g_a1
  have F8_kind := F7_kind.other W8 (Or.inr (slot_ne (Or.inr (hw _ (ow 29 rfl))) (Or.inr (hw _ (ow 33 rfl))) (by decide) (t := (.object "com/example/cairn/cairn/types/DataType$Kind")) (t' := .int) (by decide) (by decide)))
  have F8_precision := Fw7.other W8 (Or.inr (slot_ne (Or.inr (hw _ (ow 31 rfl))) (Or.inr (hw _ (ow 33 rfl))) (by decide) (t := .int) (t' := .int) (by decide) (by decide)))
  have pre9 : ∀ t, Steps p.tables e below (T8.setTop (mkF m 126 #[.val (.ref a1), .val (.ref w_DATE), .val (.int (0 : Int32)), .val (.int (0 : Int32)), .val (.int (0 : Int32))] [])) t → Steps p.tables e below (s₁.setTop (entryFrame m #[(.ref a1), (.ref w_DATE), (.int (0 : Int32)), (.int (0 : Int32))] 5)) t := fun t k => pre0 t (by
    show Steps p.tables e below (s₁.setTop (mkF m 0 #[.val (.ref a1), .val (.ref w_DATE), .val (.int (0 : Int32)), .val (.int (0 : Int32)), .unset] [])) _
    refine XS.aloadN X0.here hx rfl (hb hby d_prog_163_method_1_0) rfl rfl ?_
    show Steps p.tables e below (s₁.setTop (mkF m 1 #[.val (.ref a1), .val (.ref w_DATE), .val (.int (0 : Int32)), .val (.int (0 : Int32)), .unset] [(.ref a1)])) _
    refine st1.trans ?_
    show Steps p.tables e below (T1.setTop (mkF m 4 #[.val (.ref a1), .val (.ref w_DATE), .val (.int (0 : Int32)), .val (.int (0 : Int32)), .unset] [])) _
    refine XS.aloadN X1.here hx rfl (hb hby d_prog_163_method_1_4) rfl rfl ?_
    show Steps p.tables e below (T1.setTop (mkF m 5 #[.val (.ref a1), .val (.ref w_DATE), .val (.int (0 : Int32)), .val (.int (0 : Int32)), .unset] [(.ref w_DATE)])) _
    refine st2 _ ?_
    show Steps p.tables e below (T2.setTop (mkF m 8 #[.val (.ref a1), .val (.ref w_DATE), .val (.int (0 : Int32)), .val (.int (0 : Int32)), .unset] [(.ref w_DECIMAL), (.ref w_DATE)])) _
    refine Jvm.RoadKit.acmp (g := (mkF m 8 #[.val (.ref a1), .val (.ref w_DATE), .val (.int (0 : Int32)), .val (.int (0 : Int32)), .unset] [(.ref w_DECIMAL), (.ref w_DATE)])) X2 hx rfl rfl rfl (pc0 := 8) (pc' := 11) (same := false) rfl (hb hby d_prog_163_method_1_8) rfl (decide_eq_false fun q => (Fld.ne F_ordinal_w_DATE F_ordinal_w_DECIMAL (by decide)) (Value.ref.inj q)) (by decide) (by decide) ?_
    show Steps p.tables e below (T2.setTop (mkF m 11 #[.val (.ref a1), .val (.ref w_DATE), .val (.int (0 : Int32)), .val (.int (0 : Int32)), .unset] [])) _
    refine XS.aloadN X2.here hx rfl (hb hby d_prog_163_method_1_11) rfl rfl ?_
    show Steps p.tables e below (T2.setTop (mkF m 12 #[.val (.ref a1), .val (.ref w_DATE), .val (.int (0 : Int32)), .val (.int (0 : Int32)), .unset] [(.ref w_DATE)])) _
    refine st3 _ ?_
    show Steps p.tables e below (T3.setTop (mkF m 15 #[.val (.ref a1), .val (.ref w_DATE), .val (.int (0 : Int32)), .val (.int (0 : Int32)), .unset] [(.ref w_CHAR), (.ref w_DATE)])) _
    refine Jvm.RoadKit.acmp (g := (mkF m 15 #[.val (.ref a1), .val (.ref w_DATE), .val (.int (0 : Int32)), .val (.int (0 : Int32)), .unset] [(.ref w_CHAR), (.ref w_DATE)])) X3 hx rfl rfl rfl (pc0 := 15) (pc' := 18) (same := false) rfl (hb hby d_prog_163_method_1_15) rfl (decide_eq_false fun q => (Fld.ne F_ordinal_w_DATE F_ordinal_w_CHAR (by decide)) (Value.ref.inj q)) (by decide) (by decide) ?_
    show Steps p.tables e below (T3.setTop (mkF m 18 #[.val (.ref a1), .val (.ref w_DATE), .val (.int (0 : Int32)), .val (.int (0 : Int32)), .unset] [])) _
    refine XS.aloadN X3.here hx rfl (hb hby d_prog_163_method_1_18) rfl rfl ?_
    show Steps p.tables e below (T3.setTop (mkF m 19 #[.val (.ref a1), .val (.ref w_DATE), .val (.int (0 : Int32)), .val (.int (0 : Int32)), .unset] [(.ref w_DATE)])) _
    refine st4 _ ?_
    show Steps p.tables e below (T4.setTop (mkF m 22 #[.val (.ref a1), .val (.ref w_DATE), .val (.int (0 : Int32)), .val (.int (0 : Int32)), .unset] [(.ref w_VARCHAR), (.ref w_DATE)])) _
    refine Jvm.RoadKit.acmp (g := (mkF m 22 #[.val (.ref a1), .val (.ref w_DATE), .val (.int (0 : Int32)), .val (.int (0 : Int32)), .unset] [(.ref w_VARCHAR), (.ref w_DATE)])) X4 hx rfl rfl rfl (pc0 := 22) (pc' := 29) (same := false) rfl (hb hby d_prog_163_method_1_22) rfl (decide_eq_false fun q => (Fld.ne F_ordinal_w_DATE F_ordinal_w_VARCHAR (by decide)) (Value.ref.inj q)) (by decide) (by decide) ?_
    show Steps p.tables e below (T4.setTop (mkF m 29 #[.val (.ref a1), .val (.ref w_DATE), .val (.int (0 : Int32)), .val (.int (0 : Int32)), .unset] [])) _
    refine XS.iconst X4.here hx rfl (hb hby d_prog_163_method_1_29) ?_
    show Steps p.tables e below (T4.setTop (mkF m 30 #[.val (.ref a1), .val (.ref w_DATE), .val (.int (0 : Int32)), .val (.int (0 : Int32)), .unset] [(.int (0 : Int32))])) _
    refine XS.istore X4.here hx rfl (hb hby d_prog_163_method_1_30) rfl (l' := #[.val (.ref a1), .val (.ref w_DATE), .val (.int (0 : Int32)), .val (.int (0 : Int32)), .val (.int (0 : Int32))]) rfl ?_
    show Steps p.tables e below (T4.setTop (mkF m 32 #[.val (.ref a1), .val (.ref w_DATE), .val (.int (0 : Int32)), .val (.int (0 : Int32)), .val (.int (0 : Int32))] [])) _
    refine XS.iload X4.here hx rfl (hb hby d_prog_163_method_1_32) rfl ?_
    show Steps p.tables e below (T4.setTop (mkF m 34 #[.val (.ref a1), .val (.ref w_DATE), .val (.int (0 : Int32)), .val (.int (0 : Int32)), .val (.int (0 : Int32))] [(.int (0 : Int32))])) _
    refine XS.ifYes X4.here hx rfl (pc0 := 34) (pc' := 45) rfl (hb hby d_prog_163_method_1_34) rfl ((if0 _ _).trans (teq (by decide)).1) (by decide) (by decide) ?_
    show Steps p.tables e below (T4.setTop (mkF m 45 #[.val (.ref a1), .val (.ref w_DATE), .val (.int (0 : Int32)), .val (.int (0 : Int32)), .val (.int (0 : Int32))] [])) _
    refine XS.iloadN X4.here hx rfl (hb hby d_prog_163_method_1_45) rfl ?_
    show Steps p.tables e below (T4.setTop (mkF m 46 #[.val (.ref a1), .val (.ref w_DATE), .val (.int (0 : Int32)), .val (.int (0 : Int32)), .val (.int (0 : Int32))] [(.int (0 : Int32))])) _
    refine XS.ifYes X4.here hx rfl (pc0 := 46) (pc' := 67) rfl (hb hby d_prog_163_method_1_46) rfl ((if0 _ _).trans (teq (by decide)).1) (by decide) (by decide) ?_
    show Steps p.tables e below (T4.setTop (mkF m 67 #[.val (.ref a1), .val (.ref w_DATE), .val (.int (0 : Int32)), .val (.int (0 : Int32)), .val (.int (0 : Int32))] [])) _
    refine XS.aloadN X4.here hx rfl (hb hby d_prog_163_method_1_67) rfl rfl ?_
    show Steps p.tables e below (T4.setTop (mkF m 68 #[.val (.ref a1), .val (.ref w_DATE), .val (.int (0 : Int32)), .val (.int (0 : Int32)), .val (.int (0 : Int32))] [(.ref w_DATE)])) _
    refine st5 _ ?_
    show Steps p.tables e below (T5.setTop (mkF m 71 #[.val (.ref a1), .val (.ref w_DATE), .val (.int (0 : Int32)), .val (.int (0 : Int32)), .val (.int (0 : Int32))] [(.ref w_DECIMAL), (.ref w_DATE)])) _
    refine Jvm.RoadKit.acmp (g := (mkF m 71 #[.val (.ref a1), .val (.ref w_DATE), .val (.int (0 : Int32)), .val (.int (0 : Int32)), .val (.int (0 : Int32))] [(.ref w_DECIMAL), (.ref w_DATE)])) X5 hx rfl rfl rfl (pc0 := 71) (pc' := 92) (same := false) rfl (hb hby d_prog_163_method_1_71) rfl (decide_eq_false fun q => (Fld.ne F_ordinal_w_DATE F_ordinal_w_DECIMAL (by decide)) (Value.ref.inj q)) (by decide) (by decide) ?_
    show Steps p.tables e below (T5.setTop (mkF m 92 #[.val (.ref a1), .val (.ref w_DATE), .val (.int (0 : Int32)), .val (.int (0 : Int32)), .val (.int (0 : Int32))] [])) _
    refine XS.iloadN X5.here hx rfl (hb hby d_prog_163_method_1_92) rfl ?_
    show Steps p.tables e below (T5.setTop (mkF m 93 #[.val (.ref a1), .val (.ref w_DATE), .val (.int (0 : Int32)), .val (.int (0 : Int32)), .val (.int (0 : Int32))] [(.int (0 : Int32))])) _
    refine XS.ifYes X5.here hx rfl (pc0 := 93) (pc' := 111) rfl (hb hby d_prog_163_method_1_93) rfl ((if0 _ _).trans (teq (by decide)).1) (by decide) (by decide) ?_
    show Steps p.tables e below (T5.setTop (mkF m 111 #[.val (.ref a1), .val (.ref w_DATE), .val (.int (0 : Int32)), .val (.int (0 : Int32)), .val (.int (0 : Int32))] [])) _
    refine XS.aloadN X5.here hx rfl (hb hby d_prog_163_method_1_111) rfl rfl ?_
    show Steps p.tables e below (T5.setTop (mkF m 112 #[.val (.ref a1), .val (.ref w_DATE), .val (.int (0 : Int32)), .val (.int (0 : Int32)), .val (.int (0 : Int32))] [(.ref a1)])) _
    refine XS.aloadN X5.here hx rfl (hb hby d_prog_163_method_1_112) rfl rfl ?_
    show Steps p.tables e below (T5.setTop (mkF m 113 #[.val (.ref a1), .val (.ref w_DATE), .val (.int (0 : Int32)), .val (.int (0 : Int32)), .val (.int (0 : Int32))] [(.ref w_DATE), (.ref a1)])) _
    refine st6 _ ?_
    show Steps p.tables e below (T6.setTop (mkF m 116 #[.val (.ref a1), .val (.ref w_DATE), .val (.int (0 : Int32)), .val (.int (0 : Int32)), .val (.int (0 : Int32))] [])) _
    refine XS.aloadN X6.here hx rfl (hb hby d_prog_163_method_1_116) rfl rfl ?_
    show Steps p.tables e below (T6.setTop (mkF m 117 #[.val (.ref a1), .val (.ref w_DATE), .val (.int (0 : Int32)), .val (.int (0 : Int32)), .val (.int (0 : Int32))] [(.ref a1)])) _
    refine XS.iloadN X6.here hx rfl (hb hby d_prog_163_method_1_117) rfl ?_
    show Steps p.tables e below (T6.setTop (mkF m 118 #[.val (.ref a1), .val (.ref w_DATE), .val (.int (0 : Int32)), .val (.int (0 : Int32)), .val (.int (0 : Int32))] [(.int (0 : Int32)), (.ref a1)])) _
    refine st7 _ ?_
    show Steps p.tables e below (T7.setTop (mkF m 121 #[.val (.ref a1), .val (.ref w_DATE), .val (.int (0 : Int32)), .val (.int (0 : Int32)), .val (.int (0 : Int32))] [])) _
    refine XS.aloadN X7.here hx rfl (hb hby d_prog_163_method_1_121) rfl rfl ?_
    show Steps p.tables e below (T7.setTop (mkF m 122 #[.val (.ref a1), .val (.ref w_DATE), .val (.int (0 : Int32)), .val (.int (0 : Int32)), .val (.int (0 : Int32))] [(.ref a1)])) _
    refine XS.iloadN X7.here hx rfl (hb hby d_prog_163_method_1_122) rfl ?_
    show Steps p.tables e below (T7.setTop (mkF m 123 #[.val (.ref a1), .val (.ref w_DATE), .val (.int (0 : Int32)), .val (.int (0 : Int32)), .val (.int (0 : Int32))] [(.int (0 : Int32)), (.ref a1)])) _
    refine st8 _ ?_
    exact k)
  obtain ⟨fs, hr, hrun, hended, hW, hsame⟩ := X8.leave (v := none) (fun _ => rfl)
  refine ⟨_, _, pre9 _ ?_, hrun, hended, _, _, rfl, ?_, ⟨_, rfl⟩, hW, hsame.mono (by decide) (by decide)⟩
  · show Steps p.tables e below (T8.setTop (mkF m 126 #[.val (.ref a1), .val (.ref w_DATE), .val (.int (0 : Int32)), .val (.int (0 : Int32)), .val (.int (0 : Int32))] [])) _
    exact X8.returnOut hx Bd.returns (hb hby d_prog_163_method_1_126) hr
  · exact ⟨rfl, N8, by rw [show (T8.setFrames fs).heap = _ from e8]; exact ⟨K8, Ew8, F8_kind⟩⟩
theorem ef_law3 (m : MethodId) (x0 : Int32) (x1 : Int32) (x2 : Int32) : entryFrame m #[(.int x0), (.int x1), (.int x2)] maxLocals = mkF m 0 #[.val (.int x0), .val (.int x1), .val (.int x2), .unset, .unset, .unset, .unset, .unset, .unset] [] := by first | (simp [entryFrame, mkF, argsToLocals, Value.category, maxLocals]; done) | rfl
set_option maxRecDepth 65536 in
set_option maxHeartbeats 40000000 in
theorem rm_law3 (l : Launch) (Z : State) (a0 : Array Value) (hw : ∀ d ∈ tables_1, d.before a0 Z = true) (ws : List Jvm.Cond) (p1 : Int32) (p2 : Int32) (p3 : Int32) (h0 : Heap) (n0 : Nat) (Z0 : n0 ≤ h0.size) (w_INTEGER w_DECIMAL w_CHAR w_VARCHAR w_BOOLEAN w_INTERVAL w_DOUBLE w_BIGINT w_DATE : Addr) (hK : own_K Z h0 w_INTEGER w_DECIMAL w_CHAR w_VARCHAR w_BOOLEAN w_INTERVAL w_DOUBLE w_BIGINT w_DATE) (hk : ((p1 &&& (2147483647 : Int32)) % (9 : Int32)) = (3 : Int32)) :
    MetFree l x (head1 (Jvm.Cond.code x code maxLocals ret :: ws) room_1) (fun a U => a = #[(.int p1), (.int p2), (.int p3)] ∧ Z.Warmed39 U.vm ∧ U.heap = h0) (fun _ _ _ _ _ => True) (fun _ U o U' => ∃ v L, o = .returned v ∧ own_QH (some (.int (1 : Int32))) n0 v U'.heap L ∧ FrameEnd U o U' L room_1.cells room_1.slots) := by
  refine MetFree.of_bodySF (plainFor_of_name pn_0) hisR ?_
  intro p e s m args below meth c s₁ Bd hml0 hP hK0
  obtain ⟨rfl, hZ, hh⟩ := hP
  have hx := Bd.exec
  have hby := Bd.bytes
  have hml : c.maxLocals = 9 := hml0
  have hown : s.vm.findClass "com/example/cairn/cairn/types/DataTypeIsStorablePinLaw" = some m.cls := findClass_of_methodNamed Bd.named
  have hnm := (name_of_methodNamed Bd.named Bd.method).1
  have X0 : Stand p l e room_1 s m #[(.int p1), (.int p2), (.int p3)] below meth c s₁ [] 0 0 := Stand.of_body Bd
  have e0 : s₁.heap = h0 := by rw [← hh, Bd.state]; rfl
  have N0 := Fr.nil n0
  have pre0 : ∀ t, Steps p.tables e below (s₁.setTop (mkF m 0 #[.val (.int p1), .val (.int p2), .val (.int p3), .unset, .unset, .unset, .unset, .unset, .unset] [])) t → Steps p.tables e below (s₁.setTop (entryFrame m #[(.int p1), (.int p2), (.int p3)] maxLocals)) t := fun t k => castTop (ef_law3 m p1 p2 p3) k
  have hK' := hK
  obtain ⟨S_w_INTEGER, E_w_INTEGER, S_w_DECIMAL, E_w_DECIMAL, F_ordinal_w_INTEGER, F_ordinal_w_DECIMAL, S_w_CHAR, E_w_CHAR, F_ordinal_w_CHAR, S_w_VARCHAR, E_w_VARCHAR, F_ordinal_w_VARCHAR, S_w_BOOLEAN, E_w_BOOLEAN, F_ordinal_w_BOOLEAN, S_w_INTERVAL, E_w_INTERVAL, F_ordinal_w_INTERVAL, S_w_DOUBLE, E_w_DOUBLE, F_ordinal_w_DOUBLE, S_w_BIGINT, E_w_BIGINT, F_ordinal_w_BIGINT, S_w_DATE, E_w_DATE, F_ordinal_w_DATE⟩ := hK'
  obtain ⟨v1, _, ⟨T1, L1, k1, n1⟩, -, X1, ⟨Lc1, hQ1, l1, y1, z1⟩, st1⟩ := Jvm.LawKit.callS X0 hx (y := (⟨"com/example/cairn/cairn/types/DataTypeIsStorablePinLaw", "pick", "(I)Lcom/example/cairn/cairn/types/DataType$Kind;"⟩ : MethodName)) hown (mvT hZ (hw _ (ow 1 rfl))) (mvT hZ (hw _ (ow 2 rfl))) (mvT hZ (hw _ (ow 3 rfl))) (mvT hZ (hw _ (ow 4 rfl))) (by decide) (backOf (W := 0) (rm_pick l Z a0 hw [] (3 : Int32) h0 n0 w_INTEGER w_DECIMAL w_CHAR w_VARCHAR w_BOOLEAN w_INTERVAL w_DOUBLE w_BIGINT w_DATE hK) hZ (hw _ (ow 4 rfl)) (hw _ (ow 3 rfl)) (by decide) (by decide)) (g := (mkF m 9 #[.val (.int p1), .val (.int p2), .val (.int p3), .val (.int (3 : Int32)), .unset, .unset, .unset, .unset, .unset] [(.int (3 : Int32))])) rfl (by rw [hml]; rfl) (argsL := [(.int (3 : Int32))]) (rest := []) (lenOf pd_1 rfl) rfl (Nat.le_of_eq rfl) (hb hby at_9) (fun _ _ => ⟨rfl, e0, (by decide : 0 + 0 ≤ _), (by decide : 0 + 0 ≤ _)⟩)
  dsimp only [Pt.U, Pt.locs, Pt.cells, Pt.slots] at X1 l1 y1 z1 st1 hQ1
  subst l1 y1 z1
  obtain ⟨hv1, Nq1, e1⟩ := hQ1
  obtain rfl : v1 = some (.ref w_DATE) := hv1.trans (congrArg some (congrArg Value.ref ((if_neg (by decide)).trans ((if_neg (by decide)).trans ((if_neg (by decide)).trans (if_pos (by decide)))))))
  have N1 := Fr.app N0 Nq1
  obtain ⟨T2, h2, X2, e2, Eq2, A2, D2, -, st2⟩ := newO X1 hx hZ hown (hw _ (ow 8 rfl)) (hw _ (ow 9 rfl)) (hw _ (ow 10 rfl)) e1 (g := (mkF m 70 #[.val (.int p1), .val (.int p2), .val (.int p3), .val (.int (3 : Int32)), .val (.ref w_DATE), .val (.int (0 : Int32)), .val (.int (0 : Int32)), .unset, .unset] [])) rfl (hb hby at_70) (by decide) (by decide)
  obtain ⟨b2, gb2⟩ : ∃ z, z = h0.size := ⟨_, rfl⟩
  rw [← gb2] at A2 D2 st2
  have F2_kind : Fld Z h2 b2 "com/example/cairn/cairn/types/DataType" "kind" "Lcom/example/cairn/cairn/types/DataType$Kind;" .null := D2 (Or.inr (hw _ (ow 29 rfl))) (ty := (.object "com/example/cairn/cairn/types/DataType$Kind")) (by decide)
  have F2_precision : Fld Z h2 b2 "com/example/cairn/cairn/types/DataType" "precision" "I" (.int (0 : Int32)) := D2 (Or.inr (hw _ (ow 31 rfl))) (ty := .int) (by decide)
  have F2_scale : Fld Z h2 b2 "com/example/cairn/cairn/types/DataType" "scale" "I" (.int (0 : Int32)) := D2 (Or.inr (hw _ (ow 33 rfl))) (ty := .int) (by decide)
  have sz_b2 : h0.size ≤ b2 := Nat.le_of_eq gb2.symm
  have g_b2 : n0 ≤ b2 := Nat.le_trans Z0 sz_b2
  have EX2 : Ext h0 h2 := Eq2
  obtain ⟨v3, _, ⟨T3, L3, k3, n3⟩, -, X3, ⟨Lc3, hQ3, l3, y3, z3⟩, st3⟩ := X2.specialBack hx (y := (⟨"com/example/cairn/cairn/types/DataType", "<init>", "(Lcom/example/cairn/cairn/types/DataType$Kind;II)V"⟩ : MethodName)) rfl hown (mvT hZ (hw _ (ow 11 rfl))) (mvT hZ (hw _ (ow 12 rfl))) (mvT hZ (hw _ (ow 13 rfl))) (by decide) (backOf (W := 1) (rm_init3 l Z a0 hw [] b2 h2 n0 w_INTEGER w_DECIMAL w_CHAR w_VARCHAR w_BOOLEAN w_INTERVAL w_DOUBLE w_BIGINT w_DATE (own_K_ext EX2 hK) F2_kind F2_precision F2_scale A2 g_b2) hZ (hw _ (ow 13 rfl)) (hw _ (ow 10 rfl)) (by decide) (by decide)) (g := (mkF m 80 #[.val (.int p1), .val (.int p2), .val (.int p3), .val (.int (3 : Int32)), .val (.ref w_DATE), .val (.int (0 : Int32)), .val (.int (0 : Int32)), .unset, .unset] [(.int (0 : Int32)), (.int (0 : Int32)), (.ref w_DATE), (.ref b2), (.ref b2)])) rfl (by rw [hml]; rfl) (Steps.refl _) (a := b2) (argsL := [(.ref w_DATE), (.int (0 : Int32)), (.int (0 : Int32))]) (rest := [(.ref b2)]) (lenOf pd_2 rfl) rfl (Nat.le_of_eq rfl) (hb hby at_80) (fun _ _ => ⟨rfl, e2, (by decide : 1 + 0 ≤ _), (by decide : 3 + 0 ≤ _)⟩)
  dsimp only [Pt.U, Pt.locs, Pt.cells, Pt.slots] at X3 l3 y3 z3 st3 hQ3
  subst l3 y3 z3
  obtain ⟨hv3, Nq3, Kq3, Ei3, Fi3⟩ := hQ3
  obtain rfl : v3 = none := hv3
  have N3 := Fr.app N1 Nq3
  have EX3 : Ext h0 T3.heap := own_ext_keep EX2 Kq3 sz_b2
  obtain ⟨cq4, kq4, q4a, q4b, q4c⟩ := isOf hZ (rfl : T3.heap = T3.heap) Ei3
  obtain ⟨v4, _, ⟨T4, L4, k4, n4⟩, -, X4, ⟨Lc4, hQ4, l4, y4, z4⟩, st4⟩ := X3.virtualBack hx (y := (⟨"com/example/cairn/cairn/types/DataType", "isStorable", "()Z"⟩ : MethodName)) (z := (⟨"com/example/cairn/cairn/types/DataType", "isStorable", "()Z"⟩ : MethodName)) hown (mvT hZ (hw _ (ow 34 rfl))) (mvT hZ (hw _ (ow 35 rfl))) (notFace_of_selects (args := #[]) (mvT hZ (hw _ (ow 37 rfl)))) (mvT hZ (hw _ (ow 37 rfl))) (mvT hZ (hw _ (ow 36 rfl))) (by decide) (backOf (W := 0) (rm_isStorable l Z a0 hw [] b2 w_DATE T3.heap n0 w_INTEGER w_DECIMAL w_CHAR w_VARCHAR w_BOOLEAN w_INTERVAL w_DOUBLE w_BIGINT w_DATE (own_K_ext EX3 hK) Fi3) hZ (hw _ (ow 38 rfl)) (hw _ (ow 10 rfl)) (by decide) (by decide)) q4a q4c (g := (mkF m 99 #[.val (.int p1), .val (.int p2), .val (.int p3), .val (.int (3 : Int32)), .val (.ref w_DATE), .val (.int (0 : Int32)), .val (.int (0 : Int32)), .val (.ref b2), .val (.int (1 : Int32))] [(.ref b2)])) rfl (by rw [hml]; rfl) (Steps.refl _) (argsL := []) (rest := []) (lenOf pd_3 rfl) rfl (Nat.le_of_eq rfl) (hb hby at_99) (fun _ _ => ⟨rfl, (rfl : T3.heap = T3.heap), (by decide : 1 + 0 ≤ _), (by decide : 3 + 0 ≤ _)⟩)
  dsimp only [Pt.U, Pt.locs, Pt.cells, Pt.slots] at X4 l4 y4 z4 st4 hQ4
  subst l4 y4 z4
  obtain ⟨hv4, Nq4, e4⟩ := hQ4
  obtain rfl : v4 = some (.int (1 : Int32)) := hv4.trans (congrArg some (congrArg Value.int ((if_neg (Fld.ne F_ordinal_w_DATE F_ordinal_w_BOOLEAN (by decide))).trans ((if_neg (Fld.ne F_ordinal_w_DATE F_ordinal_w_INTERVAL (by decide))).trans (if_neg (Fld.ne F_ordinal_w_DATE F_ordinal_w_DOUBLE (by decide)))))))
  have N4 := Fr.app N3 Nq4
  have pre5 : ∀ t, Steps p.tables e below (T4.setTop (mkF m 112 #[.val (.int p1), .val (.int p2), .val (.int p3), .val (.int (3 : Int32)), .val (.ref w_DATE), .val (.int (0 : Int32)), .val (.int (0 : Int32)), .val (.ref b2), .val (.int (1 : Int32))] [(.int (1 : Int32))])) t → Steps p.tables e below (s₁.setTop (entryFrame m #[(.int p1), (.int p2), (.int p3)] maxLocals)) t := fun t k => pre0 t (by
    show Steps p.tables e below (s₁.setTop (mkF m 0 #[.val (.int p1), .val (.int p2), .val (.int p3), .unset, .unset, .unset, .unset, .unset, .unset] [])) _
    refine XS.iloadN X0.here hx rfl (hb hby at_0) rfl ?_
    show Steps p.tables e below (s₁.setTop (mkF m 1 #[.val (.int p1), .val (.int p2), .val (.int p3), .unset, .unset, .unset, .unset, .unset, .unset] [(.int p1)])) _
    refine X0.ldcInt hx hown (mvT hZ (hw _ (ow 0 rfl))) (g := (mkF m 1 #[.val (.int p1), .val (.int p2), .val (.int p3), .unset, .unset, .unset, .unset, .unset, .unset] [(.int p1)])) rfl (hb hby at_1) _ ?_
    show Steps p.tables e below (s₁.setTop (mkF m 3 #[.val (.int p1), .val (.int p2), .val (.int p3), .unset, .unset, .unset, .unset, .unset, .unset] [(.int (2147483647 : Int32)), (.int p1)])) _
    refine XS.iand X0.here hx rfl (hb hby at_3) rfl ?_
    show Steps p.tables e below (s₁.setTop (mkF m 4 #[.val (.int p1), .val (.int p2), .val (.int p3), .unset, .unset, .unset, .unset, .unset, .unset] [(.int (p1 &&& (2147483647 : Int32)))])) _
    refine XS.bipush X0.here hx rfl (hb hby at_4) ?_
    show Steps p.tables e below (s₁.setTop (mkF m 6 #[.val (.int p1), .val (.int p2), .val (.int p3), .unset, .unset, .unset, .unset, .unset, .unset] [(.int (9 : Int32)), (.int (p1 &&& (2147483647 : Int32)))])) _
    refine iremM X0 hx rfl (hb hby at_6) rfl (by decide) ?_
    show Steps p.tables e below (s₁.setTop (mkF m 7 #[.val (.int p1), .val (.int p2), .val (.int p3), .unset, .unset, .unset, .unset, .unset, .unset] [(.int ((p1 &&& (2147483647 : Int32)) % (9 : Int32)))])) _
    rw [hk]
    show Steps p.tables e below (s₁.setTop (mkF m 7 #[.val (.int p1), .val (.int p2), .val (.int p3), .unset, .unset, .unset, .unset, .unset, .unset] [(.int (3 : Int32))])) _
    refine XS.istoreN X0.here hx rfl (hb hby at_7) rfl (l' := #[.val (.int p1), .val (.int p2), .val (.int p3), .val (.int (3 : Int32)), .unset, .unset, .unset, .unset, .unset]) rfl ?_
    show Steps p.tables e below (s₁.setTop (mkF m 8 #[.val (.int p1), .val (.int p2), .val (.int p3), .val (.int (3 : Int32)), .unset, .unset, .unset, .unset, .unset] [])) _
    refine XS.iloadN X0.here hx rfl (hb hby at_8) rfl ?_
    show Steps p.tables e below (s₁.setTop (mkF m 9 #[.val (.int p1), .val (.int p2), .val (.int p3), .val (.int (3 : Int32)), .unset, .unset, .unset, .unset, .unset] [(.int (3 : Int32))])) _
    refine st1 _ ?_
    show Steps p.tables e below (T1.setTop (mkF m 12 #[.val (.int p1), .val (.int p2), .val (.int p3), .val (.int (3 : Int32)), .unset, .unset, .unset, .unset, .unset] [(.ref w_DATE)])) _
    refine XS.astore X1.here hx rfl (hb hby at_12) rfl rfl (l' := #[.val (.int p1), .val (.int p2), .val (.int p3), .val (.int (3 : Int32)), .val (.ref w_DATE), .unset, .unset, .unset, .unset]) rfl ?_
    show Steps p.tables e below (T1.setTop (mkF m 14 #[.val (.int p1), .val (.int p2), .val (.int p3), .val (.int (3 : Int32)), .val (.ref w_DATE), .unset, .unset, .unset, .unset] [])) _
    refine XS.iconst X1.here hx rfl (hb hby at_14) ?_
    show Steps p.tables e below (T1.setTop (mkF m 15 #[.val (.int p1), .val (.int p2), .val (.int p3), .val (.int (3 : Int32)), .val (.ref w_DATE), .unset, .unset, .unset, .unset] [(.int (0 : Int32))])) _
    refine XS.istore X1.here hx rfl (hb hby at_15) rfl (l' := #[.val (.int p1), .val (.int p2), .val (.int p3), .val (.int (3 : Int32)), .val (.ref w_DATE), .val (.int (0 : Int32)), .unset, .unset, .unset]) rfl ?_
    show Steps p.tables e below (T1.setTop (mkF m 17 #[.val (.int p1), .val (.int p2), .val (.int p3), .val (.int (3 : Int32)), .val (.ref w_DATE), .val (.int (0 : Int32)), .unset, .unset, .unset] [])) _
    refine XS.iconst X1.here hx rfl (hb hby at_17) ?_
    show Steps p.tables e below (T1.setTop (mkF m 18 #[.val (.int p1), .val (.int p2), .val (.int p3), .val (.int (3 : Int32)), .val (.ref w_DATE), .val (.int (0 : Int32)), .unset, .unset, .unset] [(.int (0 : Int32))])) _
    refine XS.istore X1.here hx rfl (hb hby at_18) rfl (l' := #[.val (.int p1), .val (.int p2), .val (.int p3), .val (.int (3 : Int32)), .val (.ref w_DATE), .val (.int (0 : Int32)), .val (.int (0 : Int32)), .unset, .unset]) rfl ?_
    show Steps p.tables e below (T1.setTop (mkF m 20 #[.val (.int p1), .val (.int p2), .val (.int p3), .val (.int (3 : Int32)), .val (.ref w_DATE), .val (.int (0 : Int32)), .val (.int (0 : Int32)), .unset, .unset] [])) _
    refine XS.iloadN X1.here hx rfl (hb hby at_20) rfl ?_
    show Steps p.tables e below (T1.setTop (mkF m 21 #[.val (.int p1), .val (.int p2), .val (.int p3), .val (.int (3 : Int32)), .val (.ref w_DATE), .val (.int (0 : Int32)), .val (.int (0 : Int32)), .unset, .unset] [(.int (3 : Int32))])) _
    refine XS.iconst X1.here hx rfl (hb hby at_21) ?_
    show Steps p.tables e below (T1.setTop (mkF m 22 #[.val (.int p1), .val (.int p2), .val (.int p3), .val (.int (3 : Int32)), .val (.ref w_DATE), .val (.int (0 : Int32)), .val (.int (0 : Int32)), .unset, .unset] [(.int (2 : Int32)), (.int (3 : Int32))])) _
    refine XS.icmpYes X1.here hx rfl (pc0 := 22) (pc' := 50) rfl (hb hby at_22) rfl (feq (by decide)).2 (by decide) (by decide) ?_
    show Steps p.tables e below (T1.setTop (mkF m 50 #[.val (.int p1), .val (.int p2), .val (.int p3), .val (.int (3 : Int32)), .val (.ref w_DATE), .val (.int (0 : Int32)), .val (.int (0 : Int32)), .unset, .unset] [])) _
    refine XS.iloadN X1.here hx rfl (hb hby at_50) rfl ?_
    show Steps p.tables e below (T1.setTop (mkF m 51 #[.val (.int p1), .val (.int p2), .val (.int p3), .val (.int (3 : Int32)), .val (.ref w_DATE), .val (.int (0 : Int32)), .val (.int (0 : Int32)), .unset, .unset] [(.int (3 : Int32))])) _
    refine XS.iconst X1.here hx rfl (hb hby at_51) ?_
    show Steps p.tables e below (T1.setTop (mkF m 52 #[.val (.int p1), .val (.int p2), .val (.int p3), .val (.int (3 : Int32)), .val (.ref w_DATE), .val (.int (0 : Int32)), .val (.int (0 : Int32)), .unset, .unset] [(.int (4 : Int32)), (.int (3 : Int32))])) _
    refine XS.icmpNo X1.here hx rfl (hb hby at_52) rfl (feq (by decide)).1 ?_
    show Steps p.tables e below (T1.setTop (mkF m 55 #[.val (.int p1), .val (.int p2), .val (.int p3), .val (.int (3 : Int32)), .val (.ref w_DATE), .val (.int (0 : Int32)), .val (.int (0 : Int32)), .unset, .unset] [])) _
    refine XS.iloadN X1.here hx rfl (hb hby at_55) rfl ?_
    show Steps p.tables e below (T1.setTop (mkF m 56 #[.val (.int p1), .val (.int p2), .val (.int p3), .val (.int (3 : Int32)), .val (.ref w_DATE), .val (.int (0 : Int32)), .val (.int (0 : Int32)), .unset, .unset] [(.int (3 : Int32))])) _
    refine XS.iconst X1.here hx rfl (hb hby at_56) ?_
    show Steps p.tables e below (T1.setTop (mkF m 57 #[.val (.int p1), .val (.int p2), .val (.int p3), .val (.int (3 : Int32)), .val (.ref w_DATE), .val (.int (0 : Int32)), .val (.int (0 : Int32)), .unset, .unset] [(.int (5 : Int32)), (.int (3 : Int32))])) _
    refine XS.icmpYes X1.here hx rfl (pc0 := 57) (pc' := 70) rfl (hb hby at_57) rfl (feq (by decide)).2 (by decide) (by decide) ?_
    show Steps p.tables e below (T1.setTop (mkF m 70 #[.val (.int p1), .val (.int p2), .val (.int p3), .val (.int (3 : Int32)), .val (.ref w_DATE), .val (.int (0 : Int32)), .val (.int (0 : Int32)), .unset, .unset] [])) _
    refine st2 _ ?_
    show Steps p.tables e below (T2.setTop (mkF m 73 #[.val (.int p1), .val (.int p2), .val (.int p3), .val (.int (3 : Int32)), .val (.ref w_DATE), .val (.int (0 : Int32)), .val (.int (0 : Int32)), .unset, .unset] [(.ref b2)])) _
    refine XS.dup X2.here hx rfl (hb hby at_73) rfl rfl ?_
    show Steps p.tables e below (T2.setTop (mkF m 74 #[.val (.int p1), .val (.int p2), .val (.int p3), .val (.int (3 : Int32)), .val (.ref w_DATE), .val (.int (0 : Int32)), .val (.int (0 : Int32)), .unset, .unset] [(.ref b2), (.ref b2)])) _
    refine XS.aload X2.here hx rfl (hb hby at_74) rfl rfl ?_
    show Steps p.tables e below (T2.setTop (mkF m 76 #[.val (.int p1), .val (.int p2), .val (.int p3), .val (.int (3 : Int32)), .val (.ref w_DATE), .val (.int (0 : Int32)), .val (.int (0 : Int32)), .unset, .unset] [(.ref w_DATE), (.ref b2), (.ref b2)])) _
    refine XS.iload X2.here hx rfl (hb hby at_76) rfl ?_
    show Steps p.tables e below (T2.setTop (mkF m 78 #[.val (.int p1), .val (.int p2), .val (.int p3), .val (.int (3 : Int32)), .val (.ref w_DATE), .val (.int (0 : Int32)), .val (.int (0 : Int32)), .unset, .unset] [(.int (0 : Int32)), (.ref w_DATE), (.ref b2), (.ref b2)])) _
    refine XS.iload X2.here hx rfl (hb hby at_78) rfl ?_
    show Steps p.tables e below (T2.setTop (mkF m 80 #[.val (.int p1), .val (.int p2), .val (.int p3), .val (.int (3 : Int32)), .val (.ref w_DATE), .val (.int (0 : Int32)), .val (.int (0 : Int32)), .unset, .unset] [(.int (0 : Int32)), (.int (0 : Int32)), (.ref w_DATE), (.ref b2), (.ref b2)])) _
    refine st3.trans ?_
    show Steps p.tables e below (T3.setTop (mkF m 83 #[.val (.int p1), .val (.int p2), .val (.int p3), .val (.int (3 : Int32)), .val (.ref w_DATE), .val (.int (0 : Int32)), .val (.int (0 : Int32)), .unset, .unset] [(.ref b2)])) _
    refine XS.astore X3.here hx rfl (hb hby at_83) rfl rfl (l' := #[.val (.int p1), .val (.int p2), .val (.int p3), .val (.int (3 : Int32)), .val (.ref w_DATE), .val (.int (0 : Int32)), .val (.int (0 : Int32)), .val (.ref b2), .unset]) rfl ?_
    show Steps p.tables e below (T3.setTop (mkF m 85 #[.val (.int p1), .val (.int p2), .val (.int p3), .val (.int (3 : Int32)), .val (.ref w_DATE), .val (.int (0 : Int32)), .val (.int (0 : Int32)), .val (.ref b2), .unset] [])) _
    refine XS.iloadN X3.here hx rfl (hb hby at_85) rfl ?_
    show Steps p.tables e below (T3.setTop (mkF m 86 #[.val (.int p1), .val (.int p2), .val (.int p3), .val (.int (3 : Int32)), .val (.ref w_DATE), .val (.int (0 : Int32)), .val (.int (0 : Int32)), .val (.ref b2), .unset] [(.int (3 : Int32))])) _
    refine XS.iconst X3.here hx rfl (hb hby at_86) ?_
    show Steps p.tables e below (T3.setTop (mkF m 87 #[.val (.int p1), .val (.int p2), .val (.int p3), .val (.int (3 : Int32)), .val (.ref w_DATE), .val (.int (0 : Int32)), .val (.int (0 : Int32)), .val (.ref b2), .unset] [(.int (5 : Int32)), (.int (3 : Int32))])) _
    refine XS.icmpNo X3.here hx rfl (hb hby at_87) rfl (flt (by decide)).2.2.1 ?_
    show Steps p.tables e below (T3.setTop (mkF m 90 #[.val (.int p1), .val (.int p2), .val (.int p3), .val (.int (3 : Int32)), .val (.ref w_DATE), .val (.int (0 : Int32)), .val (.int (0 : Int32)), .val (.ref b2), .unset] [])) _
    refine XS.iconst X3.here hx rfl (hb hby at_90) ?_
    show Steps p.tables e below (T3.setTop (mkF m 91 #[.val (.int p1), .val (.int p2), .val (.int p3), .val (.int (3 : Int32)), .val (.ref w_DATE), .val (.int (0 : Int32)), .val (.int (0 : Int32)), .val (.ref b2), .unset] [(.int (1 : Int32))])) _
    refine XS.goto X3.here hx rfl (pc0 := 91) (pc' := 95) rfl (hb hby at_91) (by decide) (by decide) ?_
    show Steps p.tables e below (T3.setTop (mkF m 95 #[.val (.int p1), .val (.int p2), .val (.int p3), .val (.int (3 : Int32)), .val (.ref w_DATE), .val (.int (0 : Int32)), .val (.int (0 : Int32)), .val (.ref b2), .unset] [(.int (1 : Int32))])) _
    refine XS.istore X3.here hx rfl (hb hby at_95) rfl (l' := #[.val (.int p1), .val (.int p2), .val (.int p3), .val (.int (3 : Int32)), .val (.ref w_DATE), .val (.int (0 : Int32)), .val (.int (0 : Int32)), .val (.ref b2), .val (.int (1 : Int32))]) rfl ?_
    show Steps p.tables e below (T3.setTop (mkF m 97 #[.val (.int p1), .val (.int p2), .val (.int p3), .val (.int (3 : Int32)), .val (.ref w_DATE), .val (.int (0 : Int32)), .val (.int (0 : Int32)), .val (.ref b2), .val (.int (1 : Int32))] [])) _
    refine XS.aload X3.here hx rfl (hb hby at_97) rfl rfl ?_
    show Steps p.tables e below (T3.setTop (mkF m 99 #[.val (.int p1), .val (.int p2), .val (.int p3), .val (.int (3 : Int32)), .val (.ref w_DATE), .val (.int (0 : Int32)), .val (.int (0 : Int32)), .val (.ref b2), .val (.int (1 : Int32))] [(.ref b2)])) _
    refine st4.trans ?_
    show Steps p.tables e below (T4.setTop (mkF m 102 #[.val (.int p1), .val (.int p2), .val (.int p3), .val (.int (3 : Int32)), .val (.ref w_DATE), .val (.int (0 : Int32)), .val (.int (0 : Int32)), .val (.ref b2), .val (.int (1 : Int32))] [(.int (1 : Int32))])) _
    refine XS.iload X4.here hx rfl (hb hby at_102) rfl ?_
    show Steps p.tables e below (T4.setTop (mkF m 104 #[.val (.int p1), .val (.int p2), .val (.int p3), .val (.int (3 : Int32)), .val (.ref w_DATE), .val (.int (0 : Int32)), .val (.int (0 : Int32)), .val (.ref b2), .val (.int (1 : Int32))] [(.int (1 : Int32)), (.int (1 : Int32))])) _
    refine XS.icmpNo X4.here hx rfl (hb hby at_104) rfl (teq (by decide)).2 ?_
    show Steps p.tables e below (T4.setTop (mkF m 107 #[.val (.int p1), .val (.int p2), .val (.int p3), .val (.int (3 : Int32)), .val (.ref w_DATE), .val (.int (0 : Int32)), .val (.int (0 : Int32)), .val (.ref b2), .val (.int (1 : Int32))] [])) _
    refine XS.iconst X4.here hx rfl (hb hby at_107) ?_
    show Steps p.tables e below (T4.setTop (mkF m 108 #[.val (.int p1), .val (.int p2), .val (.int p3), .val (.int (3 : Int32)), .val (.ref w_DATE), .val (.int (0 : Int32)), .val (.int (0 : Int32)), .val (.ref b2), .val (.int (1 : Int32))] [(.int (1 : Int32))])) _
    refine XS.goto X4.here hx rfl (pc0 := 108) (pc' := 112) rfl (hb hby at_108) (by decide) (by decide) ?_
    exact k)
  obtain ⟨fs, hr, hrun, hended, hW, hsame⟩ := X4.leave (v := some (.int (1 : Int32))) (fun h => by rw [Bd.returns] at h; cases h)
  refine ⟨_, _, pre5 _ ?_, hrun, hended, _, _, rfl, ?_, ⟨_, rfl⟩, hW, hsame.mono (by decide) (by decide)⟩
  · show Steps p.tables e below (T4.setTop (mkF m 112 #[.val (.int p1), .val (.int p2), .val (.int p3), .val (.int (3 : Int32)), .val (.ref w_DATE), .val (.int (0 : Int32)), .val (.int (0 : Int32)), .val (.ref b2), .val (.int (1 : Int32))] [(.int (1 : Int32))])) _
    exact retN X4 hx (t := .boolean) Bd.returns (by simp) (hb hby at_112) hr
  · exact ⟨rfl, N4, trivial⟩
def own_Q_init4 (Z : State) (a1 : Addr) (w_INTEGER w_DECIMAL w_CHAR w_VARCHAR w_BOOLEAN w_INTERVAL w_DOUBLE w_BIGINT w_DATE : Addr) (h0 : Heap) (n0 : Nat) (v : Option Value) (h : Heap) (L : List Loc) : Prop := v = none ∧ Fr n0 L ∧ Keep h0 h [a1] ∧ Exa Z h a1 "com/example/cairn/cairn/types/DataType" ∧ Fld Z h a1 "com/example/cairn/cairn/types/DataType" "kind" "Lcom/example/cairn/cairn/types/DataType$Kind;" (.ref w_CHAR)
theorem ef_init4 (m : MethodId) (x0 : Addr) (x1 : Addr) (x2 : Int32) (x3 : Int32) : entryFrame m #[(.ref x0), (.ref x1), (.int x2), (.int x3)] 5 = mkF m 0 #[.val (.ref x0), .val (.ref x1), .val (.int x2), .val (.int x3), .unset] [] := by first | (simp [entryFrame, mkF, argsToLocals, Value.category]; done) | rfl
set_option maxRecDepth 65536 in
set_option maxHeartbeats 40000000 in
theorem rm_init4 (l : Launch) (Z : State) (a0 : Array Value) (hw : ∀ d ∈ tables_1, d.before a0 Z = true) (ws : List Jvm.Cond) (a1 : Addr) (p3 : Int32) (h0 : Heap) (n0 : Nat) (w_INTEGER w_DECIMAL w_CHAR w_VARCHAR w_BOOLEAN w_INTERVAL w_DOUBLE w_BIGINT w_DATE : Addr) (hK : own_K Z h0 w_INTEGER w_DECIMAL w_CHAR w_VARCHAR w_BOOLEAN w_INTERVAL w_DOUBLE w_BIGINT w_DATE) (F_kind : Fld Z h0 a1 "com/example/cairn/cairn/types/DataType" "kind" "Lcom/example/cairn/cairn/types/DataType$Kind;" .null) (F_precision : Fld Z h0 a1 "com/example/cairn/cairn/types/DataType" "precision" "I" (.int (0 : Int32))) (F_scale : Fld Z h0 a1 "com/example/cairn/cairn/types/DataType" "scale" "I" (.int (0 : Int32))) (E_a1 : Exa Z h0 a1 "com/example/cairn/cairn/types/DataType") (g_a1 : n0 ≤ a1) (hp1 : ¬ p3 < (1 : Int32)) :
    MetFree l (⟨"com/example/cairn/cairn/types/DataType", "<init>", "(Lcom/example/cairn/cairn/types/DataType$Kind;II)V"⟩ : MethodName) (head1 (Jvm.Cond.code (⟨"com/example/cairn/cairn/types/DataType", "<init>", "(Lcom/example/cairn/cairn/types/DataType$Kind;II)V"⟩ : MethodName) prog_163_method_1_code 5 none :: ws) ({ frames := 2, cells := 0, slots := 0, locals := 24 } : Room)) (fun a U => a = #[(.ref a1), (.ref w_CHAR), (.int p3), (.int (0 : Int32))] ∧ Z.Warmed39 U.vm ∧ U.heap = h0) (fun _ _ _ _ _ => True) (fun _ U o U' => ∃ v L, o = .returned v ∧ own_Q_init4 Z a1 w_INTEGER w_DECIMAL w_CHAR w_VARCHAR w_BOOLEAN w_INTERVAL w_DOUBLE w_BIGINT w_DATE h0 n0 v U'.heap L ∧ FrameEnd U o U' L ({ frames := 2, cells := 0, slots := 0, locals := 24 } : Room).cells ({ frames := 2, cells := 0, slots := 0, locals := 24 } : Room).slots) := by
  refine MetFree.of_bodySF (plainFor_of_name pn_2) hisR ?_
  intro p e s m args below meth c s₁ Bd hml0 hP hK0
  obtain ⟨rfl, hZ, hh⟩ := hP
  have hx := Bd.exec
  have hby := Bd.bytes
  have hml : c.maxLocals = 5 := hml0
  have hown : s.vm.findClass "com/example/cairn/cairn/types/DataType" = some m.cls := findClass_of_methodNamed Bd.named
  have hnm := (name_of_methodNamed Bd.named Bd.method).1
  have X0 : Stand p l e ({ frames := 2, cells := 0, slots := 0, locals := 24 } : Room) s m #[(.ref a1), (.ref w_CHAR), (.int p3), (.int (0 : Int32))] below meth c s₁ [] 0 0 := Stand.of_body Bd
  have e0 : s₁.heap = h0 := by rw [← hh, Bd.state]; rfl
  have N0 := Fr.nil n0
  have pre0 : ∀ t, Steps p.tables e below (s₁.setTop (mkF m 0 #[.val (.ref a1), .val (.ref w_CHAR), .val (.int p3), .val (.int (0 : Int32)), .unset] [])) t → Steps p.tables e below (s₁.setTop (entryFrame m #[(.ref a1), (.ref w_CHAR), (.int p3), (.int (0 : Int32))] 5)) t := fun t k => castTop (ef_init4 m a1 w_CHAR p3 ((0 : Int32))) k
  have hK' := hK
  obtain ⟨S_w_INTEGER, E_w_INTEGER, S_w_DECIMAL, E_w_DECIMAL, F_ordinal_w_INTEGER, F_ordinal_w_DECIMAL, S_w_CHAR, E_w_CHAR, F_ordinal_w_CHAR, S_w_VARCHAR, E_w_VARCHAR, F_ordinal_w_VARCHAR, S_w_BOOLEAN, E_w_BOOLEAN, F_ordinal_w_BOOLEAN, S_w_INTERVAL, E_w_INTERVAL, F_ordinal_w_INTERVAL, S_w_DOUBLE, E_w_DOUBLE, F_ordinal_w_DOUBLE, S_w_BIGINT, E_w_BIGINT, F_ordinal_w_BIGINT, S_w_DATE, E_w_DATE, F_ordinal_w_DATE⟩ := hK'
  obtain ⟨v1, _, ⟨T1, L1, k1, n1⟩, -, X1, ⟨Lc1, hQ1, l1, y1, z1⟩, st1⟩ := X0.specialBack hx (y := (⟨"java/lang/Record", "<init>", "()V"⟩ : MethodName)) rfl hown (mvT hZ (hw _ (ow 14 rfl))) (mvT hZ (hw _ (ow 15 rfl))) (mvT hZ (hw _ (ow 18 rfl))) (by decide) (backOf (W := 0) (rm_record l Z a0 hw [] a1 h0 n0) hZ (hw _ (ow 18 rfl)) (hw _ (ow 17 rfl)) (by decide) (by decide)) (g := (mkF m 1 #[.val (.ref a1), .val (.ref w_CHAR), .val (.int p3), .val (.int (0 : Int32)), .unset] [(.ref a1)])) rfl (by rw [hml]; rfl) (Steps.refl _) (a := a1) (argsL := []) (rest := []) (lenOf pd_0 rfl) rfl (Nat.le_of_eq rfl) (hb hby d_prog_163_method_1_1) (fun _ _ => ⟨rfl, e0, (by decide : 0 + 0 ≤ _), (by decide : 0 + 0 ≤ _)⟩)
  dsimp only [Pt.U, Pt.locs, Pt.cells, Pt.slots] at X1 l1 y1 z1 st1 hQ1
  subst l1 y1 z1
  obtain ⟨hv1, Nq1, e1⟩ := hQ1
  obtain rfl : v1 = none := hv1
  have N1 := Fr.app N0 Nq1
  obtain ⟨T2, X2, e2, st2⟩ := getS2 X1 hx hZ hown (host := "") (Or.inl (hw _ (ow 22 rfl))) Via.refl e1 S_w_DECIMAL (g := (mkF m 5 #[.val (.ref a1), .val (.ref w_CHAR), .val (.int p3), .val (.int (0 : Int32)), .unset] [(.ref w_CHAR)])) rfl (hb hby d_prog_163_method_1_5)
  obtain ⟨T3, X3, e3, st3⟩ := getS2 X2 hx hZ hown (host := "") (Or.inl (hw _ (ow 24 rfl))) Via.refl e2 S_w_CHAR (g := (mkF m 12 #[.val (.ref a1), .val (.ref w_CHAR), .val (.int p3), .val (.int (0 : Int32)), .unset] [(.ref w_CHAR)])) rfl (hb hby d_prog_163_method_1_12)
  obtain ⟨T4, X4, e4, st4⟩ := getS2 X3 hx hZ hown (host := "") (Or.inl (hw _ (ow 22 rfl))) Via.refl e3 S_w_DECIMAL (g := (mkF m 68 #[.val (.ref a1), .val (.ref w_CHAR), .val (.int p3), .val (.int (0 : Int32)), .val (.int (1 : Int32))] [(.ref w_CHAR)])) rfl (hb hby d_prog_163_method_1_68)
  obtain ⟨T5, h5, X5, e5, W5, st5⟩ := putF X4 hx hZ hown (host := "") (Or.inl (hw _ (ow 28 rfl))) Via.refl e4 F_kind E_a1 (Or.inr ⟨(hw _ (ow 29 rfl)), rfl, hnm⟩) (hw _ (ow 9 rfl)) (ty := (.object "com/example/cairn/cairn/types/DataType$Kind")) (by decide) rfl rfl (g := (mkF m 113 #[.val (.ref a1), .val (.ref w_CHAR), .val (.int p3), .val (.int (0 : Int32)), .val (.int (1 : Int32))] [(.ref w_CHAR), (.ref a1)])) rfl rfl (hb hby d_prog_163_method_1_113)
  have Fw5 := F_kind.same W5
  have Ew5 := E_a1.wr W5
  have K5 : Keep h0 h5 [a1] := (Keep.refl h0 [a1]).wr W5 (Or.inl (List.mem_of_getElem? (i := 0) rfl))
  have N5 := Fr.snoc X5 N1 g_a1
  have F5_precision := F_precision.other W5 (Or.inr (slot_ne (Or.inr (hw _ (ow 31 rfl))) (Or.inr (hw _ (ow 29 rfl))) (by decide) (t := .int) (t' := (.object "com/example/cairn/cairn/types/DataType$Kind")) (by decide) (by decide)))
  have F5_scale := F_scale.other W5 (Or.inr (slot_ne (Or.inr (hw _ (ow 33 rfl))) (Or.inr (hw _ (ow 29 rfl))) (by decide) (t := .int) (t' := (.object "com/example/cairn/cairn/types/DataType$Kind")) (by decide) (by decide)))
  obtain ⟨T6, h6, X6, e6, W6, st6⟩ := putF X5 hx hZ hown (host := "") (Or.inl (hw _ (ow 30 rfl))) Via.refl e5 F5_precision Ew5 (Or.inr ⟨(hw _ (ow 31 rfl)), rfl, hnm⟩) (hw _ (ow 9 rfl)) (ty := .int) (by decide) rfl rfl (g := (mkF m 118 #[.val (.ref a1), .val (.ref w_CHAR), .val (.int p3), .val (.int (0 : Int32)), .val (.int (1 : Int32))] [(.int p3), (.ref a1)])) rfl rfl (hb hby d_prog_163_method_1_118)
  have Fw6 := F5_precision.same W6
  have Ew6 := Ew5.wr W6
  have K6 : Keep h0 h6 [a1] := K5.wr W6 (Or.inl (List.mem_of_getElem? (i := 0) rfl))
  have N6 := Fr.snoc X6 N5 g_a1
  have F6_kind := Fw5.other W6 (Or.inr (slot_ne (Or.inr (hw _ (ow 29 rfl))) (Or.inr (hw _ (ow 31 rfl))) (by decide) (t := (.object "com/example/cairn/cairn/types/DataType$Kind")) (t' := .int) (by decide) (by decide)))
  have F6_scale := F5_scale.other W6 (Or.inr (slot_ne (Or.inr (hw _ (ow 33 rfl))) (Or.inr (hw _ (ow 31 rfl))) (by decide) (t := .int) (t' := .int) (by decide) (by decide)))
  obtain ⟨T7, h7, X7, e7, W7, st7⟩ := putF X6 hx hZ hown (host := "") (Or.inl (hw _ (ow 32 rfl))) Via.refl e6 F6_scale Ew6 (Or.inr ⟨(hw _ (ow 33 rfl)), rfl, hnm⟩) (hw _ (ow 9 rfl)) (ty := .int) (by decide) rfl rfl (g := (mkF m 123 #[.val (.ref a1), .val (.ref w_CHAR), .val (.int p3), .val (.int (0 : Int32)), .val (.int (1 : Int32))] [(.int (0 : Int32)), (.ref a1)])) rfl rfl (hb hby d_prog_163_method_1_123)
  have Fw7 := F6_scale.same W7
  have Ew7 := Ew6.wr W7
  have K7 : Keep h0 h7 [a1] := K6.wr W7 (Or.inl (List.mem_of_getElem? (i := 0) rfl))
  have N7 := Fr.snoc X7 N6 g_a1
  have F7_kind := F6_kind.other W7 (Or.inr (slot_ne (Or.inr (hw _ (ow 29 rfl))) (Or.inr (hw _ (ow 33 rfl))) (by decide) (t := (.object "com/example/cairn/cairn/types/DataType$Kind")) (t' := .int) (by decide) (by decide)))
  have F7_precision := Fw6.other W7 (Or.inr (slot_ne (Or.inr (hw _ (ow 31 rfl))) (Or.inr (hw _ (ow 33 rfl))) (by decide) (t := .int) (t' := .int) (by decide) (by decide)))
  have pre8 : ∀ t, Steps p.tables e below (T7.setTop (mkF m 126 #[.val (.ref a1), .val (.ref w_CHAR), .val (.int p3), .val (.int (0 : Int32)), .val (.int (1 : Int32))] [])) t → Steps p.tables e below (s₁.setTop (entryFrame m #[(.ref a1), (.ref w_CHAR), (.int p3), (.int (0 : Int32))] 5)) t := fun t k => pre0 t (by
    show Steps p.tables e below (s₁.setTop (mkF m 0 #[.val (.ref a1), .val (.ref w_CHAR), .val (.int p3), .val (.int (0 : Int32)), .unset] [])) _
    refine XS.aloadN X0.here hx rfl (hb hby d_prog_163_method_1_0) rfl rfl ?_
    show Steps p.tables e below (s₁.setTop (mkF m 1 #[.val (.ref a1), .val (.ref w_CHAR), .val (.int p3), .val (.int (0 : Int32)), .unset] [(.ref a1)])) _
    refine st1.trans ?_
    show Steps p.tables e below (T1.setTop (mkF m 4 #[.val (.ref a1), .val (.ref w_CHAR), .val (.int p3), .val (.int (0 : Int32)), .unset] [])) _
    refine XS.aloadN X1.here hx rfl (hb hby d_prog_163_method_1_4) rfl rfl ?_
    show Steps p.tables e below (T1.setTop (mkF m 5 #[.val (.ref a1), .val (.ref w_CHAR), .val (.int p3), .val (.int (0 : Int32)), .unset] [(.ref w_CHAR)])) _
    refine st2 _ ?_
    show Steps p.tables e below (T2.setTop (mkF m 8 #[.val (.ref a1), .val (.ref w_CHAR), .val (.int p3), .val (.int (0 : Int32)), .unset] [(.ref w_DECIMAL), (.ref w_CHAR)])) _
    refine Jvm.RoadKit.acmp (g := (mkF m 8 #[.val (.ref a1), .val (.ref w_CHAR), .val (.int p3), .val (.int (0 : Int32)), .unset] [(.ref w_DECIMAL), (.ref w_CHAR)])) X2 hx rfl rfl rfl (pc0 := 8) (pc' := 11) (same := false) rfl (hb hby d_prog_163_method_1_8) rfl (decide_eq_false fun q => (Fld.ne F_ordinal_w_CHAR F_ordinal_w_DECIMAL (by decide)) (Value.ref.inj q)) (by decide) (by decide) ?_
    show Steps p.tables e below (T2.setTop (mkF m 11 #[.val (.ref a1), .val (.ref w_CHAR), .val (.int p3), .val (.int (0 : Int32)), .unset] [])) _
    refine XS.aloadN X2.here hx rfl (hb hby d_prog_163_method_1_11) rfl rfl ?_
    show Steps p.tables e below (T2.setTop (mkF m 12 #[.val (.ref a1), .val (.ref w_CHAR), .val (.int p3), .val (.int (0 : Int32)), .unset] [(.ref w_CHAR)])) _
    refine st3 _ ?_
    show Steps p.tables e below (T3.setTop (mkF m 15 #[.val (.ref a1), .val (.ref w_CHAR), .val (.int p3), .val (.int (0 : Int32)), .unset] [(.ref w_CHAR), (.ref w_CHAR)])) _
    refine Jvm.RoadKit.acmp (g := (mkF m 15 #[.val (.ref a1), .val (.ref w_CHAR), .val (.int p3), .val (.int (0 : Int32)), .unset] [(.ref w_CHAR), (.ref w_CHAR)])) X3 hx rfl rfl rfl (pc0 := 15) (pc' := 25) (same := true) rfl (hb hby d_prog_163_method_1_15) rfl (decide_eq_true rfl) (by decide) (by decide) ?_
    show Steps p.tables e below (T3.setTop (mkF m 25 #[.val (.ref a1), .val (.ref w_CHAR), .val (.int p3), .val (.int (0 : Int32)), .unset] [])) _
    refine XS.iconst X3.here hx rfl (hb hby d_prog_163_method_1_25) ?_
    show Steps p.tables e below (T3.setTop (mkF m 26 #[.val (.ref a1), .val (.ref w_CHAR), .val (.int p3), .val (.int (0 : Int32)), .unset] [(.int (1 : Int32))])) _
    refine XS.goto X3.here hx rfl (pc0 := 26) (pc' := 30) rfl (hb hby d_prog_163_method_1_26) (by decide) (by decide) ?_
    show Steps p.tables e below (T3.setTop (mkF m 30 #[.val (.ref a1), .val (.ref w_CHAR), .val (.int p3), .val (.int (0 : Int32)), .unset] [(.int (1 : Int32))])) _
    refine XS.istore X3.here hx rfl (hb hby d_prog_163_method_1_30) rfl (l' := #[.val (.ref a1), .val (.ref w_CHAR), .val (.int p3), .val (.int (0 : Int32)), .val (.int (1 : Int32))]) rfl ?_
    show Steps p.tables e below (T3.setTop (mkF m 32 #[.val (.ref a1), .val (.ref w_CHAR), .val (.int p3), .val (.int (0 : Int32)), .val (.int (1 : Int32))] [])) _
    refine XS.iload X3.here hx rfl (hb hby d_prog_163_method_1_32) rfl ?_
    show Steps p.tables e below (T3.setTop (mkF m 34 #[.val (.ref a1), .val (.ref w_CHAR), .val (.int p3), .val (.int (0 : Int32)), .val (.int (1 : Int32))] [(.int (1 : Int32))])) _
    refine XS.ifNo X3.here hx rfl (hb hby d_prog_163_method_1_34) rfl ((if0 _ _).trans (feq (by decide)).1) ?_
    show Steps p.tables e below (T3.setTop (mkF m 37 #[.val (.ref a1), .val (.ref w_CHAR), .val (.int p3), .val (.int (0 : Int32)), .val (.int (1 : Int32))] [])) _
    refine XS.iloadN X3.here hx rfl (hb hby d_prog_163_method_1_37) rfl ?_
    show Steps p.tables e below (T3.setTop (mkF m 38 #[.val (.ref a1), .val (.ref w_CHAR), .val (.int p3), .val (.int (0 : Int32)), .val (.int (1 : Int32))] [(.int p3)])) _
    refine XS.iconst X3.here hx rfl (hb hby d_prog_163_method_1_38) ?_
    show Steps p.tables e below (T3.setTop (mkF m 39 #[.val (.ref a1), .val (.ref w_CHAR), .val (.int p3), .val (.int (0 : Int32)), .val (.int (1 : Int32))] [(.int (1 : Int32)), (.int p3)])) _
    refine XS.icmpYes X3.here hx rfl (pc0 := 39) (pc' := 67) rfl (hb hby d_prog_163_method_1_39) rfl (flt hp1).2.1 (by decide) (by decide) ?_
    show Steps p.tables e below (T3.setTop (mkF m 67 #[.val (.ref a1), .val (.ref w_CHAR), .val (.int p3), .val (.int (0 : Int32)), .val (.int (1 : Int32))] [])) _
    refine XS.aloadN X3.here hx rfl (hb hby d_prog_163_method_1_67) rfl rfl ?_
    show Steps p.tables e below (T3.setTop (mkF m 68 #[.val (.ref a1), .val (.ref w_CHAR), .val (.int p3), .val (.int (0 : Int32)), .val (.int (1 : Int32))] [(.ref w_CHAR)])) _
    refine st4 _ ?_
    show Steps p.tables e below (T4.setTop (mkF m 71 #[.val (.ref a1), .val (.ref w_CHAR), .val (.int p3), .val (.int (0 : Int32)), .val (.int (1 : Int32))] [(.ref w_DECIMAL), (.ref w_CHAR)])) _
    refine Jvm.RoadKit.acmp (g := (mkF m 71 #[.val (.ref a1), .val (.ref w_CHAR), .val (.int p3), .val (.int (0 : Int32)), .val (.int (1 : Int32))] [(.ref w_DECIMAL), (.ref w_CHAR)])) X4 hx rfl rfl rfl (pc0 := 71) (pc' := 92) (same := false) rfl (hb hby d_prog_163_method_1_71) rfl (decide_eq_false fun q => (Fld.ne F_ordinal_w_CHAR F_ordinal_w_DECIMAL (by decide)) (Value.ref.inj q)) (by decide) (by decide) ?_
    show Steps p.tables e below (T4.setTop (mkF m 92 #[.val (.ref a1), .val (.ref w_CHAR), .val (.int p3), .val (.int (0 : Int32)), .val (.int (1 : Int32))] [])) _
    refine XS.iloadN X4.here hx rfl (hb hby d_prog_163_method_1_92) rfl ?_
    show Steps p.tables e below (T4.setTop (mkF m 93 #[.val (.ref a1), .val (.ref w_CHAR), .val (.int p3), .val (.int (0 : Int32)), .val (.int (1 : Int32))] [(.int (0 : Int32))])) _
    refine XS.ifYes X4.here hx rfl (pc0 := 93) (pc' := 111) rfl (hb hby d_prog_163_method_1_93) rfl ((if0 _ _).trans (teq (by decide)).1) (by decide) (by decide) ?_
    show Steps p.tables e below (T4.setTop (mkF m 111 #[.val (.ref a1), .val (.ref w_CHAR), .val (.int p3), .val (.int (0 : Int32)), .val (.int (1 : Int32))] [])) _
    refine XS.aloadN X4.here hx rfl (hb hby d_prog_163_method_1_111) rfl rfl ?_
    show Steps p.tables e below (T4.setTop (mkF m 112 #[.val (.ref a1), .val (.ref w_CHAR), .val (.int p3), .val (.int (0 : Int32)), .val (.int (1 : Int32))] [(.ref a1)])) _
    refine XS.aloadN X4.here hx rfl (hb hby d_prog_163_method_1_112) rfl rfl ?_
    show Steps p.tables e below (T4.setTop (mkF m 113 #[.val (.ref a1), .val (.ref w_CHAR), .val (.int p3), .val (.int (0 : Int32)), .val (.int (1 : Int32))] [(.ref w_CHAR), (.ref a1)])) _
    refine st5 _ ?_
    show Steps p.tables e below (T5.setTop (mkF m 116 #[.val (.ref a1), .val (.ref w_CHAR), .val (.int p3), .val (.int (0 : Int32)), .val (.int (1 : Int32))] [])) _
    refine XS.aloadN X5.here hx rfl (hb hby d_prog_163_method_1_116) rfl rfl ?_
    show Steps p.tables e below (T5.setTop (mkF m 117 #[.val (.ref a1), .val (.ref w_CHAR), .val (.int p3), .val (.int (0 : Int32)), .val (.int (1 : Int32))] [(.ref a1)])) _
    refine XS.iloadN X5.here hx rfl (hb hby d_prog_163_method_1_117) rfl ?_
    show Steps p.tables e below (T5.setTop (mkF m 118 #[.val (.ref a1), .val (.ref w_CHAR), .val (.int p3), .val (.int (0 : Int32)), .val (.int (1 : Int32))] [(.int p3), (.ref a1)])) _
    refine st6 _ ?_
    show Steps p.tables e below (T6.setTop (mkF m 121 #[.val (.ref a1), .val (.ref w_CHAR), .val (.int p3), .val (.int (0 : Int32)), .val (.int (1 : Int32))] [])) _
    refine XS.aloadN X6.here hx rfl (hb hby d_prog_163_method_1_121) rfl rfl ?_
    show Steps p.tables e below (T6.setTop (mkF m 122 #[.val (.ref a1), .val (.ref w_CHAR), .val (.int p3), .val (.int (0 : Int32)), .val (.int (1 : Int32))] [(.ref a1)])) _
    refine XS.iloadN X6.here hx rfl (hb hby d_prog_163_method_1_122) rfl ?_
    show Steps p.tables e below (T6.setTop (mkF m 123 #[.val (.ref a1), .val (.ref w_CHAR), .val (.int p3), .val (.int (0 : Int32)), .val (.int (1 : Int32))] [(.int (0 : Int32)), (.ref a1)])) _
    refine st7 _ ?_
    exact k)
  obtain ⟨fs, hr, hrun, hended, hW, hsame⟩ := X7.leave (v := none) (fun _ => rfl)
  refine ⟨_, _, pre8 _ ?_, hrun, hended, _, _, rfl, ?_, ⟨_, rfl⟩, hW, hsame.mono (by decide) (by decide)⟩
  · show Steps p.tables e below (T7.setTop (mkF m 126 #[.val (.ref a1), .val (.ref w_CHAR), .val (.int p3), .val (.int (0 : Int32)), .val (.int (1 : Int32))] [])) _
    exact X7.returnOut hx Bd.returns (hb hby d_prog_163_method_1_126) hr
  · exact ⟨rfl, N7, by rw [show (T7.setFrames fs).heap = _ from e7]; exact ⟨K7, Ew7, F7_kind⟩⟩
theorem pd_4 : parseMethodDescriptor "(II)I" = some ⟨[.int, .int], some .int⟩ := by decide +kernel
theorem ef_law4 (m : MethodId) (x0 : Int32) (x1 : Int32) (x2 : Int32) : entryFrame m #[(.int x0), (.int x1), (.int x2)] maxLocals = mkF m 0 #[.val (.int x0), .val (.int x1), .val (.int x2), .unset, .unset, .unset, .unset, .unset, .unset] [] := by first | (simp [entryFrame, mkF, argsToLocals, Value.category, maxLocals]; done) | rfl
set_option maxRecDepth 65536 in
set_option maxHeartbeats 40000000 in
theorem rm_law4 (l : Launch) (Z : State) (a0 : Array Value) (hw : ∀ d ∈ tables_1, d.before a0 Z = true) (ws : List Jvm.Cond) (p1 : Int32) (p2 : Int32) (p3 : Int32) (h0 : Heap) (n0 : Nat) (Z0 : n0 ≤ h0.size) (w_INTEGER w_DECIMAL w_CHAR w_VARCHAR w_BOOLEAN w_INTERVAL w_DOUBLE w_BIGINT w_DATE : Addr) (hK : own_K Z h0 w_INTEGER w_DECIMAL w_CHAR w_VARCHAR w_BOOLEAN w_INTERVAL w_DOUBLE w_BIGINT w_DATE) (z : Int32) (hk : ((p1 &&& (2147483647 : Int32)) % (9 : Int32)) = (4 : Int32)) (hz : (if (1 : Int32) < (p2 &&& (2147483647 : Int32)) then (p2 &&& (2147483647 : Int32)) else (1 : Int32)) = z) (hz1 : ¬ z < (1 : Int32)) :
    MetFree l x (head1 (Jvm.Cond.code x code maxLocals ret :: ws) room_1) (fun a U => a = #[(.int p1), (.int p2), (.int p3)] ∧ Z.Warmed39 U.vm ∧ U.heap = h0) (fun _ _ _ _ _ => True) (fun _ U o U' => ∃ v L, o = .returned v ∧ own_QH (some (.int (1 : Int32))) n0 v U'.heap L ∧ FrameEnd U o U' L room_1.cells room_1.slots) := by
  refine MetFree.of_bodySF (plainFor_of_name pn_0) hisR ?_
  intro p e s m args below meth c s₁ Bd hml0 hP hK0
  obtain ⟨rfl, hZ, hh⟩ := hP
  have hx := Bd.exec
  have hby := Bd.bytes
  have hml : c.maxLocals = 9 := hml0
  have hown : s.vm.findClass "com/example/cairn/cairn/types/DataTypeIsStorablePinLaw" = some m.cls := findClass_of_methodNamed Bd.named
  have hnm := (name_of_methodNamed Bd.named Bd.method).1
  have X0 : Stand p l e room_1 s m #[(.int p1), (.int p2), (.int p3)] below meth c s₁ [] 0 0 := Stand.of_body Bd
  have e0 : s₁.heap = h0 := by rw [← hh, Bd.state]; rfl
  have N0 := Fr.nil n0
  have pre0 : ∀ t, Steps p.tables e below (s₁.setTop (mkF m 0 #[.val (.int p1), .val (.int p2), .val (.int p3), .unset, .unset, .unset, .unset, .unset, .unset] [])) t → Steps p.tables e below (s₁.setTop (entryFrame m #[(.int p1), (.int p2), (.int p3)] maxLocals)) t := fun t k => castTop (ef_law4 m p1 p2 p3) k
  have hK' := hK
  obtain ⟨S_w_INTEGER, E_w_INTEGER, S_w_DECIMAL, E_w_DECIMAL, F_ordinal_w_INTEGER, F_ordinal_w_DECIMAL, S_w_CHAR, E_w_CHAR, F_ordinal_w_CHAR, S_w_VARCHAR, E_w_VARCHAR, F_ordinal_w_VARCHAR, S_w_BOOLEAN, E_w_BOOLEAN, F_ordinal_w_BOOLEAN, S_w_INTERVAL, E_w_INTERVAL, F_ordinal_w_INTERVAL, S_w_DOUBLE, E_w_DOUBLE, F_ordinal_w_DOUBLE, S_w_BIGINT, E_w_BIGINT, F_ordinal_w_BIGINT, S_w_DATE, E_w_DATE, F_ordinal_w_DATE⟩ := hK'
  obtain ⟨v1, _, ⟨T1, L1, k1, n1⟩, -, X1, ⟨Lc1, hQ1, l1, y1, z1⟩, st1⟩ := Jvm.LawKit.callS X0 hx (y := (⟨"com/example/cairn/cairn/types/DataTypeIsStorablePinLaw", "pick", "(I)Lcom/example/cairn/cairn/types/DataType$Kind;"⟩ : MethodName)) hown (mvT hZ (hw _ (ow 1 rfl))) (mvT hZ (hw _ (ow 2 rfl))) (mvT hZ (hw _ (ow 3 rfl))) (mvT hZ (hw _ (ow 4 rfl))) (by decide) (backOf (W := 0) (rm_pick l Z a0 hw [] (4 : Int32) h0 n0 w_INTEGER w_DECIMAL w_CHAR w_VARCHAR w_BOOLEAN w_INTERVAL w_DOUBLE w_BIGINT w_DATE hK) hZ (hw _ (ow 4 rfl)) (hw _ (ow 3 rfl)) (by decide) (by decide)) (g := (mkF m 9 #[.val (.int p1), .val (.int p2), .val (.int p3), .val (.int (4 : Int32)), .unset, .unset, .unset, .unset, .unset] [(.int (4 : Int32))])) rfl (by rw [hml]; rfl) (argsL := [(.int (4 : Int32))]) (rest := []) (lenOf pd_1 rfl) rfl (Nat.le_of_eq rfl) (hb hby at_9) (fun _ _ => ⟨rfl, e0, (by decide : 0 + 0 ≤ _), (by decide : 0 + 0 ≤ _)⟩)
  dsimp only [Pt.U, Pt.locs, Pt.cells, Pt.slots] at X1 l1 y1 z1 st1 hQ1
  subst l1 y1 z1
  obtain ⟨hv1, Nq1, e1⟩ := hQ1
  obtain rfl : v1 = some (.ref w_CHAR) := hv1.trans (congrArg some (congrArg Value.ref ((if_neg (by decide)).trans ((if_neg (by decide)).trans ((if_neg (by decide)).trans ((if_neg (by decide)).trans (if_pos (by decide))))))))
  have N1 := Fr.app N0 Nq1
  obtain ⟨v2, _, ⟨T2, L2, k2, n2⟩, -, X2, ⟨Lc2, hQ2, l2, y2, z2⟩, st2⟩ := Jvm.LawKit.callS X1 hx (y := (⟨"java/lang/Math", "max", "(II)I"⟩ : MethodName)) hown (mvT hZ (hw _ (ow 54 rfl))) (mvT hZ (hw _ (ow 55 rfl))) (mvT hZ (hw _ (ow 56 rfl))) (mvT hZ (hw _ (ow 57 rfl))) (by decide) (backOf (W := 0) (rm_max l Z a0 hw [] (1 : Int32) (p2 &&& (2147483647 : Int32)) h0 n0) hZ (hw _ (ow 57 rfl)) (hw _ (ow 56 rfl)) (by decide) (by decide)) (g := (mkF m 65 #[.val (.int p1), .val (.int p2), .val (.int p3), .val (.int (4 : Int32)), .val (.ref w_CHAR), .val (.int (0 : Int32)), .val (.int (0 : Int32)), .unset, .unset] [(.int (p2 &&& (2147483647 : Int32))), (.int (1 : Int32))])) rfl (by rw [hml]; rfl) (argsL := [(.int (1 : Int32)), (.int (p2 &&& (2147483647 : Int32)))]) (rest := []) (lenOf pd_4 rfl) rfl (Nat.le_of_eq rfl) (hb hby at_65) (fun _ _ => ⟨rfl, e1, (by decide : 0 + 0 ≤ _), (by decide : 0 + 0 ≤ _)⟩)
  dsimp only [Pt.U, Pt.locs, Pt.cells, Pt.slots] at X2 l2 y2 z2 st2 hQ2
  subst l2 y2 z2
  obtain ⟨hv2, Nq2, e2⟩ := hQ2
  obtain rfl : v2 = some (.int z) := hv2.trans (congrArg some (congrArg Value.int hz))
  have N2 := Fr.app N1 Nq2
  obtain ⟨T3, h3, X3, e3, Eq3, A3, D3, -, st3⟩ := newO X2 hx hZ hown (hw _ (ow 8 rfl)) (hw _ (ow 9 rfl)) (hw _ (ow 10 rfl)) e2 (g := (mkF m 70 #[.val (.int p1), .val (.int p2), .val (.int p3), .val (.int (4 : Int32)), .val (.ref w_CHAR), .val (.int z), .val (.int (0 : Int32)), .unset, .unset] [])) rfl (hb hby at_70) (by decide) (by decide)
  obtain ⟨b3, gb3⟩ : ∃ z, z = h0.size := ⟨_, rfl⟩
  rw [← gb3] at A3 D3 st3
  have F3_kind : Fld Z h3 b3 "com/example/cairn/cairn/types/DataType" "kind" "Lcom/example/cairn/cairn/types/DataType$Kind;" .null := D3 (Or.inr (hw _ (ow 29 rfl))) (ty := (.object "com/example/cairn/cairn/types/DataType$Kind")) (by decide)
  have F3_precision : Fld Z h3 b3 "com/example/cairn/cairn/types/DataType" "precision" "I" (.int (0 : Int32)) := D3 (Or.inr (hw _ (ow 31 rfl))) (ty := .int) (by decide)
  have F3_scale : Fld Z h3 b3 "com/example/cairn/cairn/types/DataType" "scale" "I" (.int (0 : Int32)) := D3 (Or.inr (hw _ (ow 33 rfl))) (ty := .int) (by decide)
  have sz_b3 : h0.size ≤ b3 := Nat.le_of_eq gb3.symm
  have g_b3 : n0 ≤ b3 := Nat.le_trans Z0 sz_b3
  have EX3 : Ext h0 h3 := Eq3
  obtain ⟨v4, _, ⟨T4, L4, k4, n4⟩, -, X4, ⟨Lc4, hQ4, l4, y4, z4⟩, st4⟩ := X3.specialBack hx (y := (⟨"com/example/cairn/cairn/types/DataType", "<init>", "(Lcom/example/cairn/cairn/types/DataType$Kind;II)V"⟩ : MethodName)) rfl hown (mvT hZ (hw _ (ow 11 rfl))) (mvT hZ (hw _ (ow 12 rfl))) (mvT hZ (hw _ (ow 13 rfl))) (by decide) (backOf (W := 1) (rm_init4 l Z a0 hw [] b3 z h3 n0 w_INTEGER w_DECIMAL w_CHAR w_VARCHAR w_BOOLEAN w_INTERVAL w_DOUBLE w_BIGINT w_DATE (own_K_ext EX3 hK) F3_kind F3_precision F3_scale A3 g_b3 hz1) hZ (hw _ (ow 13 rfl)) (hw _ (ow 10 rfl)) (by decide) (by decide)) (g := (mkF m 80 #[.val (.int p1), .val (.int p2), .val (.int p3), .val (.int (4 : Int32)), .val (.ref w_CHAR), .val (.int z), .val (.int (0 : Int32)), .unset, .unset] [(.int (0 : Int32)), (.int z), (.ref w_CHAR), (.ref b3), (.ref b3)])) rfl (by rw [hml]; rfl) (Steps.refl _) (a := b3) (argsL := [(.ref w_CHAR), (.int z), (.int (0 : Int32))]) (rest := [(.ref b3)]) (lenOf pd_2 rfl) rfl (Nat.le_of_eq rfl) (hb hby at_80) (fun _ _ => ⟨rfl, e3, (by decide : 1 + 0 ≤ _), (by decide : 3 + 0 ≤ _)⟩)
  dsimp only [Pt.U, Pt.locs, Pt.cells, Pt.slots] at X4 l4 y4 z4 st4 hQ4
  subst l4 y4 z4
  obtain ⟨hv4, Nq4, Kq4, Ei4, Fi4⟩ := hQ4
  obtain rfl : v4 = none := hv4
  have N4 := Fr.app N2 Nq4
  have EX4 : Ext h0 T4.heap := own_ext_keep EX3 Kq4 sz_b3
  obtain ⟨cq5, kq5, q5a, q5b, q5c⟩ := isOf hZ (rfl : T4.heap = T4.heap) Ei4
  obtain ⟨v5, _, ⟨T5, L5, k5, n5⟩, -, X5, ⟨Lc5, hQ5, l5, y5, z5⟩, st5⟩ := X4.virtualBack hx (y := (⟨"com/example/cairn/cairn/types/DataType", "isStorable", "()Z"⟩ : MethodName)) (z := (⟨"com/example/cairn/cairn/types/DataType", "isStorable", "()Z"⟩ : MethodName)) hown (mvT hZ (hw _ (ow 34 rfl))) (mvT hZ (hw _ (ow 35 rfl))) (notFace_of_selects (args := #[]) (mvT hZ (hw _ (ow 37 rfl)))) (mvT hZ (hw _ (ow 37 rfl))) (mvT hZ (hw _ (ow 36 rfl))) (by decide) (backOf (W := 0) (rm_isStorable l Z a0 hw [] b3 w_CHAR T4.heap n0 w_INTEGER w_DECIMAL w_CHAR w_VARCHAR w_BOOLEAN w_INTERVAL w_DOUBLE w_BIGINT w_DATE (own_K_ext EX4 hK) Fi4) hZ (hw _ (ow 38 rfl)) (hw _ (ow 10 rfl)) (by decide) (by decide)) q5a q5c (g := (mkF m 99 #[.val (.int p1), .val (.int p2), .val (.int p3), .val (.int (4 : Int32)), .val (.ref w_CHAR), .val (.int z), .val (.int (0 : Int32)), .val (.ref b3), .val (.int (1 : Int32))] [(.ref b3)])) rfl (by rw [hml]; rfl) (Steps.refl _) (argsL := []) (rest := []) (lenOf pd_3 rfl) rfl (Nat.le_of_eq rfl) (hb hby at_99) (fun _ _ => ⟨rfl, (rfl : T4.heap = T4.heap), (by decide : 1 + 0 ≤ _), (by decide : 3 + 0 ≤ _)⟩)
  dsimp only [Pt.U, Pt.locs, Pt.cells, Pt.slots] at X5 l5 y5 z5 st5 hQ5
  subst l5 y5 z5
  obtain ⟨hv5, Nq5, e5⟩ := hQ5
  obtain rfl : v5 = some (.int (1 : Int32)) := hv5.trans (congrArg some (congrArg Value.int ((if_neg (Fld.ne F_ordinal_w_CHAR F_ordinal_w_BOOLEAN (by decide))).trans ((if_neg (Fld.ne F_ordinal_w_CHAR F_ordinal_w_INTERVAL (by decide))).trans (if_neg (Fld.ne F_ordinal_w_CHAR F_ordinal_w_DOUBLE (by decide)))))))
  have N5 := Fr.app N4 Nq5
  have pre6 : ∀ t, Steps p.tables e below (T5.setTop (mkF m 112 #[.val (.int p1), .val (.int p2), .val (.int p3), .val (.int (4 : Int32)), .val (.ref w_CHAR), .val (.int z), .val (.int (0 : Int32)), .val (.ref b3), .val (.int (1 : Int32))] [(.int (1 : Int32))])) t → Steps p.tables e below (s₁.setTop (entryFrame m #[(.int p1), (.int p2), (.int p3)] maxLocals)) t := fun t k => pre0 t (by
    show Steps p.tables e below (s₁.setTop (mkF m 0 #[.val (.int p1), .val (.int p2), .val (.int p3), .unset, .unset, .unset, .unset, .unset, .unset] [])) _
    refine XS.iloadN X0.here hx rfl (hb hby at_0) rfl ?_
    show Steps p.tables e below (s₁.setTop (mkF m 1 #[.val (.int p1), .val (.int p2), .val (.int p3), .unset, .unset, .unset, .unset, .unset, .unset] [(.int p1)])) _
    refine X0.ldcInt hx hown (mvT hZ (hw _ (ow 0 rfl))) (g := (mkF m 1 #[.val (.int p1), .val (.int p2), .val (.int p3), .unset, .unset, .unset, .unset, .unset, .unset] [(.int p1)])) rfl (hb hby at_1) _ ?_
    show Steps p.tables e below (s₁.setTop (mkF m 3 #[.val (.int p1), .val (.int p2), .val (.int p3), .unset, .unset, .unset, .unset, .unset, .unset] [(.int (2147483647 : Int32)), (.int p1)])) _
    refine XS.iand X0.here hx rfl (hb hby at_3) rfl ?_
    show Steps p.tables e below (s₁.setTop (mkF m 4 #[.val (.int p1), .val (.int p2), .val (.int p3), .unset, .unset, .unset, .unset, .unset, .unset] [(.int (p1 &&& (2147483647 : Int32)))])) _
    refine XS.bipush X0.here hx rfl (hb hby at_4) ?_
    show Steps p.tables e below (s₁.setTop (mkF m 6 #[.val (.int p1), .val (.int p2), .val (.int p3), .unset, .unset, .unset, .unset, .unset, .unset] [(.int (9 : Int32)), (.int (p1 &&& (2147483647 : Int32)))])) _
    refine iremM X0 hx rfl (hb hby at_6) rfl (by decide) ?_
    show Steps p.tables e below (s₁.setTop (mkF m 7 #[.val (.int p1), .val (.int p2), .val (.int p3), .unset, .unset, .unset, .unset, .unset, .unset] [(.int ((p1 &&& (2147483647 : Int32)) % (9 : Int32)))])) _
    rw [hk]
    show Steps p.tables e below (s₁.setTop (mkF m 7 #[.val (.int p1), .val (.int p2), .val (.int p3), .unset, .unset, .unset, .unset, .unset, .unset] [(.int (4 : Int32))])) _
    refine XS.istoreN X0.here hx rfl (hb hby at_7) rfl (l' := #[.val (.int p1), .val (.int p2), .val (.int p3), .val (.int (4 : Int32)), .unset, .unset, .unset, .unset, .unset]) rfl ?_
    show Steps p.tables e below (s₁.setTop (mkF m 8 #[.val (.int p1), .val (.int p2), .val (.int p3), .val (.int (4 : Int32)), .unset, .unset, .unset, .unset, .unset] [])) _
    refine XS.iloadN X0.here hx rfl (hb hby at_8) rfl ?_
    show Steps p.tables e below (s₁.setTop (mkF m 9 #[.val (.int p1), .val (.int p2), .val (.int p3), .val (.int (4 : Int32)), .unset, .unset, .unset, .unset, .unset] [(.int (4 : Int32))])) _
    refine st1 _ ?_
    show Steps p.tables e below (T1.setTop (mkF m 12 #[.val (.int p1), .val (.int p2), .val (.int p3), .val (.int (4 : Int32)), .unset, .unset, .unset, .unset, .unset] [(.ref w_CHAR)])) _
    refine XS.astore X1.here hx rfl (hb hby at_12) rfl rfl (l' := #[.val (.int p1), .val (.int p2), .val (.int p3), .val (.int (4 : Int32)), .val (.ref w_CHAR), .unset, .unset, .unset, .unset]) rfl ?_
    show Steps p.tables e below (T1.setTop (mkF m 14 #[.val (.int p1), .val (.int p2), .val (.int p3), .val (.int (4 : Int32)), .val (.ref w_CHAR), .unset, .unset, .unset, .unset] [])) _
    refine XS.iconst X1.here hx rfl (hb hby at_14) ?_
    show Steps p.tables e below (T1.setTop (mkF m 15 #[.val (.int p1), .val (.int p2), .val (.int p3), .val (.int (4 : Int32)), .val (.ref w_CHAR), .unset, .unset, .unset, .unset] [(.int (0 : Int32))])) _
    refine XS.istore X1.here hx rfl (hb hby at_15) rfl (l' := #[.val (.int p1), .val (.int p2), .val (.int p3), .val (.int (4 : Int32)), .val (.ref w_CHAR), .val (.int (0 : Int32)), .unset, .unset, .unset]) rfl ?_
    show Steps p.tables e below (T1.setTop (mkF m 17 #[.val (.int p1), .val (.int p2), .val (.int p3), .val (.int (4 : Int32)), .val (.ref w_CHAR), .val (.int (0 : Int32)), .unset, .unset, .unset] [])) _
    refine XS.iconst X1.here hx rfl (hb hby at_17) ?_
    show Steps p.tables e below (T1.setTop (mkF m 18 #[.val (.int p1), .val (.int p2), .val (.int p3), .val (.int (4 : Int32)), .val (.ref w_CHAR), .val (.int (0 : Int32)), .unset, .unset, .unset] [(.int (0 : Int32))])) _
    refine XS.istore X1.here hx rfl (hb hby at_18) rfl (l' := #[.val (.int p1), .val (.int p2), .val (.int p3), .val (.int (4 : Int32)), .val (.ref w_CHAR), .val (.int (0 : Int32)), .val (.int (0 : Int32)), .unset, .unset]) rfl ?_
    show Steps p.tables e below (T1.setTop (mkF m 20 #[.val (.int p1), .val (.int p2), .val (.int p3), .val (.int (4 : Int32)), .val (.ref w_CHAR), .val (.int (0 : Int32)), .val (.int (0 : Int32)), .unset, .unset] [])) _
    refine XS.iloadN X1.here hx rfl (hb hby at_20) rfl ?_
    show Steps p.tables e below (T1.setTop (mkF m 21 #[.val (.int p1), .val (.int p2), .val (.int p3), .val (.int (4 : Int32)), .val (.ref w_CHAR), .val (.int (0 : Int32)), .val (.int (0 : Int32)), .unset, .unset] [(.int (4 : Int32))])) _
    refine XS.iconst X1.here hx rfl (hb hby at_21) ?_
    show Steps p.tables e below (T1.setTop (mkF m 22 #[.val (.int p1), .val (.int p2), .val (.int p3), .val (.int (4 : Int32)), .val (.ref w_CHAR), .val (.int (0 : Int32)), .val (.int (0 : Int32)), .unset, .unset] [(.int (2 : Int32)), (.int (4 : Int32))])) _
    refine XS.icmpYes X1.here hx rfl (pc0 := 22) (pc' := 50) rfl (hb hby at_22) rfl (feq (by decide)).2 (by decide) (by decide) ?_
    show Steps p.tables e below (T1.setTop (mkF m 50 #[.val (.int p1), .val (.int p2), .val (.int p3), .val (.int (4 : Int32)), .val (.ref w_CHAR), .val (.int (0 : Int32)), .val (.int (0 : Int32)), .unset, .unset] [])) _
    refine XS.iloadN X1.here hx rfl (hb hby at_50) rfl ?_
    show Steps p.tables e below (T1.setTop (mkF m 51 #[.val (.int p1), .val (.int p2), .val (.int p3), .val (.int (4 : Int32)), .val (.ref w_CHAR), .val (.int (0 : Int32)), .val (.int (0 : Int32)), .unset, .unset] [(.int (4 : Int32))])) _
    refine XS.iconst X1.here hx rfl (hb hby at_51) ?_
    show Steps p.tables e below (T1.setTop (mkF m 52 #[.val (.int p1), .val (.int p2), .val (.int p3), .val (.int (4 : Int32)), .val (.ref w_CHAR), .val (.int (0 : Int32)), .val (.int (0 : Int32)), .unset, .unset] [(.int (4 : Int32)), (.int (4 : Int32))])) _
    refine XS.icmpYes X1.here hx rfl (pc0 := 52) (pc' := 60) rfl (hb hby at_52) rfl (teq (by decide)).1 (by decide) (by decide) ?_
    show Steps p.tables e below (T1.setTop (mkF m 60 #[.val (.int p1), .val (.int p2), .val (.int p3), .val (.int (4 : Int32)), .val (.ref w_CHAR), .val (.int (0 : Int32)), .val (.int (0 : Int32)), .unset, .unset] [])) _
    refine XS.iconst X1.here hx rfl (hb hby at_60) ?_
    show Steps p.tables e below (T1.setTop (mkF m 61 #[.val (.int p1), .val (.int p2), .val (.int p3), .val (.int (4 : Int32)), .val (.ref w_CHAR), .val (.int (0 : Int32)), .val (.int (0 : Int32)), .unset, .unset] [(.int (1 : Int32))])) _
    refine XS.iloadN X1.here hx rfl (hb hby at_61) rfl ?_
    show Steps p.tables e below (T1.setTop (mkF m 62 #[.val (.int p1), .val (.int p2), .val (.int p3), .val (.int (4 : Int32)), .val (.ref w_CHAR), .val (.int (0 : Int32)), .val (.int (0 : Int32)), .unset, .unset] [(.int p2), (.int (1 : Int32))])) _
    refine X1.ldcInt hx hown (mvT hZ (hw _ (ow 0 rfl))) (g := (mkF m 62 #[.val (.int p1), .val (.int p2), .val (.int p3), .val (.int (4 : Int32)), .val (.ref w_CHAR), .val (.int (0 : Int32)), .val (.int (0 : Int32)), .unset, .unset] [(.int p2), (.int (1 : Int32))])) rfl (hb hby at_62) _ ?_
    show Steps p.tables e below (T1.setTop (mkF m 64 #[.val (.int p1), .val (.int p2), .val (.int p3), .val (.int (4 : Int32)), .val (.ref w_CHAR), .val (.int (0 : Int32)), .val (.int (0 : Int32)), .unset, .unset] [(.int (2147483647 : Int32)), (.int p2), (.int (1 : Int32))])) _
    refine XS.iand X1.here hx rfl (hb hby at_64) rfl ?_
    show Steps p.tables e below (T1.setTop (mkF m 65 #[.val (.int p1), .val (.int p2), .val (.int p3), .val (.int (4 : Int32)), .val (.ref w_CHAR), .val (.int (0 : Int32)), .val (.int (0 : Int32)), .unset, .unset] [(.int (p2 &&& (2147483647 : Int32))), (.int (1 : Int32))])) _
    refine st2 _ ?_
    show Steps p.tables e below (T2.setTop (mkF m 68 #[.val (.int p1), .val (.int p2), .val (.int p3), .val (.int (4 : Int32)), .val (.ref w_CHAR), .val (.int (0 : Int32)), .val (.int (0 : Int32)), .unset, .unset] [(.int z)])) _
    refine XS.istore X2.here hx rfl (hb hby at_68) rfl (l' := #[.val (.int p1), .val (.int p2), .val (.int p3), .val (.int (4 : Int32)), .val (.ref w_CHAR), .val (.int z), .val (.int (0 : Int32)), .unset, .unset]) rfl ?_
    show Steps p.tables e below (T2.setTop (mkF m 70 #[.val (.int p1), .val (.int p2), .val (.int p3), .val (.int (4 : Int32)), .val (.ref w_CHAR), .val (.int z), .val (.int (0 : Int32)), .unset, .unset] [])) _
    refine st3 _ ?_
    show Steps p.tables e below (T3.setTop (mkF m 73 #[.val (.int p1), .val (.int p2), .val (.int p3), .val (.int (4 : Int32)), .val (.ref w_CHAR), .val (.int z), .val (.int (0 : Int32)), .unset, .unset] [(.ref b3)])) _
    refine XS.dup X3.here hx rfl (hb hby at_73) rfl rfl ?_
    show Steps p.tables e below (T3.setTop (mkF m 74 #[.val (.int p1), .val (.int p2), .val (.int p3), .val (.int (4 : Int32)), .val (.ref w_CHAR), .val (.int z), .val (.int (0 : Int32)), .unset, .unset] [(.ref b3), (.ref b3)])) _
    refine XS.aload X3.here hx rfl (hb hby at_74) rfl rfl ?_
    show Steps p.tables e below (T3.setTop (mkF m 76 #[.val (.int p1), .val (.int p2), .val (.int p3), .val (.int (4 : Int32)), .val (.ref w_CHAR), .val (.int z), .val (.int (0 : Int32)), .unset, .unset] [(.ref w_CHAR), (.ref b3), (.ref b3)])) _
    refine XS.iload X3.here hx rfl (hb hby at_76) rfl ?_
    show Steps p.tables e below (T3.setTop (mkF m 78 #[.val (.int p1), .val (.int p2), .val (.int p3), .val (.int (4 : Int32)), .val (.ref w_CHAR), .val (.int z), .val (.int (0 : Int32)), .unset, .unset] [(.int z), (.ref w_CHAR), (.ref b3), (.ref b3)])) _
    refine XS.iload X3.here hx rfl (hb hby at_78) rfl ?_
    show Steps p.tables e below (T3.setTop (mkF m 80 #[.val (.int p1), .val (.int p2), .val (.int p3), .val (.int (4 : Int32)), .val (.ref w_CHAR), .val (.int z), .val (.int (0 : Int32)), .unset, .unset] [(.int (0 : Int32)), (.int z), (.ref w_CHAR), (.ref b3), (.ref b3)])) _
    refine st4.trans ?_
    show Steps p.tables e below (T4.setTop (mkF m 83 #[.val (.int p1), .val (.int p2), .val (.int p3), .val (.int (4 : Int32)), .val (.ref w_CHAR), .val (.int z), .val (.int (0 : Int32)), .unset, .unset] [(.ref b3)])) _
    refine XS.astore X4.here hx rfl (hb hby at_83) rfl rfl (l' := #[.val (.int p1), .val (.int p2), .val (.int p3), .val (.int (4 : Int32)), .val (.ref w_CHAR), .val (.int z), .val (.int (0 : Int32)), .val (.ref b3), .unset]) rfl ?_
    show Steps p.tables e below (T4.setTop (mkF m 85 #[.val (.int p1), .val (.int p2), .val (.int p3), .val (.int (4 : Int32)), .val (.ref w_CHAR), .val (.int z), .val (.int (0 : Int32)), .val (.ref b3), .unset] [])) _
    refine XS.iloadN X4.here hx rfl (hb hby at_85) rfl ?_
    show Steps p.tables e below (T4.setTop (mkF m 86 #[.val (.int p1), .val (.int p2), .val (.int p3), .val (.int (4 : Int32)), .val (.ref w_CHAR), .val (.int z), .val (.int (0 : Int32)), .val (.ref b3), .unset] [(.int (4 : Int32))])) _
    refine XS.iconst X4.here hx rfl (hb hby at_86) ?_
    show Steps p.tables e below (T4.setTop (mkF m 87 #[.val (.int p1), .val (.int p2), .val (.int p3), .val (.int (4 : Int32)), .val (.ref w_CHAR), .val (.int z), .val (.int (0 : Int32)), .val (.ref b3), .unset] [(.int (5 : Int32)), (.int (4 : Int32))])) _
    refine XS.icmpNo X4.here hx rfl (hb hby at_87) rfl (flt (by decide)).2.2.1 ?_
    show Steps p.tables e below (T4.setTop (mkF m 90 #[.val (.int p1), .val (.int p2), .val (.int p3), .val (.int (4 : Int32)), .val (.ref w_CHAR), .val (.int z), .val (.int (0 : Int32)), .val (.ref b3), .unset] [])) _
    refine XS.iconst X4.here hx rfl (hb hby at_90) ?_
    show Steps p.tables e below (T4.setTop (mkF m 91 #[.val (.int p1), .val (.int p2), .val (.int p3), .val (.int (4 : Int32)), .val (.ref w_CHAR), .val (.int z), .val (.int (0 : Int32)), .val (.ref b3), .unset] [(.int (1 : Int32))])) _
    refine XS.goto X4.here hx rfl (pc0 := 91) (pc' := 95) rfl (hb hby at_91) (by decide) (by decide) ?_
    show Steps p.tables e below (T4.setTop (mkF m 95 #[.val (.int p1), .val (.int p2), .val (.int p3), .val (.int (4 : Int32)), .val (.ref w_CHAR), .val (.int z), .val (.int (0 : Int32)), .val (.ref b3), .unset] [(.int (1 : Int32))])) _
    refine XS.istore X4.here hx rfl (hb hby at_95) rfl (l' := #[.val (.int p1), .val (.int p2), .val (.int p3), .val (.int (4 : Int32)), .val (.ref w_CHAR), .val (.int z), .val (.int (0 : Int32)), .val (.ref b3), .val (.int (1 : Int32))]) rfl ?_
    show Steps p.tables e below (T4.setTop (mkF m 97 #[.val (.int p1), .val (.int p2), .val (.int p3), .val (.int (4 : Int32)), .val (.ref w_CHAR), .val (.int z), .val (.int (0 : Int32)), .val (.ref b3), .val (.int (1 : Int32))] [])) _
    refine XS.aload X4.here hx rfl (hb hby at_97) rfl rfl ?_
    show Steps p.tables e below (T4.setTop (mkF m 99 #[.val (.int p1), .val (.int p2), .val (.int p3), .val (.int (4 : Int32)), .val (.ref w_CHAR), .val (.int z), .val (.int (0 : Int32)), .val (.ref b3), .val (.int (1 : Int32))] [(.ref b3)])) _
    refine st5.trans ?_
    show Steps p.tables e below (T5.setTop (mkF m 102 #[.val (.int p1), .val (.int p2), .val (.int p3), .val (.int (4 : Int32)), .val (.ref w_CHAR), .val (.int z), .val (.int (0 : Int32)), .val (.ref b3), .val (.int (1 : Int32))] [(.int (1 : Int32))])) _
    refine XS.iload X5.here hx rfl (hb hby at_102) rfl ?_
    show Steps p.tables e below (T5.setTop (mkF m 104 #[.val (.int p1), .val (.int p2), .val (.int p3), .val (.int (4 : Int32)), .val (.ref w_CHAR), .val (.int z), .val (.int (0 : Int32)), .val (.ref b3), .val (.int (1 : Int32))] [(.int (1 : Int32)), (.int (1 : Int32))])) _
    refine XS.icmpNo X5.here hx rfl (hb hby at_104) rfl (teq (by decide)).2 ?_
    show Steps p.tables e below (T5.setTop (mkF m 107 #[.val (.int p1), .val (.int p2), .val (.int p3), .val (.int (4 : Int32)), .val (.ref w_CHAR), .val (.int z), .val (.int (0 : Int32)), .val (.ref b3), .val (.int (1 : Int32))] [])) _
    refine XS.iconst X5.here hx rfl (hb hby at_107) ?_
    show Steps p.tables e below (T5.setTop (mkF m 108 #[.val (.int p1), .val (.int p2), .val (.int p3), .val (.int (4 : Int32)), .val (.ref w_CHAR), .val (.int z), .val (.int (0 : Int32)), .val (.ref b3), .val (.int (1 : Int32))] [(.int (1 : Int32))])) _
    refine XS.goto X5.here hx rfl (pc0 := 108) (pc' := 112) rfl (hb hby at_108) (by decide) (by decide) ?_
    exact k)
  obtain ⟨fs, hr, hrun, hended, hW, hsame⟩ := X5.leave (v := some (.int (1 : Int32))) (fun h => by rw [Bd.returns] at h; cases h)
  refine ⟨_, _, pre6 _ ?_, hrun, hended, _, _, rfl, ?_, ⟨_, rfl⟩, hW, hsame.mono (by decide) (by decide)⟩
  · show Steps p.tables e below (T5.setTop (mkF m 112 #[.val (.int p1), .val (.int p2), .val (.int p3), .val (.int (4 : Int32)), .val (.ref w_CHAR), .val (.int z), .val (.int (0 : Int32)), .val (.ref b3), .val (.int (1 : Int32))] [(.int (1 : Int32))])) _
    exact retN X5 hx (t := .boolean) Bd.returns (by simp) (hb hby at_112) hr
  · exact ⟨rfl, N5, trivial⟩
def own_Q_init5 (Z : State) (a1 : Addr) (w_INTEGER w_DECIMAL w_CHAR w_VARCHAR w_BOOLEAN w_INTERVAL w_DOUBLE w_BIGINT w_DATE : Addr) (h0 : Heap) (n0 : Nat) (v : Option Value) (h : Heap) (L : List Loc) : Prop := v = none ∧ Fr n0 L ∧ Keep h0 h [a1] ∧ Exa Z h a1 "com/example/cairn/cairn/types/DataType" ∧ Fld Z h a1 "com/example/cairn/cairn/types/DataType" "kind" "Lcom/example/cairn/cairn/types/DataType$Kind;" (.ref w_VARCHAR)
theorem ef_init5 (m : MethodId) (x0 : Addr) (x1 : Addr) (x2 : Int32) (x3 : Int32) : entryFrame m #[(.ref x0), (.ref x1), (.int x2), (.int x3)] 5 = mkF m 0 #[.val (.ref x0), .val (.ref x1), .val (.int x2), .val (.int x3), .unset] [] := by first | (simp [entryFrame, mkF, argsToLocals, Value.category]; done) | rfl
set_option maxRecDepth 65536 in
set_option maxHeartbeats 40000000 in
theorem rm_init5 (l : Launch) (Z : State) (a0 : Array Value) (hw : ∀ d ∈ tables_1, d.before a0 Z = true) (ws : List Jvm.Cond) (a1 : Addr) (p3 : Int32) (h0 : Heap) (n0 : Nat) (w_INTEGER w_DECIMAL w_CHAR w_VARCHAR w_BOOLEAN w_INTERVAL w_DOUBLE w_BIGINT w_DATE : Addr) (hK : own_K Z h0 w_INTEGER w_DECIMAL w_CHAR w_VARCHAR w_BOOLEAN w_INTERVAL w_DOUBLE w_BIGINT w_DATE) (F_kind : Fld Z h0 a1 "com/example/cairn/cairn/types/DataType" "kind" "Lcom/example/cairn/cairn/types/DataType$Kind;" .null) (F_precision : Fld Z h0 a1 "com/example/cairn/cairn/types/DataType" "precision" "I" (.int (0 : Int32))) (F_scale : Fld Z h0 a1 "com/example/cairn/cairn/types/DataType" "scale" "I" (.int (0 : Int32))) (E_a1 : Exa Z h0 a1 "com/example/cairn/cairn/types/DataType") (g_a1 : n0 ≤ a1) (hp1 : ¬ p3 < (1 : Int32)) :
    MetFree l (⟨"com/example/cairn/cairn/types/DataType", "<init>", "(Lcom/example/cairn/cairn/types/DataType$Kind;II)V"⟩ : MethodName) (head1 (Jvm.Cond.code (⟨"com/example/cairn/cairn/types/DataType", "<init>", "(Lcom/example/cairn/cairn/types/DataType$Kind;II)V"⟩ : MethodName) prog_163_method_1_code 5 none :: ws) ({ frames := 2, cells := 0, slots := 0, locals := 24 } : Room)) (fun a U => a = #[(.ref a1), (.ref w_VARCHAR), (.int p3), (.int (0 : Int32))] ∧ Z.Warmed39 U.vm ∧ U.heap = h0) (fun _ _ _ _ _ => True) (fun _ U o U' => ∃ v L, o = .returned v ∧ own_Q_init5 Z a1 w_INTEGER w_DECIMAL w_CHAR w_VARCHAR w_BOOLEAN w_INTERVAL w_DOUBLE w_BIGINT w_DATE h0 n0 v U'.heap L ∧ FrameEnd U o U' L ({ frames := 2, cells := 0, slots := 0, locals := 24 } : Room).cells ({ frames := 2, cells := 0, slots := 0, locals := 24 } : Room).slots) := by
  refine MetFree.of_bodySF (plainFor_of_name pn_2) hisR ?_
  intro p e s m args below meth c s₁ Bd hml0 hP hK0
  obtain ⟨rfl, hZ, hh⟩ := hP
  have hx := Bd.exec
  have hby := Bd.bytes
  have hml : c.maxLocals = 5 := hml0
  have hown : s.vm.findClass "com/example/cairn/cairn/types/DataType" = some m.cls := findClass_of_methodNamed Bd.named
  have hnm := (name_of_methodNamed Bd.named Bd.method).1
  have X0 : Stand p l e ({ frames := 2, cells := 0, slots := 0, locals := 24 } : Room) s m #[(.ref a1), (.ref w_VARCHAR), (.int p3), (.int (0 : Int32))] below meth c s₁ [] 0 0 := Stand.of_body Bd
  have e0 : s₁.heap = h0 := by rw [← hh, Bd.state]; rfl
  have N0 := Fr.nil n0
  have pre0 : ∀ t, Steps p.tables e below (s₁.setTop (mkF m 0 #[.val (.ref a1), .val (.ref w_VARCHAR), .val (.int p3), .val (.int (0 : Int32)), .unset] [])) t → Steps p.tables e below (s₁.setTop (entryFrame m #[(.ref a1), (.ref w_VARCHAR), (.int p3), (.int (0 : Int32))] 5)) t := fun t k => castTop (ef_init5 m a1 w_VARCHAR p3 ((0 : Int32))) k
  have hK' := hK
  obtain ⟨S_w_INTEGER, E_w_INTEGER, S_w_DECIMAL, E_w_DECIMAL, F_ordinal_w_INTEGER, F_ordinal_w_DECIMAL, S_w_CHAR, E_w_CHAR, F_ordinal_w_CHAR, S_w_VARCHAR, E_w_VARCHAR, F_ordinal_w_VARCHAR, S_w_BOOLEAN, E_w_BOOLEAN, F_ordinal_w_BOOLEAN, S_w_INTERVAL, E_w_INTERVAL, F_ordinal_w_INTERVAL, S_w_DOUBLE, E_w_DOUBLE, F_ordinal_w_DOUBLE, S_w_BIGINT, E_w_BIGINT, F_ordinal_w_BIGINT, S_w_DATE, E_w_DATE, F_ordinal_w_DATE⟩ := hK'
  obtain ⟨v1, _, ⟨T1, L1, k1, n1⟩, -, X1, ⟨Lc1, hQ1, l1, y1, z1⟩, st1⟩ := X0.specialBack hx (y := (⟨"java/lang/Record", "<init>", "()V"⟩ : MethodName)) rfl hown (mvT hZ (hw _ (ow 14 rfl))) (mvT hZ (hw _ (ow 15 rfl))) (mvT hZ (hw _ (ow 18 rfl))) (by decide) (backOf (W := 0) (rm_record l Z a0 hw [] a1 h0 n0) hZ (hw _ (ow 18 rfl)) (hw _ (ow 17 rfl)) (by decide) (by decide)) (g := (mkF m 1 #[.val (.ref a1), .val (.ref w_VARCHAR), .val (.int p3), .val (.int (0 : Int32)), .unset] [(.ref a1)])) rfl (by rw [hml]; rfl) (Steps.refl _) (a := a1) (argsL := []) (rest := []) (lenOf pd_0 rfl) rfl (Nat.le_of_eq rfl) (hb hby d_prog_163_method_1_1) (fun _ _ => ⟨rfl, e0, (by decide : 0 + 0 ≤ _), (by decide : 0 + 0 ≤ _)⟩)
  dsimp only [Pt.U, Pt.locs, Pt.cells, Pt.slots] at X1 l1 y1 z1 st1 hQ1
  subst l1 y1 z1
  obtain ⟨hv1, Nq1, e1⟩ := hQ1
  obtain rfl : v1 = none := hv1
  have N1 := Fr.app N0 Nq1
  obtain ⟨T2, X2, e2, st2⟩ := getS2 X1 hx hZ hown (host := "") (Or.inl (hw _ (ow 22 rfl))) Via.refl e1 S_w_DECIMAL (g := (mkF m 5 #[.val (.ref a1), .val (.ref w_VARCHAR), .val (.int p3), .val (.int (0 : Int32)), .unset] [(.ref w_VARCHAR)])) rfl (hb hby d_prog_163_method_1_5)
  obtain ⟨T3, X3, e3, st3⟩ := getS2 X2 hx hZ hown (host := "") (Or.inl (hw _ (ow 24 rfl))) Via.refl e2 S_w_CHAR (g := (mkF m 12 #[.val (.ref a1), .val (.ref w_VARCHAR), .val (.int p3), .val (.int (0 : Int32)), .unset] [(.ref w_VARCHAR)])) rfl (hb hby d_prog_163_method_1_12)
  obtain ⟨T4, X4, e4, st4⟩ := getS2 X3 hx hZ hown (host := "") (Or.inl (hw _ (ow 26 rfl))) Via.refl e3 S_w_VARCHAR (g := (mkF m 19 #[.val (.ref a1), .val (.ref w_VARCHAR), .val (.int p3), .val (.int (0 : Int32)), .unset] [(.ref w_VARCHAR)])) rfl (hb hby d_prog_163_method_1_19)
  obtain ⟨T5, X5, e5, st5⟩ := getS2 X4 hx hZ hown (host := "") (Or.inl (hw _ (ow 22 rfl))) Via.refl e4 S_w_DECIMAL (g := (mkF m 68 #[.val (.ref a1), .val (.ref w_VARCHAR), .val (.int p3), .val (.int (0 : Int32)), .val (.int (1 : Int32))] [(.ref w_VARCHAR)])) rfl (hb hby d_prog_163_method_1_68)
  obtain ⟨T6, h6, X6, e6, W6, st6⟩ := putF X5 hx hZ hown (host := "") (Or.inl (hw _ (ow 28 rfl))) Via.refl e5 F_kind E_a1 (Or.inr ⟨(hw _ (ow 29 rfl)), rfl, hnm⟩) (hw _ (ow 9 rfl)) (ty := (.object "com/example/cairn/cairn/types/DataType$Kind")) (by decide) rfl rfl (g := (mkF m 113 #[.val (.ref a1), .val (.ref w_VARCHAR), .val (.int p3), .val (.int (0 : Int32)), .val (.int (1 : Int32))] [(.ref w_VARCHAR), (.ref a1)])) rfl rfl (hb hby d_prog_163_method_1_113)
  have Fw6 := F_kind.same W6
  have Ew6 := E_a1.wr W6
  have K6 : Keep h0 h6 [a1] := (Keep.refl h0 [a1]).wr W6 (Or.inl (List.mem_of_getElem? (i := 0) rfl))
  have N6 := Fr.snoc X6 N1 g_a1
  have F6_precision := F_precision.other W6 (Or.inr (slot_ne (Or.inr (hw _ (ow 31 rfl))) (Or.inr (hw _ (ow 29 rfl))) (by decide) (t := .int) (t' := (.object "com/example/cairn/cairn/types/DataType$Kind")) (by decide) (by decide)))
  have F6_scale := F_scale.other W6 (Or.inr (slot_ne (Or.inr (hw _ (ow 33 rfl))) (Or.inr (hw _ (ow 29 rfl))) (by decide) (t := .int) (t' := (.object "com/example/cairn/cairn/types/DataType$Kind")) (by decide) (by decide)))
  obtain ⟨T7, h7, X7, e7, W7, st7⟩ := putF X6 hx hZ hown (host := "") (Or.inl (hw _ (ow 30 rfl))) Via.refl e6 F6_precision Ew6 (Or.inr ⟨(hw _ (ow 31 rfl)), rfl, hnm⟩) (hw _ (ow 9 rfl)) (ty := .int) (by decide) rfl rfl (g := (mkF m 118 #[.val (.ref a1), .val (.ref w_VARCHAR), .val (.int p3), .val (.int (0 : Int32)), .val (.int (1 : Int32))] [(.int p3), (.ref a1)])) rfl rfl (hb hby d_prog_163_method_1_118)
  have Fw7 := F6_precision.same W7
  have Ew7 := Ew6.wr W7
  have K7 : Keep h0 h7 [a1] := K6.wr W7 (Or.inl (List.mem_of_getElem? (i := 0) rfl))
  have N7 := Fr.snoc X7 N6 g_a1
  have F7_kind := Fw6.other W7 (Or.inr (slot_ne (Or.inr (hw _ (ow 29 rfl))) (Or.inr (hw _ (ow 31 rfl))) (by decide) (t := (.object "com/example/cairn/cairn/types/DataType$Kind")) (t' := .int) (by decide) (by decide)))
  have F7_scale := F6_scale.other W7 (Or.inr (slot_ne (Or.inr (hw _ (ow 33 rfl))) (Or.inr (hw _ (ow 31 rfl))) (by decide) (t := .int) (t' := .int) (by decide) (by decide)))
  obtain ⟨T8, h8, X8, e8, W8, st8⟩ := putF X7 hx hZ hown (host := "") (Or.inl (hw _ (ow 32 rfl))) Via.refl e7 F7_scale Ew7 (Or.inr ⟨(hw _ (ow 33 rfl)), rfl, hnm⟩) (hw _ (ow 9 rfl)) (ty := .int) (by decide) rfl rfl (g := (mkF m 123 #[.val (.ref a1), .val (.ref w_VARCHAR), .val (.int p3), .val (.int (0 : Int32)), .val (.int (1 : Int32))] [(.int (0 : Int32)), (.ref a1)])) rfl rfl (hb hby d_prog_163_method_1_123)
  have Fw8 := F7_scale.same W8
  have Ew8 := Ew7.wr W8
  have K8 : Keep h0 h8 [a1] := K7.wr W8 (Or.inl (List.mem_of_getElem? (i := 0) rfl))
  have N8 := Fr.snoc X8 N7 g_a1
  have F8_kind := F7_kind.other W8 (Or.inr (slot_ne (Or.inr (hw _ (ow 29 rfl))) (Or.inr (hw _ (ow 33 rfl))) (by decide) (t := (.object "com/example/cairn/cairn/types/DataType$Kind")) (t' := .int) (by decide) (by decide)))
  have F8_precision := Fw7.other W8 (Or.inr (slot_ne (Or.inr (hw _ (ow 31 rfl))) (Or.inr (hw _ (ow 33 rfl))) (by decide) (t := .int) (t' := .int) (by decide) (by decide)))
  have pre9 : ∀ t, Steps p.tables e below (T8.setTop (mkF m 126 #[.val (.ref a1), .val (.ref w_VARCHAR), .val (.int p3), .val (.int (0 : Int32)), .val (.int (1 : Int32))] [])) t → Steps p.tables e below (s₁.setTop (entryFrame m #[(.ref a1), (.ref w_VARCHAR), (.int p3), (.int (0 : Int32))] 5)) t := fun t k => pre0 t (by
    show Steps p.tables e below (s₁.setTop (mkF m 0 #[.val (.ref a1), .val (.ref w_VARCHAR), .val (.int p3), .val (.int (0 : Int32)), .unset] [])) _
    refine XS.aloadN X0.here hx rfl (hb hby d_prog_163_method_1_0) rfl rfl ?_
    show Steps p.tables e below (s₁.setTop (mkF m 1 #[.val (.ref a1), .val (.ref w_VARCHAR), .val (.int p3), .val (.int (0 : Int32)), .unset] [(.ref a1)])) _
    refine st1.trans ?_
    show Steps p.tables e below (T1.setTop (mkF m 4 #[.val (.ref a1), .val (.ref w_VARCHAR), .val (.int p3), .val (.int (0 : Int32)), .unset] [])) _
    refine XS.aloadN X1.here hx rfl (hb hby d_prog_163_method_1_4) rfl rfl ?_
    show Steps p.tables e below (T1.setTop (mkF m 5 #[.val (.ref a1), .val (.ref w_VARCHAR), .val (.int p3), .val (.int (0 : Int32)), .unset] [(.ref w_VARCHAR)])) _
    refine st2 _ ?_
    show Steps p.tables e below (T2.setTop (mkF m 8 #[.val (.ref a1), .val (.ref w_VARCHAR), .val (.int p3), .val (.int (0 : Int32)), .unset] [(.ref w_DECIMAL), (.ref w_VARCHAR)])) _
    refine Jvm.RoadKit.acmp (g := (mkF m 8 #[.val (.ref a1), .val (.ref w_VARCHAR), .val (.int p3), .val (.int (0 : Int32)), .unset] [(.ref w_DECIMAL), (.ref w_VARCHAR)])) X2 hx rfl rfl rfl (pc0 := 8) (pc' := 11) (same := false) rfl (hb hby d_prog_163_method_1_8) rfl (decide_eq_false fun q => (Fld.ne F_ordinal_w_VARCHAR F_ordinal_w_DECIMAL (by decide)) (Value.ref.inj q)) (by decide) (by decide) ?_
    show Steps p.tables e below (T2.setTop (mkF m 11 #[.val (.ref a1), .val (.ref w_VARCHAR), .val (.int p3), .val (.int (0 : Int32)), .unset] [])) _
    refine XS.aloadN X2.here hx rfl (hb hby d_prog_163_method_1_11) rfl rfl ?_
    show Steps p.tables e below (T2.setTop (mkF m 12 #[.val (.ref a1), .val (.ref w_VARCHAR), .val (.int p3), .val (.int (0 : Int32)), .unset] [(.ref w_VARCHAR)])) _
    refine st3 _ ?_
    show Steps p.tables e below (T3.setTop (mkF m 15 #[.val (.ref a1), .val (.ref w_VARCHAR), .val (.int p3), .val (.int (0 : Int32)), .unset] [(.ref w_CHAR), (.ref w_VARCHAR)])) _
    refine Jvm.RoadKit.acmp (g := (mkF m 15 #[.val (.ref a1), .val (.ref w_VARCHAR), .val (.int p3), .val (.int (0 : Int32)), .unset] [(.ref w_CHAR), (.ref w_VARCHAR)])) X3 hx rfl rfl rfl (pc0 := 15) (pc' := 18) (same := false) rfl (hb hby d_prog_163_method_1_15) rfl (decide_eq_false fun q => (Fld.ne F_ordinal_w_VARCHAR F_ordinal_w_CHAR (by decide)) (Value.ref.inj q)) (by decide) (by decide) ?_
    show Steps p.tables e below (T3.setTop (mkF m 18 #[.val (.ref a1), .val (.ref w_VARCHAR), .val (.int p3), .val (.int (0 : Int32)), .unset] [])) _
    refine XS.aloadN X3.here hx rfl (hb hby d_prog_163_method_1_18) rfl rfl ?_
    show Steps p.tables e below (T3.setTop (mkF m 19 #[.val (.ref a1), .val (.ref w_VARCHAR), .val (.int p3), .val (.int (0 : Int32)), .unset] [(.ref w_VARCHAR)])) _
    refine st4 _ ?_
    show Steps p.tables e below (T4.setTop (mkF m 22 #[.val (.ref a1), .val (.ref w_VARCHAR), .val (.int p3), .val (.int (0 : Int32)), .unset] [(.ref w_VARCHAR), (.ref w_VARCHAR)])) _
    refine Jvm.RoadKit.acmp (g := (mkF m 22 #[.val (.ref a1), .val (.ref w_VARCHAR), .val (.int p3), .val (.int (0 : Int32)), .unset] [(.ref w_VARCHAR), (.ref w_VARCHAR)])) X4 hx rfl rfl rfl (pc0 := 22) (pc' := 25) (same := true) rfl (hb hby d_prog_163_method_1_22) rfl (decide_eq_true rfl) (by decide) (by decide) ?_
    show Steps p.tables e below (T4.setTop (mkF m 25 #[.val (.ref a1), .val (.ref w_VARCHAR), .val (.int p3), .val (.int (0 : Int32)), .unset] [])) _
    refine XS.iconst X4.here hx rfl (hb hby d_prog_163_method_1_25) ?_
    show Steps p.tables e below (T4.setTop (mkF m 26 #[.val (.ref a1), .val (.ref w_VARCHAR), .val (.int p3), .val (.int (0 : Int32)), .unset] [(.int (1 : Int32))])) _
    refine XS.goto X4.here hx rfl (pc0 := 26) (pc' := 30) rfl (hb hby d_prog_163_method_1_26) (by decide) (by decide) ?_
    show Steps p.tables e below (T4.setTop (mkF m 30 #[.val (.ref a1), .val (.ref w_VARCHAR), .val (.int p3), .val (.int (0 : Int32)), .unset] [(.int (1 : Int32))])) _
    refine XS.istore X4.here hx rfl (hb hby d_prog_163_method_1_30) rfl (l' := #[.val (.ref a1), .val (.ref w_VARCHAR), .val (.int p3), .val (.int (0 : Int32)), .val (.int (1 : Int32))]) rfl ?_
    show Steps p.tables e below (T4.setTop (mkF m 32 #[.val (.ref a1), .val (.ref w_VARCHAR), .val (.int p3), .val (.int (0 : Int32)), .val (.int (1 : Int32))] [])) _
    refine XS.iload X4.here hx rfl (hb hby d_prog_163_method_1_32) rfl ?_
    show Steps p.tables e below (T4.setTop (mkF m 34 #[.val (.ref a1), .val (.ref w_VARCHAR), .val (.int p3), .val (.int (0 : Int32)), .val (.int (1 : Int32))] [(.int (1 : Int32))])) _
    refine XS.ifNo X4.here hx rfl (hb hby d_prog_163_method_1_34) rfl ((if0 _ _).trans (feq (by decide)).1) ?_
    show Steps p.tables e below (T4.setTop (mkF m 37 #[.val (.ref a1), .val (.ref w_VARCHAR), .val (.int p3), .val (.int (0 : Int32)), .val (.int (1 : Int32))] [])) _
    refine XS.iloadN X4.here hx rfl (hb hby d_prog_163_method_1_37) rfl ?_
    show Steps p.tables e below (T4.setTop (mkF m 38 #[.val (.ref a1), .val (.ref w_VARCHAR), .val (.int p3), .val (.int (0 : Int32)), .val (.int (1 : Int32))] [(.int p3)])) _
    refine XS.iconst X4.here hx rfl (hb hby d_prog_163_method_1_38) ?_
    show Steps p.tables e below (T4.setTop (mkF m 39 #[.val (.ref a1), .val (.ref w_VARCHAR), .val (.int p3), .val (.int (0 : Int32)), .val (.int (1 : Int32))] [(.int (1 : Int32)), (.int p3)])) _
    refine XS.icmpYes X4.here hx rfl (pc0 := 39) (pc' := 67) rfl (hb hby d_prog_163_method_1_39) rfl (flt hp1).2.1 (by decide) (by decide) ?_
    show Steps p.tables e below (T4.setTop (mkF m 67 #[.val (.ref a1), .val (.ref w_VARCHAR), .val (.int p3), .val (.int (0 : Int32)), .val (.int (1 : Int32))] [])) _
    refine XS.aloadN X4.here hx rfl (hb hby d_prog_163_method_1_67) rfl rfl ?_
    show Steps p.tables e below (T4.setTop (mkF m 68 #[.val (.ref a1), .val (.ref w_VARCHAR), .val (.int p3), .val (.int (0 : Int32)), .val (.int (1 : Int32))] [(.ref w_VARCHAR)])) _
    refine st5 _ ?_
    show Steps p.tables e below (T5.setTop (mkF m 71 #[.val (.ref a1), .val (.ref w_VARCHAR), .val (.int p3), .val (.int (0 : Int32)), .val (.int (1 : Int32))] [(.ref w_DECIMAL), (.ref w_VARCHAR)])) _
    refine Jvm.RoadKit.acmp (g := (mkF m 71 #[.val (.ref a1), .val (.ref w_VARCHAR), .val (.int p3), .val (.int (0 : Int32)), .val (.int (1 : Int32))] [(.ref w_DECIMAL), (.ref w_VARCHAR)])) X5 hx rfl rfl rfl (pc0 := 71) (pc' := 92) (same := false) rfl (hb hby d_prog_163_method_1_71) rfl (decide_eq_false fun q => (Fld.ne F_ordinal_w_VARCHAR F_ordinal_w_DECIMAL (by decide)) (Value.ref.inj q)) (by decide) (by decide) ?_
    show Steps p.tables e below (T5.setTop (mkF m 92 #[.val (.ref a1), .val (.ref w_VARCHAR), .val (.int p3), .val (.int (0 : Int32)), .val (.int (1 : Int32))] [])) _
    refine XS.iloadN X5.here hx rfl (hb hby d_prog_163_method_1_92) rfl ?_
    show Steps p.tables e below (T5.setTop (mkF m 93 #[.val (.ref a1), .val (.ref w_VARCHAR), .val (.int p3), .val (.int (0 : Int32)), .val (.int (1 : Int32))] [(.int (0 : Int32))])) _
    refine XS.ifYes X5.here hx rfl (pc0 := 93) (pc' := 111) rfl (hb hby d_prog_163_method_1_93) rfl ((if0 _ _).trans (teq (by decide)).1) (by decide) (by decide) ?_
    show Steps p.tables e below (T5.setTop (mkF m 111 #[.val (.ref a1), .val (.ref w_VARCHAR), .val (.int p3), .val (.int (0 : Int32)), .val (.int (1 : Int32))] [])) _
    refine XS.aloadN X5.here hx rfl (hb hby d_prog_163_method_1_111) rfl rfl ?_
    show Steps p.tables e below (T5.setTop (mkF m 112 #[.val (.ref a1), .val (.ref w_VARCHAR), .val (.int p3), .val (.int (0 : Int32)), .val (.int (1 : Int32))] [(.ref a1)])) _
    refine XS.aloadN X5.here hx rfl (hb hby d_prog_163_method_1_112) rfl rfl ?_
    show Steps p.tables e below (T5.setTop (mkF m 113 #[.val (.ref a1), .val (.ref w_VARCHAR), .val (.int p3), .val (.int (0 : Int32)), .val (.int (1 : Int32))] [(.ref w_VARCHAR), (.ref a1)])) _
    refine st6 _ ?_
    show Steps p.tables e below (T6.setTop (mkF m 116 #[.val (.ref a1), .val (.ref w_VARCHAR), .val (.int p3), .val (.int (0 : Int32)), .val (.int (1 : Int32))] [])) _
    refine XS.aloadN X6.here hx rfl (hb hby d_prog_163_method_1_116) rfl rfl ?_
    show Steps p.tables e below (T6.setTop (mkF m 117 #[.val (.ref a1), .val (.ref w_VARCHAR), .val (.int p3), .val (.int (0 : Int32)), .val (.int (1 : Int32))] [(.ref a1)])) _
    refine XS.iloadN X6.here hx rfl (hb hby d_prog_163_method_1_117) rfl ?_
    show Steps p.tables e below (T6.setTop (mkF m 118 #[.val (.ref a1), .val (.ref w_VARCHAR), .val (.int p3), .val (.int (0 : Int32)), .val (.int (1 : Int32))] [(.int p3), (.ref a1)])) _
    refine st7 _ ?_
    show Steps p.tables e below (T7.setTop (mkF m 121 #[.val (.ref a1), .val (.ref w_VARCHAR), .val (.int p3), .val (.int (0 : Int32)), .val (.int (1 : Int32))] [])) _
    refine XS.aloadN X7.here hx rfl (hb hby d_prog_163_method_1_121) rfl rfl ?_
    show Steps p.tables e below (T7.setTop (mkF m 122 #[.val (.ref a1), .val (.ref w_VARCHAR), .val (.int p3), .val (.int (0 : Int32)), .val (.int (1 : Int32))] [(.ref a1)])) _
    refine XS.iloadN X7.here hx rfl (hb hby d_prog_163_method_1_122) rfl ?_
    show Steps p.tables e below (T7.setTop (mkF m 123 #[.val (.ref a1), .val (.ref w_VARCHAR), .val (.int p3), .val (.int (0 : Int32)), .val (.int (1 : Int32))] [(.int (0 : Int32)), (.ref a1)])) _
    refine st8 _ ?_
    exact k)
  obtain ⟨fs, hr, hrun, hended, hW, hsame⟩ := X8.leave (v := none) (fun _ => rfl)
  refine ⟨_, _, pre9 _ ?_, hrun, hended, _, _, rfl, ?_, ⟨_, rfl⟩, hW, hsame.mono (by decide) (by decide)⟩
  · show Steps p.tables e below (T8.setTop (mkF m 126 #[.val (.ref a1), .val (.ref w_VARCHAR), .val (.int p3), .val (.int (0 : Int32)), .val (.int (1 : Int32))] [])) _
    exact X8.returnOut hx Bd.returns (hb hby d_prog_163_method_1_126) hr
  · exact ⟨rfl, N8, by rw [show (T8.setFrames fs).heap = _ from e8]; exact ⟨K8, Ew8, F8_kind⟩⟩
theorem ef_law5 (m : MethodId) (x0 : Int32) (x1 : Int32) (x2 : Int32) : entryFrame m #[(.int x0), (.int x1), (.int x2)] maxLocals = mkF m 0 #[.val (.int x0), .val (.int x1), .val (.int x2), .unset, .unset, .unset, .unset, .unset, .unset] [] := by first | (simp [entryFrame, mkF, argsToLocals, Value.category, maxLocals]; done) | rfl
set_option maxRecDepth 65536 in
set_option maxHeartbeats 40000000 in
theorem rm_law5 (l : Launch) (Z : State) (a0 : Array Value) (hw : ∀ d ∈ tables_1, d.before a0 Z = true) (ws : List Jvm.Cond) (p1 : Int32) (p2 : Int32) (p3 : Int32) (h0 : Heap) (n0 : Nat) (Z0 : n0 ≤ h0.size) (w_INTEGER w_DECIMAL w_CHAR w_VARCHAR w_BOOLEAN w_INTERVAL w_DOUBLE w_BIGINT w_DATE : Addr) (hK : own_K Z h0 w_INTEGER w_DECIMAL w_CHAR w_VARCHAR w_BOOLEAN w_INTERVAL w_DOUBLE w_BIGINT w_DATE) (z : Int32) (hk : ((p1 &&& (2147483647 : Int32)) % (9 : Int32)) = (5 : Int32)) (hz : (if (1 : Int32) < (p2 &&& (2147483647 : Int32)) then (p2 &&& (2147483647 : Int32)) else (1 : Int32)) = z) (hz1 : ¬ z < (1 : Int32)) :
    MetFree l x (head1 (Jvm.Cond.code x code maxLocals ret :: ws) room_1) (fun a U => a = #[(.int p1), (.int p2), (.int p3)] ∧ Z.Warmed39 U.vm ∧ U.heap = h0) (fun _ _ _ _ _ => True) (fun _ U o U' => ∃ v L, o = .returned v ∧ own_QH (some (.int (1 : Int32))) n0 v U'.heap L ∧ FrameEnd U o U' L room_1.cells room_1.slots) := by
  refine MetFree.of_bodySF (plainFor_of_name pn_0) hisR ?_
  intro p e s m args below meth c s₁ Bd hml0 hP hK0
  obtain ⟨rfl, hZ, hh⟩ := hP
  have hx := Bd.exec
  have hby := Bd.bytes
  have hml : c.maxLocals = 9 := hml0
  have hown : s.vm.findClass "com/example/cairn/cairn/types/DataTypeIsStorablePinLaw" = some m.cls := findClass_of_methodNamed Bd.named
  have hnm := (name_of_methodNamed Bd.named Bd.method).1
  have X0 : Stand p l e room_1 s m #[(.int p1), (.int p2), (.int p3)] below meth c s₁ [] 0 0 := Stand.of_body Bd
  have e0 : s₁.heap = h0 := by rw [← hh, Bd.state]; rfl
  have N0 := Fr.nil n0
  have pre0 : ∀ t, Steps p.tables e below (s₁.setTop (mkF m 0 #[.val (.int p1), .val (.int p2), .val (.int p3), .unset, .unset, .unset, .unset, .unset, .unset] [])) t → Steps p.tables e below (s₁.setTop (entryFrame m #[(.int p1), (.int p2), (.int p3)] maxLocals)) t := fun t k => castTop (ef_law5 m p1 p2 p3) k
  have hK' := hK
  obtain ⟨S_w_INTEGER, E_w_INTEGER, S_w_DECIMAL, E_w_DECIMAL, F_ordinal_w_INTEGER, F_ordinal_w_DECIMAL, S_w_CHAR, E_w_CHAR, F_ordinal_w_CHAR, S_w_VARCHAR, E_w_VARCHAR, F_ordinal_w_VARCHAR, S_w_BOOLEAN, E_w_BOOLEAN, F_ordinal_w_BOOLEAN, S_w_INTERVAL, E_w_INTERVAL, F_ordinal_w_INTERVAL, S_w_DOUBLE, E_w_DOUBLE, F_ordinal_w_DOUBLE, S_w_BIGINT, E_w_BIGINT, F_ordinal_w_BIGINT, S_w_DATE, E_w_DATE, F_ordinal_w_DATE⟩ := hK'
  obtain ⟨v1, _, ⟨T1, L1, k1, n1⟩, -, X1, ⟨Lc1, hQ1, l1, y1, z1⟩, st1⟩ := Jvm.LawKit.callS X0 hx (y := (⟨"com/example/cairn/cairn/types/DataTypeIsStorablePinLaw", "pick", "(I)Lcom/example/cairn/cairn/types/DataType$Kind;"⟩ : MethodName)) hown (mvT hZ (hw _ (ow 1 rfl))) (mvT hZ (hw _ (ow 2 rfl))) (mvT hZ (hw _ (ow 3 rfl))) (mvT hZ (hw _ (ow 4 rfl))) (by decide) (backOf (W := 0) (rm_pick l Z a0 hw [] (5 : Int32) h0 n0 w_INTEGER w_DECIMAL w_CHAR w_VARCHAR w_BOOLEAN w_INTERVAL w_DOUBLE w_BIGINT w_DATE hK) hZ (hw _ (ow 4 rfl)) (hw _ (ow 3 rfl)) (by decide) (by decide)) (g := (mkF m 9 #[.val (.int p1), .val (.int p2), .val (.int p3), .val (.int (5 : Int32)), .unset, .unset, .unset, .unset, .unset] [(.int (5 : Int32))])) rfl (by rw [hml]; rfl) (argsL := [(.int (5 : Int32))]) (rest := []) (lenOf pd_1 rfl) rfl (Nat.le_of_eq rfl) (hb hby at_9) (fun _ _ => ⟨rfl, e0, (by decide : 0 + 0 ≤ _), (by decide : 0 + 0 ≤ _)⟩)
  dsimp only [Pt.U, Pt.locs, Pt.cells, Pt.slots] at X1 l1 y1 z1 st1 hQ1
  subst l1 y1 z1
  obtain ⟨hv1, Nq1, e1⟩ := hQ1
  obtain rfl : v1 = some (.ref w_VARCHAR) := hv1.trans (congrArg some (congrArg Value.ref ((if_neg (by decide)).trans ((if_neg (by decide)).trans ((if_neg (by decide)).trans ((if_neg (by decide)).trans ((if_neg (by decide)).trans (if_pos (by decide)))))))))
  have N1 := Fr.app N0 Nq1
  obtain ⟨v2, _, ⟨T2, L2, k2, n2⟩, -, X2, ⟨Lc2, hQ2, l2, y2, z2⟩, st2⟩ := Jvm.LawKit.callS X1 hx (y := (⟨"java/lang/Math", "max", "(II)I"⟩ : MethodName)) hown (mvT hZ (hw _ (ow 54 rfl))) (mvT hZ (hw _ (ow 55 rfl))) (mvT hZ (hw _ (ow 56 rfl))) (mvT hZ (hw _ (ow 57 rfl))) (by decide) (backOf (W := 0) (rm_max l Z a0 hw [] (1 : Int32) (p2 &&& (2147483647 : Int32)) h0 n0) hZ (hw _ (ow 57 rfl)) (hw _ (ow 56 rfl)) (by decide) (by decide)) (g := (mkF m 65 #[.val (.int p1), .val (.int p2), .val (.int p3), .val (.int (5 : Int32)), .val (.ref w_VARCHAR), .val (.int (0 : Int32)), .val (.int (0 : Int32)), .unset, .unset] [(.int (p2 &&& (2147483647 : Int32))), (.int (1 : Int32))])) rfl (by rw [hml]; rfl) (argsL := [(.int (1 : Int32)), (.int (p2 &&& (2147483647 : Int32)))]) (rest := []) (lenOf pd_4 rfl) rfl (Nat.le_of_eq rfl) (hb hby at_65) (fun _ _ => ⟨rfl, e1, (by decide : 0 + 0 ≤ _), (by decide : 0 + 0 ≤ _)⟩)
  dsimp only [Pt.U, Pt.locs, Pt.cells, Pt.slots] at X2 l2 y2 z2 st2 hQ2
  subst l2 y2 z2
  obtain ⟨hv2, Nq2, e2⟩ := hQ2
  obtain rfl : v2 = some (.int z) := hv2.trans (congrArg some (congrArg Value.int hz))
  have N2 := Fr.app N1 Nq2
  obtain ⟨T3, h3, X3, e3, Eq3, A3, D3, -, st3⟩ := newO X2 hx hZ hown (hw _ (ow 8 rfl)) (hw _ (ow 9 rfl)) (hw _ (ow 10 rfl)) e2 (g := (mkF m 70 #[.val (.int p1), .val (.int p2), .val (.int p3), .val (.int (5 : Int32)), .val (.ref w_VARCHAR), .val (.int z), .val (.int (0 : Int32)), .unset, .unset] [])) rfl (hb hby at_70) (by decide) (by decide)
  obtain ⟨b3, gb3⟩ : ∃ z, z = h0.size := ⟨_, rfl⟩
  rw [← gb3] at A3 D3 st3
  have F3_kind : Fld Z h3 b3 "com/example/cairn/cairn/types/DataType" "kind" "Lcom/example/cairn/cairn/types/DataType$Kind;" .null := D3 (Or.inr (hw _ (ow 29 rfl))) (ty := (.object "com/example/cairn/cairn/types/DataType$Kind")) (by decide)
  have F3_precision : Fld Z h3 b3 "com/example/cairn/cairn/types/DataType" "precision" "I" (.int (0 : Int32)) := D3 (Or.inr (hw _ (ow 31 rfl))) (ty := .int) (by decide)
  have F3_scale : Fld Z h3 b3 "com/example/cairn/cairn/types/DataType" "scale" "I" (.int (0 : Int32)) := D3 (Or.inr (hw _ (ow 33 rfl))) (ty := .int) (by decide)
  have sz_b3 : h0.size ≤ b3 := Nat.le_of_eq gb3.symm
  have g_b3 : n0 ≤ b3 := Nat.le_trans Z0 sz_b3
  have EX3 : Ext h0 h3 := Eq3
  obtain ⟨v4, _, ⟨T4, L4, k4, n4⟩, -, X4, ⟨Lc4, hQ4, l4, y4, z4⟩, st4⟩ := X3.specialBack hx (y := (⟨"com/example/cairn/cairn/types/DataType", "<init>", "(Lcom/example/cairn/cairn/types/DataType$Kind;II)V"⟩ : MethodName)) rfl hown (mvT hZ (hw _ (ow 11 rfl))) (mvT hZ (hw _ (ow 12 rfl))) (mvT hZ (hw _ (ow 13 rfl))) (by decide) (backOf (W := 1) (rm_init5 l Z a0 hw [] b3 z h3 n0 w_INTEGER w_DECIMAL w_CHAR w_VARCHAR w_BOOLEAN w_INTERVAL w_DOUBLE w_BIGINT w_DATE (own_K_ext EX3 hK) F3_kind F3_precision F3_scale A3 g_b3 hz1) hZ (hw _ (ow 13 rfl)) (hw _ (ow 10 rfl)) (by decide) (by decide)) (g := (mkF m 80 #[.val (.int p1), .val (.int p2), .val (.int p3), .val (.int (5 : Int32)), .val (.ref w_VARCHAR), .val (.int z), .val (.int (0 : Int32)), .unset, .unset] [(.int (0 : Int32)), (.int z), (.ref w_VARCHAR), (.ref b3), (.ref b3)])) rfl (by rw [hml]; rfl) (Steps.refl _) (a := b3) (argsL := [(.ref w_VARCHAR), (.int z), (.int (0 : Int32))]) (rest := [(.ref b3)]) (lenOf pd_2 rfl) rfl (Nat.le_of_eq rfl) (hb hby at_80) (fun _ _ => ⟨rfl, e3, (by decide : 1 + 0 ≤ _), (by decide : 3 + 0 ≤ _)⟩)
  dsimp only [Pt.U, Pt.locs, Pt.cells, Pt.slots] at X4 l4 y4 z4 st4 hQ4
  subst l4 y4 z4
  obtain ⟨hv4, Nq4, Kq4, Ei4, Fi4⟩ := hQ4
  obtain rfl : v4 = none := hv4
  have N4 := Fr.app N2 Nq4
  have EX4 : Ext h0 T4.heap := own_ext_keep EX3 Kq4 sz_b3
  obtain ⟨cq5, kq5, q5a, q5b, q5c⟩ := isOf hZ (rfl : T4.heap = T4.heap) Ei4
  obtain ⟨v5, _, ⟨T5, L5, k5, n5⟩, -, X5, ⟨Lc5, hQ5, l5, y5, z5⟩, st5⟩ := X4.virtualBack hx (y := (⟨"com/example/cairn/cairn/types/DataType", "isStorable", "()Z"⟩ : MethodName)) (z := (⟨"com/example/cairn/cairn/types/DataType", "isStorable", "()Z"⟩ : MethodName)) hown (mvT hZ (hw _ (ow 34 rfl))) (mvT hZ (hw _ (ow 35 rfl))) (notFace_of_selects (args := #[]) (mvT hZ (hw _ (ow 37 rfl)))) (mvT hZ (hw _ (ow 37 rfl))) (mvT hZ (hw _ (ow 36 rfl))) (by decide) (backOf (W := 0) (rm_isStorable l Z a0 hw [] b3 w_VARCHAR T4.heap n0 w_INTEGER w_DECIMAL w_CHAR w_VARCHAR w_BOOLEAN w_INTERVAL w_DOUBLE w_BIGINT w_DATE (own_K_ext EX4 hK) Fi4) hZ (hw _ (ow 38 rfl)) (hw _ (ow 10 rfl)) (by decide) (by decide)) q5a q5c (g := (mkF m 99 #[.val (.int p1), .val (.int p2), .val (.int p3), .val (.int (5 : Int32)), .val (.ref w_VARCHAR), .val (.int z), .val (.int (0 : Int32)), .val (.ref b3), .val (.int (1 : Int32))] [(.ref b3)])) rfl (by rw [hml]; rfl) (Steps.refl _) (argsL := []) (rest := []) (lenOf pd_3 rfl) rfl (Nat.le_of_eq rfl) (hb hby at_99) (fun _ _ => ⟨rfl, (rfl : T4.heap = T4.heap), (by decide : 1 + 0 ≤ _), (by decide : 3 + 0 ≤ _)⟩)
  dsimp only [Pt.U, Pt.locs, Pt.cells, Pt.slots] at X5 l5 y5 z5 st5 hQ5
  subst l5 y5 z5
  obtain ⟨hv5, Nq5, e5⟩ := hQ5
  obtain rfl : v5 = some (.int (1 : Int32)) := hv5.trans (congrArg some (congrArg Value.int ((if_neg (Fld.ne F_ordinal_w_VARCHAR F_ordinal_w_BOOLEAN (by decide))).trans ((if_neg (Fld.ne F_ordinal_w_VARCHAR F_ordinal_w_INTERVAL (by decide))).trans (if_neg (Fld.ne F_ordinal_w_VARCHAR F_ordinal_w_DOUBLE (by decide)))))))
  have N5 := Fr.app N4 Nq5
  have pre6 : ∀ t, Steps p.tables e below (T5.setTop (mkF m 112 #[.val (.int p1), .val (.int p2), .val (.int p3), .val (.int (5 : Int32)), .val (.ref w_VARCHAR), .val (.int z), .val (.int (0 : Int32)), .val (.ref b3), .val (.int (1 : Int32))] [(.int (1 : Int32))])) t → Steps p.tables e below (s₁.setTop (entryFrame m #[(.int p1), (.int p2), (.int p3)] maxLocals)) t := fun t k => pre0 t (by
    show Steps p.tables e below (s₁.setTop (mkF m 0 #[.val (.int p1), .val (.int p2), .val (.int p3), .unset, .unset, .unset, .unset, .unset, .unset] [])) _
    refine XS.iloadN X0.here hx rfl (hb hby at_0) rfl ?_
    show Steps p.tables e below (s₁.setTop (mkF m 1 #[.val (.int p1), .val (.int p2), .val (.int p3), .unset, .unset, .unset, .unset, .unset, .unset] [(.int p1)])) _
    refine X0.ldcInt hx hown (mvT hZ (hw _ (ow 0 rfl))) (g := (mkF m 1 #[.val (.int p1), .val (.int p2), .val (.int p3), .unset, .unset, .unset, .unset, .unset, .unset] [(.int p1)])) rfl (hb hby at_1) _ ?_
    show Steps p.tables e below (s₁.setTop (mkF m 3 #[.val (.int p1), .val (.int p2), .val (.int p3), .unset, .unset, .unset, .unset, .unset, .unset] [(.int (2147483647 : Int32)), (.int p1)])) _
    refine XS.iand X0.here hx rfl (hb hby at_3) rfl ?_
    show Steps p.tables e below (s₁.setTop (mkF m 4 #[.val (.int p1), .val (.int p2), .val (.int p3), .unset, .unset, .unset, .unset, .unset, .unset] [(.int (p1 &&& (2147483647 : Int32)))])) _
    refine XS.bipush X0.here hx rfl (hb hby at_4) ?_
    show Steps p.tables e below (s₁.setTop (mkF m 6 #[.val (.int p1), .val (.int p2), .val (.int p3), .unset, .unset, .unset, .unset, .unset, .unset] [(.int (9 : Int32)), (.int (p1 &&& (2147483647 : Int32)))])) _
    refine iremM X0 hx rfl (hb hby at_6) rfl (by decide) ?_
    show Steps p.tables e below (s₁.setTop (mkF m 7 #[.val (.int p1), .val (.int p2), .val (.int p3), .unset, .unset, .unset, .unset, .unset, .unset] [(.int ((p1 &&& (2147483647 : Int32)) % (9 : Int32)))])) _
    rw [hk]
    show Steps p.tables e below (s₁.setTop (mkF m 7 #[.val (.int p1), .val (.int p2), .val (.int p3), .unset, .unset, .unset, .unset, .unset, .unset] [(.int (5 : Int32))])) _
    refine XS.istoreN X0.here hx rfl (hb hby at_7) rfl (l' := #[.val (.int p1), .val (.int p2), .val (.int p3), .val (.int (5 : Int32)), .unset, .unset, .unset, .unset, .unset]) rfl ?_
    show Steps p.tables e below (s₁.setTop (mkF m 8 #[.val (.int p1), .val (.int p2), .val (.int p3), .val (.int (5 : Int32)), .unset, .unset, .unset, .unset, .unset] [])) _
    refine XS.iloadN X0.here hx rfl (hb hby at_8) rfl ?_
    show Steps p.tables e below (s₁.setTop (mkF m 9 #[.val (.int p1), .val (.int p2), .val (.int p3), .val (.int (5 : Int32)), .unset, .unset, .unset, .unset, .unset] [(.int (5 : Int32))])) _
    refine st1 _ ?_
    show Steps p.tables e below (T1.setTop (mkF m 12 #[.val (.int p1), .val (.int p2), .val (.int p3), .val (.int (5 : Int32)), .unset, .unset, .unset, .unset, .unset] [(.ref w_VARCHAR)])) _
    refine XS.astore X1.here hx rfl (hb hby at_12) rfl rfl (l' := #[.val (.int p1), .val (.int p2), .val (.int p3), .val (.int (5 : Int32)), .val (.ref w_VARCHAR), .unset, .unset, .unset, .unset]) rfl ?_
    show Steps p.tables e below (T1.setTop (mkF m 14 #[.val (.int p1), .val (.int p2), .val (.int p3), .val (.int (5 : Int32)), .val (.ref w_VARCHAR), .unset, .unset, .unset, .unset] [])) _
    refine XS.iconst X1.here hx rfl (hb hby at_14) ?_
    show Steps p.tables e below (T1.setTop (mkF m 15 #[.val (.int p1), .val (.int p2), .val (.int p3), .val (.int (5 : Int32)), .val (.ref w_VARCHAR), .unset, .unset, .unset, .unset] [(.int (0 : Int32))])) _
    refine XS.istore X1.here hx rfl (hb hby at_15) rfl (l' := #[.val (.int p1), .val (.int p2), .val (.int p3), .val (.int (5 : Int32)), .val (.ref w_VARCHAR), .val (.int (0 : Int32)), .unset, .unset, .unset]) rfl ?_
    show Steps p.tables e below (T1.setTop (mkF m 17 #[.val (.int p1), .val (.int p2), .val (.int p3), .val (.int (5 : Int32)), .val (.ref w_VARCHAR), .val (.int (0 : Int32)), .unset, .unset, .unset] [])) _
    refine XS.iconst X1.here hx rfl (hb hby at_17) ?_
    show Steps p.tables e below (T1.setTop (mkF m 18 #[.val (.int p1), .val (.int p2), .val (.int p3), .val (.int (5 : Int32)), .val (.ref w_VARCHAR), .val (.int (0 : Int32)), .unset, .unset, .unset] [(.int (0 : Int32))])) _
    refine XS.istore X1.here hx rfl (hb hby at_18) rfl (l' := #[.val (.int p1), .val (.int p2), .val (.int p3), .val (.int (5 : Int32)), .val (.ref w_VARCHAR), .val (.int (0 : Int32)), .val (.int (0 : Int32)), .unset, .unset]) rfl ?_
    show Steps p.tables e below (T1.setTop (mkF m 20 #[.val (.int p1), .val (.int p2), .val (.int p3), .val (.int (5 : Int32)), .val (.ref w_VARCHAR), .val (.int (0 : Int32)), .val (.int (0 : Int32)), .unset, .unset] [])) _
    refine XS.iloadN X1.here hx rfl (hb hby at_20) rfl ?_
    show Steps p.tables e below (T1.setTop (mkF m 21 #[.val (.int p1), .val (.int p2), .val (.int p3), .val (.int (5 : Int32)), .val (.ref w_VARCHAR), .val (.int (0 : Int32)), .val (.int (0 : Int32)), .unset, .unset] [(.int (5 : Int32))])) _
    refine XS.iconst X1.here hx rfl (hb hby at_21) ?_
    show Steps p.tables e below (T1.setTop (mkF m 22 #[.val (.int p1), .val (.int p2), .val (.int p3), .val (.int (5 : Int32)), .val (.ref w_VARCHAR), .val (.int (0 : Int32)), .val (.int (0 : Int32)), .unset, .unset] [(.int (2 : Int32)), (.int (5 : Int32))])) _
    refine XS.icmpYes X1.here hx rfl (pc0 := 22) (pc' := 50) rfl (hb hby at_22) rfl (feq (by decide)).2 (by decide) (by decide) ?_
    show Steps p.tables e below (T1.setTop (mkF m 50 #[.val (.int p1), .val (.int p2), .val (.int p3), .val (.int (5 : Int32)), .val (.ref w_VARCHAR), .val (.int (0 : Int32)), .val (.int (0 : Int32)), .unset, .unset] [])) _
    refine XS.iloadN X1.here hx rfl (hb hby at_50) rfl ?_
    show Steps p.tables e below (T1.setTop (mkF m 51 #[.val (.int p1), .val (.int p2), .val (.int p3), .val (.int (5 : Int32)), .val (.ref w_VARCHAR), .val (.int (0 : Int32)), .val (.int (0 : Int32)), .unset, .unset] [(.int (5 : Int32))])) _
    refine XS.iconst X1.here hx rfl (hb hby at_51) ?_
    show Steps p.tables e below (T1.setTop (mkF m 52 #[.val (.int p1), .val (.int p2), .val (.int p3), .val (.int (5 : Int32)), .val (.ref w_VARCHAR), .val (.int (0 : Int32)), .val (.int (0 : Int32)), .unset, .unset] [(.int (4 : Int32)), (.int (5 : Int32))])) _
    refine XS.icmpNo X1.here hx rfl (hb hby at_52) rfl (feq (by decide)).1 ?_
    show Steps p.tables e below (T1.setTop (mkF m 55 #[.val (.int p1), .val (.int p2), .val (.int p3), .val (.int (5 : Int32)), .val (.ref w_VARCHAR), .val (.int (0 : Int32)), .val (.int (0 : Int32)), .unset, .unset] [])) _
    refine XS.iloadN X1.here hx rfl (hb hby at_55) rfl ?_
    show Steps p.tables e below (T1.setTop (mkF m 56 #[.val (.int p1), .val (.int p2), .val (.int p3), .val (.int (5 : Int32)), .val (.ref w_VARCHAR), .val (.int (0 : Int32)), .val (.int (0 : Int32)), .unset, .unset] [(.int (5 : Int32))])) _
    refine XS.iconst X1.here hx rfl (hb hby at_56) ?_
    show Steps p.tables e below (T1.setTop (mkF m 57 #[.val (.int p1), .val (.int p2), .val (.int p3), .val (.int (5 : Int32)), .val (.ref w_VARCHAR), .val (.int (0 : Int32)), .val (.int (0 : Int32)), .unset, .unset] [(.int (5 : Int32)), (.int (5 : Int32))])) _
    refine XS.icmpNo X1.here hx rfl (hb hby at_57) rfl (teq (by decide)).2 ?_
    show Steps p.tables e below (T1.setTop (mkF m 60 #[.val (.int p1), .val (.int p2), .val (.int p3), .val (.int (5 : Int32)), .val (.ref w_VARCHAR), .val (.int (0 : Int32)), .val (.int (0 : Int32)), .unset, .unset] [])) _
    refine XS.iconst X1.here hx rfl (hb hby at_60) ?_
    show Steps p.tables e below (T1.setTop (mkF m 61 #[.val (.int p1), .val (.int p2), .val (.int p3), .val (.int (5 : Int32)), .val (.ref w_VARCHAR), .val (.int (0 : Int32)), .val (.int (0 : Int32)), .unset, .unset] [(.int (1 : Int32))])) _
    refine XS.iloadN X1.here hx rfl (hb hby at_61) rfl ?_
    show Steps p.tables e below (T1.setTop (mkF m 62 #[.val (.int p1), .val (.int p2), .val (.int p3), .val (.int (5 : Int32)), .val (.ref w_VARCHAR), .val (.int (0 : Int32)), .val (.int (0 : Int32)), .unset, .unset] [(.int p2), (.int (1 : Int32))])) _
    refine X1.ldcInt hx hown (mvT hZ (hw _ (ow 0 rfl))) (g := (mkF m 62 #[.val (.int p1), .val (.int p2), .val (.int p3), .val (.int (5 : Int32)), .val (.ref w_VARCHAR), .val (.int (0 : Int32)), .val (.int (0 : Int32)), .unset, .unset] [(.int p2), (.int (1 : Int32))])) rfl (hb hby at_62) _ ?_
    show Steps p.tables e below (T1.setTop (mkF m 64 #[.val (.int p1), .val (.int p2), .val (.int p3), .val (.int (5 : Int32)), .val (.ref w_VARCHAR), .val (.int (0 : Int32)), .val (.int (0 : Int32)), .unset, .unset] [(.int (2147483647 : Int32)), (.int p2), (.int (1 : Int32))])) _
    refine XS.iand X1.here hx rfl (hb hby at_64) rfl ?_
    show Steps p.tables e below (T1.setTop (mkF m 65 #[.val (.int p1), .val (.int p2), .val (.int p3), .val (.int (5 : Int32)), .val (.ref w_VARCHAR), .val (.int (0 : Int32)), .val (.int (0 : Int32)), .unset, .unset] [(.int (p2 &&& (2147483647 : Int32))), (.int (1 : Int32))])) _
    refine st2 _ ?_
    show Steps p.tables e below (T2.setTop (mkF m 68 #[.val (.int p1), .val (.int p2), .val (.int p3), .val (.int (5 : Int32)), .val (.ref w_VARCHAR), .val (.int (0 : Int32)), .val (.int (0 : Int32)), .unset, .unset] [(.int z)])) _
    refine XS.istore X2.here hx rfl (hb hby at_68) rfl (l' := #[.val (.int p1), .val (.int p2), .val (.int p3), .val (.int (5 : Int32)), .val (.ref w_VARCHAR), .val (.int z), .val (.int (0 : Int32)), .unset, .unset]) rfl ?_
    show Steps p.tables e below (T2.setTop (mkF m 70 #[.val (.int p1), .val (.int p2), .val (.int p3), .val (.int (5 : Int32)), .val (.ref w_VARCHAR), .val (.int z), .val (.int (0 : Int32)), .unset, .unset] [])) _
    refine st3 _ ?_
    show Steps p.tables e below (T3.setTop (mkF m 73 #[.val (.int p1), .val (.int p2), .val (.int p3), .val (.int (5 : Int32)), .val (.ref w_VARCHAR), .val (.int z), .val (.int (0 : Int32)), .unset, .unset] [(.ref b3)])) _
    refine XS.dup X3.here hx rfl (hb hby at_73) rfl rfl ?_
    show Steps p.tables e below (T3.setTop (mkF m 74 #[.val (.int p1), .val (.int p2), .val (.int p3), .val (.int (5 : Int32)), .val (.ref w_VARCHAR), .val (.int z), .val (.int (0 : Int32)), .unset, .unset] [(.ref b3), (.ref b3)])) _
    refine XS.aload X3.here hx rfl (hb hby at_74) rfl rfl ?_
    show Steps p.tables e below (T3.setTop (mkF m 76 #[.val (.int p1), .val (.int p2), .val (.int p3), .val (.int (5 : Int32)), .val (.ref w_VARCHAR), .val (.int z), .val (.int (0 : Int32)), .unset, .unset] [(.ref w_VARCHAR), (.ref b3), (.ref b3)])) _
    refine XS.iload X3.here hx rfl (hb hby at_76) rfl ?_
    show Steps p.tables e below (T3.setTop (mkF m 78 #[.val (.int p1), .val (.int p2), .val (.int p3), .val (.int (5 : Int32)), .val (.ref w_VARCHAR), .val (.int z), .val (.int (0 : Int32)), .unset, .unset] [(.int z), (.ref w_VARCHAR), (.ref b3), (.ref b3)])) _
    refine XS.iload X3.here hx rfl (hb hby at_78) rfl ?_
    show Steps p.tables e below (T3.setTop (mkF m 80 #[.val (.int p1), .val (.int p2), .val (.int p3), .val (.int (5 : Int32)), .val (.ref w_VARCHAR), .val (.int z), .val (.int (0 : Int32)), .unset, .unset] [(.int (0 : Int32)), (.int z), (.ref w_VARCHAR), (.ref b3), (.ref b3)])) _
    refine st4.trans ?_
    show Steps p.tables e below (T4.setTop (mkF m 83 #[.val (.int p1), .val (.int p2), .val (.int p3), .val (.int (5 : Int32)), .val (.ref w_VARCHAR), .val (.int z), .val (.int (0 : Int32)), .unset, .unset] [(.ref b3)])) _
    refine XS.astore X4.here hx rfl (hb hby at_83) rfl rfl (l' := #[.val (.int p1), .val (.int p2), .val (.int p3), .val (.int (5 : Int32)), .val (.ref w_VARCHAR), .val (.int z), .val (.int (0 : Int32)), .val (.ref b3), .unset]) rfl ?_
    show Steps p.tables e below (T4.setTop (mkF m 85 #[.val (.int p1), .val (.int p2), .val (.int p3), .val (.int (5 : Int32)), .val (.ref w_VARCHAR), .val (.int z), .val (.int (0 : Int32)), .val (.ref b3), .unset] [])) _
    refine XS.iloadN X4.here hx rfl (hb hby at_85) rfl ?_
    show Steps p.tables e below (T4.setTop (mkF m 86 #[.val (.int p1), .val (.int p2), .val (.int p3), .val (.int (5 : Int32)), .val (.ref w_VARCHAR), .val (.int z), .val (.int (0 : Int32)), .val (.ref b3), .unset] [(.int (5 : Int32))])) _
    refine XS.iconst X4.here hx rfl (hb hby at_86) ?_
    show Steps p.tables e below (T4.setTop (mkF m 87 #[.val (.int p1), .val (.int p2), .val (.int p3), .val (.int (5 : Int32)), .val (.ref w_VARCHAR), .val (.int z), .val (.int (0 : Int32)), .val (.ref b3), .unset] [(.int (5 : Int32)), (.int (5 : Int32))])) _
    refine XS.icmpNo X4.here hx rfl (hb hby at_87) rfl (flt (by decide)).2.2.1 ?_
    show Steps p.tables e below (T4.setTop (mkF m 90 #[.val (.int p1), .val (.int p2), .val (.int p3), .val (.int (5 : Int32)), .val (.ref w_VARCHAR), .val (.int z), .val (.int (0 : Int32)), .val (.ref b3), .unset] [])) _
    refine XS.iconst X4.here hx rfl (hb hby at_90) ?_
    show Steps p.tables e below (T4.setTop (mkF m 91 #[.val (.int p1), .val (.int p2), .val (.int p3), .val (.int (5 : Int32)), .val (.ref w_VARCHAR), .val (.int z), .val (.int (0 : Int32)), .val (.ref b3), .unset] [(.int (1 : Int32))])) _
    refine XS.goto X4.here hx rfl (pc0 := 91) (pc' := 95) rfl (hb hby at_91) (by decide) (by decide) ?_
    show Steps p.tables e below (T4.setTop (mkF m 95 #[.val (.int p1), .val (.int p2), .val (.int p3), .val (.int (5 : Int32)), .val (.ref w_VARCHAR), .val (.int z), .val (.int (0 : Int32)), .val (.ref b3), .unset] [(.int (1 : Int32))])) _
    refine XS.istore X4.here hx rfl (hb hby at_95) rfl (l' := #[.val (.int p1), .val (.int p2), .val (.int p3), .val (.int (5 : Int32)), .val (.ref w_VARCHAR), .val (.int z), .val (.int (0 : Int32)), .val (.ref b3), .val (.int (1 : Int32))]) rfl ?_
    show Steps p.tables e below (T4.setTop (mkF m 97 #[.val (.int p1), .val (.int p2), .val (.int p3), .val (.int (5 : Int32)), .val (.ref w_VARCHAR), .val (.int z), .val (.int (0 : Int32)), .val (.ref b3), .val (.int (1 : Int32))] [])) _
    refine XS.aload X4.here hx rfl (hb hby at_97) rfl rfl ?_
    show Steps p.tables e below (T4.setTop (mkF m 99 #[.val (.int p1), .val (.int p2), .val (.int p3), .val (.int (5 : Int32)), .val (.ref w_VARCHAR), .val (.int z), .val (.int (0 : Int32)), .val (.ref b3), .val (.int (1 : Int32))] [(.ref b3)])) _
    refine st5.trans ?_
    show Steps p.tables e below (T5.setTop (mkF m 102 #[.val (.int p1), .val (.int p2), .val (.int p3), .val (.int (5 : Int32)), .val (.ref w_VARCHAR), .val (.int z), .val (.int (0 : Int32)), .val (.ref b3), .val (.int (1 : Int32))] [(.int (1 : Int32))])) _
    refine XS.iload X5.here hx rfl (hb hby at_102) rfl ?_
    show Steps p.tables e below (T5.setTop (mkF m 104 #[.val (.int p1), .val (.int p2), .val (.int p3), .val (.int (5 : Int32)), .val (.ref w_VARCHAR), .val (.int z), .val (.int (0 : Int32)), .val (.ref b3), .val (.int (1 : Int32))] [(.int (1 : Int32)), (.int (1 : Int32))])) _
    refine XS.icmpNo X5.here hx rfl (hb hby at_104) rfl (teq (by decide)).2 ?_
    show Steps p.tables e below (T5.setTop (mkF m 107 #[.val (.int p1), .val (.int p2), .val (.int p3), .val (.int (5 : Int32)), .val (.ref w_VARCHAR), .val (.int z), .val (.int (0 : Int32)), .val (.ref b3), .val (.int (1 : Int32))] [])) _
    refine XS.iconst X5.here hx rfl (hb hby at_107) ?_
    show Steps p.tables e below (T5.setTop (mkF m 108 #[.val (.int p1), .val (.int p2), .val (.int p3), .val (.int (5 : Int32)), .val (.ref w_VARCHAR), .val (.int z), .val (.int (0 : Int32)), .val (.ref b3), .val (.int (1 : Int32))] [(.int (1 : Int32))])) _
    refine XS.goto X5.here hx rfl (pc0 := 108) (pc' := 112) rfl (hb hby at_108) (by decide) (by decide) ?_
    exact k)
  obtain ⟨fs, hr, hrun, hended, hW, hsame⟩ := X5.leave (v := some (.int (1 : Int32))) (fun h => by rw [Bd.returns] at h; cases h)
  refine ⟨_, _, pre6 _ ?_, hrun, hended, _, _, rfl, ?_, ⟨_, rfl⟩, hW, hsame.mono (by decide) (by decide)⟩
  · show Steps p.tables e below (T5.setTop (mkF m 112 #[.val (.int p1), .val (.int p2), .val (.int p3), .val (.int (5 : Int32)), .val (.ref w_VARCHAR), .val (.int z), .val (.int (0 : Int32)), .val (.ref b3), .val (.int (1 : Int32))] [(.int (1 : Int32))])) _
    exact retN X5 hx (t := .boolean) Bd.returns (by simp) (hb hby at_112) hr
  · exact ⟨rfl, N5, trivial⟩
def own_Q_init6 (Z : State) (a1 : Addr) (w_INTEGER w_DECIMAL w_CHAR w_VARCHAR w_BOOLEAN w_INTERVAL w_DOUBLE w_BIGINT w_DATE : Addr) (h0 : Heap) (n0 : Nat) (v : Option Value) (h : Heap) (L : List Loc) : Prop := v = none ∧ Fr n0 L ∧ Keep h0 h [a1] ∧ Exa Z h a1 "com/example/cairn/cairn/types/DataType" ∧ Fld Z h a1 "com/example/cairn/cairn/types/DataType" "kind" "Lcom/example/cairn/cairn/types/DataType$Kind;" (.ref w_BOOLEAN)
theorem ef_init6 (m : MethodId) (x0 : Addr) (x1 : Addr) (x2 : Int32) (x3 : Int32) : entryFrame m #[(.ref x0), (.ref x1), (.int x2), (.int x3)] 5 = mkF m 0 #[.val (.ref x0), .val (.ref x1), .val (.int x2), .val (.int x3), .unset] [] := by first | (simp [entryFrame, mkF, argsToLocals, Value.category]; done) | rfl
set_option maxRecDepth 65536 in
set_option maxHeartbeats 40000000 in
theorem rm_init6 (l : Launch) (Z : State) (a0 : Array Value) (hw : ∀ d ∈ tables_1, d.before a0 Z = true) (ws : List Jvm.Cond) (a1 : Addr) (h0 : Heap) (n0 : Nat) (w_INTEGER w_DECIMAL w_CHAR w_VARCHAR w_BOOLEAN w_INTERVAL w_DOUBLE w_BIGINT w_DATE : Addr) (hK : own_K Z h0 w_INTEGER w_DECIMAL w_CHAR w_VARCHAR w_BOOLEAN w_INTERVAL w_DOUBLE w_BIGINT w_DATE) (F_kind : Fld Z h0 a1 "com/example/cairn/cairn/types/DataType" "kind" "Lcom/example/cairn/cairn/types/DataType$Kind;" .null) (F_precision : Fld Z h0 a1 "com/example/cairn/cairn/types/DataType" "precision" "I" (.int (0 : Int32))) (F_scale : Fld Z h0 a1 "com/example/cairn/cairn/types/DataType" "scale" "I" (.int (0 : Int32))) (E_a1 : Exa Z h0 a1 "com/example/cairn/cairn/types/DataType") (g_a1 : n0 ≤ a1) :
    MetFree l (⟨"com/example/cairn/cairn/types/DataType", "<init>", "(Lcom/example/cairn/cairn/types/DataType$Kind;II)V"⟩ : MethodName) (head1 (Jvm.Cond.code (⟨"com/example/cairn/cairn/types/DataType", "<init>", "(Lcom/example/cairn/cairn/types/DataType$Kind;II)V"⟩ : MethodName) prog_163_method_1_code 5 none :: ws) ({ frames := 2, cells := 0, slots := 0, locals := 24 } : Room)) (fun a U => a = #[(.ref a1), (.ref w_BOOLEAN), (.int (0 : Int32)), (.int (0 : Int32))] ∧ Z.Warmed39 U.vm ∧ U.heap = h0) (fun _ _ _ _ _ => True) (fun _ U o U' => ∃ v L, o = .returned v ∧ own_Q_init6 Z a1 w_INTEGER w_DECIMAL w_CHAR w_VARCHAR w_BOOLEAN w_INTERVAL w_DOUBLE w_BIGINT w_DATE h0 n0 v U'.heap L ∧ FrameEnd U o U' L ({ frames := 2, cells := 0, slots := 0, locals := 24 } : Room).cells ({ frames := 2, cells := 0, slots := 0, locals := 24 } : Room).slots) := by
  refine MetFree.of_bodySF (plainFor_of_name pn_2) hisR ?_
  intro p e s m args below meth c s₁ Bd hml0 hP hK0
  obtain ⟨rfl, hZ, hh⟩ := hP
  have hx := Bd.exec
  have hby := Bd.bytes
  have hml : c.maxLocals = 5 := hml0
  have hown : s.vm.findClass "com/example/cairn/cairn/types/DataType" = some m.cls := findClass_of_methodNamed Bd.named
  have hnm := (name_of_methodNamed Bd.named Bd.method).1
  have X0 : Stand p l e ({ frames := 2, cells := 0, slots := 0, locals := 24 } : Room) s m #[(.ref a1), (.ref w_BOOLEAN), (.int (0 : Int32)), (.int (0 : Int32))] below meth c s₁ [] 0 0 := Stand.of_body Bd
  have e0 : s₁.heap = h0 := by rw [← hh, Bd.state]; rfl
  have N0 := Fr.nil n0
  have pre0 : ∀ t, Steps p.tables e below (s₁.setTop (mkF m 0 #[.val (.ref a1), .val (.ref w_BOOLEAN), .val (.int (0 : Int32)), .val (.int (0 : Int32)), .unset] [])) t → Steps p.tables e below (s₁.setTop (entryFrame m #[(.ref a1), (.ref w_BOOLEAN), (.int (0 : Int32)), (.int (0 : Int32))] 5)) t := fun t k => castTop (ef_init6 m a1 w_BOOLEAN ((0 : Int32)) ((0 : Int32))) k
  have hK' := hK
  obtain ⟨S_w_INTEGER, E_w_INTEGER, S_w_DECIMAL, E_w_DECIMAL, F_ordinal_w_INTEGER, F_ordinal_w_DECIMAL, S_w_CHAR, E_w_CHAR, F_ordinal_w_CHAR, S_w_VARCHAR, E_w_VARCHAR, F_ordinal_w_VARCHAR, S_w_BOOLEAN, E_w_BOOLEAN, F_ordinal_w_BOOLEAN, S_w_INTERVAL, E_w_INTERVAL, F_ordinal_w_INTERVAL, S_w_DOUBLE, E_w_DOUBLE, F_ordinal_w_DOUBLE, S_w_BIGINT, E_w_BIGINT, F_ordinal_w_BIGINT, S_w_DATE, E_w_DATE, F_ordinal_w_DATE⟩ := hK'
  obtain ⟨v1, _, ⟨T1, L1, k1, n1⟩, -, X1, ⟨Lc1, hQ1, l1, y1, z1⟩, st1⟩ := X0.specialBack hx (y := (⟨"java/lang/Record", "<init>", "()V"⟩ : MethodName)) rfl hown (mvT hZ (hw _ (ow 14 rfl))) (mvT hZ (hw _ (ow 15 rfl))) (mvT hZ (hw _ (ow 18 rfl))) (by decide) (backOf (W := 0) (rm_record l Z a0 hw [] a1 h0 n0) hZ (hw _ (ow 18 rfl)) (hw _ (ow 17 rfl)) (by decide) (by decide)) (g := (mkF m 1 #[.val (.ref a1), .val (.ref w_BOOLEAN), .val (.int (0 : Int32)), .val (.int (0 : Int32)), .unset] [(.ref a1)])) rfl (by rw [hml]; rfl) (Steps.refl _) (a := a1) (argsL := []) (rest := []) (lenOf pd_0 rfl) rfl (Nat.le_of_eq rfl) (hb hby d_prog_163_method_1_1) (fun _ _ => ⟨rfl, e0, (by decide : 0 + 0 ≤ _), (by decide : 0 + 0 ≤ _)⟩)
  dsimp only [Pt.U, Pt.locs, Pt.cells, Pt.slots] at X1 l1 y1 z1 st1 hQ1
  subst l1 y1 z1
  obtain ⟨hv1, Nq1, e1⟩ := hQ1
  obtain rfl : v1 = none := hv1
  have N1 := Fr.app N0 Nq1
  obtain ⟨T2, X2, e2, st2⟩ := getS2 X1 hx hZ hown (host := "") (Or.inl (hw _ (ow 22 rfl))) Via.refl e1 S_w_DECIMAL (g := (mkF m 5 #[.val (.ref a1), .val (.ref w_BOOLEAN), .val (.int (0 : Int32)), .val (.int (0 : Int32)), .unset] [(.ref w_BOOLEAN)])) rfl (hb hby d_prog_163_method_1_5)
  obtain ⟨T3, X3, e3, st3⟩ := getS2 X2 hx hZ hown (host := "") (Or.inl (hw _ (ow 24 rfl))) Via.refl e2 S_w_CHAR (g := (mkF m 12 #[.val (.ref a1), .val (.ref w_BOOLEAN), .val (.int (0 : Int32)), .val (.int (0 : Int32)), .unset] [(.ref w_BOOLEAN)])) rfl (hb hby d_prog_163_method_1_12)
  obtain ⟨T4, X4, e4, st4⟩ := getS2 X3 hx hZ hown (host := "") (Or.inl (hw _ (ow 26 rfl))) Via.refl e3 S_w_VARCHAR (g := (mkF m 19 #[.val (.ref a1), .val (.ref w_BOOLEAN), .val (.int (0 : Int32)), .val (.int (0 : Int32)), .unset] [(.ref w_BOOLEAN)])) rfl (hb hby d_prog_163_method_1_19)
  obtain ⟨T5, X5, e5, st5⟩ := getS2 X4 hx hZ hown (host := "") (Or.inl (hw _ (ow 22 rfl))) Via.refl e4 S_w_DECIMAL (g := (mkF m 68 #[.val (.ref a1), .val (.ref w_BOOLEAN), .val (.int (0 : Int32)), .val (.int (0 : Int32)), .val (.int (0 : Int32))] [(.ref w_BOOLEAN)])) rfl (hb hby d_prog_163_method_1_68)
  obtain ⟨T6, h6, X6, e6, W6, st6⟩ := putF X5 hx hZ hown (host := "") (Or.inl (hw _ (ow 28 rfl))) Via.refl e5 F_kind E_a1 (Or.inr ⟨(hw _ (ow 29 rfl)), rfl, hnm⟩) (hw _ (ow 9 rfl)) (ty := (.object "com/example/cairn/cairn/types/DataType$Kind")) (by decide) rfl rfl (g := (mkF m 113 #[.val (.ref a1), .val (.ref w_BOOLEAN), .val (.int (0 : Int32)), .val (.int (0 : Int32)), .val (.int (0 : Int32))] [(.ref w_BOOLEAN), (.ref a1)])) rfl rfl (hb hby d_prog_163_method_1_113)
  have Fw6 := F_kind.same W6
  have Ew6 := E_a1.wr W6
  have K6 : Keep h0 h6 [a1] := (Keep.refl h0 [a1]).wr W6 (Or.inl (List.mem_of_getElem? (i := 0) rfl))
  have N6 := Fr.snoc X6 N1 g_a1
  have F6_precision := F_precision.other W6 (Or.inr (slot_ne (Or.inr (hw _ (ow 31 rfl))) (Or.inr (hw _ (ow 29 rfl))) (by decide) (t := .int) (t' := (.object "com/example/cairn/cairn/types/DataType$Kind")) (by decide) (by decide)))
  have F6_scale := F_scale.other W6 (Or.inr (slot_ne (Or.inr (hw _ (ow 33 rfl))) (Or.inr (hw _ (ow 29 rfl))) (by decide) (t := .int) (t' := (.object "com/example/cairn/cairn/types/DataType$Kind")) (by decide) (by decide)))
  obtain ⟨T7, h7, X7, e7, W7, st7⟩ := putF X6 hx hZ hown (host := "") (Or.inl (hw _ (ow 30 rfl))) Via.refl e6 F6_precision Ew6 (Or.inr ⟨(hw _ (ow 31 rfl)), rfl, hnm⟩) (hw _ (ow 9 rfl)) (ty := .int) (by decide) rfl rfl (g := (mkF m 118 #[.val (.ref a1), .val (.ref w_BOOLEAN), .val (.int (0 : Int32)), .val (.int (0 : Int32)), .val (.int (0 : Int32))] [(.int (0 : Int32)), (.ref a1)])) rfl rfl (hb hby d_prog_163_method_1_118)
  have Fw7 := F6_precision.same W7
  have Ew7 := Ew6.wr W7
  have K7 : Keep h0 h7 [a1] := K6.wr W7 (Or.inl (List.mem_of_getElem? (i := 0) rfl))
  have N7 := Fr.snoc X7 N6 g_a1
  have F7_kind := Fw6.other W7 (Or.inr (slot_ne (Or.inr (hw _ (ow 29 rfl))) (Or.inr (hw _ (ow 31 rfl))) (by decide) (t := (.object "com/example/cairn/cairn/types/DataType$Kind")) (t' := .int) (by decide) (by decide)))
  have F7_scale := F6_scale.other W7 (Or.inr (slot_ne (Or.inr (hw _ (ow 33 rfl))) (Or.inr (hw _ (ow 31 rfl))) (by decide) (t := .int) (t' := .int) (by decide) (by decide)))
  obtain ⟨T8, h8, X8, e8, W8, st8⟩ := putF X7 hx hZ hown (host := "") (Or.inl (hw _ (ow 32 rfl))) Via.refl e7 F7_scale Ew7 (Or.inr ⟨(hw _ (ow 33 rfl)), rfl, hnm⟩) (hw _ (ow 9 rfl)) (ty := .int) (by decide) rfl rfl (g := (mkF m 123 #[.val (.ref a1), .val (.ref w_BOOLEAN), .val (.int (0 : Int32)), .val (.int (0 : Int32)), .val (.int (0 : Int32))] [(.int (0 : Int32)), (.ref a1)])) rfl rfl (hb hby d_prog_163_method_1_123)
  have Fw8 := F7_scale.same W8
  have Ew8 := Ew7.wr W8
  have K8 : Keep h0 h8 [a1] := K7.wr W8 (Or.inl (List.mem_of_getElem? (i := 0) rfl))
  have N8 := Fr.snoc X8 N7 g_a1
  have F8_kind := F7_kind.other W8 (Or.inr (slot_ne (Or.inr (hw _ (ow 29 rfl))) (Or.inr (hw _ (ow 33 rfl))) (by decide) (t := (.object "com/example/cairn/cairn/types/DataType$Kind")) (t' := .int) (by decide) (by decide)))
  have F8_precision := Fw7.other W8 (Or.inr (slot_ne (Or.inr (hw _ (ow 31 rfl))) (Or.inr (hw _ (ow 33 rfl))) (by decide) (t := .int) (t' := .int) (by decide) (by decide)))
  have pre9 : ∀ t, Steps p.tables e below (T8.setTop (mkF m 126 #[.val (.ref a1), .val (.ref w_BOOLEAN), .val (.int (0 : Int32)), .val (.int (0 : Int32)), .val (.int (0 : Int32))] [])) t → Steps p.tables e below (s₁.setTop (entryFrame m #[(.ref a1), (.ref w_BOOLEAN), (.int (0 : Int32)), (.int (0 : Int32))] 5)) t := fun t k => pre0 t (by
    show Steps p.tables e below (s₁.setTop (mkF m 0 #[.val (.ref a1), .val (.ref w_BOOLEAN), .val (.int (0 : Int32)), .val (.int (0 : Int32)), .unset] [])) _
    refine XS.aloadN X0.here hx rfl (hb hby d_prog_163_method_1_0) rfl rfl ?_
    show Steps p.tables e below (s₁.setTop (mkF m 1 #[.val (.ref a1), .val (.ref w_BOOLEAN), .val (.int (0 : Int32)), .val (.int (0 : Int32)), .unset] [(.ref a1)])) _
    refine st1.trans ?_
    show Steps p.tables e below (T1.setTop (mkF m 4 #[.val (.ref a1), .val (.ref w_BOOLEAN), .val (.int (0 : Int32)), .val (.int (0 : Int32)), .unset] [])) _
    refine XS.aloadN X1.here hx rfl (hb hby d_prog_163_method_1_4) rfl rfl ?_
    show Steps p.tables e below (T1.setTop (mkF m 5 #[.val (.ref a1), .val (.ref w_BOOLEAN), .val (.int (0 : Int32)), .val (.int (0 : Int32)), .unset] [(.ref w_BOOLEAN)])) _
    refine st2 _ ?_
    show Steps p.tables e below (T2.setTop (mkF m 8 #[.val (.ref a1), .val (.ref w_BOOLEAN), .val (.int (0 : Int32)), .val (.int (0 : Int32)), .unset] [(.ref w_DECIMAL), (.ref w_BOOLEAN)])) _
    refine Jvm.RoadKit.acmp (g := (mkF m 8 #[.val (.ref a1), .val (.ref w_BOOLEAN), .val (.int (0 : Int32)), .val (.int (0 : Int32)), .unset] [(.ref w_DECIMAL), (.ref w_BOOLEAN)])) X2 hx rfl rfl rfl (pc0 := 8) (pc' := 11) (same := false) rfl (hb hby d_prog_163_method_1_8) rfl (decide_eq_false fun q => (Fld.ne F_ordinal_w_BOOLEAN F_ordinal_w_DECIMAL (by decide)) (Value.ref.inj q)) (by decide) (by decide) ?_
    show Steps p.tables e below (T2.setTop (mkF m 11 #[.val (.ref a1), .val (.ref w_BOOLEAN), .val (.int (0 : Int32)), .val (.int (0 : Int32)), .unset] [])) _
    refine XS.aloadN X2.here hx rfl (hb hby d_prog_163_method_1_11) rfl rfl ?_
    show Steps p.tables e below (T2.setTop (mkF m 12 #[.val (.ref a1), .val (.ref w_BOOLEAN), .val (.int (0 : Int32)), .val (.int (0 : Int32)), .unset] [(.ref w_BOOLEAN)])) _
    refine st3 _ ?_
    show Steps p.tables e below (T3.setTop (mkF m 15 #[.val (.ref a1), .val (.ref w_BOOLEAN), .val (.int (0 : Int32)), .val (.int (0 : Int32)), .unset] [(.ref w_CHAR), (.ref w_BOOLEAN)])) _
    refine Jvm.RoadKit.acmp (g := (mkF m 15 #[.val (.ref a1), .val (.ref w_BOOLEAN), .val (.int (0 : Int32)), .val (.int (0 : Int32)), .unset] [(.ref w_CHAR), (.ref w_BOOLEAN)])) X3 hx rfl rfl rfl (pc0 := 15) (pc' := 18) (same := false) rfl (hb hby d_prog_163_method_1_15) rfl (decide_eq_false fun q => (Fld.ne F_ordinal_w_BOOLEAN F_ordinal_w_CHAR (by decide)) (Value.ref.inj q)) (by decide) (by decide) ?_
    show Steps p.tables e below (T3.setTop (mkF m 18 #[.val (.ref a1), .val (.ref w_BOOLEAN), .val (.int (0 : Int32)), .val (.int (0 : Int32)), .unset] [])) _
    refine XS.aloadN X3.here hx rfl (hb hby d_prog_163_method_1_18) rfl rfl ?_
    show Steps p.tables e below (T3.setTop (mkF m 19 #[.val (.ref a1), .val (.ref w_BOOLEAN), .val (.int (0 : Int32)), .val (.int (0 : Int32)), .unset] [(.ref w_BOOLEAN)])) _
    refine st4 _ ?_
    show Steps p.tables e below (T4.setTop (mkF m 22 #[.val (.ref a1), .val (.ref w_BOOLEAN), .val (.int (0 : Int32)), .val (.int (0 : Int32)), .unset] [(.ref w_VARCHAR), (.ref w_BOOLEAN)])) _
    refine Jvm.RoadKit.acmp (g := (mkF m 22 #[.val (.ref a1), .val (.ref w_BOOLEAN), .val (.int (0 : Int32)), .val (.int (0 : Int32)), .unset] [(.ref w_VARCHAR), (.ref w_BOOLEAN)])) X4 hx rfl rfl rfl (pc0 := 22) (pc' := 29) (same := false) rfl (hb hby d_prog_163_method_1_22) rfl (decide_eq_false fun q => (Fld.ne F_ordinal_w_BOOLEAN F_ordinal_w_VARCHAR (by decide)) (Value.ref.inj q)) (by decide) (by decide) ?_
    show Steps p.tables e below (T4.setTop (mkF m 29 #[.val (.ref a1), .val (.ref w_BOOLEAN), .val (.int (0 : Int32)), .val (.int (0 : Int32)), .unset] [])) _
    refine XS.iconst X4.here hx rfl (hb hby d_prog_163_method_1_29) ?_
    show Steps p.tables e below (T4.setTop (mkF m 30 #[.val (.ref a1), .val (.ref w_BOOLEAN), .val (.int (0 : Int32)), .val (.int (0 : Int32)), .unset] [(.int (0 : Int32))])) _
    refine XS.istore X4.here hx rfl (hb hby d_prog_163_method_1_30) rfl (l' := #[.val (.ref a1), .val (.ref w_BOOLEAN), .val (.int (0 : Int32)), .val (.int (0 : Int32)), .val (.int (0 : Int32))]) rfl ?_
    show Steps p.tables e below (T4.setTop (mkF m 32 #[.val (.ref a1), .val (.ref w_BOOLEAN), .val (.int (0 : Int32)), .val (.int (0 : Int32)), .val (.int (0 : Int32))] [])) _
    refine XS.iload X4.here hx rfl (hb hby d_prog_163_method_1_32) rfl ?_
    show Steps p.tables e below (T4.setTop (mkF m 34 #[.val (.ref a1), .val (.ref w_BOOLEAN), .val (.int (0 : Int32)), .val (.int (0 : Int32)), .val (.int (0 : Int32))] [(.int (0 : Int32))])) _
    refine XS.ifYes X4.here hx rfl (pc0 := 34) (pc' := 45) rfl (hb hby d_prog_163_method_1_34) rfl ((if0 _ _).trans (teq (by decide)).1) (by decide) (by decide) ?_
    show Steps p.tables e below (T4.setTop (mkF m 45 #[.val (.ref a1), .val (.ref w_BOOLEAN), .val (.int (0 : Int32)), .val (.int (0 : Int32)), .val (.int (0 : Int32))] [])) _
    refine XS.iloadN X4.here hx rfl (hb hby d_prog_163_method_1_45) rfl ?_
    show Steps p.tables e below (T4.setTop (mkF m 46 #[.val (.ref a1), .val (.ref w_BOOLEAN), .val (.int (0 : Int32)), .val (.int (0 : Int32)), .val (.int (0 : Int32))] [(.int (0 : Int32))])) _
    refine XS.ifYes X4.here hx rfl (pc0 := 46) (pc' := 67) rfl (hb hby d_prog_163_method_1_46) rfl ((if0 _ _).trans (teq (by decide)).1) (by decide) (by decide) ?_
    show Steps p.tables e below (T4.setTop (mkF m 67 #[.val (.ref a1), .val (.ref w_BOOLEAN), .val (.int (0 : Int32)), .val (.int (0 : Int32)), .val (.int (0 : Int32))] [])) _
    refine XS.aloadN X4.here hx rfl (hb hby d_prog_163_method_1_67) rfl rfl ?_
    show Steps p.tables e below (T4.setTop (mkF m 68 #[.val (.ref a1), .val (.ref w_BOOLEAN), .val (.int (0 : Int32)), .val (.int (0 : Int32)), .val (.int (0 : Int32))] [(.ref w_BOOLEAN)])) _
    refine st5 _ ?_
    show Steps p.tables e below (T5.setTop (mkF m 71 #[.val (.ref a1), .val (.ref w_BOOLEAN), .val (.int (0 : Int32)), .val (.int (0 : Int32)), .val (.int (0 : Int32))] [(.ref w_DECIMAL), (.ref w_BOOLEAN)])) _
    refine Jvm.RoadKit.acmp (g := (mkF m 71 #[.val (.ref a1), .val (.ref w_BOOLEAN), .val (.int (0 : Int32)), .val (.int (0 : Int32)), .val (.int (0 : Int32))] [(.ref w_DECIMAL), (.ref w_BOOLEAN)])) X5 hx rfl rfl rfl (pc0 := 71) (pc' := 92) (same := false) rfl (hb hby d_prog_163_method_1_71) rfl (decide_eq_false fun q => (Fld.ne F_ordinal_w_BOOLEAN F_ordinal_w_DECIMAL (by decide)) (Value.ref.inj q)) (by decide) (by decide) ?_
    show Steps p.tables e below (T5.setTop (mkF m 92 #[.val (.ref a1), .val (.ref w_BOOLEAN), .val (.int (0 : Int32)), .val (.int (0 : Int32)), .val (.int (0 : Int32))] [])) _
    refine XS.iloadN X5.here hx rfl (hb hby d_prog_163_method_1_92) rfl ?_
    show Steps p.tables e below (T5.setTop (mkF m 93 #[.val (.ref a1), .val (.ref w_BOOLEAN), .val (.int (0 : Int32)), .val (.int (0 : Int32)), .val (.int (0 : Int32))] [(.int (0 : Int32))])) _
    refine XS.ifYes X5.here hx rfl (pc0 := 93) (pc' := 111) rfl (hb hby d_prog_163_method_1_93) rfl ((if0 _ _).trans (teq (by decide)).1) (by decide) (by decide) ?_
    show Steps p.tables e below (T5.setTop (mkF m 111 #[.val (.ref a1), .val (.ref w_BOOLEAN), .val (.int (0 : Int32)), .val (.int (0 : Int32)), .val (.int (0 : Int32))] [])) _
    refine XS.aloadN X5.here hx rfl (hb hby d_prog_163_method_1_111) rfl rfl ?_
    show Steps p.tables e below (T5.setTop (mkF m 112 #[.val (.ref a1), .val (.ref w_BOOLEAN), .val (.int (0 : Int32)), .val (.int (0 : Int32)), .val (.int (0 : Int32))] [(.ref a1)])) _
    refine XS.aloadN X5.here hx rfl (hb hby d_prog_163_method_1_112) rfl rfl ?_
    show Steps p.tables e below (T5.setTop (mkF m 113 #[.val (.ref a1), .val (.ref w_BOOLEAN), .val (.int (0 : Int32)), .val (.int (0 : Int32)), .val (.int (0 : Int32))] [(.ref w_BOOLEAN), (.ref a1)])) _
    refine st6 _ ?_
    show Steps p.tables e below (T6.setTop (mkF m 116 #[.val (.ref a1), .val (.ref w_BOOLEAN), .val (.int (0 : Int32)), .val (.int (0 : Int32)), .val (.int (0 : Int32))] [])) _
    refine XS.aloadN X6.here hx rfl (hb hby d_prog_163_method_1_116) rfl rfl ?_
    show Steps p.tables e below (T6.setTop (mkF m 117 #[.val (.ref a1), .val (.ref w_BOOLEAN), .val (.int (0 : Int32)), .val (.int (0 : Int32)), .val (.int (0 : Int32))] [(.ref a1)])) _
    refine XS.iloadN X6.here hx rfl (hb hby d_prog_163_method_1_117) rfl ?_
    show Steps p.tables e below (T6.setTop (mkF m 118 #[.val (.ref a1), .val (.ref w_BOOLEAN), .val (.int (0 : Int32)), .val (.int (0 : Int32)), .val (.int (0 : Int32))] [(.int (0 : Int32)), (.ref a1)])) _
    refine st7 _ ?_
    show Steps p.tables e below (T7.setTop (mkF m 121 #[.val (.ref a1), .val (.ref w_BOOLEAN), .val (.int (0 : Int32)), .val (.int (0 : Int32)), .val (.int (0 : Int32))] [])) _
    refine XS.aloadN X7.here hx rfl (hb hby d_prog_163_method_1_121) rfl rfl ?_
    show Steps p.tables e below (T7.setTop (mkF m 122 #[.val (.ref a1), .val (.ref w_BOOLEAN), .val (.int (0 : Int32)), .val (.int (0 : Int32)), .val (.int (0 : Int32))] [(.ref a1)])) _
    refine XS.iloadN X7.here hx rfl (hb hby d_prog_163_method_1_122) rfl ?_
    show Steps p.tables e below (T7.setTop (mkF m 123 #[.val (.ref a1), .val (.ref w_BOOLEAN), .val (.int (0 : Int32)), .val (.int (0 : Int32)), .val (.int (0 : Int32))] [(.int (0 : Int32)), (.ref a1)])) _
    refine st8 _ ?_
    exact k)
  obtain ⟨fs, hr, hrun, hended, hW, hsame⟩ := X8.leave (v := none) (fun _ => rfl)
  refine ⟨_, _, pre9 _ ?_, hrun, hended, _, _, rfl, ?_, ⟨_, rfl⟩, hW, hsame.mono (by decide) (by decide)⟩
  · show Steps p.tables e below (T8.setTop (mkF m 126 #[.val (.ref a1), .val (.ref w_BOOLEAN), .val (.int (0 : Int32)), .val (.int (0 : Int32)), .val (.int (0 : Int32))] [])) _
    exact X8.returnOut hx Bd.returns (hb hby d_prog_163_method_1_126) hr
  · exact ⟨rfl, N8, by rw [show (T8.setFrames fs).heap = _ from e8]; exact ⟨K8, Ew8, F8_kind⟩⟩
theorem ef_law6 (m : MethodId) (x0 : Int32) (x1 : Int32) (x2 : Int32) : entryFrame m #[(.int x0), (.int x1), (.int x2)] maxLocals = mkF m 0 #[.val (.int x0), .val (.int x1), .val (.int x2), .unset, .unset, .unset, .unset, .unset, .unset] [] := by first | (simp [entryFrame, mkF, argsToLocals, Value.category, maxLocals]; done) | rfl
set_option maxRecDepth 65536 in
set_option maxHeartbeats 40000000 in
theorem rm_law6 (l : Launch) (Z : State) (a0 : Array Value) (hw : ∀ d ∈ tables_1, d.before a0 Z = true) (ws : List Jvm.Cond) (p1 : Int32) (p2 : Int32) (p3 : Int32) (h0 : Heap) (n0 : Nat) (Z0 : n0 ≤ h0.size) (w_INTEGER w_DECIMAL w_CHAR w_VARCHAR w_BOOLEAN w_INTERVAL w_DOUBLE w_BIGINT w_DATE : Addr) (hK : own_K Z h0 w_INTEGER w_DECIMAL w_CHAR w_VARCHAR w_BOOLEAN w_INTERVAL w_DOUBLE w_BIGINT w_DATE) (hk : ((p1 &&& (2147483647 : Int32)) % (9 : Int32)) = (6 : Int32)) :
    MetFree l x (head1 (Jvm.Cond.code x code maxLocals ret :: ws) room_1) (fun a U => a = #[(.int p1), (.int p2), (.int p3)] ∧ Z.Warmed39 U.vm ∧ U.heap = h0) (fun _ _ _ _ _ => True) (fun _ U o U' => ∃ v L, o = .returned v ∧ own_QH (some (.int (1 : Int32))) n0 v U'.heap L ∧ FrameEnd U o U' L room_1.cells room_1.slots) := by
  refine MetFree.of_bodySF (plainFor_of_name pn_0) hisR ?_
  intro p e s m args below meth c s₁ Bd hml0 hP hK0
  obtain ⟨rfl, hZ, hh⟩ := hP
  have hx := Bd.exec
  have hby := Bd.bytes
  have hml : c.maxLocals = 9 := hml0
  have hown : s.vm.findClass "com/example/cairn/cairn/types/DataTypeIsStorablePinLaw" = some m.cls := findClass_of_methodNamed Bd.named
  have hnm := (name_of_methodNamed Bd.named Bd.method).1
  have X0 : Stand p l e room_1 s m #[(.int p1), (.int p2), (.int p3)] below meth c s₁ [] 0 0 := Stand.of_body Bd
  have e0 : s₁.heap = h0 := by rw [← hh, Bd.state]; rfl
  have N0 := Fr.nil n0
  have pre0 : ∀ t, Steps p.tables e below (s₁.setTop (mkF m 0 #[.val (.int p1), .val (.int p2), .val (.int p3), .unset, .unset, .unset, .unset, .unset, .unset] [])) t → Steps p.tables e below (s₁.setTop (entryFrame m #[(.int p1), (.int p2), (.int p3)] maxLocals)) t := fun t k => castTop (ef_law6 m p1 p2 p3) k
  have hK' := hK
  obtain ⟨S_w_INTEGER, E_w_INTEGER, S_w_DECIMAL, E_w_DECIMAL, F_ordinal_w_INTEGER, F_ordinal_w_DECIMAL, S_w_CHAR, E_w_CHAR, F_ordinal_w_CHAR, S_w_VARCHAR, E_w_VARCHAR, F_ordinal_w_VARCHAR, S_w_BOOLEAN, E_w_BOOLEAN, F_ordinal_w_BOOLEAN, S_w_INTERVAL, E_w_INTERVAL, F_ordinal_w_INTERVAL, S_w_DOUBLE, E_w_DOUBLE, F_ordinal_w_DOUBLE, S_w_BIGINT, E_w_BIGINT, F_ordinal_w_BIGINT, S_w_DATE, E_w_DATE, F_ordinal_w_DATE⟩ := hK'
  obtain ⟨v1, _, ⟨T1, L1, k1, n1⟩, -, X1, ⟨Lc1, hQ1, l1, y1, z1⟩, st1⟩ := Jvm.LawKit.callS X0 hx (y := (⟨"com/example/cairn/cairn/types/DataTypeIsStorablePinLaw", "pick", "(I)Lcom/example/cairn/cairn/types/DataType$Kind;"⟩ : MethodName)) hown (mvT hZ (hw _ (ow 1 rfl))) (mvT hZ (hw _ (ow 2 rfl))) (mvT hZ (hw _ (ow 3 rfl))) (mvT hZ (hw _ (ow 4 rfl))) (by decide) (backOf (W := 0) (rm_pick l Z a0 hw [] (6 : Int32) h0 n0 w_INTEGER w_DECIMAL w_CHAR w_VARCHAR w_BOOLEAN w_INTERVAL w_DOUBLE w_BIGINT w_DATE hK) hZ (hw _ (ow 4 rfl)) (hw _ (ow 3 rfl)) (by decide) (by decide)) (g := (mkF m 9 #[.val (.int p1), .val (.int p2), .val (.int p3), .val (.int (6 : Int32)), .unset, .unset, .unset, .unset, .unset] [(.int (6 : Int32))])) rfl (by rw [hml]; rfl) (argsL := [(.int (6 : Int32))]) (rest := []) (lenOf pd_1 rfl) rfl (Nat.le_of_eq rfl) (hb hby at_9) (fun _ _ => ⟨rfl, e0, (by decide : 0 + 0 ≤ _), (by decide : 0 + 0 ≤ _)⟩)
  dsimp only [Pt.U, Pt.locs, Pt.cells, Pt.slots] at X1 l1 y1 z1 st1 hQ1
  subst l1 y1 z1
  obtain ⟨hv1, Nq1, e1⟩ := hQ1
  obtain rfl : v1 = some (.ref w_BOOLEAN) := hv1.trans (congrArg some (congrArg Value.ref ((if_neg (by decide)).trans ((if_neg (by decide)).trans ((if_neg (by decide)).trans ((if_neg (by decide)).trans ((if_neg (by decide)).trans ((if_neg (by decide)).trans (if_pos (by decide))))))))))
  have N1 := Fr.app N0 Nq1
  obtain ⟨T2, h2, X2, e2, Eq2, A2, D2, -, st2⟩ := newO X1 hx hZ hown (hw _ (ow 8 rfl)) (hw _ (ow 9 rfl)) (hw _ (ow 10 rfl)) e1 (g := (mkF m 70 #[.val (.int p1), .val (.int p2), .val (.int p3), .val (.int (6 : Int32)), .val (.ref w_BOOLEAN), .val (.int (0 : Int32)), .val (.int (0 : Int32)), .unset, .unset] [])) rfl (hb hby at_70) (by decide) (by decide)
  obtain ⟨b2, gb2⟩ : ∃ z, z = h0.size := ⟨_, rfl⟩
  rw [← gb2] at A2 D2 st2
  have F2_kind : Fld Z h2 b2 "com/example/cairn/cairn/types/DataType" "kind" "Lcom/example/cairn/cairn/types/DataType$Kind;" .null := D2 (Or.inr (hw _ (ow 29 rfl))) (ty := (.object "com/example/cairn/cairn/types/DataType$Kind")) (by decide)
  have F2_precision : Fld Z h2 b2 "com/example/cairn/cairn/types/DataType" "precision" "I" (.int (0 : Int32)) := D2 (Or.inr (hw _ (ow 31 rfl))) (ty := .int) (by decide)
  have F2_scale : Fld Z h2 b2 "com/example/cairn/cairn/types/DataType" "scale" "I" (.int (0 : Int32)) := D2 (Or.inr (hw _ (ow 33 rfl))) (ty := .int) (by decide)
  have sz_b2 : h0.size ≤ b2 := Nat.le_of_eq gb2.symm
  have g_b2 : n0 ≤ b2 := Nat.le_trans Z0 sz_b2
  have EX2 : Ext h0 h2 := Eq2
  obtain ⟨v3, _, ⟨T3, L3, k3, n3⟩, -, X3, ⟨Lc3, hQ3, l3, y3, z3⟩, st3⟩ := X2.specialBack hx (y := (⟨"com/example/cairn/cairn/types/DataType", "<init>", "(Lcom/example/cairn/cairn/types/DataType$Kind;II)V"⟩ : MethodName)) rfl hown (mvT hZ (hw _ (ow 11 rfl))) (mvT hZ (hw _ (ow 12 rfl))) (mvT hZ (hw _ (ow 13 rfl))) (by decide) (backOf (W := 1) (rm_init6 l Z a0 hw [] b2 h2 n0 w_INTEGER w_DECIMAL w_CHAR w_VARCHAR w_BOOLEAN w_INTERVAL w_DOUBLE w_BIGINT w_DATE (own_K_ext EX2 hK) F2_kind F2_precision F2_scale A2 g_b2) hZ (hw _ (ow 13 rfl)) (hw _ (ow 10 rfl)) (by decide) (by decide)) (g := (mkF m 80 #[.val (.int p1), .val (.int p2), .val (.int p3), .val (.int (6 : Int32)), .val (.ref w_BOOLEAN), .val (.int (0 : Int32)), .val (.int (0 : Int32)), .unset, .unset] [(.int (0 : Int32)), (.int (0 : Int32)), (.ref w_BOOLEAN), (.ref b2), (.ref b2)])) rfl (by rw [hml]; rfl) (Steps.refl _) (a := b2) (argsL := [(.ref w_BOOLEAN), (.int (0 : Int32)), (.int (0 : Int32))]) (rest := [(.ref b2)]) (lenOf pd_2 rfl) rfl (Nat.le_of_eq rfl) (hb hby at_80) (fun _ _ => ⟨rfl, e2, (by decide : 1 + 0 ≤ _), (by decide : 3 + 0 ≤ _)⟩)
  dsimp only [Pt.U, Pt.locs, Pt.cells, Pt.slots] at X3 l3 y3 z3 st3 hQ3
  subst l3 y3 z3
  obtain ⟨hv3, Nq3, Kq3, Ei3, Fi3⟩ := hQ3
  obtain rfl : v3 = none := hv3
  have N3 := Fr.app N1 Nq3
  have EX3 : Ext h0 T3.heap := own_ext_keep EX2 Kq3 sz_b2
  obtain ⟨cq4, kq4, q4a, q4b, q4c⟩ := isOf hZ (rfl : T3.heap = T3.heap) Ei3
  obtain ⟨v4, _, ⟨T4, L4, k4, n4⟩, -, X4, ⟨Lc4, hQ4, l4, y4, z4⟩, st4⟩ := X3.virtualBack hx (y := (⟨"com/example/cairn/cairn/types/DataType", "isStorable", "()Z"⟩ : MethodName)) (z := (⟨"com/example/cairn/cairn/types/DataType", "isStorable", "()Z"⟩ : MethodName)) hown (mvT hZ (hw _ (ow 34 rfl))) (mvT hZ (hw _ (ow 35 rfl))) (notFace_of_selects (args := #[]) (mvT hZ (hw _ (ow 37 rfl)))) (mvT hZ (hw _ (ow 37 rfl))) (mvT hZ (hw _ (ow 36 rfl))) (by decide) (backOf (W := 0) (rm_isStorable l Z a0 hw [] b2 w_BOOLEAN T3.heap n0 w_INTEGER w_DECIMAL w_CHAR w_VARCHAR w_BOOLEAN w_INTERVAL w_DOUBLE w_BIGINT w_DATE (own_K_ext EX3 hK) Fi3) hZ (hw _ (ow 38 rfl)) (hw _ (ow 10 rfl)) (by decide) (by decide)) q4a q4c (g := (mkF m 99 #[.val (.int p1), .val (.int p2), .val (.int p3), .val (.int (6 : Int32)), .val (.ref w_BOOLEAN), .val (.int (0 : Int32)), .val (.int (0 : Int32)), .val (.ref b2), .val (.int (0 : Int32))] [(.ref b2)])) rfl (by rw [hml]; rfl) (Steps.refl _) (argsL := []) (rest := []) (lenOf pd_3 rfl) rfl (Nat.le_of_eq rfl) (hb hby at_99) (fun _ _ => ⟨rfl, (rfl : T3.heap = T3.heap), (by decide : 1 + 0 ≤ _), (by decide : 3 + 0 ≤ _)⟩)
  dsimp only [Pt.U, Pt.locs, Pt.cells, Pt.slots] at X4 l4 y4 z4 st4 hQ4
  subst l4 y4 z4
  obtain ⟨hv4, Nq4, e4⟩ := hQ4
  obtain rfl : v4 = some (.int (0 : Int32)) := hv4.trans (congrArg some (congrArg Value.int (if_pos rfl)))
  have N4 := Fr.app N3 Nq4
  have pre5 : ∀ t, Steps p.tables e below (T4.setTop (mkF m 112 #[.val (.int p1), .val (.int p2), .val (.int p3), .val (.int (6 : Int32)), .val (.ref w_BOOLEAN), .val (.int (0 : Int32)), .val (.int (0 : Int32)), .val (.ref b2), .val (.int (0 : Int32))] [(.int (1 : Int32))])) t → Steps p.tables e below (s₁.setTop (entryFrame m #[(.int p1), (.int p2), (.int p3)] maxLocals)) t := fun t k => pre0 t (by
    show Steps p.tables e below (s₁.setTop (mkF m 0 #[.val (.int p1), .val (.int p2), .val (.int p3), .unset, .unset, .unset, .unset, .unset, .unset] [])) _
    refine XS.iloadN X0.here hx rfl (hb hby at_0) rfl ?_
    show Steps p.tables e below (s₁.setTop (mkF m 1 #[.val (.int p1), .val (.int p2), .val (.int p3), .unset, .unset, .unset, .unset, .unset, .unset] [(.int p1)])) _
    refine X0.ldcInt hx hown (mvT hZ (hw _ (ow 0 rfl))) (g := (mkF m 1 #[.val (.int p1), .val (.int p2), .val (.int p3), .unset, .unset, .unset, .unset, .unset, .unset] [(.int p1)])) rfl (hb hby at_1) _ ?_
    show Steps p.tables e below (s₁.setTop (mkF m 3 #[.val (.int p1), .val (.int p2), .val (.int p3), .unset, .unset, .unset, .unset, .unset, .unset] [(.int (2147483647 : Int32)), (.int p1)])) _
    refine XS.iand X0.here hx rfl (hb hby at_3) rfl ?_
    show Steps p.tables e below (s₁.setTop (mkF m 4 #[.val (.int p1), .val (.int p2), .val (.int p3), .unset, .unset, .unset, .unset, .unset, .unset] [(.int (p1 &&& (2147483647 : Int32)))])) _
    refine XS.bipush X0.here hx rfl (hb hby at_4) ?_
    show Steps p.tables e below (s₁.setTop (mkF m 6 #[.val (.int p1), .val (.int p2), .val (.int p3), .unset, .unset, .unset, .unset, .unset, .unset] [(.int (9 : Int32)), (.int (p1 &&& (2147483647 : Int32)))])) _
    refine iremM X0 hx rfl (hb hby at_6) rfl (by decide) ?_
    show Steps p.tables e below (s₁.setTop (mkF m 7 #[.val (.int p1), .val (.int p2), .val (.int p3), .unset, .unset, .unset, .unset, .unset, .unset] [(.int ((p1 &&& (2147483647 : Int32)) % (9 : Int32)))])) _
    rw [hk]
    show Steps p.tables e below (s₁.setTop (mkF m 7 #[.val (.int p1), .val (.int p2), .val (.int p3), .unset, .unset, .unset, .unset, .unset, .unset] [(.int (6 : Int32))])) _
    refine XS.istoreN X0.here hx rfl (hb hby at_7) rfl (l' := #[.val (.int p1), .val (.int p2), .val (.int p3), .val (.int (6 : Int32)), .unset, .unset, .unset, .unset, .unset]) rfl ?_
    show Steps p.tables e below (s₁.setTop (mkF m 8 #[.val (.int p1), .val (.int p2), .val (.int p3), .val (.int (6 : Int32)), .unset, .unset, .unset, .unset, .unset] [])) _
    refine XS.iloadN X0.here hx rfl (hb hby at_8) rfl ?_
    show Steps p.tables e below (s₁.setTop (mkF m 9 #[.val (.int p1), .val (.int p2), .val (.int p3), .val (.int (6 : Int32)), .unset, .unset, .unset, .unset, .unset] [(.int (6 : Int32))])) _
    refine st1 _ ?_
    show Steps p.tables e below (T1.setTop (mkF m 12 #[.val (.int p1), .val (.int p2), .val (.int p3), .val (.int (6 : Int32)), .unset, .unset, .unset, .unset, .unset] [(.ref w_BOOLEAN)])) _
    refine XS.astore X1.here hx rfl (hb hby at_12) rfl rfl (l' := #[.val (.int p1), .val (.int p2), .val (.int p3), .val (.int (6 : Int32)), .val (.ref w_BOOLEAN), .unset, .unset, .unset, .unset]) rfl ?_
    show Steps p.tables e below (T1.setTop (mkF m 14 #[.val (.int p1), .val (.int p2), .val (.int p3), .val (.int (6 : Int32)), .val (.ref w_BOOLEAN), .unset, .unset, .unset, .unset] [])) _
    refine XS.iconst X1.here hx rfl (hb hby at_14) ?_
    show Steps p.tables e below (T1.setTop (mkF m 15 #[.val (.int p1), .val (.int p2), .val (.int p3), .val (.int (6 : Int32)), .val (.ref w_BOOLEAN), .unset, .unset, .unset, .unset] [(.int (0 : Int32))])) _
    refine XS.istore X1.here hx rfl (hb hby at_15) rfl (l' := #[.val (.int p1), .val (.int p2), .val (.int p3), .val (.int (6 : Int32)), .val (.ref w_BOOLEAN), .val (.int (0 : Int32)), .unset, .unset, .unset]) rfl ?_
    show Steps p.tables e below (T1.setTop (mkF m 17 #[.val (.int p1), .val (.int p2), .val (.int p3), .val (.int (6 : Int32)), .val (.ref w_BOOLEAN), .val (.int (0 : Int32)), .unset, .unset, .unset] [])) _
    refine XS.iconst X1.here hx rfl (hb hby at_17) ?_
    show Steps p.tables e below (T1.setTop (mkF m 18 #[.val (.int p1), .val (.int p2), .val (.int p3), .val (.int (6 : Int32)), .val (.ref w_BOOLEAN), .val (.int (0 : Int32)), .unset, .unset, .unset] [(.int (0 : Int32))])) _
    refine XS.istore X1.here hx rfl (hb hby at_18) rfl (l' := #[.val (.int p1), .val (.int p2), .val (.int p3), .val (.int (6 : Int32)), .val (.ref w_BOOLEAN), .val (.int (0 : Int32)), .val (.int (0 : Int32)), .unset, .unset]) rfl ?_
    show Steps p.tables e below (T1.setTop (mkF m 20 #[.val (.int p1), .val (.int p2), .val (.int p3), .val (.int (6 : Int32)), .val (.ref w_BOOLEAN), .val (.int (0 : Int32)), .val (.int (0 : Int32)), .unset, .unset] [])) _
    refine XS.iloadN X1.here hx rfl (hb hby at_20) rfl ?_
    show Steps p.tables e below (T1.setTop (mkF m 21 #[.val (.int p1), .val (.int p2), .val (.int p3), .val (.int (6 : Int32)), .val (.ref w_BOOLEAN), .val (.int (0 : Int32)), .val (.int (0 : Int32)), .unset, .unset] [(.int (6 : Int32))])) _
    refine XS.iconst X1.here hx rfl (hb hby at_21) ?_
    show Steps p.tables e below (T1.setTop (mkF m 22 #[.val (.int p1), .val (.int p2), .val (.int p3), .val (.int (6 : Int32)), .val (.ref w_BOOLEAN), .val (.int (0 : Int32)), .val (.int (0 : Int32)), .unset, .unset] [(.int (2 : Int32)), (.int (6 : Int32))])) _
    refine XS.icmpYes X1.here hx rfl (pc0 := 22) (pc' := 50) rfl (hb hby at_22) rfl (feq (by decide)).2 (by decide) (by decide) ?_
    show Steps p.tables e below (T1.setTop (mkF m 50 #[.val (.int p1), .val (.int p2), .val (.int p3), .val (.int (6 : Int32)), .val (.ref w_BOOLEAN), .val (.int (0 : Int32)), .val (.int (0 : Int32)), .unset, .unset] [])) _
    refine XS.iloadN X1.here hx rfl (hb hby at_50) rfl ?_
    show Steps p.tables e below (T1.setTop (mkF m 51 #[.val (.int p1), .val (.int p2), .val (.int p3), .val (.int (6 : Int32)), .val (.ref w_BOOLEAN), .val (.int (0 : Int32)), .val (.int (0 : Int32)), .unset, .unset] [(.int (6 : Int32))])) _
    refine XS.iconst X1.here hx rfl (hb hby at_51) ?_
    show Steps p.tables e below (T1.setTop (mkF m 52 #[.val (.int p1), .val (.int p2), .val (.int p3), .val (.int (6 : Int32)), .val (.ref w_BOOLEAN), .val (.int (0 : Int32)), .val (.int (0 : Int32)), .unset, .unset] [(.int (4 : Int32)), (.int (6 : Int32))])) _
    refine XS.icmpNo X1.here hx rfl (hb hby at_52) rfl (feq (by decide)).1 ?_
    show Steps p.tables e below (T1.setTop (mkF m 55 #[.val (.int p1), .val (.int p2), .val (.int p3), .val (.int (6 : Int32)), .val (.ref w_BOOLEAN), .val (.int (0 : Int32)), .val (.int (0 : Int32)), .unset, .unset] [])) _
    refine XS.iloadN X1.here hx rfl (hb hby at_55) rfl ?_
    show Steps p.tables e below (T1.setTop (mkF m 56 #[.val (.int p1), .val (.int p2), .val (.int p3), .val (.int (6 : Int32)), .val (.ref w_BOOLEAN), .val (.int (0 : Int32)), .val (.int (0 : Int32)), .unset, .unset] [(.int (6 : Int32))])) _
    refine XS.iconst X1.here hx rfl (hb hby at_56) ?_
    show Steps p.tables e below (T1.setTop (mkF m 57 #[.val (.int p1), .val (.int p2), .val (.int p3), .val (.int (6 : Int32)), .val (.ref w_BOOLEAN), .val (.int (0 : Int32)), .val (.int (0 : Int32)), .unset, .unset] [(.int (5 : Int32)), (.int (6 : Int32))])) _
    refine XS.icmpYes X1.here hx rfl (pc0 := 57) (pc' := 70) rfl (hb hby at_57) rfl (feq (by decide)).2 (by decide) (by decide) ?_
    show Steps p.tables e below (T1.setTop (mkF m 70 #[.val (.int p1), .val (.int p2), .val (.int p3), .val (.int (6 : Int32)), .val (.ref w_BOOLEAN), .val (.int (0 : Int32)), .val (.int (0 : Int32)), .unset, .unset] [])) _
    refine st2 _ ?_
    show Steps p.tables e below (T2.setTop (mkF m 73 #[.val (.int p1), .val (.int p2), .val (.int p3), .val (.int (6 : Int32)), .val (.ref w_BOOLEAN), .val (.int (0 : Int32)), .val (.int (0 : Int32)), .unset, .unset] [(.ref b2)])) _
    refine XS.dup X2.here hx rfl (hb hby at_73) rfl rfl ?_
    show Steps p.tables e below (T2.setTop (mkF m 74 #[.val (.int p1), .val (.int p2), .val (.int p3), .val (.int (6 : Int32)), .val (.ref w_BOOLEAN), .val (.int (0 : Int32)), .val (.int (0 : Int32)), .unset, .unset] [(.ref b2), (.ref b2)])) _
    refine XS.aload X2.here hx rfl (hb hby at_74) rfl rfl ?_
    show Steps p.tables e below (T2.setTop (mkF m 76 #[.val (.int p1), .val (.int p2), .val (.int p3), .val (.int (6 : Int32)), .val (.ref w_BOOLEAN), .val (.int (0 : Int32)), .val (.int (0 : Int32)), .unset, .unset] [(.ref w_BOOLEAN), (.ref b2), (.ref b2)])) _
    refine XS.iload X2.here hx rfl (hb hby at_76) rfl ?_
    show Steps p.tables e below (T2.setTop (mkF m 78 #[.val (.int p1), .val (.int p2), .val (.int p3), .val (.int (6 : Int32)), .val (.ref w_BOOLEAN), .val (.int (0 : Int32)), .val (.int (0 : Int32)), .unset, .unset] [(.int (0 : Int32)), (.ref w_BOOLEAN), (.ref b2), (.ref b2)])) _
    refine XS.iload X2.here hx rfl (hb hby at_78) rfl ?_
    show Steps p.tables e below (T2.setTop (mkF m 80 #[.val (.int p1), .val (.int p2), .val (.int p3), .val (.int (6 : Int32)), .val (.ref w_BOOLEAN), .val (.int (0 : Int32)), .val (.int (0 : Int32)), .unset, .unset] [(.int (0 : Int32)), (.int (0 : Int32)), (.ref w_BOOLEAN), (.ref b2), (.ref b2)])) _
    refine st3.trans ?_
    show Steps p.tables e below (T3.setTop (mkF m 83 #[.val (.int p1), .val (.int p2), .val (.int p3), .val (.int (6 : Int32)), .val (.ref w_BOOLEAN), .val (.int (0 : Int32)), .val (.int (0 : Int32)), .unset, .unset] [(.ref b2)])) _
    refine XS.astore X3.here hx rfl (hb hby at_83) rfl rfl (l' := #[.val (.int p1), .val (.int p2), .val (.int p3), .val (.int (6 : Int32)), .val (.ref w_BOOLEAN), .val (.int (0 : Int32)), .val (.int (0 : Int32)), .val (.ref b2), .unset]) rfl ?_
    show Steps p.tables e below (T3.setTop (mkF m 85 #[.val (.int p1), .val (.int p2), .val (.int p3), .val (.int (6 : Int32)), .val (.ref w_BOOLEAN), .val (.int (0 : Int32)), .val (.int (0 : Int32)), .val (.ref b2), .unset] [])) _
    refine XS.iloadN X3.here hx rfl (hb hby at_85) rfl ?_
    show Steps p.tables e below (T3.setTop (mkF m 86 #[.val (.int p1), .val (.int p2), .val (.int p3), .val (.int (6 : Int32)), .val (.ref w_BOOLEAN), .val (.int (0 : Int32)), .val (.int (0 : Int32)), .val (.ref b2), .unset] [(.int (6 : Int32))])) _
    refine XS.iconst X3.here hx rfl (hb hby at_86) ?_
    show Steps p.tables e below (T3.setTop (mkF m 87 #[.val (.int p1), .val (.int p2), .val (.int p3), .val (.int (6 : Int32)), .val (.ref w_BOOLEAN), .val (.int (0 : Int32)), .val (.int (0 : Int32)), .val (.ref b2), .unset] [(.int (5 : Int32)), (.int (6 : Int32))])) _
    refine XS.icmpYes X3.here hx rfl (pc0 := 87) (pc' := 94) rfl (hb hby at_87) rfl (tlt (by decide)).2.2.1 (by decide) (by decide) ?_
    show Steps p.tables e below (T3.setTop (mkF m 94 #[.val (.int p1), .val (.int p2), .val (.int p3), .val (.int (6 : Int32)), .val (.ref w_BOOLEAN), .val (.int (0 : Int32)), .val (.int (0 : Int32)), .val (.ref b2), .unset] [])) _
    refine XS.iconst X3.here hx rfl (hb hby at_94) ?_
    show Steps p.tables e below (T3.setTop (mkF m 95 #[.val (.int p1), .val (.int p2), .val (.int p3), .val (.int (6 : Int32)), .val (.ref w_BOOLEAN), .val (.int (0 : Int32)), .val (.int (0 : Int32)), .val (.ref b2), .unset] [(.int (0 : Int32))])) _
    refine XS.istore X3.here hx rfl (hb hby at_95) rfl (l' := #[.val (.int p1), .val (.int p2), .val (.int p3), .val (.int (6 : Int32)), .val (.ref w_BOOLEAN), .val (.int (0 : Int32)), .val (.int (0 : Int32)), .val (.ref b2), .val (.int (0 : Int32))]) rfl ?_
    show Steps p.tables e below (T3.setTop (mkF m 97 #[.val (.int p1), .val (.int p2), .val (.int p3), .val (.int (6 : Int32)), .val (.ref w_BOOLEAN), .val (.int (0 : Int32)), .val (.int (0 : Int32)), .val (.ref b2), .val (.int (0 : Int32))] [])) _
    refine XS.aload X3.here hx rfl (hb hby at_97) rfl rfl ?_
    show Steps p.tables e below (T3.setTop (mkF m 99 #[.val (.int p1), .val (.int p2), .val (.int p3), .val (.int (6 : Int32)), .val (.ref w_BOOLEAN), .val (.int (0 : Int32)), .val (.int (0 : Int32)), .val (.ref b2), .val (.int (0 : Int32))] [(.ref b2)])) _
    refine st4.trans ?_
    show Steps p.tables e below (T4.setTop (mkF m 102 #[.val (.int p1), .val (.int p2), .val (.int p3), .val (.int (6 : Int32)), .val (.ref w_BOOLEAN), .val (.int (0 : Int32)), .val (.int (0 : Int32)), .val (.ref b2), .val (.int (0 : Int32))] [(.int (0 : Int32))])) _
    refine XS.iload X4.here hx rfl (hb hby at_102) rfl ?_
    show Steps p.tables e below (T4.setTop (mkF m 104 #[.val (.int p1), .val (.int p2), .val (.int p3), .val (.int (6 : Int32)), .val (.ref w_BOOLEAN), .val (.int (0 : Int32)), .val (.int (0 : Int32)), .val (.ref b2), .val (.int (0 : Int32))] [(.int (0 : Int32)), (.int (0 : Int32))])) _
    refine XS.icmpNo X4.here hx rfl (hb hby at_104) rfl (teq (by decide)).2 ?_
    show Steps p.tables e below (T4.setTop (mkF m 107 #[.val (.int p1), .val (.int p2), .val (.int p3), .val (.int (6 : Int32)), .val (.ref w_BOOLEAN), .val (.int (0 : Int32)), .val (.int (0 : Int32)), .val (.ref b2), .val (.int (0 : Int32))] [])) _
    refine XS.iconst X4.here hx rfl (hb hby at_107) ?_
    show Steps p.tables e below (T4.setTop (mkF m 108 #[.val (.int p1), .val (.int p2), .val (.int p3), .val (.int (6 : Int32)), .val (.ref w_BOOLEAN), .val (.int (0 : Int32)), .val (.int (0 : Int32)), .val (.ref b2), .val (.int (0 : Int32))] [(.int (1 : Int32))])) _
    refine XS.goto X4.here hx rfl (pc0 := 108) (pc' := 112) rfl (hb hby at_108) (by decide) (by decide) ?_
    exact k)
  obtain ⟨fs, hr, hrun, hended, hW, hsame⟩ := X4.leave (v := some (.int (1 : Int32))) (fun h => by rw [Bd.returns] at h; cases h)
  refine ⟨_, _, pre5 _ ?_, hrun, hended, _, _, rfl, ?_, ⟨_, rfl⟩, hW, hsame.mono (by decide) (by decide)⟩
  · show Steps p.tables e below (T4.setTop (mkF m 112 #[.val (.int p1), .val (.int p2), .val (.int p3), .val (.int (6 : Int32)), .val (.ref w_BOOLEAN), .val (.int (0 : Int32)), .val (.int (0 : Int32)), .val (.ref b2), .val (.int (0 : Int32))] [(.int (1 : Int32))])) _
    exact retN X4 hx (t := .boolean) Bd.returns (by simp) (hb hby at_112) hr
  · exact ⟨rfl, N4, trivial⟩
def own_Q_init7 (Z : State) (a1 : Addr) (w_INTEGER w_DECIMAL w_CHAR w_VARCHAR w_BOOLEAN w_INTERVAL w_DOUBLE w_BIGINT w_DATE : Addr) (h0 : Heap) (n0 : Nat) (v : Option Value) (h : Heap) (L : List Loc) : Prop := v = none ∧ Fr n0 L ∧ Keep h0 h [a1] ∧ Exa Z h a1 "com/example/cairn/cairn/types/DataType" ∧ Fld Z h a1 "com/example/cairn/cairn/types/DataType" "kind" "Lcom/example/cairn/cairn/types/DataType$Kind;" (.ref w_INTERVAL)
theorem ef_init7 (m : MethodId) (x0 : Addr) (x1 : Addr) (x2 : Int32) (x3 : Int32) : entryFrame m #[(.ref x0), (.ref x1), (.int x2), (.int x3)] 5 = mkF m 0 #[.val (.ref x0), .val (.ref x1), .val (.int x2), .val (.int x3), .unset] [] := by first | (simp [entryFrame, mkF, argsToLocals, Value.category]; done) | rfl
set_option maxRecDepth 65536 in
set_option maxHeartbeats 40000000 in
theorem rm_init7 (l : Launch) (Z : State) (a0 : Array Value) (hw : ∀ d ∈ tables_1, d.before a0 Z = true) (ws : List Jvm.Cond) (a1 : Addr) (h0 : Heap) (n0 : Nat) (w_INTEGER w_DECIMAL w_CHAR w_VARCHAR w_BOOLEAN w_INTERVAL w_DOUBLE w_BIGINT w_DATE : Addr) (hK : own_K Z h0 w_INTEGER w_DECIMAL w_CHAR w_VARCHAR w_BOOLEAN w_INTERVAL w_DOUBLE w_BIGINT w_DATE) (F_kind : Fld Z h0 a1 "com/example/cairn/cairn/types/DataType" "kind" "Lcom/example/cairn/cairn/types/DataType$Kind;" .null) (F_precision : Fld Z h0 a1 "com/example/cairn/cairn/types/DataType" "precision" "I" (.int (0 : Int32))) (F_scale : Fld Z h0 a1 "com/example/cairn/cairn/types/DataType" "scale" "I" (.int (0 : Int32))) (E_a1 : Exa Z h0 a1 "com/example/cairn/cairn/types/DataType") (g_a1 : n0 ≤ a1) :
    MetFree l (⟨"com/example/cairn/cairn/types/DataType", "<init>", "(Lcom/example/cairn/cairn/types/DataType$Kind;II)V"⟩ : MethodName) (head1 (Jvm.Cond.code (⟨"com/example/cairn/cairn/types/DataType", "<init>", "(Lcom/example/cairn/cairn/types/DataType$Kind;II)V"⟩ : MethodName) prog_163_method_1_code 5 none :: ws) ({ frames := 2, cells := 0, slots := 0, locals := 24 } : Room)) (fun a U => a = #[(.ref a1), (.ref w_INTERVAL), (.int (0 : Int32)), (.int (0 : Int32))] ∧ Z.Warmed39 U.vm ∧ U.heap = h0) (fun _ _ _ _ _ => True) (fun _ U o U' => ∃ v L, o = .returned v ∧ own_Q_init7 Z a1 w_INTEGER w_DECIMAL w_CHAR w_VARCHAR w_BOOLEAN w_INTERVAL w_DOUBLE w_BIGINT w_DATE h0 n0 v U'.heap L ∧ FrameEnd U o U' L ({ frames := 2, cells := 0, slots := 0, locals := 24 } : Room).cells ({ frames := 2, cells := 0, slots := 0, locals := 24 } : Room).slots) := by
  refine MetFree.of_bodySF (plainFor_of_name pn_2) hisR ?_
  intro p e s m args below meth c s₁ Bd hml0 hP hK0
  obtain ⟨rfl, hZ, hh⟩ := hP
  have hx := Bd.exec
  have hby := Bd.bytes
  have hml : c.maxLocals = 5 := hml0
  have hown : s.vm.findClass "com/example/cairn/cairn/types/DataType" = some m.cls := findClass_of_methodNamed Bd.named
  have hnm := (name_of_methodNamed Bd.named Bd.method).1
  have X0 : Stand p l e ({ frames := 2, cells := 0, slots := 0, locals := 24 } : Room) s m #[(.ref a1), (.ref w_INTERVAL), (.int (0 : Int32)), (.int (0 : Int32))] below meth c s₁ [] 0 0 := Stand.of_body Bd
  have e0 : s₁.heap = h0 := by rw [← hh, Bd.state]; rfl
  have N0 := Fr.nil n0
  have pre0 : ∀ t, Steps p.tables e below (s₁.setTop (mkF m 0 #[.val (.ref a1), .val (.ref w_INTERVAL), .val (.int (0 : Int32)), .val (.int (0 : Int32)), .unset] [])) t → Steps p.tables e below (s₁.setTop (entryFrame m #[(.ref a1), (.ref w_INTERVAL), (.int (0 : Int32)), (.int (0 : Int32))] 5)) t := fun t k => castTop (ef_init7 m a1 w_INTERVAL ((0 : Int32)) ((0 : Int32))) k
  have hK' := hK
  obtain ⟨S_w_INTEGER, E_w_INTEGER, S_w_DECIMAL, E_w_DECIMAL, F_ordinal_w_INTEGER, F_ordinal_w_DECIMAL, S_w_CHAR, E_w_CHAR, F_ordinal_w_CHAR, S_w_VARCHAR, E_w_VARCHAR, F_ordinal_w_VARCHAR, S_w_BOOLEAN, E_w_BOOLEAN, F_ordinal_w_BOOLEAN, S_w_INTERVAL, E_w_INTERVAL, F_ordinal_w_INTERVAL, S_w_DOUBLE, E_w_DOUBLE, F_ordinal_w_DOUBLE, S_w_BIGINT, E_w_BIGINT, F_ordinal_w_BIGINT, S_w_DATE, E_w_DATE, F_ordinal_w_DATE⟩ := hK'
  obtain ⟨v1, _, ⟨T1, L1, k1, n1⟩, -, X1, ⟨Lc1, hQ1, l1, y1, z1⟩, st1⟩ := X0.specialBack hx (y := (⟨"java/lang/Record", "<init>", "()V"⟩ : MethodName)) rfl hown (mvT hZ (hw _ (ow 14 rfl))) (mvT hZ (hw _ (ow 15 rfl))) (mvT hZ (hw _ (ow 18 rfl))) (by decide) (backOf (W := 0) (rm_record l Z a0 hw [] a1 h0 n0) hZ (hw _ (ow 18 rfl)) (hw _ (ow 17 rfl)) (by decide) (by decide)) (g := (mkF m 1 #[.val (.ref a1), .val (.ref w_INTERVAL), .val (.int (0 : Int32)), .val (.int (0 : Int32)), .unset] [(.ref a1)])) rfl (by rw [hml]; rfl) (Steps.refl _) (a := a1) (argsL := []) (rest := []) (lenOf pd_0 rfl) rfl (Nat.le_of_eq rfl) (hb hby d_prog_163_method_1_1) (fun _ _ => ⟨rfl, e0, (by decide : 0 + 0 ≤ _), (by decide : 0 + 0 ≤ _)⟩)
  dsimp only [Pt.U, Pt.locs, Pt.cells, Pt.slots] at X1 l1 y1 z1 st1 hQ1
  subst l1 y1 z1
  obtain ⟨hv1, Nq1, e1⟩ := hQ1
  obtain rfl : v1 = none := hv1
  have N1 := Fr.app N0 Nq1
  obtain ⟨T2, X2, e2, st2⟩ := getS2 X1 hx hZ hown (host := "") (Or.inl (hw _ (ow 22 rfl))) Via.refl e1 S_w_DECIMAL (g := (mkF m 5 #[.val (.ref a1), .val (.ref w_INTERVAL), .val (.int (0 : Int32)), .val (.int (0 : Int32)), .unset] [(.ref w_INTERVAL)])) rfl (hb hby d_prog_163_method_1_5)
  obtain ⟨T3, X3, e3, st3⟩ := getS2 X2 hx hZ hown (host := "") (Or.inl (hw _ (ow 24 rfl))) Via.refl e2 S_w_CHAR (g := (mkF m 12 #[.val (.ref a1), .val (.ref w_INTERVAL), .val (.int (0 : Int32)), .val (.int (0 : Int32)), .unset] [(.ref w_INTERVAL)])) rfl (hb hby d_prog_163_method_1_12)
  obtain ⟨T4, X4, e4, st4⟩ := getS2 X3 hx hZ hown (host := "") (Or.inl (hw _ (ow 26 rfl))) Via.refl e3 S_w_VARCHAR (g := (mkF m 19 #[.val (.ref a1), .val (.ref w_INTERVAL), .val (.int (0 : Int32)), .val (.int (0 : Int32)), .unset] [(.ref w_INTERVAL)])) rfl (hb hby d_prog_163_method_1_19)
  obtain ⟨T5, X5, e5, st5⟩ := getS2 X4 hx hZ hown (host := "") (Or.inl (hw _ (ow 22 rfl))) Via.refl e4 S_w_DECIMAL (g := (mkF m 68 #[.val (.ref a1), .val (.ref w_INTERVAL), .val (.int (0 : Int32)), .val (.int (0 : Int32)), .val (.int (0 : Int32))] [(.ref w_INTERVAL)])) rfl (hb hby d_prog_163_method_1_68)
  obtain ⟨T6, h6, X6, e6, W6, st6⟩ := putF X5 hx hZ hown (host := "") (Or.inl (hw _ (ow 28 rfl))) Via.refl e5 F_kind E_a1 (Or.inr ⟨(hw _ (ow 29 rfl)), rfl, hnm⟩) (hw _ (ow 9 rfl)) (ty := (.object "com/example/cairn/cairn/types/DataType$Kind")) (by decide) rfl rfl (g := (mkF m 113 #[.val (.ref a1), .val (.ref w_INTERVAL), .val (.int (0 : Int32)), .val (.int (0 : Int32)), .val (.int (0 : Int32))] [(.ref w_INTERVAL), (.ref a1)])) rfl rfl (hb hby d_prog_163_method_1_113)
  have Fw6 := F_kind.same W6
  have Ew6 := E_a1.wr W6
  have K6 : Keep h0 h6 [a1] := (Keep.refl h0 [a1]).wr W6 (Or.inl (List.mem_of_getElem? (i := 0) rfl))
  have N6 := Fr.snoc X6 N1 g_a1
  have F6_precision := F_precision.other W6 (Or.inr (slot_ne (Or.inr (hw _ (ow 31 rfl))) (Or.inr (hw _ (ow 29 rfl))) (by decide) (t := .int) (t' := (.object "com/example/cairn/cairn/types/DataType$Kind")) (by decide) (by decide)))
  have F6_scale := F_scale.other W6 (Or.inr (slot_ne (Or.inr (hw _ (ow 33 rfl))) (Or.inr (hw _ (ow 29 rfl))) (by decide) (t := .int) (t' := (.object "com/example/cairn/cairn/types/DataType$Kind")) (by decide) (by decide)))
  obtain ⟨T7, h7, X7, e7, W7, st7⟩ := putF X6 hx hZ hown (host := "") (Or.inl (hw _ (ow 30 rfl))) Via.refl e6 F6_precision Ew6 (Or.inr ⟨(hw _ (ow 31 rfl)), rfl, hnm⟩) (hw _ (ow 9 rfl)) (ty := .int) (by decide) rfl rfl (g := (mkF m 118 #[.val (.ref a1), .val (.ref w_INTERVAL), .val (.int (0 : Int32)), .val (.int (0 : Int32)), .val (.int (0 : Int32))] [(.int (0 : Int32)), (.ref a1)])) rfl rfl (hb hby d_prog_163_method_1_118)
  have Fw7 := F6_precision.same W7
  have Ew7 := Ew6.wr W7
  have K7 : Keep h0 h7 [a1] := K6.wr W7 (Or.inl (List.mem_of_getElem? (i := 0) rfl))
  have N7 := Fr.snoc X7 N6 g_a1
  have F7_kind := Fw6.other W7 (Or.inr (slot_ne (Or.inr (hw _ (ow 29 rfl))) (Or.inr (hw _ (ow 31 rfl))) (by decide) (t := (.object "com/example/cairn/cairn/types/DataType$Kind")) (t' := .int) (by decide) (by decide)))
  have F7_scale := F6_scale.other W7 (Or.inr (slot_ne (Or.inr (hw _ (ow 33 rfl))) (Or.inr (hw _ (ow 31 rfl))) (by decide) (t := .int) (t' := .int) (by decide) (by decide)))
  obtain ⟨T8, h8, X8, e8, W8, st8⟩ := putF X7 hx hZ hown (host := "") (Or.inl (hw _ (ow 32 rfl))) Via.refl e7 F7_scale Ew7 (Or.inr ⟨(hw _ (ow 33 rfl)), rfl, hnm⟩) (hw _ (ow 9 rfl)) (ty := .int) (by decide) rfl rfl (g := (mkF m 123 #[.val (.ref a1), .val (.ref w_INTERVAL), .val (.int (0 : Int32)), .val (.int (0 : Int32)), .val (.int (0 : Int32))] [(.int (0 : Int32)), (.ref a1)])) rfl rfl (hb hby d_prog_163_method_1_123)
  have Fw8 := F7_scale.same W8
  have Ew8 := Ew7.wr W8
  have K8 : Keep h0 h8 [a1] := K7.wr W8 (Or.inl (List.mem_of_getElem? (i := 0) rfl))
  have N8 := Fr.snoc X8 N7 g_a1
  have F8_kind := F7_kind.other W8 (Or.inr (slot_ne (Or.inr (hw _ (ow 29 rfl))) (Or.inr (hw _ (ow 33 rfl))) (by decide) (t := (.object "com/example/cairn/cairn/types/DataType$Kind")) (t' := .int) (by decide) (by decide)))
  have F8_precision := Fw7.other W8 (Or.inr (slot_ne (Or.inr (hw _ (ow 31 rfl))) (Or.inr (hw _ (ow 33 rfl))) (by decide) (t := .int) (t' := .int) (by decide) (by decide)))
  have pre9 : ∀ t, Steps p.tables e below (T8.setTop (mkF m 126 #[.val (.ref a1), .val (.ref w_INTERVAL), .val (.int (0 : Int32)), .val (.int (0 : Int32)), .val (.int (0 : Int32))] [])) t → Steps p.tables e below (s₁.setTop (entryFrame m #[(.ref a1), (.ref w_INTERVAL), (.int (0 : Int32)), (.int (0 : Int32))] 5)) t := fun t k => pre0 t (by
    show Steps p.tables e below (s₁.setTop (mkF m 0 #[.val (.ref a1), .val (.ref w_INTERVAL), .val (.int (0 : Int32)), .val (.int (0 : Int32)), .unset] [])) _
    refine XS.aloadN X0.here hx rfl (hb hby d_prog_163_method_1_0) rfl rfl ?_
    show Steps p.tables e below (s₁.setTop (mkF m 1 #[.val (.ref a1), .val (.ref w_INTERVAL), .val (.int (0 : Int32)), .val (.int (0 : Int32)), .unset] [(.ref a1)])) _
    refine st1.trans ?_
    show Steps p.tables e below (T1.setTop (mkF m 4 #[.val (.ref a1), .val (.ref w_INTERVAL), .val (.int (0 : Int32)), .val (.int (0 : Int32)), .unset] [])) _
    refine XS.aloadN X1.here hx rfl (hb hby d_prog_163_method_1_4) rfl rfl ?_
    show Steps p.tables e below (T1.setTop (mkF m 5 #[.val (.ref a1), .val (.ref w_INTERVAL), .val (.int (0 : Int32)), .val (.int (0 : Int32)), .unset] [(.ref w_INTERVAL)])) _
    refine st2 _ ?_
    show Steps p.tables e below (T2.setTop (mkF m 8 #[.val (.ref a1), .val (.ref w_INTERVAL), .val (.int (0 : Int32)), .val (.int (0 : Int32)), .unset] [(.ref w_DECIMAL), (.ref w_INTERVAL)])) _
    refine Jvm.RoadKit.acmp (g := (mkF m 8 #[.val (.ref a1), .val (.ref w_INTERVAL), .val (.int (0 : Int32)), .val (.int (0 : Int32)), .unset] [(.ref w_DECIMAL), (.ref w_INTERVAL)])) X2 hx rfl rfl rfl (pc0 := 8) (pc' := 11) (same := false) rfl (hb hby d_prog_163_method_1_8) rfl (decide_eq_false fun q => (Fld.ne F_ordinal_w_INTERVAL F_ordinal_w_DECIMAL (by decide)) (Value.ref.inj q)) (by decide) (by decide) ?_
    show Steps p.tables e below (T2.setTop (mkF m 11 #[.val (.ref a1), .val (.ref w_INTERVAL), .val (.int (0 : Int32)), .val (.int (0 : Int32)), .unset] [])) _
    refine XS.aloadN X2.here hx rfl (hb hby d_prog_163_method_1_11) rfl rfl ?_
    show Steps p.tables e below (T2.setTop (mkF m 12 #[.val (.ref a1), .val (.ref w_INTERVAL), .val (.int (0 : Int32)), .val (.int (0 : Int32)), .unset] [(.ref w_INTERVAL)])) _
    refine st3 _ ?_
    show Steps p.tables e below (T3.setTop (mkF m 15 #[.val (.ref a1), .val (.ref w_INTERVAL), .val (.int (0 : Int32)), .val (.int (0 : Int32)), .unset] [(.ref w_CHAR), (.ref w_INTERVAL)])) _
    refine Jvm.RoadKit.acmp (g := (mkF m 15 #[.val (.ref a1), .val (.ref w_INTERVAL), .val (.int (0 : Int32)), .val (.int (0 : Int32)), .unset] [(.ref w_CHAR), (.ref w_INTERVAL)])) X3 hx rfl rfl rfl (pc0 := 15) (pc' := 18) (same := false) rfl (hb hby d_prog_163_method_1_15) rfl (decide_eq_false fun q => (Fld.ne F_ordinal_w_INTERVAL F_ordinal_w_CHAR (by decide)) (Value.ref.inj q)) (by decide) (by decide) ?_
    show Steps p.tables e below (T3.setTop (mkF m 18 #[.val (.ref a1), .val (.ref w_INTERVAL), .val (.int (0 : Int32)), .val (.int (0 : Int32)), .unset] [])) _
    refine XS.aloadN X3.here hx rfl (hb hby d_prog_163_method_1_18) rfl rfl ?_
    show Steps p.tables e below (T3.setTop (mkF m 19 #[.val (.ref a1), .val (.ref w_INTERVAL), .val (.int (0 : Int32)), .val (.int (0 : Int32)), .unset] [(.ref w_INTERVAL)])) _
    refine st4 _ ?_
    show Steps p.tables e below (T4.setTop (mkF m 22 #[.val (.ref a1), .val (.ref w_INTERVAL), .val (.int (0 : Int32)), .val (.int (0 : Int32)), .unset] [(.ref w_VARCHAR), (.ref w_INTERVAL)])) _
    refine Jvm.RoadKit.acmp (g := (mkF m 22 #[.val (.ref a1), .val (.ref w_INTERVAL), .val (.int (0 : Int32)), .val (.int (0 : Int32)), .unset] [(.ref w_VARCHAR), (.ref w_INTERVAL)])) X4 hx rfl rfl rfl (pc0 := 22) (pc' := 29) (same := false) rfl (hb hby d_prog_163_method_1_22) rfl (decide_eq_false fun q => (Fld.ne F_ordinal_w_INTERVAL F_ordinal_w_VARCHAR (by decide)) (Value.ref.inj q)) (by decide) (by decide) ?_
    show Steps p.tables e below (T4.setTop (mkF m 29 #[.val (.ref a1), .val (.ref w_INTERVAL), .val (.int (0 : Int32)), .val (.int (0 : Int32)), .unset] [])) _
    refine XS.iconst X4.here hx rfl (hb hby d_prog_163_method_1_29) ?_
    show Steps p.tables e below (T4.setTop (mkF m 30 #[.val (.ref a1), .val (.ref w_INTERVAL), .val (.int (0 : Int32)), .val (.int (0 : Int32)), .unset] [(.int (0 : Int32))])) _
    refine XS.istore X4.here hx rfl (hb hby d_prog_163_method_1_30) rfl (l' := #[.val (.ref a1), .val (.ref w_INTERVAL), .val (.int (0 : Int32)), .val (.int (0 : Int32)), .val (.int (0 : Int32))]) rfl ?_
    show Steps p.tables e below (T4.setTop (mkF m 32 #[.val (.ref a1), .val (.ref w_INTERVAL), .val (.int (0 : Int32)), .val (.int (0 : Int32)), .val (.int (0 : Int32))] [])) _
    refine XS.iload X4.here hx rfl (hb hby d_prog_163_method_1_32) rfl ?_
    show Steps p.tables e below (T4.setTop (mkF m 34 #[.val (.ref a1), .val (.ref w_INTERVAL), .val (.int (0 : Int32)), .val (.int (0 : Int32)), .val (.int (0 : Int32))] [(.int (0 : Int32))])) _
    refine XS.ifYes X4.here hx rfl (pc0 := 34) (pc' := 45) rfl (hb hby d_prog_163_method_1_34) rfl ((if0 _ _).trans (teq (by decide)).1) (by decide) (by decide) ?_
    show Steps p.tables e below (T4.setTop (mkF m 45 #[.val (.ref a1), .val (.ref w_INTERVAL), .val (.int (0 : Int32)), .val (.int (0 : Int32)), .val (.int (0 : Int32))] [])) _
    refine XS.iloadN X4.here hx rfl (hb hby d_prog_163_method_1_45) rfl ?_
    show Steps p.tables e below (T4.setTop (mkF m 46 #[.val (.ref a1), .val (.ref w_INTERVAL), .val (.int (0 : Int32)), .val (.int (0 : Int32)), .val (.int (0 : Int32))] [(.int (0 : Int32))])) _
    refine XS.ifYes X4.here hx rfl (pc0 := 46) (pc' := 67) rfl (hb hby d_prog_163_method_1_46) rfl ((if0 _ _).trans (teq (by decide)).1) (by decide) (by decide) ?_
    show Steps p.tables e below (T4.setTop (mkF m 67 #[.val (.ref a1), .val (.ref w_INTERVAL), .val (.int (0 : Int32)), .val (.int (0 : Int32)), .val (.int (0 : Int32))] [])) _
    refine XS.aloadN X4.here hx rfl (hb hby d_prog_163_method_1_67) rfl rfl ?_
    show Steps p.tables e below (T4.setTop (mkF m 68 #[.val (.ref a1), .val (.ref w_INTERVAL), .val (.int (0 : Int32)), .val (.int (0 : Int32)), .val (.int (0 : Int32))] [(.ref w_INTERVAL)])) _
    refine st5 _ ?_
    show Steps p.tables e below (T5.setTop (mkF m 71 #[.val (.ref a1), .val (.ref w_INTERVAL), .val (.int (0 : Int32)), .val (.int (0 : Int32)), .val (.int (0 : Int32))] [(.ref w_DECIMAL), (.ref w_INTERVAL)])) _
    refine Jvm.RoadKit.acmp (g := (mkF m 71 #[.val (.ref a1), .val (.ref w_INTERVAL), .val (.int (0 : Int32)), .val (.int (0 : Int32)), .val (.int (0 : Int32))] [(.ref w_DECIMAL), (.ref w_INTERVAL)])) X5 hx rfl rfl rfl (pc0 := 71) (pc' := 92) (same := false) rfl (hb hby d_prog_163_method_1_71) rfl (decide_eq_false fun q => (Fld.ne F_ordinal_w_INTERVAL F_ordinal_w_DECIMAL (by decide)) (Value.ref.inj q)) (by decide) (by decide) ?_
    show Steps p.tables e below (T5.setTop (mkF m 92 #[.val (.ref a1), .val (.ref w_INTERVAL), .val (.int (0 : Int32)), .val (.int (0 : Int32)), .val (.int (0 : Int32))] [])) _
    refine XS.iloadN X5.here hx rfl (hb hby d_prog_163_method_1_92) rfl ?_
    show Steps p.tables e below (T5.setTop (mkF m 93 #[.val (.ref a1), .val (.ref w_INTERVAL), .val (.int (0 : Int32)), .val (.int (0 : Int32)), .val (.int (0 : Int32))] [(.int (0 : Int32))])) _
    refine XS.ifYes X5.here hx rfl (pc0 := 93) (pc' := 111) rfl (hb hby d_prog_163_method_1_93) rfl ((if0 _ _).trans (teq (by decide)).1) (by decide) (by decide) ?_
    show Steps p.tables e below (T5.setTop (mkF m 111 #[.val (.ref a1), .val (.ref w_INTERVAL), .val (.int (0 : Int32)), .val (.int (0 : Int32)), .val (.int (0 : Int32))] [])) _
    refine XS.aloadN X5.here hx rfl (hb hby d_prog_163_method_1_111) rfl rfl ?_
    show Steps p.tables e below (T5.setTop (mkF m 112 #[.val (.ref a1), .val (.ref w_INTERVAL), .val (.int (0 : Int32)), .val (.int (0 : Int32)), .val (.int (0 : Int32))] [(.ref a1)])) _
    refine XS.aloadN X5.here hx rfl (hb hby d_prog_163_method_1_112) rfl rfl ?_
    show Steps p.tables e below (T5.setTop (mkF m 113 #[.val (.ref a1), .val (.ref w_INTERVAL), .val (.int (0 : Int32)), .val (.int (0 : Int32)), .val (.int (0 : Int32))] [(.ref w_INTERVAL), (.ref a1)])) _
    refine st6 _ ?_
    show Steps p.tables e below (T6.setTop (mkF m 116 #[.val (.ref a1), .val (.ref w_INTERVAL), .val (.int (0 : Int32)), .val (.int (0 : Int32)), .val (.int (0 : Int32))] [])) _
    refine XS.aloadN X6.here hx rfl (hb hby d_prog_163_method_1_116) rfl rfl ?_
    show Steps p.tables e below (T6.setTop (mkF m 117 #[.val (.ref a1), .val (.ref w_INTERVAL), .val (.int (0 : Int32)), .val (.int (0 : Int32)), .val (.int (0 : Int32))] [(.ref a1)])) _
    refine XS.iloadN X6.here hx rfl (hb hby d_prog_163_method_1_117) rfl ?_
    show Steps p.tables e below (T6.setTop (mkF m 118 #[.val (.ref a1), .val (.ref w_INTERVAL), .val (.int (0 : Int32)), .val (.int (0 : Int32)), .val (.int (0 : Int32))] [(.int (0 : Int32)), (.ref a1)])) _
    refine st7 _ ?_
    show Steps p.tables e below (T7.setTop (mkF m 121 #[.val (.ref a1), .val (.ref w_INTERVAL), .val (.int (0 : Int32)), .val (.int (0 : Int32)), .val (.int (0 : Int32))] [])) _
    refine XS.aloadN X7.here hx rfl (hb hby d_prog_163_method_1_121) rfl rfl ?_
    show Steps p.tables e below (T7.setTop (mkF m 122 #[.val (.ref a1), .val (.ref w_INTERVAL), .val (.int (0 : Int32)), .val (.int (0 : Int32)), .val (.int (0 : Int32))] [(.ref a1)])) _
    refine XS.iloadN X7.here hx rfl (hb hby d_prog_163_method_1_122) rfl ?_
    show Steps p.tables e below (T7.setTop (mkF m 123 #[.val (.ref a1), .val (.ref w_INTERVAL), .val (.int (0 : Int32)), .val (.int (0 : Int32)), .val (.int (0 : Int32))] [(.int (0 : Int32)), (.ref a1)])) _
    refine st8 _ ?_
    exact k)
  obtain ⟨fs, hr, hrun, hended, hW, hsame⟩ := X8.leave (v := none) (fun _ => rfl)
  refine ⟨_, _, pre9 _ ?_, hrun, hended, _, _, rfl, ?_, ⟨_, rfl⟩, hW, hsame.mono (by decide) (by decide)⟩
  · show Steps p.tables e below (T8.setTop (mkF m 126 #[.val (.ref a1), .val (.ref w_INTERVAL), .val (.int (0 : Int32)), .val (.int (0 : Int32)), .val (.int (0 : Int32))] [])) _
    exact X8.returnOut hx Bd.returns (hb hby d_prog_163_method_1_126) hr
  · exact ⟨rfl, N8, by rw [show (T8.setFrames fs).heap = _ from e8]; exact ⟨K8, Ew8, F8_kind⟩⟩
theorem ef_law7 (m : MethodId) (x0 : Int32) (x1 : Int32) (x2 : Int32) : entryFrame m #[(.int x0), (.int x1), (.int x2)] maxLocals = mkF m 0 #[.val (.int x0), .val (.int x1), .val (.int x2), .unset, .unset, .unset, .unset, .unset, .unset] [] := by first | (simp [entryFrame, mkF, argsToLocals, Value.category, maxLocals]; done) | rfl
set_option maxRecDepth 65536 in
set_option maxHeartbeats 40000000 in
theorem rm_law7 (l : Launch) (Z : State) (a0 : Array Value) (hw : ∀ d ∈ tables_1, d.before a0 Z = true) (ws : List Jvm.Cond) (p1 : Int32) (p2 : Int32) (p3 : Int32) (h0 : Heap) (n0 : Nat) (Z0 : n0 ≤ h0.size) (w_INTEGER w_DECIMAL w_CHAR w_VARCHAR w_BOOLEAN w_INTERVAL w_DOUBLE w_BIGINT w_DATE : Addr) (hK : own_K Z h0 w_INTEGER w_DECIMAL w_CHAR w_VARCHAR w_BOOLEAN w_INTERVAL w_DOUBLE w_BIGINT w_DATE) (hk : ((p1 &&& (2147483647 : Int32)) % (9 : Int32)) = (7 : Int32)) :
    MetFree l x (head1 (Jvm.Cond.code x code maxLocals ret :: ws) room_1) (fun a U => a = #[(.int p1), (.int p2), (.int p3)] ∧ Z.Warmed39 U.vm ∧ U.heap = h0) (fun _ _ _ _ _ => True) (fun _ U o U' => ∃ v L, o = .returned v ∧ own_QH (some (.int (1 : Int32))) n0 v U'.heap L ∧ FrameEnd U o U' L room_1.cells room_1.slots) := by
  refine MetFree.of_bodySF (plainFor_of_name pn_0) hisR ?_
  intro p e s m args below meth c s₁ Bd hml0 hP hK0
  obtain ⟨rfl, hZ, hh⟩ := hP
  have hx := Bd.exec
  have hby := Bd.bytes
  have hml : c.maxLocals = 9 := hml0
  have hown : s.vm.findClass "com/example/cairn/cairn/types/DataTypeIsStorablePinLaw" = some m.cls := findClass_of_methodNamed Bd.named
  have hnm := (name_of_methodNamed Bd.named Bd.method).1
  have X0 : Stand p l e room_1 s m #[(.int p1), (.int p2), (.int p3)] below meth c s₁ [] 0 0 := Stand.of_body Bd
  have e0 : s₁.heap = h0 := by rw [← hh, Bd.state]; rfl
  have N0 := Fr.nil n0
  have pre0 : ∀ t, Steps p.tables e below (s₁.setTop (mkF m 0 #[.val (.int p1), .val (.int p2), .val (.int p3), .unset, .unset, .unset, .unset, .unset, .unset] [])) t → Steps p.tables e below (s₁.setTop (entryFrame m #[(.int p1), (.int p2), (.int p3)] maxLocals)) t := fun t k => castTop (ef_law7 m p1 p2 p3) k
  have hK' := hK
  obtain ⟨S_w_INTEGER, E_w_INTEGER, S_w_DECIMAL, E_w_DECIMAL, F_ordinal_w_INTEGER, F_ordinal_w_DECIMAL, S_w_CHAR, E_w_CHAR, F_ordinal_w_CHAR, S_w_VARCHAR, E_w_VARCHAR, F_ordinal_w_VARCHAR, S_w_BOOLEAN, E_w_BOOLEAN, F_ordinal_w_BOOLEAN, S_w_INTERVAL, E_w_INTERVAL, F_ordinal_w_INTERVAL, S_w_DOUBLE, E_w_DOUBLE, F_ordinal_w_DOUBLE, S_w_BIGINT, E_w_BIGINT, F_ordinal_w_BIGINT, S_w_DATE, E_w_DATE, F_ordinal_w_DATE⟩ := hK'
  obtain ⟨v1, _, ⟨T1, L1, k1, n1⟩, -, X1, ⟨Lc1, hQ1, l1, y1, z1⟩, st1⟩ := Jvm.LawKit.callS X0 hx (y := (⟨"com/example/cairn/cairn/types/DataTypeIsStorablePinLaw", "pick", "(I)Lcom/example/cairn/cairn/types/DataType$Kind;"⟩ : MethodName)) hown (mvT hZ (hw _ (ow 1 rfl))) (mvT hZ (hw _ (ow 2 rfl))) (mvT hZ (hw _ (ow 3 rfl))) (mvT hZ (hw _ (ow 4 rfl))) (by decide) (backOf (W := 0) (rm_pick l Z a0 hw [] (7 : Int32) h0 n0 w_INTEGER w_DECIMAL w_CHAR w_VARCHAR w_BOOLEAN w_INTERVAL w_DOUBLE w_BIGINT w_DATE hK) hZ (hw _ (ow 4 rfl)) (hw _ (ow 3 rfl)) (by decide) (by decide)) (g := (mkF m 9 #[.val (.int p1), .val (.int p2), .val (.int p3), .val (.int (7 : Int32)), .unset, .unset, .unset, .unset, .unset] [(.int (7 : Int32))])) rfl (by rw [hml]; rfl) (argsL := [(.int (7 : Int32))]) (rest := []) (lenOf pd_1 rfl) rfl (Nat.le_of_eq rfl) (hb hby at_9) (fun _ _ => ⟨rfl, e0, (by decide : 0 + 0 ≤ _), (by decide : 0 + 0 ≤ _)⟩)
  dsimp only [Pt.U, Pt.locs, Pt.cells, Pt.slots] at X1 l1 y1 z1 st1 hQ1
  subst l1 y1 z1
  obtain ⟨hv1, Nq1, e1⟩ := hQ1
  obtain rfl : v1 = some (.ref w_INTERVAL) := hv1.trans (congrArg some (congrArg Value.ref ((if_neg (by decide)).trans ((if_neg (by decide)).trans ((if_neg (by decide)).trans ((if_neg (by decide)).trans ((if_neg (by decide)).trans ((if_neg (by decide)).trans ((if_neg (by decide)).trans (if_pos (by decide)))))))))))
  have N1 := Fr.app N0 Nq1
  obtain ⟨T2, h2, X2, e2, Eq2, A2, D2, -, st2⟩ := newO X1 hx hZ hown (hw _ (ow 8 rfl)) (hw _ (ow 9 rfl)) (hw _ (ow 10 rfl)) e1 (g := (mkF m 70 #[.val (.int p1), .val (.int p2), .val (.int p3), .val (.int (7 : Int32)), .val (.ref w_INTERVAL), .val (.int (0 : Int32)), .val (.int (0 : Int32)), .unset, .unset] [])) rfl (hb hby at_70) (by decide) (by decide)
  obtain ⟨b2, gb2⟩ : ∃ z, z = h0.size := ⟨_, rfl⟩
  rw [← gb2] at A2 D2 st2
  have F2_kind : Fld Z h2 b2 "com/example/cairn/cairn/types/DataType" "kind" "Lcom/example/cairn/cairn/types/DataType$Kind;" .null := D2 (Or.inr (hw _ (ow 29 rfl))) (ty := (.object "com/example/cairn/cairn/types/DataType$Kind")) (by decide)
  have F2_precision : Fld Z h2 b2 "com/example/cairn/cairn/types/DataType" "precision" "I" (.int (0 : Int32)) := D2 (Or.inr (hw _ (ow 31 rfl))) (ty := .int) (by decide)
  have F2_scale : Fld Z h2 b2 "com/example/cairn/cairn/types/DataType" "scale" "I" (.int (0 : Int32)) := D2 (Or.inr (hw _ (ow 33 rfl))) (ty := .int) (by decide)
  have sz_b2 : h0.size ≤ b2 := Nat.le_of_eq gb2.symm
  have g_b2 : n0 ≤ b2 := Nat.le_trans Z0 sz_b2
  have EX2 : Ext h0 h2 := Eq2
  obtain ⟨v3, _, ⟨T3, L3, k3, n3⟩, -, X3, ⟨Lc3, hQ3, l3, y3, z3⟩, st3⟩ := X2.specialBack hx (y := (⟨"com/example/cairn/cairn/types/DataType", "<init>", "(Lcom/example/cairn/cairn/types/DataType$Kind;II)V"⟩ : MethodName)) rfl hown (mvT hZ (hw _ (ow 11 rfl))) (mvT hZ (hw _ (ow 12 rfl))) (mvT hZ (hw _ (ow 13 rfl))) (by decide) (backOf (W := 1) (rm_init7 l Z a0 hw [] b2 h2 n0 w_INTEGER w_DECIMAL w_CHAR w_VARCHAR w_BOOLEAN w_INTERVAL w_DOUBLE w_BIGINT w_DATE (own_K_ext EX2 hK) F2_kind F2_precision F2_scale A2 g_b2) hZ (hw _ (ow 13 rfl)) (hw _ (ow 10 rfl)) (by decide) (by decide)) (g := (mkF m 80 #[.val (.int p1), .val (.int p2), .val (.int p3), .val (.int (7 : Int32)), .val (.ref w_INTERVAL), .val (.int (0 : Int32)), .val (.int (0 : Int32)), .unset, .unset] [(.int (0 : Int32)), (.int (0 : Int32)), (.ref w_INTERVAL), (.ref b2), (.ref b2)])) rfl (by rw [hml]; rfl) (Steps.refl _) (a := b2) (argsL := [(.ref w_INTERVAL), (.int (0 : Int32)), (.int (0 : Int32))]) (rest := [(.ref b2)]) (lenOf pd_2 rfl) rfl (Nat.le_of_eq rfl) (hb hby at_80) (fun _ _ => ⟨rfl, e2, (by decide : 1 + 0 ≤ _), (by decide : 3 + 0 ≤ _)⟩)
  dsimp only [Pt.U, Pt.locs, Pt.cells, Pt.slots] at X3 l3 y3 z3 st3 hQ3
  subst l3 y3 z3
  obtain ⟨hv3, Nq3, Kq3, Ei3, Fi3⟩ := hQ3
  obtain rfl : v3 = none := hv3
  have N3 := Fr.app N1 Nq3
  have EX3 : Ext h0 T3.heap := own_ext_keep EX2 Kq3 sz_b2
  obtain ⟨cq4, kq4, q4a, q4b, q4c⟩ := isOf hZ (rfl : T3.heap = T3.heap) Ei3
  obtain ⟨v4, _, ⟨T4, L4, k4, n4⟩, -, X4, ⟨Lc4, hQ4, l4, y4, z4⟩, st4⟩ := X3.virtualBack hx (y := (⟨"com/example/cairn/cairn/types/DataType", "isStorable", "()Z"⟩ : MethodName)) (z := (⟨"com/example/cairn/cairn/types/DataType", "isStorable", "()Z"⟩ : MethodName)) hown (mvT hZ (hw _ (ow 34 rfl))) (mvT hZ (hw _ (ow 35 rfl))) (notFace_of_selects (args := #[]) (mvT hZ (hw _ (ow 37 rfl)))) (mvT hZ (hw _ (ow 37 rfl))) (mvT hZ (hw _ (ow 36 rfl))) (by decide) (backOf (W := 0) (rm_isStorable l Z a0 hw [] b2 w_INTERVAL T3.heap n0 w_INTEGER w_DECIMAL w_CHAR w_VARCHAR w_BOOLEAN w_INTERVAL w_DOUBLE w_BIGINT w_DATE (own_K_ext EX3 hK) Fi3) hZ (hw _ (ow 38 rfl)) (hw _ (ow 10 rfl)) (by decide) (by decide)) q4a q4c (g := (mkF m 99 #[.val (.int p1), .val (.int p2), .val (.int p3), .val (.int (7 : Int32)), .val (.ref w_INTERVAL), .val (.int (0 : Int32)), .val (.int (0 : Int32)), .val (.ref b2), .val (.int (0 : Int32))] [(.ref b2)])) rfl (by rw [hml]; rfl) (Steps.refl _) (argsL := []) (rest := []) (lenOf pd_3 rfl) rfl (Nat.le_of_eq rfl) (hb hby at_99) (fun _ _ => ⟨rfl, (rfl : T3.heap = T3.heap), (by decide : 1 + 0 ≤ _), (by decide : 3 + 0 ≤ _)⟩)
  dsimp only [Pt.U, Pt.locs, Pt.cells, Pt.slots] at X4 l4 y4 z4 st4 hQ4
  subst l4 y4 z4
  obtain ⟨hv4, Nq4, e4⟩ := hQ4
  obtain rfl : v4 = some (.int (0 : Int32)) := hv4.trans (congrArg some (congrArg Value.int ((if_neg (Fld.ne F_ordinal_w_INTERVAL F_ordinal_w_BOOLEAN (by decide))).trans (if_pos rfl))))
  have N4 := Fr.app N3 Nq4
  have pre5 : ∀ t, Steps p.tables e below (T4.setTop (mkF m 112 #[.val (.int p1), .val (.int p2), .val (.int p3), .val (.int (7 : Int32)), .val (.ref w_INTERVAL), .val (.int (0 : Int32)), .val (.int (0 : Int32)), .val (.ref b2), .val (.int (0 : Int32))] [(.int (1 : Int32))])) t → Steps p.tables e below (s₁.setTop (entryFrame m #[(.int p1), (.int p2), (.int p3)] maxLocals)) t := fun t k => pre0 t (by
    show Steps p.tables e below (s₁.setTop (mkF m 0 #[.val (.int p1), .val (.int p2), .val (.int p3), .unset, .unset, .unset, .unset, .unset, .unset] [])) _
    refine XS.iloadN X0.here hx rfl (hb hby at_0) rfl ?_
    show Steps p.tables e below (s₁.setTop (mkF m 1 #[.val (.int p1), .val (.int p2), .val (.int p3), .unset, .unset, .unset, .unset, .unset, .unset] [(.int p1)])) _
    refine X0.ldcInt hx hown (mvT hZ (hw _ (ow 0 rfl))) (g := (mkF m 1 #[.val (.int p1), .val (.int p2), .val (.int p3), .unset, .unset, .unset, .unset, .unset, .unset] [(.int p1)])) rfl (hb hby at_1) _ ?_
    show Steps p.tables e below (s₁.setTop (mkF m 3 #[.val (.int p1), .val (.int p2), .val (.int p3), .unset, .unset, .unset, .unset, .unset, .unset] [(.int (2147483647 : Int32)), (.int p1)])) _
    refine XS.iand X0.here hx rfl (hb hby at_3) rfl ?_
    show Steps p.tables e below (s₁.setTop (mkF m 4 #[.val (.int p1), .val (.int p2), .val (.int p3), .unset, .unset, .unset, .unset, .unset, .unset] [(.int (p1 &&& (2147483647 : Int32)))])) _
    refine XS.bipush X0.here hx rfl (hb hby at_4) ?_
    show Steps p.tables e below (s₁.setTop (mkF m 6 #[.val (.int p1), .val (.int p2), .val (.int p3), .unset, .unset, .unset, .unset, .unset, .unset] [(.int (9 : Int32)), (.int (p1 &&& (2147483647 : Int32)))])) _
    refine iremM X0 hx rfl (hb hby at_6) rfl (by decide) ?_
    show Steps p.tables e below (s₁.setTop (mkF m 7 #[.val (.int p1), .val (.int p2), .val (.int p3), .unset, .unset, .unset, .unset, .unset, .unset] [(.int ((p1 &&& (2147483647 : Int32)) % (9 : Int32)))])) _
    rw [hk]
    show Steps p.tables e below (s₁.setTop (mkF m 7 #[.val (.int p1), .val (.int p2), .val (.int p3), .unset, .unset, .unset, .unset, .unset, .unset] [(.int (7 : Int32))])) _
    refine XS.istoreN X0.here hx rfl (hb hby at_7) rfl (l' := #[.val (.int p1), .val (.int p2), .val (.int p3), .val (.int (7 : Int32)), .unset, .unset, .unset, .unset, .unset]) rfl ?_
    show Steps p.tables e below (s₁.setTop (mkF m 8 #[.val (.int p1), .val (.int p2), .val (.int p3), .val (.int (7 : Int32)), .unset, .unset, .unset, .unset, .unset] [])) _
    refine XS.iloadN X0.here hx rfl (hb hby at_8) rfl ?_
    show Steps p.tables e below (s₁.setTop (mkF m 9 #[.val (.int p1), .val (.int p2), .val (.int p3), .val (.int (7 : Int32)), .unset, .unset, .unset, .unset, .unset] [(.int (7 : Int32))])) _
    refine st1 _ ?_
    show Steps p.tables e below (T1.setTop (mkF m 12 #[.val (.int p1), .val (.int p2), .val (.int p3), .val (.int (7 : Int32)), .unset, .unset, .unset, .unset, .unset] [(.ref w_INTERVAL)])) _
    refine XS.astore X1.here hx rfl (hb hby at_12) rfl rfl (l' := #[.val (.int p1), .val (.int p2), .val (.int p3), .val (.int (7 : Int32)), .val (.ref w_INTERVAL), .unset, .unset, .unset, .unset]) rfl ?_
    show Steps p.tables e below (T1.setTop (mkF m 14 #[.val (.int p1), .val (.int p2), .val (.int p3), .val (.int (7 : Int32)), .val (.ref w_INTERVAL), .unset, .unset, .unset, .unset] [])) _
    refine XS.iconst X1.here hx rfl (hb hby at_14) ?_
    show Steps p.tables e below (T1.setTop (mkF m 15 #[.val (.int p1), .val (.int p2), .val (.int p3), .val (.int (7 : Int32)), .val (.ref w_INTERVAL), .unset, .unset, .unset, .unset] [(.int (0 : Int32))])) _
    refine XS.istore X1.here hx rfl (hb hby at_15) rfl (l' := #[.val (.int p1), .val (.int p2), .val (.int p3), .val (.int (7 : Int32)), .val (.ref w_INTERVAL), .val (.int (0 : Int32)), .unset, .unset, .unset]) rfl ?_
    show Steps p.tables e below (T1.setTop (mkF m 17 #[.val (.int p1), .val (.int p2), .val (.int p3), .val (.int (7 : Int32)), .val (.ref w_INTERVAL), .val (.int (0 : Int32)), .unset, .unset, .unset] [])) _
    refine XS.iconst X1.here hx rfl (hb hby at_17) ?_
    show Steps p.tables e below (T1.setTop (mkF m 18 #[.val (.int p1), .val (.int p2), .val (.int p3), .val (.int (7 : Int32)), .val (.ref w_INTERVAL), .val (.int (0 : Int32)), .unset, .unset, .unset] [(.int (0 : Int32))])) _
    refine XS.istore X1.here hx rfl (hb hby at_18) rfl (l' := #[.val (.int p1), .val (.int p2), .val (.int p3), .val (.int (7 : Int32)), .val (.ref w_INTERVAL), .val (.int (0 : Int32)), .val (.int (0 : Int32)), .unset, .unset]) rfl ?_
    show Steps p.tables e below (T1.setTop (mkF m 20 #[.val (.int p1), .val (.int p2), .val (.int p3), .val (.int (7 : Int32)), .val (.ref w_INTERVAL), .val (.int (0 : Int32)), .val (.int (0 : Int32)), .unset, .unset] [])) _
    refine XS.iloadN X1.here hx rfl (hb hby at_20) rfl ?_
    show Steps p.tables e below (T1.setTop (mkF m 21 #[.val (.int p1), .val (.int p2), .val (.int p3), .val (.int (7 : Int32)), .val (.ref w_INTERVAL), .val (.int (0 : Int32)), .val (.int (0 : Int32)), .unset, .unset] [(.int (7 : Int32))])) _
    refine XS.iconst X1.here hx rfl (hb hby at_21) ?_
    show Steps p.tables e below (T1.setTop (mkF m 22 #[.val (.int p1), .val (.int p2), .val (.int p3), .val (.int (7 : Int32)), .val (.ref w_INTERVAL), .val (.int (0 : Int32)), .val (.int (0 : Int32)), .unset, .unset] [(.int (2 : Int32)), (.int (7 : Int32))])) _
    refine XS.icmpYes X1.here hx rfl (pc0 := 22) (pc' := 50) rfl (hb hby at_22) rfl (feq (by decide)).2 (by decide) (by decide) ?_
    show Steps p.tables e below (T1.setTop (mkF m 50 #[.val (.int p1), .val (.int p2), .val (.int p3), .val (.int (7 : Int32)), .val (.ref w_INTERVAL), .val (.int (0 : Int32)), .val (.int (0 : Int32)), .unset, .unset] [])) _
    refine XS.iloadN X1.here hx rfl (hb hby at_50) rfl ?_
    show Steps p.tables e below (T1.setTop (mkF m 51 #[.val (.int p1), .val (.int p2), .val (.int p3), .val (.int (7 : Int32)), .val (.ref w_INTERVAL), .val (.int (0 : Int32)), .val (.int (0 : Int32)), .unset, .unset] [(.int (7 : Int32))])) _
    refine XS.iconst X1.here hx rfl (hb hby at_51) ?_
    show Steps p.tables e below (T1.setTop (mkF m 52 #[.val (.int p1), .val (.int p2), .val (.int p3), .val (.int (7 : Int32)), .val (.ref w_INTERVAL), .val (.int (0 : Int32)), .val (.int (0 : Int32)), .unset, .unset] [(.int (4 : Int32)), (.int (7 : Int32))])) _
    refine XS.icmpNo X1.here hx rfl (hb hby at_52) rfl (feq (by decide)).1 ?_
    show Steps p.tables e below (T1.setTop (mkF m 55 #[.val (.int p1), .val (.int p2), .val (.int p3), .val (.int (7 : Int32)), .val (.ref w_INTERVAL), .val (.int (0 : Int32)), .val (.int (0 : Int32)), .unset, .unset] [])) _
    refine XS.iloadN X1.here hx rfl (hb hby at_55) rfl ?_
    show Steps p.tables e below (T1.setTop (mkF m 56 #[.val (.int p1), .val (.int p2), .val (.int p3), .val (.int (7 : Int32)), .val (.ref w_INTERVAL), .val (.int (0 : Int32)), .val (.int (0 : Int32)), .unset, .unset] [(.int (7 : Int32))])) _
    refine XS.iconst X1.here hx rfl (hb hby at_56) ?_
    show Steps p.tables e below (T1.setTop (mkF m 57 #[.val (.int p1), .val (.int p2), .val (.int p3), .val (.int (7 : Int32)), .val (.ref w_INTERVAL), .val (.int (0 : Int32)), .val (.int (0 : Int32)), .unset, .unset] [(.int (5 : Int32)), (.int (7 : Int32))])) _
    refine XS.icmpYes X1.here hx rfl (pc0 := 57) (pc' := 70) rfl (hb hby at_57) rfl (feq (by decide)).2 (by decide) (by decide) ?_
    show Steps p.tables e below (T1.setTop (mkF m 70 #[.val (.int p1), .val (.int p2), .val (.int p3), .val (.int (7 : Int32)), .val (.ref w_INTERVAL), .val (.int (0 : Int32)), .val (.int (0 : Int32)), .unset, .unset] [])) _
    refine st2 _ ?_
    show Steps p.tables e below (T2.setTop (mkF m 73 #[.val (.int p1), .val (.int p2), .val (.int p3), .val (.int (7 : Int32)), .val (.ref w_INTERVAL), .val (.int (0 : Int32)), .val (.int (0 : Int32)), .unset, .unset] [(.ref b2)])) _
    refine XS.dup X2.here hx rfl (hb hby at_73) rfl rfl ?_
    show Steps p.tables e below (T2.setTop (mkF m 74 #[.val (.int p1), .val (.int p2), .val (.int p3), .val (.int (7 : Int32)), .val (.ref w_INTERVAL), .val (.int (0 : Int32)), .val (.int (0 : Int32)), .unset, .unset] [(.ref b2), (.ref b2)])) _
    refine XS.aload X2.here hx rfl (hb hby at_74) rfl rfl ?_
    show Steps p.tables e below (T2.setTop (mkF m 76 #[.val (.int p1), .val (.int p2), .val (.int p3), .val (.int (7 : Int32)), .val (.ref w_INTERVAL), .val (.int (0 : Int32)), .val (.int (0 : Int32)), .unset, .unset] [(.ref w_INTERVAL), (.ref b2), (.ref b2)])) _
    refine XS.iload X2.here hx rfl (hb hby at_76) rfl ?_
    show Steps p.tables e below (T2.setTop (mkF m 78 #[.val (.int p1), .val (.int p2), .val (.int p3), .val (.int (7 : Int32)), .val (.ref w_INTERVAL), .val (.int (0 : Int32)), .val (.int (0 : Int32)), .unset, .unset] [(.int (0 : Int32)), (.ref w_INTERVAL), (.ref b2), (.ref b2)])) _
    refine XS.iload X2.here hx rfl (hb hby at_78) rfl ?_
    show Steps p.tables e below (T2.setTop (mkF m 80 #[.val (.int p1), .val (.int p2), .val (.int p3), .val (.int (7 : Int32)), .val (.ref w_INTERVAL), .val (.int (0 : Int32)), .val (.int (0 : Int32)), .unset, .unset] [(.int (0 : Int32)), (.int (0 : Int32)), (.ref w_INTERVAL), (.ref b2), (.ref b2)])) _
    refine st3.trans ?_
    show Steps p.tables e below (T3.setTop (mkF m 83 #[.val (.int p1), .val (.int p2), .val (.int p3), .val (.int (7 : Int32)), .val (.ref w_INTERVAL), .val (.int (0 : Int32)), .val (.int (0 : Int32)), .unset, .unset] [(.ref b2)])) _
    refine XS.astore X3.here hx rfl (hb hby at_83) rfl rfl (l' := #[.val (.int p1), .val (.int p2), .val (.int p3), .val (.int (7 : Int32)), .val (.ref w_INTERVAL), .val (.int (0 : Int32)), .val (.int (0 : Int32)), .val (.ref b2), .unset]) rfl ?_
    show Steps p.tables e below (T3.setTop (mkF m 85 #[.val (.int p1), .val (.int p2), .val (.int p3), .val (.int (7 : Int32)), .val (.ref w_INTERVAL), .val (.int (0 : Int32)), .val (.int (0 : Int32)), .val (.ref b2), .unset] [])) _
    refine XS.iloadN X3.here hx rfl (hb hby at_85) rfl ?_
    show Steps p.tables e below (T3.setTop (mkF m 86 #[.val (.int p1), .val (.int p2), .val (.int p3), .val (.int (7 : Int32)), .val (.ref w_INTERVAL), .val (.int (0 : Int32)), .val (.int (0 : Int32)), .val (.ref b2), .unset] [(.int (7 : Int32))])) _
    refine XS.iconst X3.here hx rfl (hb hby at_86) ?_
    show Steps p.tables e below (T3.setTop (mkF m 87 #[.val (.int p1), .val (.int p2), .val (.int p3), .val (.int (7 : Int32)), .val (.ref w_INTERVAL), .val (.int (0 : Int32)), .val (.int (0 : Int32)), .val (.ref b2), .unset] [(.int (5 : Int32)), (.int (7 : Int32))])) _
    refine XS.icmpYes X3.here hx rfl (pc0 := 87) (pc' := 94) rfl (hb hby at_87) rfl (tlt (by decide)).2.2.1 (by decide) (by decide) ?_
    show Steps p.tables e below (T3.setTop (mkF m 94 #[.val (.int p1), .val (.int p2), .val (.int p3), .val (.int (7 : Int32)), .val (.ref w_INTERVAL), .val (.int (0 : Int32)), .val (.int (0 : Int32)), .val (.ref b2), .unset] [])) _
    refine XS.iconst X3.here hx rfl (hb hby at_94) ?_
    show Steps p.tables e below (T3.setTop (mkF m 95 #[.val (.int p1), .val (.int p2), .val (.int p3), .val (.int (7 : Int32)), .val (.ref w_INTERVAL), .val (.int (0 : Int32)), .val (.int (0 : Int32)), .val (.ref b2), .unset] [(.int (0 : Int32))])) _
    refine XS.istore X3.here hx rfl (hb hby at_95) rfl (l' := #[.val (.int p1), .val (.int p2), .val (.int p3), .val (.int (7 : Int32)), .val (.ref w_INTERVAL), .val (.int (0 : Int32)), .val (.int (0 : Int32)), .val (.ref b2), .val (.int (0 : Int32))]) rfl ?_
    show Steps p.tables e below (T3.setTop (mkF m 97 #[.val (.int p1), .val (.int p2), .val (.int p3), .val (.int (7 : Int32)), .val (.ref w_INTERVAL), .val (.int (0 : Int32)), .val (.int (0 : Int32)), .val (.ref b2), .val (.int (0 : Int32))] [])) _
    refine XS.aload X3.here hx rfl (hb hby at_97) rfl rfl ?_
    show Steps p.tables e below (T3.setTop (mkF m 99 #[.val (.int p1), .val (.int p2), .val (.int p3), .val (.int (7 : Int32)), .val (.ref w_INTERVAL), .val (.int (0 : Int32)), .val (.int (0 : Int32)), .val (.ref b2), .val (.int (0 : Int32))] [(.ref b2)])) _
    refine st4.trans ?_
    show Steps p.tables e below (T4.setTop (mkF m 102 #[.val (.int p1), .val (.int p2), .val (.int p3), .val (.int (7 : Int32)), .val (.ref w_INTERVAL), .val (.int (0 : Int32)), .val (.int (0 : Int32)), .val (.ref b2), .val (.int (0 : Int32))] [(.int (0 : Int32))])) _
    refine XS.iload X4.here hx rfl (hb hby at_102) rfl ?_
    show Steps p.tables e below (T4.setTop (mkF m 104 #[.val (.int p1), .val (.int p2), .val (.int p3), .val (.int (7 : Int32)), .val (.ref w_INTERVAL), .val (.int (0 : Int32)), .val (.int (0 : Int32)), .val (.ref b2), .val (.int (0 : Int32))] [(.int (0 : Int32)), (.int (0 : Int32))])) _
    refine XS.icmpNo X4.here hx rfl (hb hby at_104) rfl (teq (by decide)).2 ?_
    show Steps p.tables e below (T4.setTop (mkF m 107 #[.val (.int p1), .val (.int p2), .val (.int p3), .val (.int (7 : Int32)), .val (.ref w_INTERVAL), .val (.int (0 : Int32)), .val (.int (0 : Int32)), .val (.ref b2), .val (.int (0 : Int32))] [])) _
    refine XS.iconst X4.here hx rfl (hb hby at_107) ?_
    show Steps p.tables e below (T4.setTop (mkF m 108 #[.val (.int p1), .val (.int p2), .val (.int p3), .val (.int (7 : Int32)), .val (.ref w_INTERVAL), .val (.int (0 : Int32)), .val (.int (0 : Int32)), .val (.ref b2), .val (.int (0 : Int32))] [(.int (1 : Int32))])) _
    refine XS.goto X4.here hx rfl (pc0 := 108) (pc' := 112) rfl (hb hby at_108) (by decide) (by decide) ?_
    exact k)
  obtain ⟨fs, hr, hrun, hended, hW, hsame⟩ := X4.leave (v := some (.int (1 : Int32))) (fun h => by rw [Bd.returns] at h; cases h)
  refine ⟨_, _, pre5 _ ?_, hrun, hended, _, _, rfl, ?_, ⟨_, rfl⟩, hW, hsame.mono (by decide) (by decide)⟩
  · show Steps p.tables e below (T4.setTop (mkF m 112 #[.val (.int p1), .val (.int p2), .val (.int p3), .val (.int (7 : Int32)), .val (.ref w_INTERVAL), .val (.int (0 : Int32)), .val (.int (0 : Int32)), .val (.ref b2), .val (.int (0 : Int32))] [(.int (1 : Int32))])) _
    exact retN X4 hx (t := .boolean) Bd.returns (by simp) (hb hby at_112) hr
  · exact ⟨rfl, N4, trivial⟩
def own_Q_init8 (Z : State) (a1 : Addr) (w_INTEGER w_DECIMAL w_CHAR w_VARCHAR w_BOOLEAN w_INTERVAL w_DOUBLE w_BIGINT w_DATE : Addr) (h0 : Heap) (n0 : Nat) (v : Option Value) (h : Heap) (L : List Loc) : Prop := v = none ∧ Fr n0 L ∧ Keep h0 h [a1] ∧ Exa Z h a1 "com/example/cairn/cairn/types/DataType" ∧ Fld Z h a1 "com/example/cairn/cairn/types/DataType" "kind" "Lcom/example/cairn/cairn/types/DataType$Kind;" (.ref w_DOUBLE)
theorem ef_init8 (m : MethodId) (x0 : Addr) (x1 : Addr) (x2 : Int32) (x3 : Int32) : entryFrame m #[(.ref x0), (.ref x1), (.int x2), (.int x3)] 5 = mkF m 0 #[.val (.ref x0), .val (.ref x1), .val (.int x2), .val (.int x3), .unset] [] := by first | (simp [entryFrame, mkF, argsToLocals, Value.category]; done) | rfl
set_option maxRecDepth 65536 in
set_option maxHeartbeats 40000000 in
theorem rm_init8 (l : Launch) (Z : State) (a0 : Array Value) (hw : ∀ d ∈ tables_1, d.before a0 Z = true) (ws : List Jvm.Cond) (a1 : Addr) (h0 : Heap) (n0 : Nat) (w_INTEGER w_DECIMAL w_CHAR w_VARCHAR w_BOOLEAN w_INTERVAL w_DOUBLE w_BIGINT w_DATE : Addr) (hK : own_K Z h0 w_INTEGER w_DECIMAL w_CHAR w_VARCHAR w_BOOLEAN w_INTERVAL w_DOUBLE w_BIGINT w_DATE) (F_kind : Fld Z h0 a1 "com/example/cairn/cairn/types/DataType" "kind" "Lcom/example/cairn/cairn/types/DataType$Kind;" .null) (F_precision : Fld Z h0 a1 "com/example/cairn/cairn/types/DataType" "precision" "I" (.int (0 : Int32))) (F_scale : Fld Z h0 a1 "com/example/cairn/cairn/types/DataType" "scale" "I" (.int (0 : Int32))) (E_a1 : Exa Z h0 a1 "com/example/cairn/cairn/types/DataType") (g_a1 : n0 ≤ a1) :
    MetFree l (⟨"com/example/cairn/cairn/types/DataType", "<init>", "(Lcom/example/cairn/cairn/types/DataType$Kind;II)V"⟩ : MethodName) (head1 (Jvm.Cond.code (⟨"com/example/cairn/cairn/types/DataType", "<init>", "(Lcom/example/cairn/cairn/types/DataType$Kind;II)V"⟩ : MethodName) prog_163_method_1_code 5 none :: ws) ({ frames := 2, cells := 0, slots := 0, locals := 24 } : Room)) (fun a U => a = #[(.ref a1), (.ref w_DOUBLE), (.int (0 : Int32)), (.int (0 : Int32))] ∧ Z.Warmed39 U.vm ∧ U.heap = h0) (fun _ _ _ _ _ => True) (fun _ U o U' => ∃ v L, o = .returned v ∧ own_Q_init8 Z a1 w_INTEGER w_DECIMAL w_CHAR w_VARCHAR w_BOOLEAN w_INTERVAL w_DOUBLE w_BIGINT w_DATE h0 n0 v U'.heap L ∧ FrameEnd U o U' L ({ frames := 2, cells := 0, slots := 0, locals := 24 } : Room).cells ({ frames := 2, cells := 0, slots := 0, locals := 24 } : Room).slots) := by
  refine MetFree.of_bodySF (plainFor_of_name pn_2) hisR ?_
  intro p e s m args below meth c s₁ Bd hml0 hP hK0
  obtain ⟨rfl, hZ, hh⟩ := hP
  have hx := Bd.exec
  have hby := Bd.bytes
  have hml : c.maxLocals = 5 := hml0
  have hown : s.vm.findClass "com/example/cairn/cairn/types/DataType" = some m.cls := findClass_of_methodNamed Bd.named
  have hnm := (name_of_methodNamed Bd.named Bd.method).1
  have X0 : Stand p l e ({ frames := 2, cells := 0, slots := 0, locals := 24 } : Room) s m #[(.ref a1), (.ref w_DOUBLE), (.int (0 : Int32)), (.int (0 : Int32))] below meth c s₁ [] 0 0 := Stand.of_body Bd
  have e0 : s₁.heap = h0 := by rw [← hh, Bd.state]; rfl
  have N0 := Fr.nil n0
  have pre0 : ∀ t, Steps p.tables e below (s₁.setTop (mkF m 0 #[.val (.ref a1), .val (.ref w_DOUBLE), .val (.int (0 : Int32)), .val (.int (0 : Int32)), .unset] [])) t → Steps p.tables e below (s₁.setTop (entryFrame m #[(.ref a1), (.ref w_DOUBLE), (.int (0 : Int32)), (.int (0 : Int32))] 5)) t := fun t k => castTop (ef_init8 m a1 w_DOUBLE ((0 : Int32)) ((0 : Int32))) k
  have hK' := hK
  obtain ⟨S_w_INTEGER, E_w_INTEGER, S_w_DECIMAL, E_w_DECIMAL, F_ordinal_w_INTEGER, F_ordinal_w_DECIMAL, S_w_CHAR, E_w_CHAR, F_ordinal_w_CHAR, S_w_VARCHAR, E_w_VARCHAR, F_ordinal_w_VARCHAR, S_w_BOOLEAN, E_w_BOOLEAN, F_ordinal_w_BOOLEAN, S_w_INTERVAL, E_w_INTERVAL, F_ordinal_w_INTERVAL, S_w_DOUBLE, E_w_DOUBLE, F_ordinal_w_DOUBLE, S_w_BIGINT, E_w_BIGINT, F_ordinal_w_BIGINT, S_w_DATE, E_w_DATE, F_ordinal_w_DATE⟩ := hK'
  obtain ⟨v1, _, ⟨T1, L1, k1, n1⟩, -, X1, ⟨Lc1, hQ1, l1, y1, z1⟩, st1⟩ := X0.specialBack hx (y := (⟨"java/lang/Record", "<init>", "()V"⟩ : MethodName)) rfl hown (mvT hZ (hw _ (ow 14 rfl))) (mvT hZ (hw _ (ow 15 rfl))) (mvT hZ (hw _ (ow 18 rfl))) (by decide) (backOf (W := 0) (rm_record l Z a0 hw [] a1 h0 n0) hZ (hw _ (ow 18 rfl)) (hw _ (ow 17 rfl)) (by decide) (by decide)) (g := (mkF m 1 #[.val (.ref a1), .val (.ref w_DOUBLE), .val (.int (0 : Int32)), .val (.int (0 : Int32)), .unset] [(.ref a1)])) rfl (by rw [hml]; rfl) (Steps.refl _) (a := a1) (argsL := []) (rest := []) (lenOf pd_0 rfl) rfl (Nat.le_of_eq rfl) (hb hby d_prog_163_method_1_1) (fun _ _ => ⟨rfl, e0, (by decide : 0 + 0 ≤ _), (by decide : 0 + 0 ≤ _)⟩)
  dsimp only [Pt.U, Pt.locs, Pt.cells, Pt.slots] at X1 l1 y1 z1 st1 hQ1
  subst l1 y1 z1
  obtain ⟨hv1, Nq1, e1⟩ := hQ1
  obtain rfl : v1 = none := hv1
  have N1 := Fr.app N0 Nq1
  obtain ⟨T2, X2, e2, st2⟩ := getS2 X1 hx hZ hown (host := "") (Or.inl (hw _ (ow 22 rfl))) Via.refl e1 S_w_DECIMAL (g := (mkF m 5 #[.val (.ref a1), .val (.ref w_DOUBLE), .val (.int (0 : Int32)), .val (.int (0 : Int32)), .unset] [(.ref w_DOUBLE)])) rfl (hb hby d_prog_163_method_1_5)
  obtain ⟨T3, X3, e3, st3⟩ := getS2 X2 hx hZ hown (host := "") (Or.inl (hw _ (ow 24 rfl))) Via.refl e2 S_w_CHAR (g := (mkF m 12 #[.val (.ref a1), .val (.ref w_DOUBLE), .val (.int (0 : Int32)), .val (.int (0 : Int32)), .unset] [(.ref w_DOUBLE)])) rfl (hb hby d_prog_163_method_1_12)
  obtain ⟨T4, X4, e4, st4⟩ := getS2 X3 hx hZ hown (host := "") (Or.inl (hw _ (ow 26 rfl))) Via.refl e3 S_w_VARCHAR (g := (mkF m 19 #[.val (.ref a1), .val (.ref w_DOUBLE), .val (.int (0 : Int32)), .val (.int (0 : Int32)), .unset] [(.ref w_DOUBLE)])) rfl (hb hby d_prog_163_method_1_19)
  obtain ⟨T5, X5, e5, st5⟩ := getS2 X4 hx hZ hown (host := "") (Or.inl (hw _ (ow 22 rfl))) Via.refl e4 S_w_DECIMAL (g := (mkF m 68 #[.val (.ref a1), .val (.ref w_DOUBLE), .val (.int (0 : Int32)), .val (.int (0 : Int32)), .val (.int (0 : Int32))] [(.ref w_DOUBLE)])) rfl (hb hby d_prog_163_method_1_68)
  obtain ⟨T6, h6, X6, e6, W6, st6⟩ := putF X5 hx hZ hown (host := "") (Or.inl (hw _ (ow 28 rfl))) Via.refl e5 F_kind E_a1 (Or.inr ⟨(hw _ (ow 29 rfl)), rfl, hnm⟩) (hw _ (ow 9 rfl)) (ty := (.object "com/example/cairn/cairn/types/DataType$Kind")) (by decide) rfl rfl (g := (mkF m 113 #[.val (.ref a1), .val (.ref w_DOUBLE), .val (.int (0 : Int32)), .val (.int (0 : Int32)), .val (.int (0 : Int32))] [(.ref w_DOUBLE), (.ref a1)])) rfl rfl (hb hby d_prog_163_method_1_113)
  have Fw6 := F_kind.same W6
  have Ew6 := E_a1.wr W6
  have K6 : Keep h0 h6 [a1] := (Keep.refl h0 [a1]).wr W6 (Or.inl (List.mem_of_getElem? (i := 0) rfl))
  have N6 := Fr.snoc X6 N1 g_a1
  have F6_precision := F_precision.other W6 (Or.inr (slot_ne (Or.inr (hw _ (ow 31 rfl))) (Or.inr (hw _ (ow 29 rfl))) (by decide) (t := .int) (t' := (.object "com/example/cairn/cairn/types/DataType$Kind")) (by decide) (by decide)))
  have F6_scale := F_scale.other W6 (Or.inr (slot_ne (Or.inr (hw _ (ow 33 rfl))) (Or.inr (hw _ (ow 29 rfl))) (by decide) (t := .int) (t' := (.object "com/example/cairn/cairn/types/DataType$Kind")) (by decide) (by decide)))
  obtain ⟨T7, h7, X7, e7, W7, st7⟩ := putF X6 hx hZ hown (host := "") (Or.inl (hw _ (ow 30 rfl))) Via.refl e6 F6_precision Ew6 (Or.inr ⟨(hw _ (ow 31 rfl)), rfl, hnm⟩) (hw _ (ow 9 rfl)) (ty := .int) (by decide) rfl rfl (g := (mkF m 118 #[.val (.ref a1), .val (.ref w_DOUBLE), .val (.int (0 : Int32)), .val (.int (0 : Int32)), .val (.int (0 : Int32))] [(.int (0 : Int32)), (.ref a1)])) rfl rfl (hb hby d_prog_163_method_1_118)
  have Fw7 := F6_precision.same W7
  have Ew7 := Ew6.wr W7
  have K7 : Keep h0 h7 [a1] := K6.wr W7 (Or.inl (List.mem_of_getElem? (i := 0) rfl))
  have N7 := Fr.snoc X7 N6 g_a1
  have F7_kind := Fw6.other W7 (Or.inr (slot_ne (Or.inr (hw _ (ow 29 rfl))) (Or.inr (hw _ (ow 31 rfl))) (by decide) (t := (.object "com/example/cairn/cairn/types/DataType$Kind")) (t' := .int) (by decide) (by decide)))
  have F7_scale := F6_scale.other W7 (Or.inr (slot_ne (Or.inr (hw _ (ow 33 rfl))) (Or.inr (hw _ (ow 31 rfl))) (by decide) (t := .int) (t' := .int) (by decide) (by decide)))
  obtain ⟨T8, h8, X8, e8, W8, st8⟩ := putF X7 hx hZ hown (host := "") (Or.inl (hw _ (ow 32 rfl))) Via.refl e7 F7_scale Ew7 (Or.inr ⟨(hw _ (ow 33 rfl)), rfl, hnm⟩) (hw _ (ow 9 rfl)) (ty := .int) (by decide) rfl rfl (g := (mkF m 123 #[.val (.ref a1), .val (.ref w_DOUBLE), .val (.int (0 : Int32)), .val (.int (0 : Int32)), .val (.int (0 : Int32))] [(.int (0 : Int32)), (.ref a1)])) rfl rfl (hb hby d_prog_163_method_1_123)
  have Fw8 := F7_scale.same W8
  have Ew8 := Ew7.wr W8
  have K8 : Keep h0 h8 [a1] := K7.wr W8 (Or.inl (List.mem_of_getElem? (i := 0) rfl))
  have N8 := Fr.snoc X8 N7 g_a1
  have F8_kind := F7_kind.other W8 (Or.inr (slot_ne (Or.inr (hw _ (ow 29 rfl))) (Or.inr (hw _ (ow 33 rfl))) (by decide) (t := (.object "com/example/cairn/cairn/types/DataType$Kind")) (t' := .int) (by decide) (by decide)))
  have F8_precision := Fw7.other W8 (Or.inr (slot_ne (Or.inr (hw _ (ow 31 rfl))) (Or.inr (hw _ (ow 33 rfl))) (by decide) (t := .int) (t' := .int) (by decide) (by decide)))
  have pre9 : ∀ t, Steps p.tables e below (T8.setTop (mkF m 126 #[.val (.ref a1), .val (.ref w_DOUBLE), .val (.int (0 : Int32)), .val (.int (0 : Int32)), .val (.int (0 : Int32))] [])) t → Steps p.tables e below (s₁.setTop (entryFrame m #[(.ref a1), (.ref w_DOUBLE), (.int (0 : Int32)), (.int (0 : Int32))] 5)) t := fun t k => pre0 t (by
    show Steps p.tables e below (s₁.setTop (mkF m 0 #[.val (.ref a1), .val (.ref w_DOUBLE), .val (.int (0 : Int32)), .val (.int (0 : Int32)), .unset] [])) _
    refine XS.aloadN X0.here hx rfl (hb hby d_prog_163_method_1_0) rfl rfl ?_
    show Steps p.tables e below (s₁.setTop (mkF m 1 #[.val (.ref a1), .val (.ref w_DOUBLE), .val (.int (0 : Int32)), .val (.int (0 : Int32)), .unset] [(.ref a1)])) _
    refine st1.trans ?_
    show Steps p.tables e below (T1.setTop (mkF m 4 #[.val (.ref a1), .val (.ref w_DOUBLE), .val (.int (0 : Int32)), .val (.int (0 : Int32)), .unset] [])) _
    refine XS.aloadN X1.here hx rfl (hb hby d_prog_163_method_1_4) rfl rfl ?_
    show Steps p.tables e below (T1.setTop (mkF m 5 #[.val (.ref a1), .val (.ref w_DOUBLE), .val (.int (0 : Int32)), .val (.int (0 : Int32)), .unset] [(.ref w_DOUBLE)])) _
    refine st2 _ ?_
    show Steps p.tables e below (T2.setTop (mkF m 8 #[.val (.ref a1), .val (.ref w_DOUBLE), .val (.int (0 : Int32)), .val (.int (0 : Int32)), .unset] [(.ref w_DECIMAL), (.ref w_DOUBLE)])) _
    refine Jvm.RoadKit.acmp (g := (mkF m 8 #[.val (.ref a1), .val (.ref w_DOUBLE), .val (.int (0 : Int32)), .val (.int (0 : Int32)), .unset] [(.ref w_DECIMAL), (.ref w_DOUBLE)])) X2 hx rfl rfl rfl (pc0 := 8) (pc' := 11) (same := false) rfl (hb hby d_prog_163_method_1_8) rfl (decide_eq_false fun q => (Fld.ne F_ordinal_w_DOUBLE F_ordinal_w_DECIMAL (by decide)) (Value.ref.inj q)) (by decide) (by decide) ?_
    show Steps p.tables e below (T2.setTop (mkF m 11 #[.val (.ref a1), .val (.ref w_DOUBLE), .val (.int (0 : Int32)), .val (.int (0 : Int32)), .unset] [])) _
    refine XS.aloadN X2.here hx rfl (hb hby d_prog_163_method_1_11) rfl rfl ?_
    show Steps p.tables e below (T2.setTop (mkF m 12 #[.val (.ref a1), .val (.ref w_DOUBLE), .val (.int (0 : Int32)), .val (.int (0 : Int32)), .unset] [(.ref w_DOUBLE)])) _
    refine st3 _ ?_
    show Steps p.tables e below (T3.setTop (mkF m 15 #[.val (.ref a1), .val (.ref w_DOUBLE), .val (.int (0 : Int32)), .val (.int (0 : Int32)), .unset] [(.ref w_CHAR), (.ref w_DOUBLE)])) _
    refine Jvm.RoadKit.acmp (g := (mkF m 15 #[.val (.ref a1), .val (.ref w_DOUBLE), .val (.int (0 : Int32)), .val (.int (0 : Int32)), .unset] [(.ref w_CHAR), (.ref w_DOUBLE)])) X3 hx rfl rfl rfl (pc0 := 15) (pc' := 18) (same := false) rfl (hb hby d_prog_163_method_1_15) rfl (decide_eq_false fun q => (Fld.ne F_ordinal_w_DOUBLE F_ordinal_w_CHAR (by decide)) (Value.ref.inj q)) (by decide) (by decide) ?_
    show Steps p.tables e below (T3.setTop (mkF m 18 #[.val (.ref a1), .val (.ref w_DOUBLE), .val (.int (0 : Int32)), .val (.int (0 : Int32)), .unset] [])) _
    refine XS.aloadN X3.here hx rfl (hb hby d_prog_163_method_1_18) rfl rfl ?_
    show Steps p.tables e below (T3.setTop (mkF m 19 #[.val (.ref a1), .val (.ref w_DOUBLE), .val (.int (0 : Int32)), .val (.int (0 : Int32)), .unset] [(.ref w_DOUBLE)])) _
    refine st4 _ ?_
    show Steps p.tables e below (T4.setTop (mkF m 22 #[.val (.ref a1), .val (.ref w_DOUBLE), .val (.int (0 : Int32)), .val (.int (0 : Int32)), .unset] [(.ref w_VARCHAR), (.ref w_DOUBLE)])) _
    refine Jvm.RoadKit.acmp (g := (mkF m 22 #[.val (.ref a1), .val (.ref w_DOUBLE), .val (.int (0 : Int32)), .val (.int (0 : Int32)), .unset] [(.ref w_VARCHAR), (.ref w_DOUBLE)])) X4 hx rfl rfl rfl (pc0 := 22) (pc' := 29) (same := false) rfl (hb hby d_prog_163_method_1_22) rfl (decide_eq_false fun q => (Fld.ne F_ordinal_w_DOUBLE F_ordinal_w_VARCHAR (by decide)) (Value.ref.inj q)) (by decide) (by decide) ?_
    show Steps p.tables e below (T4.setTop (mkF m 29 #[.val (.ref a1), .val (.ref w_DOUBLE), .val (.int (0 : Int32)), .val (.int (0 : Int32)), .unset] [])) _
    refine XS.iconst X4.here hx rfl (hb hby d_prog_163_method_1_29) ?_
    show Steps p.tables e below (T4.setTop (mkF m 30 #[.val (.ref a1), .val (.ref w_DOUBLE), .val (.int (0 : Int32)), .val (.int (0 : Int32)), .unset] [(.int (0 : Int32))])) _
    refine XS.istore X4.here hx rfl (hb hby d_prog_163_method_1_30) rfl (l' := #[.val (.ref a1), .val (.ref w_DOUBLE), .val (.int (0 : Int32)), .val (.int (0 : Int32)), .val (.int (0 : Int32))]) rfl ?_
    show Steps p.tables e below (T4.setTop (mkF m 32 #[.val (.ref a1), .val (.ref w_DOUBLE), .val (.int (0 : Int32)), .val (.int (0 : Int32)), .val (.int (0 : Int32))] [])) _
    refine XS.iload X4.here hx rfl (hb hby d_prog_163_method_1_32) rfl ?_
    show Steps p.tables e below (T4.setTop (mkF m 34 #[.val (.ref a1), .val (.ref w_DOUBLE), .val (.int (0 : Int32)), .val (.int (0 : Int32)), .val (.int (0 : Int32))] [(.int (0 : Int32))])) _
    refine XS.ifYes X4.here hx rfl (pc0 := 34) (pc' := 45) rfl (hb hby d_prog_163_method_1_34) rfl ((if0 _ _).trans (teq (by decide)).1) (by decide) (by decide) ?_
    show Steps p.tables e below (T4.setTop (mkF m 45 #[.val (.ref a1), .val (.ref w_DOUBLE), .val (.int (0 : Int32)), .val (.int (0 : Int32)), .val (.int (0 : Int32))] [])) _
    refine XS.iloadN X4.here hx rfl (hb hby d_prog_163_method_1_45) rfl ?_
    show Steps p.tables e below (T4.setTop (mkF m 46 #[.val (.ref a1), .val (.ref w_DOUBLE), .val (.int (0 : Int32)), .val (.int (0 : Int32)), .val (.int (0 : Int32))] [(.int (0 : Int32))])) _
    refine XS.ifYes X4.here hx rfl (pc0 := 46) (pc' := 67) rfl (hb hby d_prog_163_method_1_46) rfl ((if0 _ _).trans (teq (by decide)).1) (by decide) (by decide) ?_
    show Steps p.tables e below (T4.setTop (mkF m 67 #[.val (.ref a1), .val (.ref w_DOUBLE), .val (.int (0 : Int32)), .val (.int (0 : Int32)), .val (.int (0 : Int32))] [])) _
    refine XS.aloadN X4.here hx rfl (hb hby d_prog_163_method_1_67) rfl rfl ?_
    show Steps p.tables e below (T4.setTop (mkF m 68 #[.val (.ref a1), .val (.ref w_DOUBLE), .val (.int (0 : Int32)), .val (.int (0 : Int32)), .val (.int (0 : Int32))] [(.ref w_DOUBLE)])) _
    refine st5 _ ?_
    show Steps p.tables e below (T5.setTop (mkF m 71 #[.val (.ref a1), .val (.ref w_DOUBLE), .val (.int (0 : Int32)), .val (.int (0 : Int32)), .val (.int (0 : Int32))] [(.ref w_DECIMAL), (.ref w_DOUBLE)])) _
    refine Jvm.RoadKit.acmp (g := (mkF m 71 #[.val (.ref a1), .val (.ref w_DOUBLE), .val (.int (0 : Int32)), .val (.int (0 : Int32)), .val (.int (0 : Int32))] [(.ref w_DECIMAL), (.ref w_DOUBLE)])) X5 hx rfl rfl rfl (pc0 := 71) (pc' := 92) (same := false) rfl (hb hby d_prog_163_method_1_71) rfl (decide_eq_false fun q => (Fld.ne F_ordinal_w_DOUBLE F_ordinal_w_DECIMAL (by decide)) (Value.ref.inj q)) (by decide) (by decide) ?_
    show Steps p.tables e below (T5.setTop (mkF m 92 #[.val (.ref a1), .val (.ref w_DOUBLE), .val (.int (0 : Int32)), .val (.int (0 : Int32)), .val (.int (0 : Int32))] [])) _
    refine XS.iloadN X5.here hx rfl (hb hby d_prog_163_method_1_92) rfl ?_
    show Steps p.tables e below (T5.setTop (mkF m 93 #[.val (.ref a1), .val (.ref w_DOUBLE), .val (.int (0 : Int32)), .val (.int (0 : Int32)), .val (.int (0 : Int32))] [(.int (0 : Int32))])) _
    refine XS.ifYes X5.here hx rfl (pc0 := 93) (pc' := 111) rfl (hb hby d_prog_163_method_1_93) rfl ((if0 _ _).trans (teq (by decide)).1) (by decide) (by decide) ?_
    show Steps p.tables e below (T5.setTop (mkF m 111 #[.val (.ref a1), .val (.ref w_DOUBLE), .val (.int (0 : Int32)), .val (.int (0 : Int32)), .val (.int (0 : Int32))] [])) _
    refine XS.aloadN X5.here hx rfl (hb hby d_prog_163_method_1_111) rfl rfl ?_
    show Steps p.tables e below (T5.setTop (mkF m 112 #[.val (.ref a1), .val (.ref w_DOUBLE), .val (.int (0 : Int32)), .val (.int (0 : Int32)), .val (.int (0 : Int32))] [(.ref a1)])) _
    refine XS.aloadN X5.here hx rfl (hb hby d_prog_163_method_1_112) rfl rfl ?_
    show Steps p.tables e below (T5.setTop (mkF m 113 #[.val (.ref a1), .val (.ref w_DOUBLE), .val (.int (0 : Int32)), .val (.int (0 : Int32)), .val (.int (0 : Int32))] [(.ref w_DOUBLE), (.ref a1)])) _
    refine st6 _ ?_
    show Steps p.tables e below (T6.setTop (mkF m 116 #[.val (.ref a1), .val (.ref w_DOUBLE), .val (.int (0 : Int32)), .val (.int (0 : Int32)), .val (.int (0 : Int32))] [])) _
    refine XS.aloadN X6.here hx rfl (hb hby d_prog_163_method_1_116) rfl rfl ?_
    show Steps p.tables e below (T6.setTop (mkF m 117 #[.val (.ref a1), .val (.ref w_DOUBLE), .val (.int (0 : Int32)), .val (.int (0 : Int32)), .val (.int (0 : Int32))] [(.ref a1)])) _
    refine XS.iloadN X6.here hx rfl (hb hby d_prog_163_method_1_117) rfl ?_
    show Steps p.tables e below (T6.setTop (mkF m 118 #[.val (.ref a1), .val (.ref w_DOUBLE), .val (.int (0 : Int32)), .val (.int (0 : Int32)), .val (.int (0 : Int32))] [(.int (0 : Int32)), (.ref a1)])) _
    refine st7 _ ?_
    show Steps p.tables e below (T7.setTop (mkF m 121 #[.val (.ref a1), .val (.ref w_DOUBLE), .val (.int (0 : Int32)), .val (.int (0 : Int32)), .val (.int (0 : Int32))] [])) _
    refine XS.aloadN X7.here hx rfl (hb hby d_prog_163_method_1_121) rfl rfl ?_
    show Steps p.tables e below (T7.setTop (mkF m 122 #[.val (.ref a1), .val (.ref w_DOUBLE), .val (.int (0 : Int32)), .val (.int (0 : Int32)), .val (.int (0 : Int32))] [(.ref a1)])) _
    refine XS.iloadN X7.here hx rfl (hb hby d_prog_163_method_1_122) rfl ?_
    show Steps p.tables e below (T7.setTop (mkF m 123 #[.val (.ref a1), .val (.ref w_DOUBLE), .val (.int (0 : Int32)), .val (.int (0 : Int32)), .val (.int (0 : Int32))] [(.int (0 : Int32)), (.ref a1)])) _
    refine st8 _ ?_
    exact k)
  obtain ⟨fs, hr, hrun, hended, hW, hsame⟩ := X8.leave (v := none) (fun _ => rfl)
  refine ⟨_, _, pre9 _ ?_, hrun, hended, _, _, rfl, ?_, ⟨_, rfl⟩, hW, hsame.mono (by decide) (by decide)⟩
  · show Steps p.tables e below (T8.setTop (mkF m 126 #[.val (.ref a1), .val (.ref w_DOUBLE), .val (.int (0 : Int32)), .val (.int (0 : Int32)), .val (.int (0 : Int32))] [])) _
    exact X8.returnOut hx Bd.returns (hb hby d_prog_163_method_1_126) hr
  · exact ⟨rfl, N8, by rw [show (T8.setFrames fs).heap = _ from e8]; exact ⟨K8, Ew8, F8_kind⟩⟩
theorem ef_law8 (m : MethodId) (x0 : Int32) (x1 : Int32) (x2 : Int32) : entryFrame m #[(.int x0), (.int x1), (.int x2)] maxLocals = mkF m 0 #[.val (.int x0), .val (.int x1), .val (.int x2), .unset, .unset, .unset, .unset, .unset, .unset] [] := by first | (simp [entryFrame, mkF, argsToLocals, Value.category, maxLocals]; done) | rfl
set_option maxRecDepth 65536 in
set_option maxHeartbeats 40000000 in
theorem rm_law8 (l : Launch) (Z : State) (a0 : Array Value) (hw : ∀ d ∈ tables_1, d.before a0 Z = true) (ws : List Jvm.Cond) (p1 : Int32) (p2 : Int32) (p3 : Int32) (h0 : Heap) (n0 : Nat) (Z0 : n0 ≤ h0.size) (w_INTEGER w_DECIMAL w_CHAR w_VARCHAR w_BOOLEAN w_INTERVAL w_DOUBLE w_BIGINT w_DATE : Addr) (hK : own_K Z h0 w_INTEGER w_DECIMAL w_CHAR w_VARCHAR w_BOOLEAN w_INTERVAL w_DOUBLE w_BIGINT w_DATE) (hk : ((p1 &&& (2147483647 : Int32)) % (9 : Int32)) = (8 : Int32)) :
    MetFree l x (head1 (Jvm.Cond.code x code maxLocals ret :: ws) room_1) (fun a U => a = #[(.int p1), (.int p2), (.int p3)] ∧ Z.Warmed39 U.vm ∧ U.heap = h0) (fun _ _ _ _ _ => True) (fun _ U o U' => ∃ v L, o = .returned v ∧ own_QH (some (.int (1 : Int32))) n0 v U'.heap L ∧ FrameEnd U o U' L room_1.cells room_1.slots) := by
  refine MetFree.of_bodySF (plainFor_of_name pn_0) hisR ?_
  intro p e s m args below meth c s₁ Bd hml0 hP hK0
  obtain ⟨rfl, hZ, hh⟩ := hP
  have hx := Bd.exec
  have hby := Bd.bytes
  have hml : c.maxLocals = 9 := hml0
  have hown : s.vm.findClass "com/example/cairn/cairn/types/DataTypeIsStorablePinLaw" = some m.cls := findClass_of_methodNamed Bd.named
  have hnm := (name_of_methodNamed Bd.named Bd.method).1
  have X0 : Stand p l e room_1 s m #[(.int p1), (.int p2), (.int p3)] below meth c s₁ [] 0 0 := Stand.of_body Bd
  have e0 : s₁.heap = h0 := by rw [← hh, Bd.state]; rfl
  have N0 := Fr.nil n0
  have pre0 : ∀ t, Steps p.tables e below (s₁.setTop (mkF m 0 #[.val (.int p1), .val (.int p2), .val (.int p3), .unset, .unset, .unset, .unset, .unset, .unset] [])) t → Steps p.tables e below (s₁.setTop (entryFrame m #[(.int p1), (.int p2), (.int p3)] maxLocals)) t := fun t k => castTop (ef_law8 m p1 p2 p3) k
  have hK' := hK
  obtain ⟨S_w_INTEGER, E_w_INTEGER, S_w_DECIMAL, E_w_DECIMAL, F_ordinal_w_INTEGER, F_ordinal_w_DECIMAL, S_w_CHAR, E_w_CHAR, F_ordinal_w_CHAR, S_w_VARCHAR, E_w_VARCHAR, F_ordinal_w_VARCHAR, S_w_BOOLEAN, E_w_BOOLEAN, F_ordinal_w_BOOLEAN, S_w_INTERVAL, E_w_INTERVAL, F_ordinal_w_INTERVAL, S_w_DOUBLE, E_w_DOUBLE, F_ordinal_w_DOUBLE, S_w_BIGINT, E_w_BIGINT, F_ordinal_w_BIGINT, S_w_DATE, E_w_DATE, F_ordinal_w_DATE⟩ := hK'
  obtain ⟨v1, _, ⟨T1, L1, k1, n1⟩, -, X1, ⟨Lc1, hQ1, l1, y1, z1⟩, st1⟩ := Jvm.LawKit.callS X0 hx (y := (⟨"com/example/cairn/cairn/types/DataTypeIsStorablePinLaw", "pick", "(I)Lcom/example/cairn/cairn/types/DataType$Kind;"⟩ : MethodName)) hown (mvT hZ (hw _ (ow 1 rfl))) (mvT hZ (hw _ (ow 2 rfl))) (mvT hZ (hw _ (ow 3 rfl))) (mvT hZ (hw _ (ow 4 rfl))) (by decide) (backOf (W := 0) (rm_pick l Z a0 hw [] (8 : Int32) h0 n0 w_INTEGER w_DECIMAL w_CHAR w_VARCHAR w_BOOLEAN w_INTERVAL w_DOUBLE w_BIGINT w_DATE hK) hZ (hw _ (ow 4 rfl)) (hw _ (ow 3 rfl)) (by decide) (by decide)) (g := (mkF m 9 #[.val (.int p1), .val (.int p2), .val (.int p3), .val (.int (8 : Int32)), .unset, .unset, .unset, .unset, .unset] [(.int (8 : Int32))])) rfl (by rw [hml]; rfl) (argsL := [(.int (8 : Int32))]) (rest := []) (lenOf pd_1 rfl) rfl (Nat.le_of_eq rfl) (hb hby at_9) (fun _ _ => ⟨rfl, e0, (by decide : 0 + 0 ≤ _), (by decide : 0 + 0 ≤ _)⟩)
  dsimp only [Pt.U, Pt.locs, Pt.cells, Pt.slots] at X1 l1 y1 z1 st1 hQ1
  subst l1 y1 z1
  obtain ⟨hv1, Nq1, e1⟩ := hQ1
  obtain rfl : v1 = some (.ref w_DOUBLE) := hv1.trans (congrArg some (congrArg Value.ref ((if_neg (by decide)).trans ((if_neg (by decide)).trans ((if_neg (by decide)).trans ((if_neg (by decide)).trans ((if_neg (by decide)).trans ((if_neg (by decide)).trans ((if_neg (by decide)).trans (if_neg (by decide)))))))))))
  have N1 := Fr.app N0 Nq1
  obtain ⟨T2, h2, X2, e2, Eq2, A2, D2, -, st2⟩ := newO X1 hx hZ hown (hw _ (ow 8 rfl)) (hw _ (ow 9 rfl)) (hw _ (ow 10 rfl)) e1 (g := (mkF m 70 #[.val (.int p1), .val (.int p2), .val (.int p3), .val (.int (8 : Int32)), .val (.ref w_DOUBLE), .val (.int (0 : Int32)), .val (.int (0 : Int32)), .unset, .unset] [])) rfl (hb hby at_70) (by decide) (by decide)
  obtain ⟨b2, gb2⟩ : ∃ z, z = h0.size := ⟨_, rfl⟩
  rw [← gb2] at A2 D2 st2
  have F2_kind : Fld Z h2 b2 "com/example/cairn/cairn/types/DataType" "kind" "Lcom/example/cairn/cairn/types/DataType$Kind;" .null := D2 (Or.inr (hw _ (ow 29 rfl))) (ty := (.object "com/example/cairn/cairn/types/DataType$Kind")) (by decide)
  have F2_precision : Fld Z h2 b2 "com/example/cairn/cairn/types/DataType" "precision" "I" (.int (0 : Int32)) := D2 (Or.inr (hw _ (ow 31 rfl))) (ty := .int) (by decide)
  have F2_scale : Fld Z h2 b2 "com/example/cairn/cairn/types/DataType" "scale" "I" (.int (0 : Int32)) := D2 (Or.inr (hw _ (ow 33 rfl))) (ty := .int) (by decide)
  have sz_b2 : h0.size ≤ b2 := Nat.le_of_eq gb2.symm
  have g_b2 : n0 ≤ b2 := Nat.le_trans Z0 sz_b2
  have EX2 : Ext h0 h2 := Eq2
  obtain ⟨v3, _, ⟨T3, L3, k3, n3⟩, -, X3, ⟨Lc3, hQ3, l3, y3, z3⟩, st3⟩ := X2.specialBack hx (y := (⟨"com/example/cairn/cairn/types/DataType", "<init>", "(Lcom/example/cairn/cairn/types/DataType$Kind;II)V"⟩ : MethodName)) rfl hown (mvT hZ (hw _ (ow 11 rfl))) (mvT hZ (hw _ (ow 12 rfl))) (mvT hZ (hw _ (ow 13 rfl))) (by decide) (backOf (W := 1) (rm_init8 l Z a0 hw [] b2 h2 n0 w_INTEGER w_DECIMAL w_CHAR w_VARCHAR w_BOOLEAN w_INTERVAL w_DOUBLE w_BIGINT w_DATE (own_K_ext EX2 hK) F2_kind F2_precision F2_scale A2 g_b2) hZ (hw _ (ow 13 rfl)) (hw _ (ow 10 rfl)) (by decide) (by decide)) (g := (mkF m 80 #[.val (.int p1), .val (.int p2), .val (.int p3), .val (.int (8 : Int32)), .val (.ref w_DOUBLE), .val (.int (0 : Int32)), .val (.int (0 : Int32)), .unset, .unset] [(.int (0 : Int32)), (.int (0 : Int32)), (.ref w_DOUBLE), (.ref b2), (.ref b2)])) rfl (by rw [hml]; rfl) (Steps.refl _) (a := b2) (argsL := [(.ref w_DOUBLE), (.int (0 : Int32)), (.int (0 : Int32))]) (rest := [(.ref b2)]) (lenOf pd_2 rfl) rfl (Nat.le_of_eq rfl) (hb hby at_80) (fun _ _ => ⟨rfl, e2, (by decide : 1 + 0 ≤ _), (by decide : 3 + 0 ≤ _)⟩)
  dsimp only [Pt.U, Pt.locs, Pt.cells, Pt.slots] at X3 l3 y3 z3 st3 hQ3
  subst l3 y3 z3
  obtain ⟨hv3, Nq3, Kq3, Ei3, Fi3⟩ := hQ3
  obtain rfl : v3 = none := hv3
  have N3 := Fr.app N1 Nq3
  have EX3 : Ext h0 T3.heap := own_ext_keep EX2 Kq3 sz_b2
  obtain ⟨cq4, kq4, q4a, q4b, q4c⟩ := isOf hZ (rfl : T3.heap = T3.heap) Ei3
  obtain ⟨v4, _, ⟨T4, L4, k4, n4⟩, -, X4, ⟨Lc4, hQ4, l4, y4, z4⟩, st4⟩ := X3.virtualBack hx (y := (⟨"com/example/cairn/cairn/types/DataType", "isStorable", "()Z"⟩ : MethodName)) (z := (⟨"com/example/cairn/cairn/types/DataType", "isStorable", "()Z"⟩ : MethodName)) hown (mvT hZ (hw _ (ow 34 rfl))) (mvT hZ (hw _ (ow 35 rfl))) (notFace_of_selects (args := #[]) (mvT hZ (hw _ (ow 37 rfl)))) (mvT hZ (hw _ (ow 37 rfl))) (mvT hZ (hw _ (ow 36 rfl))) (by decide) (backOf (W := 0) (rm_isStorable l Z a0 hw [] b2 w_DOUBLE T3.heap n0 w_INTEGER w_DECIMAL w_CHAR w_VARCHAR w_BOOLEAN w_INTERVAL w_DOUBLE w_BIGINT w_DATE (own_K_ext EX3 hK) Fi3) hZ (hw _ (ow 38 rfl)) (hw _ (ow 10 rfl)) (by decide) (by decide)) q4a q4c (g := (mkF m 99 #[.val (.int p1), .val (.int p2), .val (.int p3), .val (.int (8 : Int32)), .val (.ref w_DOUBLE), .val (.int (0 : Int32)), .val (.int (0 : Int32)), .val (.ref b2), .val (.int (0 : Int32))] [(.ref b2)])) rfl (by rw [hml]; rfl) (Steps.refl _) (argsL := []) (rest := []) (lenOf pd_3 rfl) rfl (Nat.le_of_eq rfl) (hb hby at_99) (fun _ _ => ⟨rfl, (rfl : T3.heap = T3.heap), (by decide : 1 + 0 ≤ _), (by decide : 3 + 0 ≤ _)⟩)
  dsimp only [Pt.U, Pt.locs, Pt.cells, Pt.slots] at X4 l4 y4 z4 st4 hQ4
  subst l4 y4 z4
  obtain ⟨hv4, Nq4, e4⟩ := hQ4
  obtain rfl : v4 = some (.int (0 : Int32)) := hv4.trans (congrArg some (congrArg Value.int ((if_neg (Fld.ne F_ordinal_w_DOUBLE F_ordinal_w_BOOLEAN (by decide))).trans ((if_neg (Fld.ne F_ordinal_w_DOUBLE F_ordinal_w_INTERVAL (by decide))).trans (if_pos rfl)))))
  have N4 := Fr.app N3 Nq4
  have pre5 : ∀ t, Steps p.tables e below (T4.setTop (mkF m 112 #[.val (.int p1), .val (.int p2), .val (.int p3), .val (.int (8 : Int32)), .val (.ref w_DOUBLE), .val (.int (0 : Int32)), .val (.int (0 : Int32)), .val (.ref b2), .val (.int (0 : Int32))] [(.int (1 : Int32))])) t → Steps p.tables e below (s₁.setTop (entryFrame m #[(.int p1), (.int p2), (.int p3)] maxLocals)) t := fun t k => pre0 t (by
    show Steps p.tables e below (s₁.setTop (mkF m 0 #[.val (.int p1), .val (.int p2), .val (.int p3), .unset, .unset, .unset, .unset, .unset, .unset] [])) _
    refine XS.iloadN X0.here hx rfl (hb hby at_0) rfl ?_
    show Steps p.tables e below (s₁.setTop (mkF m 1 #[.val (.int p1), .val (.int p2), .val (.int p3), .unset, .unset, .unset, .unset, .unset, .unset] [(.int p1)])) _
    refine X0.ldcInt hx hown (mvT hZ (hw _ (ow 0 rfl))) (g := (mkF m 1 #[.val (.int p1), .val (.int p2), .val (.int p3), .unset, .unset, .unset, .unset, .unset, .unset] [(.int p1)])) rfl (hb hby at_1) _ ?_
    show Steps p.tables e below (s₁.setTop (mkF m 3 #[.val (.int p1), .val (.int p2), .val (.int p3), .unset, .unset, .unset, .unset, .unset, .unset] [(.int (2147483647 : Int32)), (.int p1)])) _
    refine XS.iand X0.here hx rfl (hb hby at_3) rfl ?_
    show Steps p.tables e below (s₁.setTop (mkF m 4 #[.val (.int p1), .val (.int p2), .val (.int p3), .unset, .unset, .unset, .unset, .unset, .unset] [(.int (p1 &&& (2147483647 : Int32)))])) _
    refine XS.bipush X0.here hx rfl (hb hby at_4) ?_
    show Steps p.tables e below (s₁.setTop (mkF m 6 #[.val (.int p1), .val (.int p2), .val (.int p3), .unset, .unset, .unset, .unset, .unset, .unset] [(.int (9 : Int32)), (.int (p1 &&& (2147483647 : Int32)))])) _
    refine iremM X0 hx rfl (hb hby at_6) rfl (by decide) ?_
    show Steps p.tables e below (s₁.setTop (mkF m 7 #[.val (.int p1), .val (.int p2), .val (.int p3), .unset, .unset, .unset, .unset, .unset, .unset] [(.int ((p1 &&& (2147483647 : Int32)) % (9 : Int32)))])) _
    rw [hk]
    show Steps p.tables e below (s₁.setTop (mkF m 7 #[.val (.int p1), .val (.int p2), .val (.int p3), .unset, .unset, .unset, .unset, .unset, .unset] [(.int (8 : Int32))])) _
    refine XS.istoreN X0.here hx rfl (hb hby at_7) rfl (l' := #[.val (.int p1), .val (.int p2), .val (.int p3), .val (.int (8 : Int32)), .unset, .unset, .unset, .unset, .unset]) rfl ?_
    show Steps p.tables e below (s₁.setTop (mkF m 8 #[.val (.int p1), .val (.int p2), .val (.int p3), .val (.int (8 : Int32)), .unset, .unset, .unset, .unset, .unset] [])) _
    refine XS.iloadN X0.here hx rfl (hb hby at_8) rfl ?_
    show Steps p.tables e below (s₁.setTop (mkF m 9 #[.val (.int p1), .val (.int p2), .val (.int p3), .val (.int (8 : Int32)), .unset, .unset, .unset, .unset, .unset] [(.int (8 : Int32))])) _
    refine st1 _ ?_
    show Steps p.tables e below (T1.setTop (mkF m 12 #[.val (.int p1), .val (.int p2), .val (.int p3), .val (.int (8 : Int32)), .unset, .unset, .unset, .unset, .unset] [(.ref w_DOUBLE)])) _
    refine XS.astore X1.here hx rfl (hb hby at_12) rfl rfl (l' := #[.val (.int p1), .val (.int p2), .val (.int p3), .val (.int (8 : Int32)), .val (.ref w_DOUBLE), .unset, .unset, .unset, .unset]) rfl ?_
    show Steps p.tables e below (T1.setTop (mkF m 14 #[.val (.int p1), .val (.int p2), .val (.int p3), .val (.int (8 : Int32)), .val (.ref w_DOUBLE), .unset, .unset, .unset, .unset] [])) _
    refine XS.iconst X1.here hx rfl (hb hby at_14) ?_
    show Steps p.tables e below (T1.setTop (mkF m 15 #[.val (.int p1), .val (.int p2), .val (.int p3), .val (.int (8 : Int32)), .val (.ref w_DOUBLE), .unset, .unset, .unset, .unset] [(.int (0 : Int32))])) _
    refine XS.istore X1.here hx rfl (hb hby at_15) rfl (l' := #[.val (.int p1), .val (.int p2), .val (.int p3), .val (.int (8 : Int32)), .val (.ref w_DOUBLE), .val (.int (0 : Int32)), .unset, .unset, .unset]) rfl ?_
    show Steps p.tables e below (T1.setTop (mkF m 17 #[.val (.int p1), .val (.int p2), .val (.int p3), .val (.int (8 : Int32)), .val (.ref w_DOUBLE), .val (.int (0 : Int32)), .unset, .unset, .unset] [])) _
    refine XS.iconst X1.here hx rfl (hb hby at_17) ?_
    show Steps p.tables e below (T1.setTop (mkF m 18 #[.val (.int p1), .val (.int p2), .val (.int p3), .val (.int (8 : Int32)), .val (.ref w_DOUBLE), .val (.int (0 : Int32)), .unset, .unset, .unset] [(.int (0 : Int32))])) _
    refine XS.istore X1.here hx rfl (hb hby at_18) rfl (l' := #[.val (.int p1), .val (.int p2), .val (.int p3), .val (.int (8 : Int32)), .val (.ref w_DOUBLE), .val (.int (0 : Int32)), .val (.int (0 : Int32)), .unset, .unset]) rfl ?_
    show Steps p.tables e below (T1.setTop (mkF m 20 #[.val (.int p1), .val (.int p2), .val (.int p3), .val (.int (8 : Int32)), .val (.ref w_DOUBLE), .val (.int (0 : Int32)), .val (.int (0 : Int32)), .unset, .unset] [])) _
    refine XS.iloadN X1.here hx rfl (hb hby at_20) rfl ?_
    show Steps p.tables e below (T1.setTop (mkF m 21 #[.val (.int p1), .val (.int p2), .val (.int p3), .val (.int (8 : Int32)), .val (.ref w_DOUBLE), .val (.int (0 : Int32)), .val (.int (0 : Int32)), .unset, .unset] [(.int (8 : Int32))])) _
    refine XS.iconst X1.here hx rfl (hb hby at_21) ?_
    show Steps p.tables e below (T1.setTop (mkF m 22 #[.val (.int p1), .val (.int p2), .val (.int p3), .val (.int (8 : Int32)), .val (.ref w_DOUBLE), .val (.int (0 : Int32)), .val (.int (0 : Int32)), .unset, .unset] [(.int (2 : Int32)), (.int (8 : Int32))])) _
    refine XS.icmpYes X1.here hx rfl (pc0 := 22) (pc' := 50) rfl (hb hby at_22) rfl (feq (by decide)).2 (by decide) (by decide) ?_
    show Steps p.tables e below (T1.setTop (mkF m 50 #[.val (.int p1), .val (.int p2), .val (.int p3), .val (.int (8 : Int32)), .val (.ref w_DOUBLE), .val (.int (0 : Int32)), .val (.int (0 : Int32)), .unset, .unset] [])) _
    refine XS.iloadN X1.here hx rfl (hb hby at_50) rfl ?_
    show Steps p.tables e below (T1.setTop (mkF m 51 #[.val (.int p1), .val (.int p2), .val (.int p3), .val (.int (8 : Int32)), .val (.ref w_DOUBLE), .val (.int (0 : Int32)), .val (.int (0 : Int32)), .unset, .unset] [(.int (8 : Int32))])) _
    refine XS.iconst X1.here hx rfl (hb hby at_51) ?_
    show Steps p.tables e below (T1.setTop (mkF m 52 #[.val (.int p1), .val (.int p2), .val (.int p3), .val (.int (8 : Int32)), .val (.ref w_DOUBLE), .val (.int (0 : Int32)), .val (.int (0 : Int32)), .unset, .unset] [(.int (4 : Int32)), (.int (8 : Int32))])) _
    refine XS.icmpNo X1.here hx rfl (hb hby at_52) rfl (feq (by decide)).1 ?_
    show Steps p.tables e below (T1.setTop (mkF m 55 #[.val (.int p1), .val (.int p2), .val (.int p3), .val (.int (8 : Int32)), .val (.ref w_DOUBLE), .val (.int (0 : Int32)), .val (.int (0 : Int32)), .unset, .unset] [])) _
    refine XS.iloadN X1.here hx rfl (hb hby at_55) rfl ?_
    show Steps p.tables e below (T1.setTop (mkF m 56 #[.val (.int p1), .val (.int p2), .val (.int p3), .val (.int (8 : Int32)), .val (.ref w_DOUBLE), .val (.int (0 : Int32)), .val (.int (0 : Int32)), .unset, .unset] [(.int (8 : Int32))])) _
    refine XS.iconst X1.here hx rfl (hb hby at_56) ?_
    show Steps p.tables e below (T1.setTop (mkF m 57 #[.val (.int p1), .val (.int p2), .val (.int p3), .val (.int (8 : Int32)), .val (.ref w_DOUBLE), .val (.int (0 : Int32)), .val (.int (0 : Int32)), .unset, .unset] [(.int (5 : Int32)), (.int (8 : Int32))])) _
    refine XS.icmpYes X1.here hx rfl (pc0 := 57) (pc' := 70) rfl (hb hby at_57) rfl (feq (by decide)).2 (by decide) (by decide) ?_
    show Steps p.tables e below (T1.setTop (mkF m 70 #[.val (.int p1), .val (.int p2), .val (.int p3), .val (.int (8 : Int32)), .val (.ref w_DOUBLE), .val (.int (0 : Int32)), .val (.int (0 : Int32)), .unset, .unset] [])) _
    refine st2 _ ?_
    show Steps p.tables e below (T2.setTop (mkF m 73 #[.val (.int p1), .val (.int p2), .val (.int p3), .val (.int (8 : Int32)), .val (.ref w_DOUBLE), .val (.int (0 : Int32)), .val (.int (0 : Int32)), .unset, .unset] [(.ref b2)])) _
    refine XS.dup X2.here hx rfl (hb hby at_73) rfl rfl ?_
    show Steps p.tables e below (T2.setTop (mkF m 74 #[.val (.int p1), .val (.int p2), .val (.int p3), .val (.int (8 : Int32)), .val (.ref w_DOUBLE), .val (.int (0 : Int32)), .val (.int (0 : Int32)), .unset, .unset] [(.ref b2), (.ref b2)])) _
    refine XS.aload X2.here hx rfl (hb hby at_74) rfl rfl ?_
    show Steps p.tables e below (T2.setTop (mkF m 76 #[.val (.int p1), .val (.int p2), .val (.int p3), .val (.int (8 : Int32)), .val (.ref w_DOUBLE), .val (.int (0 : Int32)), .val (.int (0 : Int32)), .unset, .unset] [(.ref w_DOUBLE), (.ref b2), (.ref b2)])) _
    refine XS.iload X2.here hx rfl (hb hby at_76) rfl ?_
    show Steps p.tables e below (T2.setTop (mkF m 78 #[.val (.int p1), .val (.int p2), .val (.int p3), .val (.int (8 : Int32)), .val (.ref w_DOUBLE), .val (.int (0 : Int32)), .val (.int (0 : Int32)), .unset, .unset] [(.int (0 : Int32)), (.ref w_DOUBLE), (.ref b2), (.ref b2)])) _
    refine XS.iload X2.here hx rfl (hb hby at_78) rfl ?_
    show Steps p.tables e below (T2.setTop (mkF m 80 #[.val (.int p1), .val (.int p2), .val (.int p3), .val (.int (8 : Int32)), .val (.ref w_DOUBLE), .val (.int (0 : Int32)), .val (.int (0 : Int32)), .unset, .unset] [(.int (0 : Int32)), (.int (0 : Int32)), (.ref w_DOUBLE), (.ref b2), (.ref b2)])) _
    refine st3.trans ?_
    show Steps p.tables e below (T3.setTop (mkF m 83 #[.val (.int p1), .val (.int p2), .val (.int p3), .val (.int (8 : Int32)), .val (.ref w_DOUBLE), .val (.int (0 : Int32)), .val (.int (0 : Int32)), .unset, .unset] [(.ref b2)])) _
    refine XS.astore X3.here hx rfl (hb hby at_83) rfl rfl (l' := #[.val (.int p1), .val (.int p2), .val (.int p3), .val (.int (8 : Int32)), .val (.ref w_DOUBLE), .val (.int (0 : Int32)), .val (.int (0 : Int32)), .val (.ref b2), .unset]) rfl ?_
    show Steps p.tables e below (T3.setTop (mkF m 85 #[.val (.int p1), .val (.int p2), .val (.int p3), .val (.int (8 : Int32)), .val (.ref w_DOUBLE), .val (.int (0 : Int32)), .val (.int (0 : Int32)), .val (.ref b2), .unset] [])) _
    refine XS.iloadN X3.here hx rfl (hb hby at_85) rfl ?_
    show Steps p.tables e below (T3.setTop (mkF m 86 #[.val (.int p1), .val (.int p2), .val (.int p3), .val (.int (8 : Int32)), .val (.ref w_DOUBLE), .val (.int (0 : Int32)), .val (.int (0 : Int32)), .val (.ref b2), .unset] [(.int (8 : Int32))])) _
    refine XS.iconst X3.here hx rfl (hb hby at_86) ?_
    show Steps p.tables e below (T3.setTop (mkF m 87 #[.val (.int p1), .val (.int p2), .val (.int p3), .val (.int (8 : Int32)), .val (.ref w_DOUBLE), .val (.int (0 : Int32)), .val (.int (0 : Int32)), .val (.ref b2), .unset] [(.int (5 : Int32)), (.int (8 : Int32))])) _
    refine XS.icmpYes X3.here hx rfl (pc0 := 87) (pc' := 94) rfl (hb hby at_87) rfl (tlt (by decide)).2.2.1 (by decide) (by decide) ?_
    show Steps p.tables e below (T3.setTop (mkF m 94 #[.val (.int p1), .val (.int p2), .val (.int p3), .val (.int (8 : Int32)), .val (.ref w_DOUBLE), .val (.int (0 : Int32)), .val (.int (0 : Int32)), .val (.ref b2), .unset] [])) _
    refine XS.iconst X3.here hx rfl (hb hby at_94) ?_
    show Steps p.tables e below (T3.setTop (mkF m 95 #[.val (.int p1), .val (.int p2), .val (.int p3), .val (.int (8 : Int32)), .val (.ref w_DOUBLE), .val (.int (0 : Int32)), .val (.int (0 : Int32)), .val (.ref b2), .unset] [(.int (0 : Int32))])) _
    refine XS.istore X3.here hx rfl (hb hby at_95) rfl (l' := #[.val (.int p1), .val (.int p2), .val (.int p3), .val (.int (8 : Int32)), .val (.ref w_DOUBLE), .val (.int (0 : Int32)), .val (.int (0 : Int32)), .val (.ref b2), .val (.int (0 : Int32))]) rfl ?_
    show Steps p.tables e below (T3.setTop (mkF m 97 #[.val (.int p1), .val (.int p2), .val (.int p3), .val (.int (8 : Int32)), .val (.ref w_DOUBLE), .val (.int (0 : Int32)), .val (.int (0 : Int32)), .val (.ref b2), .val (.int (0 : Int32))] [])) _
    refine XS.aload X3.here hx rfl (hb hby at_97) rfl rfl ?_
    show Steps p.tables e below (T3.setTop (mkF m 99 #[.val (.int p1), .val (.int p2), .val (.int p3), .val (.int (8 : Int32)), .val (.ref w_DOUBLE), .val (.int (0 : Int32)), .val (.int (0 : Int32)), .val (.ref b2), .val (.int (0 : Int32))] [(.ref b2)])) _
    refine st4.trans ?_
    show Steps p.tables e below (T4.setTop (mkF m 102 #[.val (.int p1), .val (.int p2), .val (.int p3), .val (.int (8 : Int32)), .val (.ref w_DOUBLE), .val (.int (0 : Int32)), .val (.int (0 : Int32)), .val (.ref b2), .val (.int (0 : Int32))] [(.int (0 : Int32))])) _
    refine XS.iload X4.here hx rfl (hb hby at_102) rfl ?_
    show Steps p.tables e below (T4.setTop (mkF m 104 #[.val (.int p1), .val (.int p2), .val (.int p3), .val (.int (8 : Int32)), .val (.ref w_DOUBLE), .val (.int (0 : Int32)), .val (.int (0 : Int32)), .val (.ref b2), .val (.int (0 : Int32))] [(.int (0 : Int32)), (.int (0 : Int32))])) _
    refine XS.icmpNo X4.here hx rfl (hb hby at_104) rfl (teq (by decide)).2 ?_
    show Steps p.tables e below (T4.setTop (mkF m 107 #[.val (.int p1), .val (.int p2), .val (.int p3), .val (.int (8 : Int32)), .val (.ref w_DOUBLE), .val (.int (0 : Int32)), .val (.int (0 : Int32)), .val (.ref b2), .val (.int (0 : Int32))] [])) _
    refine XS.iconst X4.here hx rfl (hb hby at_107) ?_
    show Steps p.tables e below (T4.setTop (mkF m 108 #[.val (.int p1), .val (.int p2), .val (.int p3), .val (.int (8 : Int32)), .val (.ref w_DOUBLE), .val (.int (0 : Int32)), .val (.int (0 : Int32)), .val (.ref b2), .val (.int (0 : Int32))] [(.int (1 : Int32))])) _
    refine XS.goto X4.here hx rfl (pc0 := 108) (pc' := 112) rfl (hb hby at_108) (by decide) (by decide) ?_
    exact k)
  obtain ⟨fs, hr, hrun, hended, hW, hsame⟩ := X4.leave (v := some (.int (1 : Int32))) (fun h => by rw [Bd.returns] at h; cases h)
  refine ⟨_, _, pre5 _ ?_, hrun, hended, _, _, rfl, ?_, ⟨_, rfl⟩, hW, hsame.mono (by decide) (by decide)⟩
  · show Steps p.tables e below (T4.setTop (mkF m 112 #[.val (.int p1), .val (.int p2), .val (.int p3), .val (.int (8 : Int32)), .val (.ref w_DOUBLE), .val (.int (0 : Int32)), .val (.int (0 : Int32)), .val (.ref b2), .val (.int (0 : Int32))] [(.int (1 : Int32))])) _
    exact retN X4 hx (t := .boolean) Bd.returns (by simp) (hb hby at_112) hr
  · exact ⟨rfl, N4, trivial⟩
theorem own_dec (p2 p3 : Int32) : let z := (1 : Int32) + ((p2 &&& (2147483647 : Int32)) % (38 : Int32)); let y := (p3 &&& (2147483647 : Int32)) % (z + (1 : Int32)); z + (1 : Int32) ≠ 0 ∧ ¬ z < (1 : Int32) ∧ ¬ y < (0 : Int32) ∧ ¬ z < y ∧ ¬ (38 : Int32) < z := by
  intro z y
  have q0 := c_mask p2 2147483647 31 (by decide) (by decide)
  have q1 := (c_irem (p2 &&& 2147483647) 38 38 (by decide)).1 (by omega)
  have e0 : (0 : Int32).toInt = 0 := by decide
  have e1 : (1 : Int32).toInt = 1 := by decide
  have e38 : (38 : Int32).toInt = 38 := by decide
  have a1 := c_iadd 1 ((p2 &&& 2147483647) % 38)
  have r1 := rng32 (1 + ((p2 &&& 2147483647) % 38))
  have hz : z.toInt = 1 + ((p2 &&& 2147483647) % 38 : Int32).toInt := by show (1 + ((p2 &&& 2147483647) % 38) : Int32).toInt = _; omega
  have a2 := c_iadd z 1
  have r2 := rng32 (z + 1)
  have hz1 : (z + 1).toInt = z.toInt + 1 := by omega
  have s0 := c_mask p3 2147483647 31 (by decide) (by decide)
  have s1 := (c_iremV (p3 &&& 2147483647) (z + 1)).1 (by omega) (by omega)
  refine ⟨fun q => ?_, ?_, ?_, ?_, ?_⟩
  · rw [q] at hz1; omega
  all_goals (rw [Int32.lt_iff_toInt_lt]; first | omega | (show ¬ ((p3 &&& 2147483647) % (z + 1) : Int32).toInt < _; omega) | (show ¬ _ < ((p3 &&& 2147483647) % (z + 1) : Int32).toInt; omega))
theorem own_max (p2 : Int32) : ¬ (if (1 : Int32) < (p2 &&& (2147483647 : Int32)) then (p2 &&& (2147483647 : Int32)) else (1 : Int32)) < (1 : Int32) := by
  have e1 : (1 : Int32).toInt = 1 := by decide
  by_cases h : (1 : Int32) < (p2 &&& (2147483647 : Int32))
  · rw [if_pos h]; rw [Int32.lt_iff_toInt_lt] at h ⊢; omega
  · rw [if_neg h]; decide
theorem own_cases (y : Int32) (h0 : 0 ≤ y.toInt) (h1 : y.toInt < 9) : y = (0 : Int32) ∨ y = (1 : Int32) ∨ y = (2 : Int32) ∨ y = (3 : Int32) ∨ y = (4 : Int32) ∨ y = (5 : Int32) ∨ y = (6 : Int32) ∨ y = (7 : Int32) ∨ y = (8 : Int32) := by
  have q : y.toInt = 0 ∨ y.toInt = 1 ∨ y.toInt = 2 ∨ y.toInt = 3 ∨ y.toInt = 4 ∨ y.toInt = 5 ∨ y.toInt = 6 ∨ y.toInt = 7 ∨ y.toInt = 8 := by omega
  rcases q with q | q | q | q | q | q | q | q | q
  · exact Or.inl (Int32.toInt_inj.mp q)
  · exact Or.inr (Or.inl (Int32.toInt_inj.mp q))
  · exact Or.inr (Or.inr (Or.inl (Int32.toInt_inj.mp q)))
  · exact Or.inr (Or.inr (Or.inr (Or.inl (Int32.toInt_inj.mp q))))
  · exact Or.inr (Or.inr (Or.inr (Or.inr (Or.inl (Int32.toInt_inj.mp q)))))
  · exact Or.inr (Or.inr (Or.inr (Or.inr (Or.inr (Or.inl (Int32.toInt_inj.mp q))))))
  · exact Or.inr (Or.inr (Or.inr (Or.inr (Or.inr (Or.inr (Or.inl (Int32.toInt_inj.mp q)))))))
  · exact Or.inr (Or.inr (Or.inr (Or.inr (Or.inr (Or.inr (Or.inr (Or.inl (Int32.toInt_inj.mp q))))))))
  · exact Or.inr (Or.inr (Or.inr (Or.inr (Or.inr (Or.inr (Or.inr (Or.inr (Int32.toInt_inj.mp q))))))))
theorem rm_law (l : Launch) (Z : State) (a0 : Array Value) (hw : ∀ d ∈ tables_1, d.before a0 Z = true) (ws : List Jvm.Cond) (p1 : Int32) (p2 : Int32) (p3 : Int32) (h0 : Heap) (n0 : Nat) (Z0 : n0 ≤ h0.size) (w_INTEGER w_DECIMAL w_CHAR w_VARCHAR w_BOOLEAN w_INTERVAL w_DOUBLE w_BIGINT w_DATE : Addr) (hK : own_K Z h0 w_INTEGER w_DECIMAL w_CHAR w_VARCHAR w_BOOLEAN w_INTERVAL w_DOUBLE w_BIGINT w_DATE) :
    MetFree l x (head1 (Jvm.Cond.code x code maxLocals ret :: ws) room_1) (fun a U => a = #[(.int p1), (.int p2), (.int p3)] ∧ Z.Warmed39 U.vm ∧ U.heap = h0) (fun _ _ _ _ _ => True) (fun _ U o U' => ∃ v L, o = .returned v ∧ own_QH (some (.int (1 : Int32))) n0 v U'.heap L ∧ FrameEnd U o U' L room_1.cells room_1.slots) := by
  have q0 := c_mask p1 2147483647 31 (by decide) (by decide)
  have q := (c_irem (p1 &&& 2147483647) 9 9 (by decide)).1 (by omega)
  rcases own_cases ((p1 &&& (2147483647 : Int32)) % (9 : Int32)) (by omega) (by omega) with hk | hk | hk | hk | hk | hk | hk | hk | hk
  · exact rm_law0 l Z a0 hw ws p1 p2 p3 h0 n0 Z0 w_INTEGER w_DECIMAL w_CHAR w_VARCHAR w_BOOLEAN w_INTERVAL w_DOUBLE w_BIGINT w_DATE hK hk
  · exact rm_law1 l Z a0 hw ws p1 p2 p3 h0 n0 Z0 w_INTEGER w_DECIMAL w_CHAR w_VARCHAR w_BOOLEAN w_INTERVAL w_DOUBLE w_BIGINT w_DATE hK hk
  · exact rm_law2 l Z a0 hw ws p1 p2 p3 h0 n0 Z0 w_INTEGER w_DECIMAL w_CHAR w_VARCHAR w_BOOLEAN w_INTERVAL w_DOUBLE w_BIGINT w_DATE hK _ _ hk rfl (own_dec p2 p3).1 rfl (own_dec p2 p3).2.1 (own_dec p2 p3).2.2.1 (own_dec p2 p3).2.2.2.1 (own_dec p2 p3).2.2.2.2
  · exact rm_law3 l Z a0 hw ws p1 p2 p3 h0 n0 Z0 w_INTEGER w_DECIMAL w_CHAR w_VARCHAR w_BOOLEAN w_INTERVAL w_DOUBLE w_BIGINT w_DATE hK hk
  · exact rm_law4 l Z a0 hw ws p1 p2 p3 h0 n0 Z0 w_INTEGER w_DECIMAL w_CHAR w_VARCHAR w_BOOLEAN w_INTERVAL w_DOUBLE w_BIGINT w_DATE hK _ hk rfl (own_max p2)
  · exact rm_law5 l Z a0 hw ws p1 p2 p3 h0 n0 Z0 w_INTEGER w_DECIMAL w_CHAR w_VARCHAR w_BOOLEAN w_INTERVAL w_DOUBLE w_BIGINT w_DATE hK _ hk rfl (own_max p2)
  · exact rm_law6 l Z a0 hw ws p1 p2 p3 h0 n0 Z0 w_INTEGER w_DECIMAL w_CHAR w_VARCHAR w_BOOLEAN w_INTERVAL w_DOUBLE w_BIGINT w_DATE hK hk
  · exact rm_law7 l Z a0 hw ws p1 p2 p3 h0 n0 Z0 w_INTEGER w_DECIMAL w_CHAR w_VARCHAR w_BOOLEAN w_INTERVAL w_DOUBLE w_BIGINT w_DATE hK hk
  · exact rm_law8 l Z a0 hw ws p1 p2 p3 h0 n0 Z0 w_INTEGER w_DECIMAL w_CHAR w_VARCHAR w_BOOLEAN w_INTERVAL w_DOUBLE w_BIGINT w_DATE hK hk
set_option maxRecDepth 65536 in
set_option maxHeartbeats 40000000 in
theorem comes_1 {Post : Tables → Env → Array Value → State → Outcome → State → Prop} (hpost : ∀ tb e args s v u, (limb_1_1.after args s (.returned v) u = true ∧ limb_1_2.after args s (.returned v) u = true ∧ True) → FrameEnd s (.returned v) u (Jvm.fieldLocs frame_1_writes args s ++ Jvm.arrayLocs frame_1_arrays args s ++ Jvm.staticLocs frame_1_statics s) 16 128 → Post tb e args s (.returned v) u) :
    ArmFor flags0 classFile x code maxLocals ret World_1 tables_1 room_1 Calls_1 rest_1 Pre_1 Post := by
  intro l hfl _ _ p e ha hc hk s m args below hf hA hF happ hP
  obtain ⟨hcalls, hrest, hpre⟩ := hP
  obtain ⟨-, -, -, hnamed, -, -, -, hat⟩ := (Spec.applies_iff hf).mp happ
  obtain ⟨hg, hn⟩ := and_e (Cond.before_iff.mp (show (Jvm.Cond.and given_1 narrow_1).before args s = true from hpre))
  obtain ⟨g0, hg⟩ := and_e hg
  obtain ⟨g1, hg⟩ := and_e hg
  obtain ⟨g2, hg⟩ := and_e hg
  obtain ⟨w0, w1, w2, rfl⟩ : ∃ w0 w1 w2 : Value, args = #[w0, w1, w2] := by
    have hs : args.size = 3 := by simpa [Cond.value, given_1] using g0
    obtain ⟨L⟩ := args
    match L, hs with
    | [w0, w1, w2], _ => exact ⟨w0, w1, w2, rfl⟩
  have hw := fun d (hd : d ∈ tables_1) => atoms_spec (ws := Jvm.Cond.code x code maxLocals ret :: tables_1) hat d (List.mem_cons_of_mem _ hd)
  have hfit : Fit s := fun {y c} hc i hi => by
    obtain ⟨ha, rfl⟩ := Array.getElem?_eq_some_iff.mp hc
    have q := List.all_eq_true.mp ((Array.all_eq_true_iff_forall_mem.mp hF) _ (Array.getElem_mem ha)) i (List.mem_range.mpr hi)
    simpa [Array.getElem?_eq_getElem hi] using q
  obtain ⟨i0, ei0⟩ := is_v g1
  obtain rfl : w0 = (.int i0) := Option.some.inj ei0
  obtain ⟨i1, ei1⟩ := is_v g2
  obtain rfl : w1 = (.int i1) := Option.some.inj ei1
  obtain ⟨i2, ei2⟩ := is_v hg
  obtain rfl : w2 = (.int i2) := Option.some.inj ei2
  obtain ⟨c0, hn⟩ := and_e hn
  obtain ⟨w_INTEGER, v_w_INTEGER⟩ := exa_v c0
  have S_w_INTEGER := Sta.start v_w_INTEGER (Or.inr ⟨(hw _ (ow 6 rfl)), (hw _ (ow 7 rfl))⟩)
  have E_w_INTEGER := Exa.start v_w_INTEGER c0
  obtain ⟨c1, hn⟩ := and_e hn
  obtain ⟨w_DECIMAL, v_w_DECIMAL⟩ := exa_v c1
  have S_w_DECIMAL := Sta.start v_w_DECIMAL (Or.inr ⟨(hw _ (ow 6 rfl)), (hw _ (ow 23 rfl))⟩)
  have E_w_DECIMAL := Exa.start v_w_DECIMAL c1
  obtain ⟨c2, hn⟩ := and_e hn
  have F_ordinal_w_INTEGER := Fld.start ((fld_at v_w_INTEGER).symm.trans (own_eqI c2))
  obtain ⟨c3, hn⟩ := and_e hn
  have F_ordinal_w_DECIMAL := Fld.start ((fld_at v_w_DECIMAL).symm.trans (own_eqI c3))
  obtain ⟨c4, hn⟩ := and_e hn
  obtain ⟨w_CHAR, v_w_CHAR⟩ := exa_v c4
  have S_w_CHAR := Sta.start v_w_CHAR (Or.inr ⟨(hw _ (ow 6 rfl)), (hw _ (ow 25 rfl))⟩)
  have E_w_CHAR := Exa.start v_w_CHAR c4
  obtain ⟨c5, hn⟩ := and_e hn
  have F_ordinal_w_CHAR := Fld.start ((fld_at v_w_CHAR).symm.trans (own_eqI c5))
  obtain ⟨c6, hn⟩ := and_e hn
  obtain ⟨w_VARCHAR, v_w_VARCHAR⟩ := exa_v c6
  have S_w_VARCHAR := Sta.start v_w_VARCHAR (Or.inr ⟨(hw _ (ow 6 rfl)), (hw _ (ow 27 rfl))⟩)
  have E_w_VARCHAR := Exa.start v_w_VARCHAR c6
  obtain ⟨c7, hn⟩ := and_e hn
  have F_ordinal_w_VARCHAR := Fld.start ((fld_at v_w_VARCHAR).symm.trans (own_eqI c7))
  obtain ⟨c8, hn⟩ := and_e hn
  obtain ⟨w_BOOLEAN, v_w_BOOLEAN⟩ := exa_v c8
  have S_w_BOOLEAN := Sta.start v_w_BOOLEAN (Or.inr ⟨(hw _ (ow 6 rfl)), (hw _ (ow 40 rfl))⟩)
  have E_w_BOOLEAN := Exa.start v_w_BOOLEAN c8
  obtain ⟨c9, hn⟩ := and_e hn
  have F_ordinal_w_BOOLEAN := Fld.start ((fld_at v_w_BOOLEAN).symm.trans (own_eqI c9))
  obtain ⟨c10, hn⟩ := and_e hn
  obtain ⟨w_INTERVAL, v_w_INTERVAL⟩ := exa_v c10
  have S_w_INTERVAL := Sta.start v_w_INTERVAL (Or.inr ⟨(hw _ (ow 6 rfl)), (hw _ (ow 42 rfl))⟩)
  have E_w_INTERVAL := Exa.start v_w_INTERVAL c10
  obtain ⟨c11, hn⟩ := and_e hn
  have F_ordinal_w_INTERVAL := Fld.start ((fld_at v_w_INTERVAL).symm.trans (own_eqI c11))
  obtain ⟨c12, hn⟩ := and_e hn
  obtain ⟨w_DOUBLE, v_w_DOUBLE⟩ := exa_v c12
  have S_w_DOUBLE := Sta.start v_w_DOUBLE (Or.inr ⟨(hw _ (ow 6 rfl)), (hw _ (ow 44 rfl))⟩)
  have E_w_DOUBLE := Exa.start v_w_DOUBLE c12
  obtain ⟨c13, hn⟩ := and_e hn
  have F_ordinal_w_DOUBLE := Fld.start ((fld_at v_w_DOUBLE).symm.trans (own_eqI c13))
  obtain ⟨c14, hn⟩ := and_e hn
  obtain ⟨w_BIGINT, v_w_BIGINT⟩ := exa_v c14
  have S_w_BIGINT := Sta.start v_w_BIGINT (Or.inr ⟨(hw _ (ow 6 rfl)), (hw _ (ow 46 rfl))⟩)
  have E_w_BIGINT := Exa.start v_w_BIGINT c14
  obtain ⟨c15, hn⟩ := and_e hn
  have F_ordinal_w_BIGINT := Fld.start ((fld_at v_w_BIGINT).symm.trans (own_eqI c15))
  obtain ⟨c16, hn⟩ := and_e hn
  obtain ⟨w_DATE, v_w_DATE⟩ := exa_v c16
  have S_w_DATE := Sta.start v_w_DATE (Or.inr ⟨(hw _ (ow 6 rfl)), (hw _ (ow 52 rfl))⟩)
  have E_w_DATE := Exa.start v_w_DATE c16
  have F_ordinal_w_DATE := Fld.start ((fld_at v_w_DATE).symm.trans (own_eqI hn))
  have hK : own_K s s.heap w_INTEGER w_DECIMAL w_CHAR w_VARCHAR w_BOOLEAN w_INTERVAL w_DOUBLE w_BIGINT w_DATE := ⟨S_w_INTEGER, E_w_INTEGER, S_w_DECIMAL, E_w_DECIMAL, F_ordinal_w_INTEGER, F_ordinal_w_DECIMAL, S_w_CHAR, E_w_CHAR, F_ordinal_w_CHAR, S_w_VARCHAR, E_w_VARCHAR, F_ordinal_w_VARCHAR, S_w_BOOLEAN, E_w_BOOLEAN, F_ordinal_w_BOOLEAN, S_w_INTERVAL, E_w_INTERVAL, F_ordinal_w_INTERVAL, S_w_DOUBLE, E_w_DOUBLE, F_ordinal_w_DOUBLE, S_w_BIGINT, E_w_BIGINT, F_ordinal_w_BIGINT, S_w_DATE, E_w_DATE, F_ordinal_w_DATE⟩
  obtain ⟨n, o, h1, h2, h3, _, L, rfl, ⟨rfl, N, -⟩, hq⟩ := rm_law l s _ hw tables_1 i0 i1 i2 s.heap s.heap.size (Nat.le_refl _) w_INTEGER w_DECIMAL w_CHAR w_VARCHAR w_BOOLEAN w_INTERVAL w_DOUBLE w_BIGINT w_DATE hK p e ha hc hk s m _ below hf ((Spec.applies_iff_loose hf).mp happ).1 ⟨rfl, State.Warmed39.refl s, rfl⟩ trivial
  refine ⟨n, _, h1, h2, h3, hpost _ _ _ _ _ _ ⟨Cond.after_iff.mpr rfl, Cond.after_iff.mpr (eq_i res_at (Term.int_eval (1)) rfl), trivial⟩ ⟨hq.1, hq.2.1, (hq.2.2.sift fun y hy => Or.inr (N y hy)).mono (by decide) (by decide)⟩⟩
theorem main_1_1 : Claimed_1_1 := comes_1 fun _ _ _ _ _ _ h hF => ⟨h.1, hF⟩
theorem main_1_2 : Claimed_1_2 := comes_1 fun _ _ _ _ _ _ h hF => ⟨h.2.1, hF⟩
end Jvm.Pilot.@@N@@
namespace Jvm.Pilot.@@N@@
open Jvm Jvm.ClassFile Sem Op Lib Jvm.Free Jvm.Stand Jvm.Pilot.@@N@@.Jvm.D
/-! MADE BY PROGRAM (witnessworld.py) out of the Statement's table words and the real class files: 15 classes; the members and pool entries that the words name. The judged class is class 1, her method 2. -/
namespace start1
open Jvm.ClassFile
def u (s : String) : CpInfo := .utf8 (stringToUtf16 s)
/-- a pool by its gaps: so many unusable entries, then the entry; so many at the end -/
def gap : Nat → List CpInfo → List CpInfo
  | 0, r => r
  | n + 1, r => .unusable :: gap n r
def poolList (es : List (Nat × CpInfo)) (last : Nat) : List CpInfo := es.foldr (fun e r => gap e.1 (e.2 :: r)) (gap last [])
def pool (es : List (Nat × CpInfo)) (last : Nat) : Array CpInfo := ⟨poolList es last⟩
def fileOf (pool : Array CpInfo) (this : Nat) (attrs : Array Attribute := #[]) (ms : Array MethodInfo := #[]) (fl : Nat := 33) (sup : Nat := 0) (ifs : Array Nat := #[]) (fds : Array FieldInfo := #[]) : ClassFile where
  minorVersion := 0
  majorVersion := 65
  constantPool := pool
  accessFlags := fl
  thisClass := this
  superClass := sup
  interfaces := ifs
  fields := fds
  methods := ms
  attributes := attrs
def plain (name : String) (sup : Option ClassId) : Class where
  name := name
  kind := .ordinary
  loader := none
  accessFlags := 33
  super := sup
  interfaces := #[]
  cf := none
  fields := #[]
  methods := #[]
  instanceTypes := #[]
  staticTypes := #[]
  resolved := #[]
  callSites := []
  init := .initialized
  statics := none
  mirror := none

def pool0 : Array CpInfo := pool [(5, u "<init>"), (0, u "()V"), (1, .class_ 10), (1, u "java/lang/Object")] 113

def k0c0 : Code := { maxStack := 0, maxLocals := 1, code := object_method_1_code, exceptionTable := #[], attributes := #[] }
def k0m0 : Method := { name := "<init>", desc := "()V", sig := { parameters := [], returnType := none }, accessFlags := 1, code := some k0c0 }
/-- java/lang/Object -/
def k0 : Class := { plain "java/lang/Object" none with
  accessFlags := 33
  interfaces := #[]
  cf := some (fileOf pool0 8 #[] #[{ accessFlags := 1, nameIndex := 5, descriptorIndex := 6, attributes := #[] }] 33 0 #[] #[])
  fields := #[]
  methods := #[k0m0]
  instanceTypes := #[]
  staticTypes := #[]
  resolved := Array.replicate 124 none
  statics := none }

def pool1 : Array CpInfo := pool [(2, .class_ 4), (1, u "java/lang/Object"), (0, u "<init>"), (0, u "()V"), (0, .fieldref 8 9), (0, .class_ 10), (0, .nameAndType 11 12), (0, u "com/example/cairn/cairn/types/DataType$Kind"), (0, u "INTEGER"), (0, u "Lcom/example/cairn/cairn/types/DataType$Kind;"), (0, .fieldref 8 14), (0, .nameAndType 15 12), (0, u "BIGINT"), (0, .fieldref 8 17), (0, .nameAndType 18 12), (0, u "DECIMAL"), (0, .fieldref 8 20), (0, .nameAndType 21 12), (0, u "DATE"), (0, .fieldref 8 23), (0, .nameAndType 24 12), (0, u "CHAR"), (0, .fieldref 8 26), (0, .nameAndType 27 12), (0, u "VARCHAR"), (0, .fieldref 8 29), (0, .nameAndType 30 12), (0, u "BOOLEAN"), (0, .fieldref 8 32), (0, .nameAndType 33 12), (0, u "INTERVAL"), (0, .fieldref 8 35), (0, .nameAndType 36 12), (0, u "DOUBLE"), (0, .integer 2147483647), (0, .methodref 39 40), (0, .class_ 41), (0, .nameAndType 42 43), (0, u "com/example/cairn/cairn/types/DataTypeIsStorablePinLaw"), (0, u "pick"), (0, u "(I)Lcom/example/cairn/cairn/types/DataType$Kind;"), (0, .methodref 45 46), (0, .class_ 47), (0, .nameAndType 48 49), (0, u "java/lang/Math"), (0, u "max"), (0, u "(II)I"), (0, .class_ 51), (0, u "com/example/cairn/cairn/types/DataType"), (0, .methodref 50 53), (0, .nameAndType 5 54), (0, u "(Lcom/example/cairn/cairn/types/DataType$Kind;II)V"), (0, .methodref 50 56), (0, .nameAndType 57 58), (0, u "isStorable"), (0, u "()Z"), (3, u "law"), (0, u "(III)Z")] 4

def k1m0 : Method := { name := "<init>", desc := "()V", sig := { parameters := [], returnType := none }, accessFlags := 1, code := none }
def k1c1 : Code := { maxStack := 2, maxLocals := 1, code := method_2_code, exceptionTable := #[], attributes := #[] }
def k1m1 : Method := { name := "pick", desc := "(I)Lcom/example/cairn/cairn/types/DataType$Kind;", sig := { parameters := [.int], returnType := some (.object "com/example/cairn/cairn/types/DataType$Kind") }, accessFlags := 10, code := some k1c1 }
def k1c2 : Code := { maxStack := 5, maxLocals := 9, code := code, exceptionTable := #[], attributes := #[] }
def k1m2 : Method := { name := "law", desc := "(III)Z", sig := { parameters := [.int, .int, .int], returnType := some .boolean }, accessFlags := 9, code := some k1c2 }
/-- com/example/cairn/cairn/types/DataTypeIsStorablePinLaw -/
def k1 : Class := { plain "com/example/cairn/cairn/types/DataTypeIsStorablePinLaw" (some 0) with
  accessFlags := 49
  interfaces := #[]
  cf := some (fileOf pool1 39 #[] #[{ accessFlags := 1, nameIndex := 5, descriptorIndex := 6, attributes := #[] }, { accessFlags := 10, nameIndex := 42, descriptorIndex := 43, attributes := #[] }, { accessFlags := 9, nameIndex := 62, descriptorIndex := 63, attributes := #[] }] 49 2 #[] #[])
  fields := #[]
  methods := #[k1m0, k1m1, k1m2]
  instanceTypes := #[]
  staticTypes := #[]
  resolved := Array.replicate 68 none
  statics := none }

def pool2 : Array CpInfo := pool [(1, .class_ 2), (0, u "java/lang/constant/Constable"), (0, .class_ 4), (0, u "java/lang/Object")] 6

/-- java/lang/constant/Constable -/
def k2 : Class := { plain "java/lang/constant/Constable" (some 0) with
  accessFlags := 1537
  interfaces := #[]
  cf := some (fileOf pool2 1 #[] #[] 1537 3 #[] #[])
  fields := #[]
  methods := #[]
  instanceTypes := #[]
  staticTypes := #[]
  resolved := Array.replicate 11 none
  statics := none }

def pool3 : Array CpInfo := pool [(1, .class_ 2), (0, u "java/lang/Comparable"), (0, .class_ 4), (0, u "java/lang/Object")] 7

/-- java/lang/Comparable -/
def k3 : Class := { plain "java/lang/Comparable" (some 0) with
  accessFlags := 1537
  interfaces := #[]
  cf := some (fileOf pool3 1 #[] #[] 1537 3 #[] #[])
  fields := #[]
  methods := #[]
  instanceTypes := #[]
  staticTypes := #[]
  resolved := Array.replicate 12 none
  statics := none }

def pool4 : Array CpInfo := pool [(1, .class_ 2), (0, u "java/io/Serializable"), (0, .class_ 4), (0, u "java/lang/Object")] 2

/-- java/io/Serializable -/
def k4 : Class := { plain "java/io/Serializable" (some 0) with
  accessFlags := 1537
  interfaces := #[]
  cf := some (fileOf pool4 1 #[] #[] 1537 3 #[] #[])
  fields := #[]
  methods := #[]
  instanceTypes := #[]
  staticTypes := #[]
  resolved := Array.replicate 7 none
  statics := none }

def pool5 : Array CpInfo := pool [(2, .class_ 4), (1, u "java/lang/Enum"), (0, u "name"), (0, u "Ljava/lang/String;"), (2, u "ordinal"), (0, u "I"), (1, .class_ 14), (1, u "java/lang/Object"), (4, u "hash"), (86, .class_ 108), (1, u "java/lang/Enum$EnumDesc"), (2, .class_ 112), (0, u "java/lang/constant/Constable"), (0, .class_ 114), (0, u "java/lang/Comparable"), (0, .class_ 116), (0, u "java/io/Serializable")] 87

/-- java/lang/Enum -/
def k5 : Class := { plain "java/lang/Enum" (some 0) with
  accessFlags := 1057
  interfaces := #[2, 3, 4]
  cf := some (fileOf pool5 2 #[.nestMembers #[106]] #[] 1057 12 #[111, 113, 115] #[{ accessFlags := 18, nameIndex := 5, descriptorIndex := 6, attributes := #[] }, { accessFlags := 18, nameIndex := 9, descriptorIndex := 10, attributes := #[] }, { accessFlags := 2, nameIndex := 19, descriptorIndex := 10, attributes := #[] }])
  fields := #[{ name := "name", type := (.object "java/lang/String"), accessFlags := 18, slot := 0, constantValue := 0 }, { name := "ordinal", type := .int, accessFlags := 18, slot := 1, constantValue := 0 }, { name := "hash", type := .int, accessFlags := 2, slot := 2, constantValue := 0 }]
  methods := #[]
  instanceTypes := #[(.object "java/lang/String"), .int, .int]
  staticTypes := #[]
  resolved := Array.replicate 204 none
  statics := none }

def pool6 : Array CpInfo := pool [(1, .class_ 2), (0, u "com/example/cairn/cairn/types/DataType$Kind"), (2, u "INTEGER"), (0, u "Lcom/example/cairn/cairn/types/DataType$Kind;"), (2, u "BIGINT"), (2, u "DECIMAL"), (2, u "DATE"), (2, u "CHAR"), (2, u "VARCHAR"), (2, u "BOOLEAN"), (2, u "INTERVAL"), (2, u "DOUBLE"), (2, u "$VALUES"), (0, u "[Lcom/example/cairn/cairn/types/DataType$Kind;"), (6, .class_ 43), (1, u "java/lang/Enum"), (32, .class_ 77), (0, u "com/example/cairn/cairn/types/DataType")] 2

/-- com/example/cairn/cairn/types/DataType$Kind -/
def k6 : Class := { plain "com/example/cairn/cairn/types/DataType$Kind" (some 5) with
  accessFlags := 16433
  interfaces := #[]
  cf := some (fileOf pool6 1 #[.nestHost 76] #[] 16433 41 #[] #[{ accessFlags := 16409, nameIndex := 5, descriptorIndex := 6, attributes := #[] }, { accessFlags := 16409, nameIndex := 9, descriptorIndex := 6, attributes := #[] }, { accessFlags := 16409, nameIndex := 12, descriptorIndex := 6, attributes := #[] }, { accessFlags := 16409, nameIndex := 15, descriptorIndex := 6, attributes := #[] }, { accessFlags := 16409, nameIndex := 18, descriptorIndex := 6, attributes := #[] }, { accessFlags := 16409, nameIndex := 21, descriptorIndex := 6, attributes := #[] }, { accessFlags := 16409, nameIndex := 24, descriptorIndex := 6, attributes := #[] }, { accessFlags := 16409, nameIndex := 27, descriptorIndex := 6, attributes := #[] }, { accessFlags := 16409, nameIndex := 30, descriptorIndex := 6, attributes := #[] }, { accessFlags := 4122, nameIndex := 33, descriptorIndex := 34, attributes := #[] }])
  fields := #[{ name := "INTEGER", type := (.object "com/example/cairn/cairn/types/DataType$Kind"), accessFlags := 16409, slot := 0, constantValue := 0 }, { name := "BIGINT", type := (.object "com/example/cairn/cairn/types/DataType$Kind"), accessFlags := 16409, slot := 1, constantValue := 0 }, { name := "DECIMAL", type := (.object "com/example/cairn/cairn/types/DataType$Kind"), accessFlags := 16409, slot := 2, constantValue := 0 }, { name := "DATE", type := (.object "com/example/cairn/cairn/types/DataType$Kind"), accessFlags := 16409, slot := 3, constantValue := 0 }, { name := "CHAR", type := (.object "com/example/cairn/cairn/types/DataType$Kind"), accessFlags := 16409, slot := 4, constantValue := 0 }, { name := "VARCHAR", type := (.object "com/example/cairn/cairn/types/DataType$Kind"), accessFlags := 16409, slot := 5, constantValue := 0 }, { name := "BOOLEAN", type := (.object "com/example/cairn/cairn/types/DataType$Kind"), accessFlags := 16409, slot := 6, constantValue := 0 }, { name := "INTERVAL", type := (.object "com/example/cairn/cairn/types/DataType$Kind"), accessFlags := 16409, slot := 7, constantValue := 0 }, { name := "DOUBLE", type := (.object "com/example/cairn/cairn/types/DataType$Kind"), accessFlags := 16409, slot := 8, constantValue := 0 }, { name := "$VALUES", type := (.array (.object "com/example/cairn/cairn/types/DataType$Kind")), accessFlags := 4122, slot := 9, constantValue := 0 }]
  methods := #[]
  instanceTypes := #[(.object "java/lang/String"), .int, .int]
  staticTypes := #[(.object "com/example/cairn/cairn/types/DataType$Kind"), (.object "com/example/cairn/cairn/types/DataType$Kind"), (.object "com/example/cairn/cairn/types/DataType$Kind"), (.object "com/example/cairn/cairn/types/DataType$Kind"), (.object "com/example/cairn/cairn/types/DataType$Kind"), (.object "com/example/cairn/cairn/types/DataType$Kind"), (.object "com/example/cairn/cairn/types/DataType$Kind"), (.object "com/example/cairn/cairn/types/DataType$Kind"), (.object "com/example/cairn/cairn/types/DataType$Kind"), (.array (.object "com/example/cairn/cairn/types/DataType$Kind"))]
  resolved := Array.replicate 80 none
  statics := some 0 }

def pool7 : Array CpInfo := pool [(1, .methodref 2 3), (0, .class_ 4), (0, .nameAndType 5 6), (0, u "java/lang/Object"), (0, u "<init>"), (0, u "()V"), (0, .class_ 8), (0, u "java/lang/Record")] 13

def k7c0 : Code := { maxStack := 1, maxLocals := 1, code := jdk_30_method_1_code, exceptionTable := #[], attributes := #[] }
def k7m0 : Method := { name := "<init>", desc := "()V", sig := { parameters := [], returnType := none }, accessFlags := 4, code := some k7c0 }
/-- java/lang/Record -/
def k7 : Class := { plain "java/lang/Record" (some 0) with
  accessFlags := 1057
  interfaces := #[]
  cf := some (fileOf pool7 7 #[] #[{ accessFlags := 4, nameIndex := 5, descriptorIndex := 6, attributes := #[] }] 1057 2 #[] #[])
  fields := #[]
  methods := #[k7m0]
  instanceTypes := #[]
  staticTypes := #[]
  resolved := Array.replicate 22 none
  statics := none }

def pool8 : Array CpInfo := pool [(1, .methodref 2 3), (0, .class_ 4), (0, .nameAndType 5 6), (0, u "java/lang/Record"), (0, u "<init>"), (0, u "()V"), (0, .fieldref 8 9), (0, .class_ 10), (0, .nameAndType 11 12), (0, u "com/example/cairn/cairn/types/DataType$Kind"), (0, u "DECIMAL"), (0, u "Lcom/example/cairn/cairn/types/DataType$Kind;"), (0, .fieldref 8 14), (0, .nameAndType 15 12), (0, u "CHAR"), (0, .fieldref 8 17), (0, .nameAndType 18 12), (0, u "VARCHAR"), (15, .class_ 35), (0, u "com/example/cairn/cairn/types/DataType"), (3, .fieldref 34 40), (0, .nameAndType 41 12), (0, u "kind"), (0, .fieldref 34 43), (0, .nameAndType 44 45), (0, u "precision"), (0, u "I"), (0, .fieldref 34 47), (0, .nameAndType 48 45), (0, u "scale"), (2, u "(Lcom/example/cairn/cairn/types/DataType$Kind;II)V"), (2, u "SIZED"), (0, u "Ljava/util/regex/Pattern;"), (11, u "()Z"), (18, u "INTEGER"), (2, u "BIGINT"), (3, .fieldref 8 94), (0, .nameAndType 95 12), (0, u "INTERVAL"), (0, .fieldref 8 97), (0, .nameAndType 98 12), (0, u "BOOLEAN"), (0, .fieldref 8 100), (0, .nameAndType 101 12), (0, u "DOUBLE"), (146, u "Lcom/example/cairn/cairn/types/DataType;"), (4, u "DATE"), (14, u "MAX_DECIMAL_PRECISION"), (14, u "isStorable")] 55

def k8c0 : Code := { maxStack := 4, maxLocals := 5, code := prog_163_method_1_code, exceptionTable := #[], attributes := #[] }
def k8m0 : Method := { name := "<init>", desc := "(Lcom/example/cairn/cairn/types/DataType$Kind;II)V", sig := { parameters := [(.object "com/example/cairn/cairn/types/DataType$Kind"), .int, .int], returnType := none }, accessFlags := 1, code := some k8c0 }
def k8c1 : Code := { maxStack := 2, maxLocals := 1, code := prog_163_method_10_code, exceptionTable := #[], attributes := #[] }
def k8m1 : Method := { name := "isStorable", desc := "()Z", sig := { parameters := [], returnType := some .boolean }, accessFlags := 1, code := some k8c1 }
/-- com/example/cairn/cairn/types/DataType -/
def k8 : Class := { plain "com/example/cairn/cairn/types/DataType" (some 7) with
  accessFlags := 49
  interfaces := #[]
  cf := some (fileOf pool8 34 #[.nestMembers #[8]] #[{ accessFlags := 1, nameIndex := 5, descriptorIndex := 51, attributes := #[] }, { accessFlags := 1, nameIndex := 283, descriptorIndex := 67, attributes := #[] }] 49 2 #[] #[{ accessFlags := 18, nameIndex := 41, descriptorIndex := 12, attributes := #[] }, { accessFlags := 18, nameIndex := 44, descriptorIndex := 45, attributes := #[] }, { accessFlags := 18, nameIndex := 48, descriptorIndex := 45, attributes := #[] }, { accessFlags := 25, nameIndex := 268, descriptorIndex := 45, attributes := #[] }, { accessFlags := 25, nameIndex := 86, descriptorIndex := 248, attributes := #[] }, { accessFlags := 25, nameIndex := 89, descriptorIndex := 248, attributes := #[] }, { accessFlags := 25, nameIndex := 253, descriptorIndex := 248, attributes := #[] }, { accessFlags := 25, nameIndex := 98, descriptorIndex := 248, attributes := #[] }, { accessFlags := 25, nameIndex := 95, descriptorIndex := 248, attributes := #[] }, { accessFlags := 25, nameIndex := 101, descriptorIndex := 248, attributes := #[] }, { accessFlags := 26, nameIndex := 54, descriptorIndex := 55, attributes := #[] }])
  fields := #[{ name := "kind", type := (.object "com/example/cairn/cairn/types/DataType$Kind"), accessFlags := 18, slot := 0, constantValue := 0 }, { name := "precision", type := .int, accessFlags := 18, slot := 1, constantValue := 0 }, { name := "scale", type := .int, accessFlags := 18, slot := 2, constantValue := 0 }, { name := "MAX_DECIMAL_PRECISION", type := .int, accessFlags := 25, slot := 0, constantValue := 0 }, { name := "INTEGER", type := (.object "com/example/cairn/cairn/types/DataType"), accessFlags := 25, slot := 1, constantValue := 0 }, { name := "BIGINT", type := (.object "com/example/cairn/cairn/types/DataType"), accessFlags := 25, slot := 2, constantValue := 0 }, { name := "DATE", type := (.object "com/example/cairn/cairn/types/DataType"), accessFlags := 25, slot := 3, constantValue := 0 }, { name := "BOOLEAN", type := (.object "com/example/cairn/cairn/types/DataType"), accessFlags := 25, slot := 4, constantValue := 0 }, { name := "INTERVAL", type := (.object "com/example/cairn/cairn/types/DataType"), accessFlags := 25, slot := 5, constantValue := 0 }, { name := "DOUBLE", type := (.object "com/example/cairn/cairn/types/DataType"), accessFlags := 25, slot := 6, constantValue := 0 }, { name := "SIZED", type := (.object "java/util/regex/Pattern"), accessFlags := 26, slot := 7, constantValue := 0 }]
  methods := #[k8m0, k8m1]
  instanceTypes := #[(.object "com/example/cairn/cairn/types/DataType$Kind"), .int, .int]
  staticTypes := #[.int, (.object "com/example/cairn/cairn/types/DataType"), (.object "com/example/cairn/cairn/types/DataType"), (.object "com/example/cairn/cairn/types/DataType"), (.object "com/example/cairn/cairn/types/DataType"), (.object "com/example/cairn/cairn/types/DataType"), (.object "com/example/cairn/cairn/types/DataType"), (.object "java/util/regex/Pattern")]
  resolved := Array.replicate 339 none
  statics := none }

def pool9 : Array CpInfo := pool [(1, .class_ 2), (0, u "java/lang/Math"), (1, .class_ 6), (1, u "java/lang/Object"), (0, u "<init>"), (0, u "()V"), (89, .class_ 100), (1, u "java/lang/Math$RandomNumberGeneratorHolder"), (71, u "negativeZeroFloatBits"), (0, u "J"), (2, u "negativeZeroDoubleBits"), (21, u "max"), (46, u "$assertionsDisabled"), (0, u "Z"), (88, u "(II)I"), (2, u "twoToTheDoubleScaleDown"), (0, u "D"), (4, u "twoToTheDoubleScaleUp"), (9, u "E"), (3, u "PI"), (2, u "TAU"), (2, u "DEGREES_TO_RADIANS"), (0, u "RADIANS_TO_DEGREES")] 94

def k9m0 : Method := { name := "<init>", desc := "()V", sig := { parameters := [], returnType := none }, accessFlags := 2, code := none }
def k9c1 : Code := { maxStack := 2, maxLocals := 2, code := jdk_29_method_65_code, exceptionTable := #[], attributes := #[] }
def k9m1 : Method := { name := "max", desc := "(II)I", sig := { parameters := [.int, .int], returnType := some .int }, accessFlags := 9, code := some k9c1 }
/-- java/lang/Math -/
def k9 : Class := { plain "java/lang/Math" (some 0) with
  accessFlags := 49
  interfaces := #[]
  cf := some (fileOf pool9 1 #[.nestMembers #[98]] #[{ accessFlags := 2, nameIndex := 7, descriptorIndex := 8, attributes := #[] }, { accessFlags := 9, nameIndex := 198, descriptorIndex := 335, attributes := #[] }] 49 4 #[] #[{ accessFlags := 25, nameIndex := 354, descriptorIndex := 339, attributes := #[] }, { accessFlags := 25, nameIndex := 358, descriptorIndex := 339, attributes := #[] }, { accessFlags := 25, nameIndex := 361, descriptorIndex := 339, attributes := #[] }, { accessFlags := 26, nameIndex := 364, descriptorIndex := 339, attributes := #[] }, { accessFlags := 26, nameIndex := 365, descriptorIndex := 339, attributes := #[] }, { accessFlags := 26, nameIndex := 172, descriptorIndex := 173, attributes := #[] }, { accessFlags := 26, nameIndex := 176, descriptorIndex := 173, attributes := #[] }, { accessFlags := 8, nameIndex := 344, descriptorIndex := 339, attributes := #[] }, { accessFlags := 8, nameIndex := 338, descriptorIndex := 339, attributes := #[] }, { accessFlags := 4120, nameIndex := 245, descriptorIndex := 246, attributes := #[] }])
  fields := #[{ name := "E", type := .double, accessFlags := 25, slot := 0, constantValue := 0 }, { name := "PI", type := .double, accessFlags := 25, slot := 1, constantValue := 0 }, { name := "TAU", type := .double, accessFlags := 25, slot := 2, constantValue := 0 }, { name := "DEGREES_TO_RADIANS", type := .double, accessFlags := 26, slot := 3, constantValue := 0 }, { name := "RADIANS_TO_DEGREES", type := .double, accessFlags := 26, slot := 4, constantValue := 0 }, { name := "negativeZeroFloatBits", type := .long, accessFlags := 26, slot := 5, constantValue := 0 }, { name := "negativeZeroDoubleBits", type := .long, accessFlags := 26, slot := 6, constantValue := 0 }, { name := "twoToTheDoubleScaleUp", type := .double, accessFlags := 8, slot := 7, constantValue := 0 }, { name := "twoToTheDoubleScaleDown", type := .double, accessFlags := 8, slot := 8, constantValue := 0 }, { name := "$assertionsDisabled", type := .boolean, accessFlags := 4120, slot := 9, constantValue := 0 }]
  methods := #[k9m0, k9m1]
  instanceTypes := #[]
  staticTypes := #[.double, .double, .double, .double, .double, .long, .long, .double, .double, .boolean]
  resolved := Array.replicate 460 none
  statics := none }

def pool10 : Array CpInfo := pool [(1, u "java/lang/Cloneable"), (0, .class_ 1), (0, u "java/lang/Object"), (0, .class_ 3)] 3

/-- java/lang/Cloneable -/
def k10 : Class := { plain "java/lang/Cloneable" (some 0) with
  accessFlags := 1537
  interfaces := #[]
  cf := some (fileOf pool10 2 #[] #[] 1537 4 #[] #[])
  fields := #[]
  methods := #[]
  instanceTypes := #[]
  staticTypes := #[]
  resolved := Array.replicate 8 none
  statics := none }

/-- the primitive byte -/
def k11 : Class := { plain "byte" none with kind := .primitive 'B', accessFlags := 0x411 }
/-- [B -/
def k12 : Class := { plain "[B" (some 0) with kind := .array 11 .byte, interfaces := #[10, 4], accessFlags := 1041 }

/-- the primitive int -/
def k13 : Class := { plain "int" none with kind := .primitive 'I', accessFlags := 0x411 }
/-- [I -/
def k14 : Class := { plain "[I" (some 0) with kind := .array 13 .int, interfaces := #[10, 4], accessFlags := 1041 }

def heap : Heap := #[{ cls := 6, slots := #[.ref 1, .ref 8, .ref 2, .ref 9, .ref 3, .ref 4, .ref 5, .ref 6, .ref 7, .null], vm := .statics 6 },
  { cls := 6, slots := #[.null, .int 0, .int 0], vm := .none },
  { cls := 6, slots := #[.null, .int 2, .int 0], vm := .none },
  { cls := 6, slots := #[.null, .int 4, .int 0], vm := .none },
  { cls := 6, slots := #[.null, .int 5, .int 0], vm := .none },
  { cls := 6, slots := #[.null, .int 6, .int 0], vm := .none },
  { cls := 6, slots := #[.null, .int 7, .int 0], vm := .none },
  { cls := 6, slots := #[.null, .int 8, .int 0], vm := .none },
  { cls := 6, slots := #[.null, .int 1, .int 0], vm := .none },
  { cls := 6, slots := #[.null, .int 3, .int 0], vm := .none }]
def classes : Array Class := #[k0, k1, k2, k3, k4, k5, k6, k7, k8, k9, k10, k11, k12, k13, k14]
def interned : List (Array UInt16 × Addr) := []
def slotsUsed : Nat := 37
def theMethod : MethodId := ⟨1, 2⟩
def args0 : Array Value := #[.int 5, .int 4, .int 3]
def aboutOver (below : List Frame) : State where
  vm := { classes := classes, interned := interned.toArray }
  heap := heap
  slotsUsed := slotsUsed
  threads := #[{ frames := .invoking theMethod args0 :: below }]
def below0 : List Frame := [.native { method := ⟨0, 0⟩, args := #[] }]
def about1 : State := aboutOver below0
def p0 : Program := .bare "" "" ""
def e0 : Env := launch0.env 0 0 0
theorem w_frames : about1.frames = Frame.invoking theMethod args0 :: below0 := rfl
set_option maxRecDepth 65536 in
theorem w_args : argsFit about1.vm theMethod args0 = true := by decide +kernel
set_option maxRecDepth 65536 in
theorem w_heap : heapFits about1 = true := by decide +kernel
set_option maxRecDepth 65536 in
theorem w_runnable : about1.curStatus? = some .runnable := by decide +kernel
set_option maxRecDepth 65536 in
theorem w_alone : about1.alone = true := by decide +kernel
set_option maxRecDepth 65536 in
theorem w_named : about1.methodNamed? x = some theMethod := by decide +kernel
set_option maxRecDepth 65536 in
theorem w_hears : about1.hears theMethod below0 = true := by decide +kernel
set_option maxRecDepth 65536 in
theorem w_ripe : about1.ripe theMethod args0 below0 = true := by decide +kernel
theorem w_running : about1.status = .running := rfl
set_option maxRecDepth 65536 in
theorem w_room : about1.hasRoom e0.platform room_1 = true :=
  launch0.hasRoom_least _ room_1 (by decide +kernel) (by decide +kernel) (by decide +kernel) (by decide +kernel) (by decide +kernel) (by decide +kernel)
theorem allAtoms_all (ts : List Jvm.Cond) (a : Array Jvm.Value) (st : Jvm.State) : (allAtoms ts).before a st = ts.all (fun c => c.before a st) := by
  induction ts with
  | nil => rfl
  | cons c t ih =>
    show (Jvm.Cond.and c (allAtoms t)).before a st = _
    rw [Jvm.Cond.before_and, ih, List.all_cons]
def words1 : List Jvm.Cond := Jvm.Cond.code x code maxLocals ret :: tables_1
/-- a 'code' word, met by the world's own term for the bytes: nothing is compared byte by byte -/
theorem code_word {y : MethodName} {bytes : ByteArray} {mx : Nat} {rt : Option FieldType} {a : Array Value} {s : State} {m : MethodId} {meth : Method} {c : Code} (h1 : s.methodNamed? y = some m) (h2 : s.vm.method? m = some meth) (h3 : meth.code = some c) (h4 : c.code = bytes)
    (h5 : (c.maxLocals == mx && c.exceptionTable.isEmpty && decide (c.maxStack ≤ mostOperands) && decide (meth.sig.returnType = rt) && !meth.locks && decide (parseMethodDescriptor y.desc = some meth.sig)) = true) : (Jvm.Cond.code y bytes mx rt).before a s = true := by
  simp only [Bool.and_eq_true, beq_iff_eq, Bool.not_eq_true', decide_eq_true_eq] at h5
  obtain ⟨⟨⟨⟨⟨g1, g2⟩, g3⟩, g4⟩, g5⟩, g6⟩ := h5
  simp [Cond.before, Cond.holds, Cond.value, h1, h2, h3, h4, g1, g2, g3, g4, g5, g6]
def isCode : Jvm.Cond → Bool
  | .code _ _ _ _ => true
  | _ => false
theorem all_split {L : List Jvm.Cond} {P : Jvm.Cond → Bool} (h1 : L.all (fun c => isCode c || P c) = true) (h2 : ∀ c ∈ L.filter isCode, P c = true) : L.all P = true := by
  refine List.all_eq_true.mpr fun c hc => ?_
  have h := List.all_eq_true.mp h1 c hc
  rcases Bool.eq_false_or_eq_true (isCode c) with hi | hi
  · exact h2 c (List.mem_filter.mpr ⟨hc, hi⟩)
  · simpa [hi] using h
set_option maxRecDepth 65536 in
theorem w_c0 : (Jvm.Cond.code x code maxLocals ret).before args0 about1 = true := code_word (m := ⟨1, 2⟩) (meth := k1m2) (c := k1c2) (by decide +kernel) rfl rfl rfl (by decide +kernel)
set_option maxRecDepth 65536 in
theorem w_c1 : (Jvm.Cond.code ({ cls := "com/example/cairn/cairn/types/DataTypeIsStorablePinLaw", name := "pick", desc := "(I)Lcom/example/cairn/cairn/types/DataType$Kind;" } : Jvm.MethodName) method_2_code (1 : Nat) (Option.some (Jvm.ClassFile.FieldType.object "com/example/cairn/cairn/types/DataType$Kind"))).before args0 about1 = true := code_word (m := ⟨1, 1⟩) (meth := k1m1) (c := k1c1) (by decide +kernel) rfl rfl rfl (by decide +kernel)
set_option maxRecDepth 65536 in
theorem w_c2 : (Jvm.Cond.code ({ cls := "com/example/cairn/cairn/types/DataType", name := "<init>", desc := "(Lcom/example/cairn/cairn/types/DataType$Kind;II)V" } : Jvm.MethodName) prog_163_method_1_code (5 : Nat) (Option.none : Option Jvm.ClassFile.FieldType)).before args0 about1 = true := code_word (m := ⟨8, 0⟩) (meth := k8m0) (c := k8c0) (by decide +kernel) rfl rfl rfl (by decide +kernel)
set_option maxRecDepth 65536 in
theorem w_c3 : (Jvm.Cond.code ({ cls := "java/lang/Record", name := "<init>", desc := "()V" } : Jvm.MethodName) jdk_30_method_1_code (1 : Nat) (Option.none : Option Jvm.ClassFile.FieldType)).before args0 about1 = true := code_word (m := ⟨7, 0⟩) (meth := k7m0) (c := k7c0) (by decide +kernel) rfl rfl rfl (by decide +kernel)
set_option maxRecDepth 65536 in
theorem w_c4 : (Jvm.Cond.code ({ cls := "java/lang/Object", name := "<init>", desc := "()V" } : Jvm.MethodName) object_method_1_code (1 : Nat) (Option.none : Option Jvm.ClassFile.FieldType)).before args0 about1 = true := code_word (m := ⟨0, 0⟩) (meth := k0m0) (c := k0c0) (by decide +kernel) rfl rfl rfl (by decide +kernel)
set_option maxRecDepth 65536 in
theorem w_c5 : (Jvm.Cond.code ({ cls := "com/example/cairn/cairn/types/DataType", name := "isStorable", desc := "()Z" } : Jvm.MethodName) prog_163_method_10_code (1 : Nat) (Option.some Jvm.ClassFile.FieldType.boolean)).before args0 about1 = true := code_word (m := ⟨8, 1⟩) (meth := k8m1) (c := k8c1) (by decide +kernel) rfl rfl rfl (by decide +kernel)
set_option maxRecDepth 65536 in
theorem w_c6 : (Jvm.Cond.code ({ cls := "java/lang/Math", name := "max", desc := "(II)I" } : Jvm.MethodName) jdk_29_method_65_code (2 : Nat) (Option.some Jvm.ClassFile.FieldType.int)).before args0 about1 = true := code_word (m := ⟨9, 1⟩) (meth := k9m1) (c := k9c1) (by decide +kernel) rfl rfl rfl (by decide +kernel)
def codes1 : List Jvm.Cond := [Jvm.Cond.code x code maxLocals ret, Jvm.Cond.code ({ cls := "com/example/cairn/cairn/types/DataTypeIsStorablePinLaw", name := "pick", desc := "(I)Lcom/example/cairn/cairn/types/DataType$Kind;" } : Jvm.MethodName) method_2_code (1 : Nat) (Option.some (Jvm.ClassFile.FieldType.object "com/example/cairn/cairn/types/DataType$Kind")), Jvm.Cond.code ({ cls := "com/example/cairn/cairn/types/DataType", name := "<init>", desc := "(Lcom/example/cairn/cairn/types/DataType$Kind;II)V" } : Jvm.MethodName) prog_163_method_1_code (5 : Nat) (Option.none : Option Jvm.ClassFile.FieldType), Jvm.Cond.code ({ cls := "java/lang/Record", name := "<init>", desc := "()V" } : Jvm.MethodName) jdk_30_method_1_code (1 : Nat) (Option.none : Option Jvm.ClassFile.FieldType), Jvm.Cond.code ({ cls := "java/lang/Object", name := "<init>", desc := "()V" } : Jvm.MethodName) object_method_1_code (1 : Nat) (Option.none : Option Jvm.ClassFile.FieldType), Jvm.Cond.code ({ cls := "com/example/cairn/cairn/types/DataType", name := "isStorable", desc := "()Z" } : Jvm.MethodName) prog_163_method_10_code (1 : Nat) (Option.some Jvm.ClassFile.FieldType.boolean), Jvm.Cond.code ({ cls := "java/lang/Math", name := "max", desc := "(II)I" } : Jvm.MethodName) jdk_29_method_65_code (2 : Nat) (Option.some Jvm.ClassFile.FieldType.int)]
set_option maxRecDepth 65536 in
theorem codes_eq : words1.filter isCode = codes1 := rfl
theorem w_codes : ∀ c ∈ words1.filter isCode, c.before args0 about1 = true := by
  rw [codes_eq]
  intro c hc
  simp only [codes1, List.mem_cons, List.not_mem_nil, or_false] at hc
  rcases hc with rfl | rfl | rfl | rfl | rfl | rfl | rfl
  · exact w_c0
  · exact w_c1
  · exact w_c2
  · exact w_c3
  · exact w_c4
  · exact w_c5
  · exact w_c6
set_option maxRecDepth 65536 in
theorem w_t1 : (words1.take 24).all (fun c => isCode c || c.before args0 about1) = true := by decide +kernel
set_option maxRecDepth 65536 in
theorem w_t2 : ((words1.drop 24).take 24).all (fun c => isCode c || c.before args0 about1) = true := by decide +kernel
set_option maxRecDepth 65536 in
theorem w_t3 : ((words1.drop 24).drop 24).all (fun c => isCode c || c.before args0 about1) = true := by decide +kernel
theorem w_tables : (allAtoms (Jvm.Cond.code x code maxLocals ret :: tables_1)).before args0 about1 = true := by
  rw [allAtoms_all]
  show words1.all (fun c => c.before args0 about1) = true
  refine all_split ?_ w_codes
  rw [← List.take_append_drop 24 words1, List.all_append, w_t1, ← List.take_append_drop 24 (words1.drop 24), List.all_append, w_t2, w_t3]
  rfl
set_option maxRecDepth 65536 in
theorem w_case : (Jvm.Cond.and given_1 narrow_1).before args0 about1 = true := by decide +kernel
theorem w_applies : (headSpec (Jvm.Cond.code x code maxLocals ret :: tables_1) room_1).applies x e0.platform about1 = true :=
  (Spec.applies_iff w_frames).mpr ⟨w_running, w_runnable, w_alone, w_named, w_hears, w_ripe, w_room, w_tables⟩
theorem atStart : AtStart classFile x code maxLocals ret World_1 tables_1 room_1 Calls_1 rest_1 Pre_1 launch0 p0 e0 about1 theMethod args0 below0 :=
  ⟨lists_1, trivial, launch0.admits_env _ _ _, launch0.least_env, fairChoices_fair.cas, fairChoices_fair.clock, w_frames, w_args, w_heap, w_applies, trivial, trivial, w_case⟩
end start1
theorem witness_1 : WitnessClaimed_1 := ⟨start1.p0, start1.e0, start1.about1, start1.theMethod, start1.args0, start1.below0, start1.atStart⟩
end Jvm.Pilot.@@N@@
