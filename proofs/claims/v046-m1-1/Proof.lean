import JvmDerived
import JvmDerived.Pilot.@@N@@Statement
import JvmDerived.Pilot.@@N@@Code
set_option linter.unusedVariables false
set_option linter.unusedSimpArgs false
namespace Jvm.RoadKit
open Sem ClassFile Op Lib Jvm.Stand Jvm.Free Jvm.LawKit
section New
variable {p : Program} {l : Launch} {e : Env} {R : Room} {s : State} {m : MethodId} {args : Array Value} {below : List Frame} {meth : Method} {c : Code} {T : State} {locs : List Loc} {cells slots : Nat}
theorem retI (X : Stand p l e R s m args below meth c T locs cells slots) (hx : p.tables.exec = Jvm.exec) {pc : Nat} {Ls : Array Slot} {z : Int32} {rest : List Value} (hret : meth.sig.returnType = some .int) (hd : decode c.code pc = .ok (.ireturn, 1)) {fs : List Frame}
    (hl : ∀ (f : JFrame) (acts : List Action), f.method = m → f.locked = none → f.entered = [] → (doReturn e (T.setTop f) acts (some (.int z))).1 = T.setFrames fs) : Steps p.tables e below (T.setTop (mkF m pc Ls (.int z :: rest))) (T.setFrames fs) :=
  retOut X hx hret rfl (Or.inl ⟨rfl, Or.inl rfl, z, rfl⟩) hd hl
end New
end Jvm.RoadKit
namespace Jvm.Pilot.@@N@@
open Jvm Jvm.ClassFile Sem Op Lib Jvm.Free Jvm.Stand Jvm.LawKit Jvm.RoadKit Bundle Jvm.Pilot.@@N@@.Jvm.D
theorem ow {d : Jvm.Cond} (i : Nat) (h : tables_1[i]? = some d) : d ∈ tables_1 := List.mem_of_getElem? h
/-- what a body that only reads leaves: its answer, nothing written, the heap as it was -/
def own_Q (r : Option Value) (h0 : Heap) (n0 : Nat) (v : Option Value) (h : Heap) (L : List Loc) : Prop := v = r ∧ Fr n0 L ∧ h = h0
section OwnWords
variable {args : Array Value} {first s : State} {o : Option Outcome} {idx : List Nat} {a b : Term}
theorem own_eqI {k : Int32} (h : (Jvm.Cond.eq a (.int k)).value args first o s idx = some true) : a.eval args first o idx s = some (.int k) := by
  obtain ⟨x, y, hx, hy, k1, -⟩ := cmp_v (r := true) (Or.inl h)
  have hy' : y = .int k := (Option.some.inj hy).symm
  subst hy'
  cases x <;> simp [Kin, Value.isRef] at k1
  simp [Jvm.Cond.value, hx, Term.eval] at h
  rw [hx, h]
theorem own_eqR {y : Addr} (h : (Jvm.Cond.eq a b).value args first o s idx = some true) (hb : b.eval args first o idx s = some (.ref y)) : a.eval args first o idx s = some (.ref y) := by
  obtain ⟨x, z, hx, hy, k1, -⟩ := cmp_v (r := true) (Or.inl h)
  cases hb.symm.trans hy
  cases x <;> simp [Kin, Value.isRef] at k1
  · simp [Jvm.Cond.value, hx, hb] at h
  · simp [Jvm.Cond.value, hx, hb] at h
    rw [hx, h]
theorem own_len {y : Addr} {c : Cell} {n : Int32} (h : (Term.length a).eval args first o idx s = some (.int n)) (ht : a.eval args first o idx s = some (.ref y)) (hc : s.heap[y]? = some c) : (c.slots.size : Int) = n.toInt := by
  simp only [Term.eval, Option.bind_eq_bind, ht, Option.bind_some] at h
  obtain ⟨cell, hcell, h⟩ := Option.bind_eq_some_iff.mp h
  cases hc.symm.trans (State.arrayAt?_spec hcell).1
  by_cases hn : c.slots.size < 2147483648
  · rw [if_pos hn] at h; cases h; exact (len_toInt hn).symm
  · rw [if_neg hn] at h; cases h
end OwnWords
/-- an array that stands in the heap, with all that lies in it -/
def own_Arr (Z : State) (h : Heap) (a : Addr) (ty : FieldType) (vs : List Value) : Prop := ∃ c : Cell, Arr Z h a c ty ∧ c.slots = vs.toArray
/-- what a law leaves that makes arrays of its own -/
def own_QH (r : Option Value) (n0 : Nat) (v : Option Value) (h : Heap) (L : List Loc) : Prop := v = r ∧ Fr n0 L ∧ True
/-- the same of an array whose class is known -/
def own_ArrK (Z : State) (h : Heap) (a : Addr) (k : ClassId) (ty : FieldType) (vs : List Value) : Prop := ∃ c : Cell, Arr Z h a c ty ∧ c.cls = k ∧ c.slots = vs.toArray
section OwnArr
variable {Z : State} {h0 h h' : Heap} {a b : Addr} {k : ClassId} {ty : FieldType} {vs : List Value} {v : Value} {sl : Nat} {c : Cell}
theorem own_Arr.ext (F : own_Arr Z h a ty vs) (E : Ext h h') : own_Arr Z h' a ty vs := by obtain ⟨c, A, r⟩ := F; exact ⟨c, A.ext E, r⟩
theorem own_ArrK.lt (F : own_ArrK Z h a k ty vs) : a < h.size := by obtain ⟨c, A, -⟩ := F; exact A.lt
theorem own_ArrK.ext (F : own_ArrK Z h a k ty vs) (E : Ext h h') : own_ArrK Z h' a k ty vs := by obtain ⟨c, A, r⟩ := F; exact ⟨c, A.ext E, r⟩
theorem own_ArrK.other (F : own_ArrK Z h b k ty vs) (W : Wr h h' a sl v) (q : b ≠ a) : own_ArrK Z h' b k ty vs := by obtain ⟨c, A, r⟩ := F; exact ⟨c, A.other W q, r⟩
theorem own_set (W : Wr h h' a sl v) (A : Arr Z h a c ty) (q : c.cls = k) (e : c.slots = vs.toArray) : own_ArrK Z h' a k ty (vs.set sl v) := ⟨_, A.same W, q, by simp [Cell.setSlot, e]⟩
theorem own_inb {j : Int32} (n : Nat) (e : c.slots = vs.toArray) (hl : vs.length = n) (h0 : ¬ j < 0) (h1 : j.toNatClampNeg < n) : ¬ (j < 0 ∨ c.slots.size ≤ j.toNatClampNeg) := by
  rw [e]
  rintro (h | h)
  · exact h0 h
  · simp at h; omega
theorem own_get {j : Int32} (e : c.slots = vs.toArray) (hj : ¬ j < 0) (q : vs[j.toNatClampNeg]? = some v) : (¬ (j < 0 ∨ c.slots.size ≤ j.toNatClampNeg)) ∧ c.slots[j.toNatClampNeg]? = some v := by
  have hl := (List.getElem?_eq_some_iff.mp q).1
  rw [e]
  refine ⟨?_, by simpa using q⟩
  rintro (h | h)
  · exact hj h
  · simp at h; omega
theorem own_ext_trans {h'' : Heap} (E : Ext h h') (E' : Ext h' h'') : Ext h h'' := ⟨Nat.le_trans E.1 E'.1, fun x y q => E'.2 x y (E.2 x y q)⟩
theorem own_ext_wr (E : Ext h0 h) (W : Wr h h' a sl v) (q : h0.size ≤ a) : Ext h0 h' := by
  refine ⟨Nat.le_trans E.1 (Nat.le_of_eq W.size.symm), fun x y hx => ?_⟩
  have hlt := (Array.getElem?_eq_some_iff.mp hx).1
  obtain ⟨c', e1, -, -, -, e5, -⟩ := wr_at W (E.2 x y hx)
  rw [← e5 (Nat.ne_of_lt (Nat.lt_of_lt_of_le hlt q))]; exact e1
theorem own_ext_keep (E : Ext h0 h) (K : Keep h h' [a]) (q : h0.size ≤ a) : Ext h0 h' := ⟨Nat.le_trans E.1 K.1, fun x y hx => K.2.1 x y (E.2 x y hx) (ninS (Nat.ne_of_lt (Nat.lt_of_lt_of_le (Array.getElem?_eq_some_iff.mp hx).1 q)) nin0)⟩
end OwnArr
theorem own_exaI {args : Array Value} {Z : State} {idx : List Nat} {t : Term} {a : Addr} {C : String} (ev : t.eval args Z none idx Z = some (.ref a)) (hx : (Jvm.Cond.exactly t C).value args Z none Z idx = some true) : Exa Z Z.heap a C := by
  obtain ⟨a', c', cell, k, e1, e2, e3, e4, e5, rfl, e7⟩ := Cond.exactly_spec (beq_iff_eq.mpr hx : (Jvm.Cond.exactly t C).holds args Z none Z idx = true)
  cases ev.symm.trans e1
  exact ⟨cell, k, e3, e2, e4, e5, e7⟩
theorem own_nil {S : Array Value} (hn : (S.size : Int) = 0) : S = ([] : List Value).toArray := Array.eq_empty_of_size_eq_zero (by omega)
/-- the cache of Integer.valueOf: at each of its 256 places an Integer -/
def own_Cache (Z : State) (h : Heap) (a : Addr) : Prop := ∃ c : Cell, Arr Z h a c (.object "java/lang/Integer") ∧ ∀ j : Int32, ¬ j < 0 → j < (256 : Int32) → ∃ r, (¬ (j < 0 ∨ c.slots.size ≤ j.toNatClampNeg)) ∧ c.slots[j.toNatClampNeg]? = some (.ref r) ∧ Exa Z h r "java/lang/Integer"
theorem own_Cache.ext {Z : State} {h h' : Heap} {a : Addr} (F : own_Cache Z h a) (E : Ext h h') : own_Cache Z h' a := by
  obtain ⟨c, A, G⟩ := F
  refine ⟨c, A.ext E, fun j h1 h2 => ?_⟩
  obtain ⟨r, q1, q2, q3⟩ := G j h1 h2
  exact ⟨r, q1, q2, q3.ext E⟩
theorem own_fold {f : Nat → Option Bool} {g : Option Bool → Nat → Option Bool} (h1 : ∀ i, g (some true) i = f i) (h2 : ∀ x i, x ≠ some true → g x i = x) : ∀ (L : List Nat) (acc : Option Bool), L.foldl g acc = some true → acc = some true ∧ ∀ i ∈ L, f i = some true
  | [], acc, h => ⟨h, fun _ q => nomatch q⟩
  | i :: L, acc, h => by
    have q := own_fold h1 h2 L _ h
    by_cases e : acc = some true
    · subst e
      rw [h1] at q
      exact ⟨rfl, fun j hj => (List.mem_cons.mp hj).elim (fun e => e ▸ q.1) (q.2 j)⟩
    · rw [h2 _ _ e] at q
      exact absurd q.1 e
theorem own_all {args : Array Value} {s : State} {t : Term} {a : Addr} {c : Cell} {cd : Jvm.Cond} (ht : t.eval args s none [] s = some (.ref a)) (hc : s.heap[a]? = some c) (h : (Jvm.Cond.all t cd).value args s none s [] = some true) : ∀ i, i < c.slots.size → cd.value args s none s [i] = some true := by
  intro i hi
  simp only [Jvm.Cond.value, ht] at h
  split at h
  · rename_i cell hcell
    cases hc.symm.trans (State.arrayAt?_spec hcell).1
    exact (own_fold (f := fun i => cd.value args s none s [i]) (fun _ => rfl) (fun x i hx => by
      match x, hx with
      | some true, hx => exact absurd rfl hx
      | some false, _ => rfl
      | none, _ => rfl) _ _ h).2 i (List.mem_range.mpr hi)
  · cases h
theorem own_cache {args : Array Value} {s : State} {t : Term} {a : Addr} {c : Cell} {cd : Jvm.Cond} (ht : t.eval args s none [] s = some (.ref a)) (A : Arr s s.heap a c (.object "java/lang/Integer")) (hn : (c.slots.size : Int) = 256) (h : (Jvm.Cond.all t (.and (.exactly (.elem t (.index 0)) "java/lang/Integer") cd)).value args s none s [] = some true) (hix : ∀ i : Nat, t.eval args s none [i] s = some (.ref a)) : own_Cache s s.heap a := by
  refine ⟨c, A, fun j h1 h2 => ?_⟩
  have e0 : (0 : Int32).toInt = 0 := by decide
  have e256 : (256 : Int32).toInt = 256 := by decide
  have g1 := h1
  rw [Int32.lt_iff_toInt_lt] at g1 h2
  have hj : j.toNatClampNeg < c.slots.size := by simp only [Int32.toNatClampNeg]; omega
  have q1 := (and_e (own_all ht A.1 h _ hj)).1
  obtain ⟨r, er⟩ := exa_v q1
  have E := own_exaI er q1
  have ej : j.toNatClampNeg.toInt32 = j := (back32 h1).1
  have ei : (Term.index 0).eval args s none [j.toNatClampNeg] s = some (.int j) := by simp [Term.eval, ej]
  obtain ⟨c', g1, g2, g3⟩ := elem_at er (hix _) ei
  cases A.1.symm.trans g1
  exact ⟨r, g2, g3, E⟩
/-- the Class object of Object[] has been made -/
def own_M (Z : State) (_ : Heap) (m : Addr) : Prop := ∃ (c : ClassId) (k : Class), Z.vm.findClass "[Ljava/lang/Object;" = some c ∧ Z.vm.classes[c]? = some k ∧ k.mirror = some m
theorem own_M.ext {Z : State} {h h' : Heap} {m : Addr} (F : own_M Z h m) (_ : Ext h h') : own_M Z h' m := F
section OwnG
variable {Z : State} {h0 h h' : Heap} {ws : List Addr}
theorem own_ext_keepL (E : Ext h0 h) (K : Keep h h' ws) (q : ∀ x ∈ ws, h0.size ≤ x) : Ext h0 h' := ⟨Nat.le_trans E.1 K.1, fun x y hx => K.2.1 x y (E.2 x y hx) fun m => absurd (Array.getElem?_eq_some_iff.mp hx).1 (Nat.not_lt.mpr (q x m))⟩
theorem own_ArrK.keep {a : Addr} {k : ClassId} {ty : FieldType} {vs : List Value} (F : own_ArrK Z h a k ty vs) (K : Keep h h' ws) (q : a ∉ ws) : own_ArrK Z h' a k ty vs := by obtain ⟨c, A, r⟩ := F; exact ⟨c, ⟨K.2.1 a c A.1 q, A.2⟩, r⟩
theorem own_NS_root {a0 : Array Value} {O K : String} {n : Nat} (w : (Jvm.Cond.noSuperclass O).before a0 Z = true) (wk : (Jvm.Cond.instantiable K n).before a0 Z = true) (hn : O ≠ K) : NS Z O K := by
  obtain ⟨c, k, h1, h2, h3, -, -⟩ := Cond.noSuperclass_spec w
  obtain ⟨t, k2, g1, -⟩ := Cond.instantiable_spec wk
  have ne := ids_ne h1 g1 hn
  refine ⟨c, t, h1, g1, fun fuel => ?_⟩
  cases fuel with
  | zero => rfl
  | succ f => simp [Vm.isSubclassAux, ne, h2, h3]
theorem own_NS_no {a0 : Array Value} {C S K : String} {n : Nat} (w : (Jvm.Cond.superclass C S).before a0 Z = true) (wk : (Jvm.Cond.instantiable K n).before a0 Z = true) (q : NS Z C K) (hn : C ≠ K) : ∃ c t, Z.vm.findClass C = some c ∧ Z.vm.findClass K = some t ∧ Z.vm.assignable c t = false := by
  obtain ⟨c, t, h0, g0, n3⟩ := q
  obtain ⟨p, k, kp, h1, h2, h3, h4, h5, -, h7⟩ := Cond.superclass_spec h0 w
  obtain ⟨t', k', g1, g2, g5, g7, -⟩ := Cond.instantiable_spec wk
  cases g0.symm.trans g1
  have ne := ids_ne h0 g0 hn
  simp only [Bool.or_eq_false_iff] at g7
  refine ⟨c, t, h0, g0, ?_⟩
  show Z.vm.assignableAux (255 + 1) c t = false
  simp [Vm.assignableAux, ne, h2, g2, h5, g5, g7.1, Vm.isSubclass, n3]
end OwnG
def own_K (Z : State) (h : Heap) (w_ROWS w_RESULT w_PARTIAL_GROUPS w_MERGED_GROUPS w_D w_EL w_EE w_C w_EM w_M : Addr) : Prop := Sta Z h "com/example/cairn/cairn/plan/Stage$Shape" "ROWS" "Lcom/example/cairn/cairn/plan/Stage$Shape;" (.ref w_ROWS) ∧ Exa Z h w_ROWS "com/example/cairn/cairn/plan/Stage$Shape" ∧ Fld Z h w_ROWS "java/lang/Enum" "ordinal" "I" (.int (0 : Int32)) ∧ Sta Z h "com/example/cairn/cairn/plan/Stage$Shape" "RESULT" "Lcom/example/cairn/cairn/plan/Stage$Shape;" (.ref w_RESULT) ∧ Exa Z h w_RESULT "com/example/cairn/cairn/plan/Stage$Shape" ∧ Fld Z h w_RESULT "java/lang/Enum" "ordinal" "I" (.int (1 : Int32)) ∧ Sta Z h "com/example/cairn/cairn/plan/Stage$Shape" "PARTIAL_GROUPS" "Lcom/example/cairn/cairn/plan/Stage$Shape;" (.ref w_PARTIAL_GROUPS) ∧ Exa Z h w_PARTIAL_GROUPS "com/example/cairn/cairn/plan/Stage$Shape" ∧ Fld Z h w_PARTIAL_GROUPS "java/lang/Enum" "ordinal" "I" (.int (2 : Int32)) ∧ Sta Z h "com/example/cairn/cairn/plan/Stage$Shape" "MERGED_GROUPS" "Lcom/example/cairn/cairn/plan/Stage$Shape;" (.ref w_MERGED_GROUPS) ∧ Exa Z h w_MERGED_GROUPS "com/example/cairn/cairn/plan/Stage$Shape" ∧ Fld Z h w_MERGED_GROUPS "java/lang/Enum" "ordinal" "I" (.int (3 : Int32)) ∧ Sta Z h "java/util/ArrayList" "DEFAULTCAPACITY_EMPTY_ELEMENTDATA" "[Ljava/lang/Object;" (.ref w_D) ∧ own_Arr Z h w_D (.object "java/lang/Object") [] ∧ Sta Z h "java/util/ImmutableCollections" "EMPTY_LIST" "Ljava/util/ImmutableCollections$ListN;" (.ref w_EL) ∧ Exa Z h w_EL "java/util/ImmutableCollections$ListN" ∧ Fld Z h w_EL "java/util/ImmutableCollections$ListN" "elements" "[Ljava/lang/Object;" (.ref w_EE) ∧ own_Arr Z h w_EE (.object "java/lang/Object") [] ∧ Fld Z h w_EL "java/util/ImmutableCollections$ListN" "allowNulls" "Z" (.int (0 : Int32)) ∧ Sta Z h "java/lang/Integer$IntegerCache" "high" "I" (.int (127 : Int32)) ∧ Sta Z h "java/lang/Integer$IntegerCache" "cache" "[Ljava/lang/Integer;" (.ref w_C) ∧ own_Cache Z h w_C ∧ Sta Z h "java/util/ImmutableCollections" "EMPTY" "Ljava/lang/Object;" (.ref w_EM) ∧ own_M Z h w_M
theorem own_K_ext {Z : State} {h h' : Heap} {w_ROWS w_RESULT w_PARTIAL_GROUPS w_MERGED_GROUPS w_D w_EL w_EE w_C w_EM w_M : Addr} (E : Ext h h') (hK : own_K Z h w_ROWS w_RESULT w_PARTIAL_GROUPS w_MERGED_GROUPS w_D w_EL w_EE w_C w_EM w_M) : own_K Z h' w_ROWS w_RESULT w_PARTIAL_GROUPS w_MERGED_GROUPS w_D w_EL w_EE w_C w_EM w_M := by
  obtain ⟨S_w_ROWS, E_w_ROWS, F_ordinal_w_ROWS, S_w_RESULT, E_w_RESULT, F_ordinal_w_RESULT, S_w_PARTIAL_GROUPS, E_w_PARTIAL_GROUPS, F_ordinal_w_PARTIAL_GROUPS, S_w_MERGED_GROUPS, E_w_MERGED_GROUPS, F_ordinal_w_MERGED_GROUPS, S_w_D, B_w_D, S_w_EL, E_w_EL, F_elements_w_EL, B_w_EE, F_allowNulls_w_EL, S_high, S_w_C, C_w_C, S_w_EM, M_w_M⟩ := hK
  exact ⟨S_w_ROWS.ext E, E_w_ROWS.ext E, F_ordinal_w_ROWS.ext E, S_w_RESULT.ext E, E_w_RESULT.ext E, F_ordinal_w_RESULT.ext E, S_w_PARTIAL_GROUPS.ext E, E_w_PARTIAL_GROUPS.ext E, F_ordinal_w_PARTIAL_GROUPS.ext E, S_w_MERGED_GROUPS.ext E, E_w_MERGED_GROUPS.ext E, F_ordinal_w_MERGED_GROUPS.ext E, S_w_D.ext E, B_w_D.ext E, S_w_EL.ext E, E_w_EL.ext E, F_elements_w_EL.ext E, B_w_EE.ext E, F_allowNulls_w_EL.ext E, S_high.ext E, S_w_C.ext E, C_w_C.ext E, S_w_EM.ext E, M_w_M.ext E⟩
theorem d_jdk_22_method_1_0 : decode jdk_22_method_1_code 0 = .ok (.aload_n 0, 1) := by decide +kernel
theorem d_jdk_22_method_1_1 : decode jdk_22_method_1_code 1 = .ok (.invokespecial 1, 3) := by decide +kernel
theorem d_jdk_22_method_1_4 : decode jdk_22_method_1_code 4 = .ok (.return_, 1) := by decide +kernel
theorem pn_0 : plainName "java/util/AbstractCollection" = true := by first | (simp [plainName, overriddenIn]; done) | decide +kernel
theorem ef_acinit (m : MethodId) (x0 : Addr) : entryFrame m #[(.ref x0)] 1 = mkF m 0 #[.val (.ref x0)] [] := by first | (simp [entryFrame, mkF, argsToLocals, Value.category]; done) | rfl
set_option maxRecDepth 65536 in
set_option maxHeartbeats 40000000 in
theorem rm_acinit (l : Launch) (Z : State) (a0 : Array Value) (hw : ∀ d ∈ tables_1, d.before a0 Z = true) (ws : List Jvm.Cond) (a1 : Addr) (h0 : Heap) (n0 : Nat) :
    MetFree l (⟨"java/util/AbstractCollection", "<init>", "()V"⟩ : MethodName) (head1 (Jvm.Cond.code (⟨"java/util/AbstractCollection", "<init>", "()V"⟩ : MethodName) jdk_22_method_1_code 1 none :: ws) ({ frames := 1, cells := 0, slots := 0, locals := 12 } : Room)) (fun a U => a = #[(.ref a1)] ∧ Z.Warmed39 U.vm ∧ U.heap = h0) (fun _ _ _ _ _ => True) (fun _ U o U' => ∃ v L, o = .returned v ∧ own_Q none h0 n0 v U'.heap L ∧ FrameEnd U o U' L ({ frames := 1, cells := 0, slots := 0, locals := 12 } : Room).cells ({ frames := 1, cells := 0, slots := 0, locals := 12 } : Room).slots) := by
  refine MetFree.of_bodySF (plainFor_of_name pn_0) hisR ?_
  intro p e s m args below meth c s₁ Bd hml0 hP hK0
  obtain ⟨rfl, hZ, hh⟩ := hP
  have hx := Bd.exec
  have hby := Bd.bytes
  have hml : c.maxLocals = 1 := hml0
  have hown : s.vm.findClass "java/util/AbstractCollection" = some m.cls := findClass_of_methodNamed Bd.named
  have hnm := (name_of_methodNamed Bd.named Bd.method).1
  have X0 : Stand p l e ({ frames := 1, cells := 0, slots := 0, locals := 12 } : Room) s m #[(.ref a1)] below meth c s₁ [] 0 0 := Stand.of_body Bd
  have e0 : s₁.heap = h0 := by rw [← hh, Bd.state]; rfl
  have N0 := Fr.nil n0
  have pre0 : ∀ t, Steps p.tables e below (s₁.setTop (mkF m 0 #[.val (.ref a1)] [])) t → Steps p.tables e below (s₁.setTop (entryFrame m #[(.ref a1)] 1)) t := fun t k => castTop (ef_acinit m a1) k
  obtain ⟨T1, X1, e1, st1⟩ := initO X0 hx hZ hown (hw _ (ow 18 rfl)) (hw _ (ow 19 rfl)) (hw _ (ow 20 rfl)) e0 (g := (mkF m 1 #[.val (.ref a1)] [(.ref a1)])) rfl (by rw [hml]; rfl) rfl (hb hby d_jdk_22_method_1_1) (by decide) (W := 0) (Nat.le_of_eq rfl) (by decide)
  have pre2 : ∀ t, Steps p.tables e below (T1.setTop (mkF m 4 #[.val (.ref a1)] [])) t → Steps p.tables e below (s₁.setTop (entryFrame m #[(.ref a1)] 1)) t := fun t k => pre0 t (by
    show Steps p.tables e below (s₁.setTop (mkF m 0 #[.val (.ref a1)] [])) _
    refine XS.aloadN X0.here hx rfl (hb hby d_jdk_22_method_1_0) rfl rfl ?_
    show Steps p.tables e below (s₁.setTop (mkF m 1 #[.val (.ref a1)] [(.ref a1)])) _
    refine st1 _ ?_
    exact k)
  obtain ⟨fs, hr, hrun, hended, hW, hsame⟩ := X1.leave (v := none) (fun _ => rfl)
  refine ⟨_, _, pre2 _ ?_, hrun, hended, _, _, rfl, ?_, ⟨_, rfl⟩, hW, hsame.mono (by decide) (by decide)⟩
  · show Steps p.tables e below (T1.setTop (mkF m 4 #[.val (.ref a1)] [])) _
    exact X1.returnOut hx Bd.returns (hb hby d_jdk_22_method_1_4) hr
  · exact ⟨rfl, N0, e1⟩
theorem d_jdk_30_method_1_0 : decode jdk_30_method_1_code 0 = .ok (.aload_n 0, 1) := by decide +kernel
theorem d_jdk_30_method_1_1 : decode jdk_30_method_1_code 1 = .ok (.invokespecial 1, 3) := by decide +kernel
theorem d_jdk_30_method_1_4 : decode jdk_30_method_1_code 4 = .ok (.return_, 1) := by decide +kernel
theorem pn_1 : plainName "java/lang/Record" = true := by first | (simp [plainName, overriddenIn]; done) | decide +kernel
theorem ef_recinit (m : MethodId) (x0 : Addr) : entryFrame m #[(.ref x0)] 1 = mkF m 0 #[.val (.ref x0)] [] := by first | (simp [entryFrame, mkF, argsToLocals, Value.category]; done) | rfl
set_option maxRecDepth 65536 in
set_option maxHeartbeats 40000000 in
theorem rm_recinit (l : Launch) (Z : State) (a0 : Array Value) (hw : ∀ d ∈ tables_1, d.before a0 Z = true) (ws : List Jvm.Cond) (a1 : Addr) (h0 : Heap) (n0 : Nat) :
    MetFree l (⟨"java/lang/Record", "<init>", "()V"⟩ : MethodName) (head1 (Jvm.Cond.code (⟨"java/lang/Record", "<init>", "()V"⟩ : MethodName) jdk_30_method_1_code 1 none :: ws) ({ frames := 1, cells := 0, slots := 0, locals := 12 } : Room)) (fun a U => a = #[(.ref a1)] ∧ Z.Warmed39 U.vm ∧ U.heap = h0) (fun _ _ _ _ _ => True) (fun _ U o U' => ∃ v L, o = .returned v ∧ own_Q none h0 n0 v U'.heap L ∧ FrameEnd U o U' L ({ frames := 1, cells := 0, slots := 0, locals := 12 } : Room).cells ({ frames := 1, cells := 0, slots := 0, locals := 12 } : Room).slots) := by
  refine MetFree.of_bodySF (plainFor_of_name pn_1) hisR ?_
  intro p e s m args below meth c s₁ Bd hml0 hP hK0
  obtain ⟨rfl, hZ, hh⟩ := hP
  have hx := Bd.exec
  have hby := Bd.bytes
  have hml : c.maxLocals = 1 := hml0
  have hown : s.vm.findClass "java/lang/Record" = some m.cls := findClass_of_methodNamed Bd.named
  have hnm := (name_of_methodNamed Bd.named Bd.method).1
  have X0 : Stand p l e ({ frames := 1, cells := 0, slots := 0, locals := 12 } : Room) s m #[(.ref a1)] below meth c s₁ [] 0 0 := Stand.of_body Bd
  have e0 : s₁.heap = h0 := by rw [← hh, Bd.state]; rfl
  have N0 := Fr.nil n0
  have pre0 : ∀ t, Steps p.tables e below (s₁.setTop (mkF m 0 #[.val (.ref a1)] [])) t → Steps p.tables e below (s₁.setTop (entryFrame m #[(.ref a1)] 1)) t := fun t k => castTop (ef_recinit m a1) k
  obtain ⟨T1, X1, e1, st1⟩ := initO X0 hx hZ hown (hw _ (ow 37 rfl)) (hw _ (ow 19 rfl)) (hw _ (ow 20 rfl)) e0 (g := (mkF m 1 #[.val (.ref a1)] [(.ref a1)])) rfl (by rw [hml]; rfl) rfl (hb hby d_jdk_30_method_1_1) (by decide) (W := 0) (Nat.le_of_eq rfl) (by decide)
  have pre2 : ∀ t, Steps p.tables e below (T1.setTop (mkF m 4 #[.val (.ref a1)] [])) t → Steps p.tables e below (s₁.setTop (entryFrame m #[(.ref a1)] 1)) t := fun t k => pre0 t (by
    show Steps p.tables e below (s₁.setTop (mkF m 0 #[.val (.ref a1)] [])) _
    refine XS.aloadN X0.here hx rfl (hb hby d_jdk_30_method_1_0) rfl rfl ?_
    show Steps p.tables e below (s₁.setTop (mkF m 1 #[.val (.ref a1)] [(.ref a1)])) _
    refine st1 _ ?_
    exact k)
  obtain ⟨fs, hr, hrun, hended, hW, hsame⟩ := X1.leave (v := none) (fun _ => rfl)
  refine ⟨_, _, pre2 _ ?_, hrun, hended, _, _, rfl, ?_, ⟨_, rfl⟩, hW, hsame.mono (by decide) (by decide)⟩
  · show Steps p.tables e below (T1.setTop (mkF m 4 #[.val (.ref a1)] [])) _
    exact X1.returnOut hx Bd.returns (hb hby d_jdk_30_method_1_4) hr
  · exact ⟨rfl, N0, e1⟩
theorem d_jdk_18_method_1_0 : decode jdk_18_method_1_code 0 = .ok (.aload_n 0, 1) := by decide +kernel
theorem d_jdk_18_method_1_1 : decode jdk_18_method_1_code 1 = .ok (.invokespecial 1, 3) := by decide +kernel
theorem d_jdk_18_method_1_4 : decode jdk_18_method_1_code 4 = .ok (.return_, 1) := by decide +kernel
theorem pn_2 : plainName "java/lang/Number" = true := by first | (simp [plainName, overriddenIn]; done) | decide +kernel
theorem ef_numinit (m : MethodId) (x0 : Addr) : entryFrame m #[(.ref x0)] 1 = mkF m 0 #[.val (.ref x0)] [] := by first | (simp [entryFrame, mkF, argsToLocals, Value.category]; done) | rfl
set_option maxRecDepth 65536 in
set_option maxHeartbeats 40000000 in
theorem rm_numinit (l : Launch) (Z : State) (a0 : Array Value) (hw : ∀ d ∈ tables_1, d.before a0 Z = true) (ws : List Jvm.Cond) (a1 : Addr) (h0 : Heap) (n0 : Nat) :
    MetFree l (⟨"java/lang/Number", "<init>", "()V"⟩ : MethodName) (head1 (Jvm.Cond.code (⟨"java/lang/Number", "<init>", "()V"⟩ : MethodName) jdk_18_method_1_code 1 none :: ws) ({ frames := 1, cells := 0, slots := 0, locals := 12 } : Room)) (fun a U => a = #[(.ref a1)] ∧ Z.Warmed39 U.vm ∧ U.heap = h0) (fun _ _ _ _ _ => True) (fun _ U o U' => ∃ v L, o = .returned v ∧ own_Q none h0 n0 v U'.heap L ∧ FrameEnd U o U' L ({ frames := 1, cells := 0, slots := 0, locals := 12 } : Room).cells ({ frames := 1, cells := 0, slots := 0, locals := 12 } : Room).slots) := by
  refine MetFree.of_bodySF (plainFor_of_name pn_2) hisR ?_
  intro p e s m args below meth c s₁ Bd hml0 hP hK0
  obtain ⟨rfl, hZ, hh⟩ := hP
  have hx := Bd.exec
  have hby := Bd.bytes
  have hml : c.maxLocals = 1 := hml0
  have hown : s.vm.findClass "java/lang/Number" = some m.cls := findClass_of_methodNamed Bd.named
  have hnm := (name_of_methodNamed Bd.named Bd.method).1
  have X0 : Stand p l e ({ frames := 1, cells := 0, slots := 0, locals := 12 } : Room) s m #[(.ref a1)] below meth c s₁ [] 0 0 := Stand.of_body Bd
  have e0 : s₁.heap = h0 := by rw [← hh, Bd.state]; rfl
  have N0 := Fr.nil n0
  have pre0 : ∀ t, Steps p.tables e below (s₁.setTop (mkF m 0 #[.val (.ref a1)] [])) t → Steps p.tables e below (s₁.setTop (entryFrame m #[(.ref a1)] 1)) t := fun t k => castTop (ef_numinit m a1) k
  obtain ⟨T1, X1, e1, st1⟩ := initO X0 hx hZ hown (hw _ (ow 253 rfl)) (hw _ (ow 19 rfl)) (hw _ (ow 20 rfl)) e0 (g := (mkF m 1 #[.val (.ref a1)] [(.ref a1)])) rfl (by rw [hml]; rfl) rfl (hb hby d_jdk_18_method_1_1) (by decide) (W := 0) (Nat.le_of_eq rfl) (by decide)
  have pre2 : ∀ t, Steps p.tables e below (T1.setTop (mkF m 4 #[.val (.ref a1)] [])) t → Steps p.tables e below (s₁.setTop (entryFrame m #[(.ref a1)] 1)) t := fun t k => pre0 t (by
    show Steps p.tables e below (s₁.setTop (mkF m 0 #[.val (.ref a1)] [])) _
    refine XS.aloadN X0.here hx rfl (hb hby d_jdk_18_method_1_0) rfl rfl ?_
    show Steps p.tables e below (s₁.setTop (mkF m 1 #[.val (.ref a1)] [(.ref a1)])) _
    refine st1 _ ?_
    exact k)
  obtain ⟨fs, hr, hrun, hended, hW, hsame⟩ := X1.leave (v := none) (fun _ => rfl)
  refine ⟨_, _, pre2 _ ?_, hrun, hended, _, _, rfl, ?_, ⟨_, rfl⟩, hW, hsame.mono (by decide) (by decide)⟩
  · show Steps p.tables e below (T1.setTop (mkF m 4 #[.val (.ref a1)] [])) _
    exact X1.returnOut hx Bd.returns (hb hby d_jdk_18_method_1_4) hr
  · exact ⟨rfl, N0, e1⟩
theorem d_jdk_47_method_1_0 : decode jdk_47_method_1_code 0 = .ok (.aload_n 0, 1) := by decide +kernel
theorem d_jdk_47_method_1_1 : decode jdk_47_method_1_code 1 = .ok (.invokespecial 1, 3) := by decide +kernel
theorem pd_0 : parseMethodDescriptor "()V" = some ⟨[], none⟩ := by decide +kernel
theorem d_jdk_47_method_1_4 : decode jdk_47_method_1_code 4 = .ok (.return_, 1) := by decide +kernel
theorem pn_3 : plainName "java/util/ImmutableCollections$AbstractImmutableCollection" = true := by first | (simp [plainName, overriddenIn]; done) | decide +kernel
theorem ef_aicinit (m : MethodId) (x0 : Addr) : entryFrame m #[(.ref x0)] 1 = mkF m 0 #[.val (.ref x0)] [] := by first | (simp [entryFrame, mkF, argsToLocals, Value.category]; done) | rfl
set_option maxRecDepth 65536 in
set_option maxHeartbeats 40000000 in
theorem rm_aicinit (l : Launch) (Z : State) (a0 : Array Value) (hw : ∀ d ∈ tables_1, d.before a0 Z = true) (ws : List Jvm.Cond) (a1 : Addr) (h0 : Heap) (n0 : Nat) :
    MetFree l (⟨"java/util/ImmutableCollections$AbstractImmutableCollection", "<init>", "()V"⟩ : MethodName) (head1 (Jvm.Cond.code (⟨"java/util/ImmutableCollections$AbstractImmutableCollection", "<init>", "()V"⟩ : MethodName) jdk_47_method_1_code 1 none :: ws) ({ frames := 2, cells := 0, slots := 0, locals := 24 } : Room)) (fun a U => a = #[(.ref a1)] ∧ Z.Warmed39 U.vm ∧ U.heap = h0) (fun _ _ _ _ _ => True) (fun _ U o U' => ∃ v L, o = .returned v ∧ own_Q none h0 n0 v U'.heap L ∧ FrameEnd U o U' L ({ frames := 2, cells := 0, slots := 0, locals := 24 } : Room).cells ({ frames := 2, cells := 0, slots := 0, locals := 24 } : Room).slots) := by
  refine MetFree.of_bodySF (plainFor_of_name pn_3) hisR ?_
  intro p e s m args below meth c s₁ Bd hml0 hP hK0
  obtain ⟨rfl, hZ, hh⟩ := hP
  have hx := Bd.exec
  have hby := Bd.bytes
  have hml : c.maxLocals = 1 := hml0
  have hown : s.vm.findClass "java/util/ImmutableCollections$AbstractImmutableCollection" = some m.cls := findClass_of_methodNamed Bd.named
  have hnm := (name_of_methodNamed Bd.named Bd.method).1
  have X0 : Stand p l e ({ frames := 2, cells := 0, slots := 0, locals := 24 } : Room) s m #[(.ref a1)] below meth c s₁ [] 0 0 := Stand.of_body Bd
  have e0 : s₁.heap = h0 := by rw [← hh, Bd.state]; rfl
  have N0 := Fr.nil n0
  have pre0 : ∀ t, Steps p.tables e below (s₁.setTop (mkF m 0 #[.val (.ref a1)] [])) t → Steps p.tables e below (s₁.setTop (entryFrame m #[(.ref a1)] 1)) t := fun t k => castTop (ef_aicinit m a1) k
  obtain ⟨v1, _, ⟨T1, L1, k1, n1⟩, -, X1, ⟨Lc1, hQ1, l1, y1, z1⟩, st1⟩ := X0.specialBack hx (y := (⟨"java/util/AbstractCollection", "<init>", "()V"⟩ : MethodName)) rfl hown (mvT hZ (hw _ (ow 170 rfl))) (mvT hZ (hw _ (ow 13 rfl))) (mvT hZ (hw _ (ow 17 rfl))) (by decide) (backOf (W := 0) (rm_acinit l Z a0 hw [] a1 h0 n0) hZ (hw _ (ow 17 rfl)) (hw _ (ow 16 rfl)) (by decide) (by decide)) (g := (mkF m 1 #[.val (.ref a1)] [(.ref a1)])) rfl (by rw [hml]; rfl) (Steps.refl _) (a := a1) (argsL := []) (rest := []) (lenOf pd_0 rfl) rfl (Nat.le_of_eq rfl) (hb hby d_jdk_47_method_1_1) (fun _ _ => ⟨rfl, e0, (by decide : 0 + 0 ≤ _), (by decide : 0 + 0 ≤ _)⟩)
  dsimp only [Pt.U, Pt.locs, Pt.cells, Pt.slots] at X1 l1 y1 z1 st1 hQ1
  subst y1 z1
  obtain ⟨hv1, Nq1, e1⟩ := hQ1
  obtain rfl : v1 = none := hv1
  have N1 : Fr n0 L1 := by rw [l1]; exact Fr.app N0 Nq1
  have pre2 : ∀ t, Steps p.tables e below (T1.setTop (mkF m 4 #[.val (.ref a1)] [])) t → Steps p.tables e below (s₁.setTop (entryFrame m #[(.ref a1)] 1)) t := fun t k => pre0 t (by
    show Steps p.tables e below (s₁.setTop (mkF m 0 #[.val (.ref a1)] [])) _
    refine XS.aloadN X0.here hx rfl (hb hby d_jdk_47_method_1_0) rfl rfl ?_
    show Steps p.tables e below (s₁.setTop (mkF m 1 #[.val (.ref a1)] [(.ref a1)])) _
    refine st1.trans ?_
    exact k)
  obtain ⟨fs, hr, hrun, hended, hW, hsame⟩ := X1.leave (v := none) (fun _ => rfl)
  refine ⟨_, _, pre2 _ ?_, hrun, hended, _, _, rfl, ?_, ⟨_, rfl⟩, hW, hsame.mono (by decide) (by decide)⟩
  · show Steps p.tables e below (T1.setTop (mkF m 4 #[.val (.ref a1)] [])) _
    exact X1.returnOut hx Bd.returns (hb hby d_jdk_47_method_1_4) hr
  · exact ⟨rfl, N1, e1⟩
theorem d_jdk_46_method_1_0 : decode jdk_46_method_1_code 0 = .ok (.aload_n 0, 1) := by decide +kernel
theorem d_jdk_46_method_1_1 : decode jdk_46_method_1_code 1 = .ok (.invokespecial 1, 3) := by decide +kernel
theorem d_jdk_46_method_1_4 : decode jdk_46_method_1_code 4 = .ok (.return_, 1) := by decide +kernel
theorem pn_4 : plainName "java/util/ImmutableCollections$AbstractImmutableList" = true := by first | (simp [plainName, overriddenIn]; done) | decide +kernel
theorem ef_ailinit (m : MethodId) (x0 : Addr) : entryFrame m #[(.ref x0)] 1 = mkF m 0 #[.val (.ref x0)] [] := by first | (simp [entryFrame, mkF, argsToLocals, Value.category]; done) | rfl
set_option maxRecDepth 65536 in
set_option maxHeartbeats 40000000 in
theorem rm_ailinit (l : Launch) (Z : State) (a0 : Array Value) (hw : ∀ d ∈ tables_1, d.before a0 Z = true) (ws : List Jvm.Cond) (a1 : Addr) (h0 : Heap) (n0 : Nat) :
    MetFree l (⟨"java/util/ImmutableCollections$AbstractImmutableList", "<init>", "()V"⟩ : MethodName) (head1 (Jvm.Cond.code (⟨"java/util/ImmutableCollections$AbstractImmutableList", "<init>", "()V"⟩ : MethodName) jdk_46_method_1_code 1 none :: ws) ({ frames := 3, cells := 0, slots := 0, locals := 36 } : Room)) (fun a U => a = #[(.ref a1)] ∧ Z.Warmed39 U.vm ∧ U.heap = h0) (fun _ _ _ _ _ => True) (fun _ U o U' => ∃ v L, o = .returned v ∧ own_Q none h0 n0 v U'.heap L ∧ FrameEnd U o U' L ({ frames := 3, cells := 0, slots := 0, locals := 36 } : Room).cells ({ frames := 3, cells := 0, slots := 0, locals := 36 } : Room).slots) := by
  refine MetFree.of_bodySF (plainFor_of_name pn_4) hisR ?_
  intro p e s m args below meth c s₁ Bd hml0 hP hK0
  obtain ⟨rfl, hZ, hh⟩ := hP
  have hx := Bd.exec
  have hby := Bd.bytes
  have hml : c.maxLocals = 1 := hml0
  have hown : s.vm.findClass "java/util/ImmutableCollections$AbstractImmutableList" = some m.cls := findClass_of_methodNamed Bd.named
  have hnm := (name_of_methodNamed Bd.named Bd.method).1
  have X0 : Stand p l e ({ frames := 3, cells := 0, slots := 0, locals := 36 } : Room) s m #[(.ref a1)] below meth c s₁ [] 0 0 := Stand.of_body Bd
  have e0 : s₁.heap = h0 := by rw [← hh, Bd.state]; rfl
  have N0 := Fr.nil n0
  have pre0 : ∀ t, Steps p.tables e below (s₁.setTop (mkF m 0 #[.val (.ref a1)] [])) t → Steps p.tables e below (s₁.setTop (entryFrame m #[(.ref a1)] 1)) t := fun t k => castTop (ef_ailinit m a1) k
  obtain ⟨v1, _, ⟨T1, L1, k1, n1⟩, -, X1, ⟨Lc1, hQ1, l1, y1, z1⟩, st1⟩ := X0.specialBack hx (y := (⟨"java/util/ImmutableCollections$AbstractImmutableCollection", "<init>", "()V"⟩ : MethodName)) rfl hown (mvT hZ (hw _ (ow 164 rfl))) (mvT hZ (hw _ (ow 165 rfl))) (mvT hZ (hw _ (ow 169 rfl))) (by decide) (backOf (W := 0) (rm_aicinit l Z a0 hw [] a1 h0 n0) hZ (hw _ (ow 169 rfl)) (hw _ (ow 168 rfl)) (by decide) (by decide)) (g := (mkF m 1 #[.val (.ref a1)] [(.ref a1)])) rfl (by rw [hml]; rfl) (Steps.refl _) (a := a1) (argsL := []) (rest := []) (lenOf pd_0 rfl) rfl (Nat.le_of_eq rfl) (hb hby d_jdk_46_method_1_1) (fun _ _ => ⟨rfl, e0, (by decide : 0 + 0 ≤ _), (by decide : 0 + 0 ≤ _)⟩)
  dsimp only [Pt.U, Pt.locs, Pt.cells, Pt.slots] at X1 l1 y1 z1 st1 hQ1
  subst y1 z1
  obtain ⟨hv1, Nq1, e1⟩ := hQ1
  obtain rfl : v1 = none := hv1
  have N1 : Fr n0 L1 := by rw [l1]; exact Fr.app N0 Nq1
  have pre2 : ∀ t, Steps p.tables e below (T1.setTop (mkF m 4 #[.val (.ref a1)] [])) t → Steps p.tables e below (s₁.setTop (entryFrame m #[(.ref a1)] 1)) t := fun t k => pre0 t (by
    show Steps p.tables e below (s₁.setTop (mkF m 0 #[.val (.ref a1)] [])) _
    refine XS.aloadN X0.here hx rfl (hb hby d_jdk_46_method_1_0) rfl rfl ?_
    show Steps p.tables e below (s₁.setTop (mkF m 1 #[.val (.ref a1)] [(.ref a1)])) _
    refine st1.trans ?_
    exact k)
  obtain ⟨fs, hr, hrun, hended, hW, hsame⟩ := X1.leave (v := none) (fun _ => rfl)
  refine ⟨_, _, pre2 _ ?_, hrun, hended, _, _, rfl, ?_, ⟨_, rfl⟩, hW, hsame.mono (by decide) (by decide)⟩
  · show Steps p.tables e below (T1.setTop (mkF m 4 #[.val (.ref a1)] [])) _
    exact X1.returnOut hx Bd.returns (hb hby d_jdk_46_method_1_4) hr
  · exact ⟨rfl, N1, e1⟩
def own_Q_ablinit (Z : State) (a1 : Addr)   (h0 : Heap) (n0 : Nat) (v : Option Value) (h : Heap) (L : List Loc) : Prop := v = none ∧ Fr n0 L ∧ Keep h0 h [a1] ∧ Exa Z h a1 "java/util/ArrayList" ∧ Fld Z h a1 "java/util/AbstractList" "modCount" "I" (.int (0 : Int32)) ∧ Fld Z h a1 "java/util/ArrayList" "elementData" "[Ljava/lang/Object;" .null ∧ Fld Z h a1 "java/util/ArrayList" "size" "I" (.int (0 : Int32))
theorem d_jdk_39_method_1_0 : decode jdk_39_method_1_code 0 = .ok (.aload_n 0, 1) := by decide +kernel
theorem d_jdk_39_method_1_1 : decode jdk_39_method_1_code 1 = .ok (.invokespecial 1, 3) := by decide +kernel
theorem d_jdk_39_method_1_4 : decode jdk_39_method_1_code 4 = .ok (.aload_n 0, 1) := by decide +kernel
theorem d_jdk_39_method_1_5 : decode jdk_39_method_1_code 5 = .ok (.iconst 0, 1) := by decide +kernel
theorem d_jdk_39_method_1_6 : decode jdk_39_method_1_code 6 = .ok (.putfield 7, 3) := by decide +kernel
theorem d_jdk_39_method_1_9 : decode jdk_39_method_1_code 9 = .ok (.return_, 1) := by decide +kernel
theorem pn_5 : plainName "java/util/AbstractList" = true := by first | (simp [plainName, overriddenIn]; done) | decide +kernel
theorem ef_ablinit (m : MethodId) (x0 : Addr) : entryFrame m #[(.ref x0)] 1 = mkF m 0 #[.val (.ref x0)] [] := by first | (simp [entryFrame, mkF, argsToLocals, Value.category]; done) | rfl
set_option maxRecDepth 65536 in
set_option maxHeartbeats 40000000 in
theorem rm_ablinit (l : Launch) (Z : State) (a0 : Array Value) (hw : ∀ d ∈ tables_1, d.before a0 Z = true) (ws : List Jvm.Cond) (a1 : Addr) (h0 : Heap) (n0 : Nat) (hn0 : n0 = Z.heap.size) (EX0 : Ext Z.heap h0) (E_a1 : Exa Z h0 a1 "java/util/ArrayList") (g_a1 : n0 ≤ a1) (F_modCount_a1 : Fld Z h0 a1 "java/util/AbstractList" "modCount" "I" (.int (0 : Int32))) (F_elementData_a1 : Fld Z h0 a1 "java/util/ArrayList" "elementData" "[Ljava/lang/Object;" .null) (F_size_a1 : Fld Z h0 a1 "java/util/ArrayList" "size" "I" (.int (0 : Int32))) :
    MetFree l (⟨"java/util/AbstractList", "<init>", "()V"⟩ : MethodName) (head1 (Jvm.Cond.code (⟨"java/util/AbstractList", "<init>", "()V"⟩ : MethodName) jdk_39_method_1_code 1 none :: ws) ({ frames := 2, cells := 0, slots := 0, locals := 24 } : Room)) (fun a U => a = #[(.ref a1)] ∧ Z.Warmed39 U.vm ∧ U.heap = h0) (fun _ _ _ _ _ => True) (fun _ U o U' => ∃ v L, o = .returned v ∧ own_Q_ablinit Z a1 h0 n0 v U'.heap L ∧ FrameEnd U o U' L ({ frames := 2, cells := 0, slots := 0, locals := 24 } : Room).cells ({ frames := 2, cells := 0, slots := 0, locals := 24 } : Room).slots) := by
  refine MetFree.of_bodySF (plainFor_of_name pn_5) hisR ?_
  intro p e s m args below meth c s₁ Bd hml0 hP hK0
  obtain ⟨rfl, hZ, hh⟩ := hP
  have hx := Bd.exec
  have hby := Bd.bytes
  have hml : c.maxLocals = 1 := hml0
  have hown : s.vm.findClass "java/util/AbstractList" = some m.cls := findClass_of_methodNamed Bd.named
  have hnm := (name_of_methodNamed Bd.named Bd.method).1
  have X0 : Stand p l e ({ frames := 2, cells := 0, slots := 0, locals := 24 } : Room) s m #[(.ref a1)] below meth c s₁ [] 0 0 := Stand.of_body Bd
  have e0 : s₁.heap = h0 := by rw [← hh, Bd.state]; rfl
  have N0 := Fr.nil n0
  have pre0 : ∀ t, Steps p.tables e below (s₁.setTop (mkF m 0 #[.val (.ref a1)] [])) t → Steps p.tables e below (s₁.setTop (entryFrame m #[(.ref a1)] 1)) t := fun t k => castTop (ef_ablinit m a1) k
  obtain ⟨v1, _, ⟨T1, L1, k1, n1⟩, -, X1, ⟨Lc1, hQ1, l1, y1, z1⟩, st1⟩ := X0.specialBack hx (y := (⟨"java/util/AbstractCollection", "<init>", "()V"⟩ : MethodName)) rfl hown (mvT hZ (hw _ (ow 12 rfl))) (mvT hZ (hw _ (ow 13 rfl))) (mvT hZ (hw _ (ow 17 rfl))) (by decide) (backOf (W := 0) (rm_acinit l Z a0 hw [] a1 h0 n0) hZ (hw _ (ow 17 rfl)) (hw _ (ow 16 rfl)) (by decide) (by decide)) (g := (mkF m 1 #[.val (.ref a1)] [(.ref a1)])) rfl (by rw [hml]; rfl) (Steps.refl _) (a := a1) (argsL := []) (rest := []) (lenOf pd_0 rfl) rfl (Nat.le_of_eq rfl) (hb hby d_jdk_39_method_1_1) (fun _ _ => ⟨rfl, e0, (by decide : 0 + 0 ≤ _), (by decide : 0 + 0 ≤ _)⟩)
  dsimp only [Pt.U, Pt.locs, Pt.cells, Pt.slots] at X1 l1 y1 z1 st1 hQ1
  subst y1 z1
  obtain ⟨hv1, Nq1, e1⟩ := hQ1
  obtain rfl : v1 = none := hv1
  have N1 : Fr n0 L1 := by rw [l1]; exact Fr.app N0 Nq1
  obtain ⟨T2, h2, X2, e2, W2, st2⟩ := putF X1 hx hZ hown (host := "") (Or.inl (hw _ (ow 21 rfl))) Via.refl e1 F_modCount_a1 E_a1 (Or.inl (hw _ (ow 22 rfl))) (hw _ (ow 1 rfl)) (ty := .int) (by decide) rfl rfl (g := (mkF m 6 #[.val (.ref a1)] [(.int (0 : Int32)), (.ref a1)])) rfl rfl (hb hby d_jdk_39_method_1_6)
  have x2_E_a1 := E_a1.wr W2
  have x2_F_a1_modCount := F_modCount_a1.same W2
  have x2_F_a1_elementData := F_elementData_a1.other W2 (Or.inr (slot_ne (Or.inl (hw _ (ow 25 rfl))) (Or.inl (hw _ (ow 22 rfl))) (by decide) (t := (.array (.object "java/lang/Object"))) (t' := .int) (by decide) (by decide)))
  have x2_F_a1_size := F_size_a1.other W2 (Or.inr (slot_ne (Or.inl (hw _ (ow 62 rfl))) (Or.inl (hw _ (ow 22 rfl))) (by decide) (t := .int) (t' := .int) (by decide) (by decide)))
  have EX2 := own_ext_wr EX0 W2 (hn0 ▸ g_a1)
  have K2 := Keep.wr (Keep.refl h0 [a1]) W2 (Or.inl (List.mem_of_getElem? (i := 0) rfl))
  have N2 := Fr.snoc X2 N1 g_a1
  have pre3 : ∀ t, Steps p.tables e below (T2.setTop (mkF m 9 #[.val (.ref a1)] [])) t → Steps p.tables e below (s₁.setTop (entryFrame m #[(.ref a1)] 1)) t := fun t k => pre0 t (by
    show Steps p.tables e below (s₁.setTop (mkF m 0 #[.val (.ref a1)] [])) _
    refine XS.aloadN X0.here hx rfl (hb hby d_jdk_39_method_1_0) rfl rfl ?_
    show Steps p.tables e below (s₁.setTop (mkF m 1 #[.val (.ref a1)] [(.ref a1)])) _
    refine st1.trans ?_
    show Steps p.tables e below (T1.setTop (mkF m 4 #[.val (.ref a1)] [])) _
    refine XS.aloadN X1.here hx rfl (hb hby d_jdk_39_method_1_4) rfl rfl ?_
    show Steps p.tables e below (T1.setTop (mkF m 5 #[.val (.ref a1)] [(.ref a1)])) _
    refine XS.iconst X1.here hx rfl (hb hby d_jdk_39_method_1_5) ?_
    show Steps p.tables e below (T1.setTop (mkF m 6 #[.val (.ref a1)] [(.int (0 : Int32)), (.ref a1)])) _
    refine st2 _ ?_
    exact k)
  obtain ⟨fs, hr, hrun, hended, hW, hsame⟩ := X2.leave (v := none) (fun _ => rfl)
  refine ⟨_, _, pre3 _ ?_, hrun, hended, _, _, rfl, ?_, ⟨_, rfl⟩, hW, hsame.mono (by decide) (by decide)⟩
  · show Steps p.tables e below (T2.setTop (mkF m 9 #[.val (.ref a1)] [])) _
    exact X2.returnOut hx Bd.returns (hb hby d_jdk_39_method_1_9) hr
  · exact ⟨rfl, N2, by rw [show (T2.setFrames fs).heap = _ from e2]; exact ⟨K2, x2_E_a1, x2_F_a1_modCount, x2_F_a1_elementData, x2_F_a1_size⟩⟩
def own_Q_alinit (Z : State) (a1 : Addr) (w_ROWS w_RESULT w_PARTIAL_GROUPS w_MERGED_GROUPS w_D w_EL w_EE w_C w_EM w_M : Addr)  (h0 : Heap) (n0 : Nat) (v : Option Value) (h : Heap) (L : List Loc) : Prop := v = none ∧ Fr n0 L ∧ Keep h0 h [a1] ∧ Exa Z h a1 "java/util/ArrayList" ∧ Fld Z h a1 "java/util/AbstractList" "modCount" "I" (.int (0 : Int32)) ∧ Fld Z h a1 "java/util/ArrayList" "elementData" "[Ljava/lang/Object;" (.ref w_D) ∧ Fld Z h a1 "java/util/ArrayList" "size" "I" (.int (0 : Int32))
theorem d_jdk_38_method_2_0 : decode jdk_38_method_2_code 0 = .ok (.aload_n 0, 1) := by decide +kernel
theorem d_jdk_38_method_2_1 : decode jdk_38_method_2_code 1 = .ok (.invokespecial 1, 3) := by decide +kernel
theorem d_jdk_38_method_2_4 : decode jdk_38_method_2_code 4 = .ok (.aload_n 0, 1) := by decide +kernel
theorem d_jdk_38_method_2_5 : decode jdk_38_method_2_code 5 = .ok (.getstatic 39, 3) := by decide +kernel
theorem d_jdk_38_method_2_8 : decode jdk_38_method_2_code 8 = .ok (.putfield 9, 3) := by decide +kernel
theorem d_jdk_38_method_2_11 : decode jdk_38_method_2_code 11 = .ok (.return_, 1) := by decide +kernel
theorem pn_6 : plainName "java/util/ArrayList" = true := by first | (simp [plainName, overriddenIn]; done) | decide +kernel
theorem ef_alinit (m : MethodId) (x0 : Addr) : entryFrame m #[(.ref x0)] 1 = mkF m 0 #[.val (.ref x0)] [] := by first | (simp [entryFrame, mkF, argsToLocals, Value.category]; done) | rfl
set_option maxRecDepth 65536 in
set_option maxHeartbeats 40000000 in
theorem rm_alinit (l : Launch) (Z : State) (a0 : Array Value) (hw : ∀ d ∈ tables_1, d.before a0 Z = true) (ws : List Jvm.Cond) (a1 : Addr) (h0 : Heap) (n0 : Nat) (w_ROWS w_RESULT w_PARTIAL_GROUPS w_MERGED_GROUPS w_D w_EL w_EE w_C w_EM w_M : Addr) (hK : own_K Z Z.heap w_ROWS w_RESULT w_PARTIAL_GROUPS w_MERGED_GROUPS w_D w_EL w_EE w_C w_EM w_M) (hn0 : n0 = Z.heap.size) (EX0 : Ext Z.heap h0) (E_a1 : Exa Z h0 a1 "java/util/ArrayList") (g_a1 : n0 ≤ a1) (F_modCount_a1 : Fld Z h0 a1 "java/util/AbstractList" "modCount" "I" (.int (0 : Int32))) (F_elementData_a1 : Fld Z h0 a1 "java/util/ArrayList" "elementData" "[Ljava/lang/Object;" .null) (F_size_a1 : Fld Z h0 a1 "java/util/ArrayList" "size" "I" (.int (0 : Int32))) :
    MetFree l (⟨"java/util/ArrayList", "<init>", "()V"⟩ : MethodName) (head1 (Jvm.Cond.code (⟨"java/util/ArrayList", "<init>", "()V"⟩ : MethodName) jdk_38_method_2_code 1 none :: ws) ({ frames := 3, cells := 0, slots := 0, locals := 36 } : Room)) (fun a U => a = #[(.ref a1)] ∧ Z.Warmed39 U.vm ∧ U.heap = h0) (fun _ _ _ _ _ => True) (fun _ U o U' => ∃ v L, o = .returned v ∧ own_Q_alinit Z a1 w_ROWS w_RESULT w_PARTIAL_GROUPS w_MERGED_GROUPS w_D w_EL w_EE w_C w_EM w_M h0 n0 v U'.heap L ∧ FrameEnd U o U' L ({ frames := 3, cells := 0, slots := 0, locals := 36 } : Room).cells ({ frames := 3, cells := 0, slots := 0, locals := 36 } : Room).slots) := by
  refine MetFree.of_bodySF (plainFor_of_name pn_6) hisR ?_
  intro p e s m args below meth c s₁ Bd hml0 hP hK0
  obtain ⟨rfl, hZ, hh⟩ := hP
  have hx := Bd.exec
  have hby := Bd.bytes
  have hml : c.maxLocals = 1 := hml0
  have hown : s.vm.findClass "java/util/ArrayList" = some m.cls := findClass_of_methodNamed Bd.named
  have hnm := (name_of_methodNamed Bd.named Bd.method).1
  have X0 : Stand p l e ({ frames := 3, cells := 0, slots := 0, locals := 36 } : Room) s m #[(.ref a1)] below meth c s₁ [] 0 0 := Stand.of_body Bd
  have e0 : s₁.heap = h0 := by rw [← hh, Bd.state]; rfl
  have N0 := Fr.nil n0
  have pre0 : ∀ t, Steps p.tables e below (s₁.setTop (mkF m 0 #[.val (.ref a1)] [])) t → Steps p.tables e below (s₁.setTop (entryFrame m #[(.ref a1)] 1)) t := fun t k => castTop (ef_alinit m a1) k
  have hK' := hK
  obtain ⟨S_w_ROWS, E_w_ROWS, F_ordinal_w_ROWS, S_w_RESULT, E_w_RESULT, F_ordinal_w_RESULT, S_w_PARTIAL_GROUPS, E_w_PARTIAL_GROUPS, F_ordinal_w_PARTIAL_GROUPS, S_w_MERGED_GROUPS, E_w_MERGED_GROUPS, F_ordinal_w_MERGED_GROUPS, S_w_D, B_w_D, S_w_EL, E_w_EL, F_elements_w_EL, B_w_EE, F_allowNulls_w_EL, S_high, S_w_C, C_w_C, S_w_EM, M_w_M⟩ := hK'
  obtain ⟨cl_w_D, A_w_D, q_w_D⟩ := B_w_D
  obtain ⟨cl_w_EE, A_w_EE, q_w_EE⟩ := B_w_EE
  obtain ⟨v1, _, ⟨T1, L1, k1, n1⟩, -, X1, ⟨Lc1, hQ1, l1, y1, z1⟩, st1⟩ := X0.specialBack hx (y := (⟨"java/util/AbstractList", "<init>", "()V"⟩ : MethodName)) rfl hown (mvT hZ (hw _ (ow 6 rfl))) (mvT hZ (hw _ (ow 7 rfl))) (mvT hZ (hw _ (ow 11 rfl))) (by decide) (backOf (W := 0) (rm_ablinit l Z a0 hw [] a1 h0 n0 hn0 EX0 E_a1 g_a1 F_modCount_a1 F_elementData_a1 F_size_a1) hZ (hw _ (ow 11 rfl)) (hw _ (ow 10 rfl)) (by decide) (by decide)) (g := (mkF m 1 #[.val (.ref a1)] [(.ref a1)])) rfl (by rw [hml]; rfl) (Steps.refl _) (a := a1) (argsL := []) (rest := []) (lenOf pd_0 rfl) rfl (Nat.le_of_eq rfl) (hb hby d_jdk_38_method_2_1) (fun _ _ => ⟨rfl, e0, (by decide : 0 + 0 ≤ _), (by decide : 0 + 0 ≤ _)⟩)
  dsimp only [Pt.U, Pt.locs, Pt.cells, Pt.slots] at X1 l1 y1 z1 st1 hQ1
  subst y1 z1
  obtain ⟨hv1, Nq1, Kq1, q1_0, q1_1, q1_2, q1_3⟩ := hQ1
  obtain rfl : v1 = none := hv1
  have N1 : Fr n0 L1 := by rw [l1]; exact Fr.app N0 Nq1
  have x1_E_a1 := E_a1.keep Kq1
  have EX1 := own_ext_keepL EX0 Kq1 (allS (hn0 ▸ g_a1) all0)
  have K1 := Keep.trans (Keep.refl h0 [a1]) Kq1 (allS (Or.inl (List.mem_of_getElem? (i := 0) rfl)) all0)
  obtain ⟨T2, X2, e2, st2⟩ := getS2 X1 hx hZ hown (host := "") (Or.inl (hw _ (ow 23 rfl))) Via.refl (rfl : T1.heap = T1.heap) (S_w_D.ext EX1) (g := (mkF m 5 #[.val (.ref a1)] [(.ref a1)])) rfl (hb hby d_jdk_38_method_2_5)
  obtain ⟨T3, h3, X3, e3, W3, st3⟩ := putF X2 hx hZ hown (host := "") (Or.inl (hw _ (ow 24 rfl))) Via.refl e2 q1_2 q1_0 (Or.inl (hw _ (ow 25 rfl))) (hw _ (ow 1 rfl)) (ty := (.array (.object "java/lang/Object"))) (by decide) rfl rfl (g := (mkF m 8 #[.val (.ref a1)] [(.ref w_D), (.ref a1)])) rfl rfl (hb hby d_jdk_38_method_2_8)
  have x3_E_a1 := q1_0.wr W3
  have x3_F_a1_modCount := q1_1.other W3 (Or.inr (slot_ne (Or.inl (hw _ (ow 22 rfl))) (Or.inl (hw _ (ow 25 rfl))) (by decide) (t := .int) (t' := (.array (.object "java/lang/Object"))) (by decide) (by decide)))
  have x3_F_a1_elementData := q1_2.same W3
  have x3_F_a1_size := q1_3.other W3 (Or.inr (slot_ne (Or.inl (hw _ (ow 62 rfl))) (Or.inl (hw _ (ow 25 rfl))) (by decide) (t := .int) (t' := (.array (.object "java/lang/Object"))) (by decide) (by decide)))
  have EX3 := own_ext_wr EX1 W3 (hn0 ▸ g_a1)
  have K3 := Keep.wr K1 W3 (Or.inl (List.mem_of_getElem? (i := 0) rfl))
  have N3 := Fr.snoc X3 N1 g_a1
  have pre4 : ∀ t, Steps p.tables e below (T3.setTop (mkF m 11 #[.val (.ref a1)] [])) t → Steps p.tables e below (s₁.setTop (entryFrame m #[(.ref a1)] 1)) t := fun t k => pre0 t (by
    show Steps p.tables e below (s₁.setTop (mkF m 0 #[.val (.ref a1)] [])) _
    refine XS.aloadN X0.here hx rfl (hb hby d_jdk_38_method_2_0) rfl rfl ?_
    show Steps p.tables e below (s₁.setTop (mkF m 1 #[.val (.ref a1)] [(.ref a1)])) _
    refine st1.trans ?_
    show Steps p.tables e below (T1.setTop (mkF m 4 #[.val (.ref a1)] [])) _
    refine XS.aloadN X1.here hx rfl (hb hby d_jdk_38_method_2_4) rfl rfl ?_
    show Steps p.tables e below (T1.setTop (mkF m 5 #[.val (.ref a1)] [(.ref a1)])) _
    refine st2 _ ?_
    show Steps p.tables e below (T2.setTop (mkF m 8 #[.val (.ref a1)] [(.ref w_D), (.ref a1)])) _
    refine st3 _ ?_
    exact k)
  obtain ⟨fs, hr, hrun, hended, hW, hsame⟩ := X3.leave (v := none) (fun _ => rfl)
  refine ⟨_, _, pre4 _ ?_, hrun, hended, _, _, rfl, ?_, ⟨_, rfl⟩, hW, hsame.mono (by decide) (by decide)⟩
  · show Steps p.tables e below (T3.setTop (mkF m 11 #[.val (.ref a1)] [])) _
    exact X3.returnOut hx Bd.returns (hb hby d_jdk_38_method_2_11) hr
  · exact ⟨rfl, N3, by rw [show (T3.setFrames fs).heap = _ from e3]; exact ⟨K3, x3_E_a1, x3_F_a1_modCount, x3_F_a1_elementData, x3_F_a1_size⟩⟩
theorem d_jdk_40_method_36_0 : decode jdk_40_method_36_code 0 = .ok (.getstatic 90, 3) := by decide +kernel
theorem d_jdk_40_method_36_3 : decode jdk_40_method_36_code 3 = .ok (.areturn, 1) := by decide +kernel
theorem pn_7 : plainName "java/util/List" = true := by first | (simp [plainName, overriddenIn]; done) | decide +kernel
theorem ef_of0 (m : MethodId)  : entryFrame m #[] 0 = mkF m 0 #[] [] := by first | (simp [entryFrame, mkF, argsToLocals, Value.category]; done) | rfl
set_option maxRecDepth 65536 in
set_option maxHeartbeats 40000000 in
theorem rm_of0 (l : Launch) (Z : State) (a0 : Array Value) (hw : ∀ d ∈ tables_1, d.before a0 Z = true) (ws : List Jvm.Cond)  (h0 : Heap) (n0 : Nat) (w_ROWS w_RESULT w_PARTIAL_GROUPS w_MERGED_GROUPS w_D w_EL w_EE w_C w_EM w_M : Addr) (hK : own_K Z h0 w_ROWS w_RESULT w_PARTIAL_GROUPS w_MERGED_GROUPS w_D w_EL w_EE w_C w_EM w_M) :
    MetFree l (⟨"java/util/List", "of", "()Ljava/util/List;"⟩ : MethodName) (head1 (Jvm.Cond.code (⟨"java/util/List", "of", "()Ljava/util/List;"⟩ : MethodName) jdk_40_method_36_code 0 (some (.object "java/util/List")) :: ws) ({ frames := 0, cells := 0, slots := 0, locals := 0 } : Room)) (fun a U => a = #[] ∧ Z.Warmed39 U.vm ∧ U.heap = h0) (fun _ _ _ _ _ => True) (fun _ U o U' => ∃ v L, o = .returned v ∧ own_Q (some (.ref w_EL)) h0 n0 v U'.heap L ∧ FrameEnd U o U' L ({ frames := 0, cells := 0, slots := 0, locals := 0 } : Room).cells ({ frames := 0, cells := 0, slots := 0, locals := 0 } : Room).slots) := by
  refine MetFree.of_bodySF (plainFor_of_name pn_7) hisR ?_
  intro p e s m args below meth c s₁ Bd hml0 hP hK0
  obtain ⟨rfl, hZ, hh⟩ := hP
  have hx := Bd.exec
  have hby := Bd.bytes
  have hml : c.maxLocals = 0 := hml0
  have hown : s.vm.findClass "java/util/List" = some m.cls := findClass_of_methodNamed Bd.named
  have hnm := (name_of_methodNamed Bd.named Bd.method).1
  have X0 : Stand p l e ({ frames := 0, cells := 0, slots := 0, locals := 0 } : Room) s m #[] below meth c s₁ [] 0 0 := Stand.of_body Bd
  have e0 : s₁.heap = h0 := by rw [← hh, Bd.state]; rfl
  have N0 := Fr.nil n0
  have pre0 : ∀ t, Steps p.tables e below (s₁.setTop (mkF m 0 #[] [])) t → Steps p.tables e below (s₁.setTop (entryFrame m #[] 0)) t := fun t k => castTop (ef_of0 m ) k
  have hK' := hK
  obtain ⟨S_w_ROWS, E_w_ROWS, F_ordinal_w_ROWS, S_w_RESULT, E_w_RESULT, F_ordinal_w_RESULT, S_w_PARTIAL_GROUPS, E_w_PARTIAL_GROUPS, F_ordinal_w_PARTIAL_GROUPS, S_w_MERGED_GROUPS, E_w_MERGED_GROUPS, F_ordinal_w_MERGED_GROUPS, S_w_D, B_w_D, S_w_EL, E_w_EL, F_elements_w_EL, B_w_EE, F_allowNulls_w_EL, S_high, S_w_C, C_w_C, S_w_EM, M_w_M⟩ := hK'
  obtain ⟨cl_w_D, A_w_D, q_w_D⟩ := B_w_D
  obtain ⟨cl_w_EE, A_w_EE, q_w_EE⟩ := B_w_EE
  obtain ⟨T1, X1, e1, st1⟩ := getS2 X0 hx hZ hown (host := "") (Or.inl (hw _ (ow 66 rfl))) Via.refl e0 S_w_EL (g := (mkF m 0 #[] [])) rfl (hb hby d_jdk_40_method_36_0)
  have pre2 : ∀ t, Steps p.tables e below (T1.setTop (mkF m 3 #[] [(.ref w_EL)])) t → Steps p.tables e below (s₁.setTop (entryFrame m #[] 0)) t := fun t k => pre0 t (by
    show Steps p.tables e below (s₁.setTop (mkF m 0 #[] [])) _
    refine st1 _ ?_
    exact k)
  obtain ⟨fs, hr, hrun, hended, hW, hsame⟩ := X1.leave (v := some (.ref w_EL)) (fun h => by rw [Bd.returns] at h; cases h)
  refine ⟨_, _, pre2 _ ?_, hrun, hended, _, _, rfl, ?_, ⟨_, rfl⟩, hW, hsame.mono (by decide) (by decide)⟩
  · show Steps p.tables e below (T1.setTop (mkF m 3 #[] [(.ref w_EL)])) _
    exact retOut X1 hx Bd.returns rfl (Or.inr (Or.inr (Or.inr (Or.inr ⟨rfl, rfl, rfl⟩)))) (hb hby d_jdk_40_method_36_3) hr
  · exact ⟨rfl, N0, e1⟩
theorem d_jdk_38_method_9_0 : decode jdk_38_method_9_code 0 = .ok (.aload_n 0, 1) := by decide +kernel
theorem d_jdk_38_method_9_1 : decode jdk_38_method_9_code 1 = .ok (.getfield 48, 3) := by decide +kernel
theorem d_jdk_38_method_9_4 : decode jdk_38_method_9_code 4 = .ok (.ifCond .ne 7, 3) := by decide +kernel
theorem d_jdk_38_method_9_7 : decode jdk_38_method_9_code 7 = .ok (.iconst 1, 1) := by decide +kernel
theorem d_jdk_38_method_9_8 : decode jdk_38_method_9_code 8 = .ok (.goto 4, 3) := by decide +kernel
theorem d_jdk_38_method_9_12 : decode jdk_38_method_9_code 12 = .ok (.ireturn, 1) := by decide +kernel
theorem d_jdk_38_method_9_11 : decode jdk_38_method_9_code 11 = .ok (.iconst 0, 1) := by decide +kernel
theorem ef_aliE (m : MethodId) (x0 : Addr) : entryFrame m #[(.ref x0)] 1 = mkF m 0 #[.val (.ref x0)] [] := by first | (simp [entryFrame, mkF, argsToLocals, Value.category]; done) | rfl
set_option maxRecDepth 65536 in
set_option maxHeartbeats 40000000 in
theorem rm_aliE (l : Launch) (Z : State) (a0 : Array Value) (hw : ∀ d ∈ tables_1, d.before a0 Z = true) (ws : List Jvm.Cond) (a1 : Addr) (f_size : Int32) (h0 : Heap) (n0 : Nat) (F_size : Fld Z h0 a1 "java/util/ArrayList" "size" "I" (.int f_size)) :
    MetFree l (⟨"java/util/ArrayList", "isEmpty", "()Z"⟩ : MethodName) (head1 (Jvm.Cond.code (⟨"java/util/ArrayList", "isEmpty", "()Z"⟩ : MethodName) jdk_38_method_9_code 1 (some .boolean) :: ws) ({ frames := 0, cells := 0, slots := 0, locals := 0 } : Room)) (fun a U => a = #[(.ref a1)] ∧ Z.Warmed39 U.vm ∧ U.heap = h0) (fun _ _ _ _ _ => True) (fun _ U o U' => ∃ v L, o = .returned v ∧ own_Q (some (.int (if f_size = (0 : Int32) then (1 : Int32) else (0 : Int32)))) h0 n0 v U'.heap L ∧ FrameEnd U o U' L ({ frames := 0, cells := 0, slots := 0, locals := 0 } : Room).cells ({ frames := 0, cells := 0, slots := 0, locals := 0 } : Room).slots) := by
  refine MetFree.of_bodySF (plainFor_of_name pn_6) hisR ?_
  intro p e s m args below meth c s₁ Bd hml0 hP hK0
  obtain ⟨rfl, hZ, hh⟩ := hP
  have hx := Bd.exec
  have hby := Bd.bytes
  have hml : c.maxLocals = 1 := hml0
  have hown : s.vm.findClass "java/util/ArrayList" = some m.cls := findClass_of_methodNamed Bd.named
  have hnm := (name_of_methodNamed Bd.named Bd.method).1
  have X0 : Stand p l e ({ frames := 0, cells := 0, slots := 0, locals := 0 } : Room) s m #[(.ref a1)] below meth c s₁ [] 0 0 := Stand.of_body Bd
  have e0 : s₁.heap = h0 := by rw [← hh, Bd.state]; rfl
  have N0 := Fr.nil n0
  have pre0 : ∀ t, Steps p.tables e below (s₁.setTop (mkF m 0 #[.val (.ref a1)] [])) t → Steps p.tables e below (s₁.setTop (entryFrame m #[(.ref a1)] 1)) t := fun t k => castTop (ef_aliE m a1) k
  obtain ⟨T1, X1, e1, st1⟩ := getF X0 hx hZ hown (host := "") (Or.inl (hw _ (ow 61 rfl))) Via.refl e0 F_size (g := (mkF m 1 #[.val (.ref a1)] [(.ref a1)])) rfl rfl (hb hby d_jdk_38_method_9_1)
  have pre3 : ∀ t, Steps p.tables e below (T1.setTop (mkF m 4 #[.val (.ref a1)] [(.int f_size)])) t → Steps p.tables e below (s₁.setTop (entryFrame m #[(.ref a1)] 1)) t := fun t k => pre0 t (by
    show Steps p.tables e below (s₁.setTop (mkF m 0 #[.val (.ref a1)] [])) _
    refine XS.aloadN X0.here hx rfl (hb hby d_jdk_38_method_9_0) rfl rfl ?_
    show Steps p.tables e below (s₁.setTop (mkF m 1 #[.val (.ref a1)] [(.ref a1)])) _
    refine st1 _ ?_
    exact k)
  by_cases hc4_2 : f_size = (0 : Int32)
  · have pre4 : ∀ t, Steps p.tables e below (T1.setTop (mkF m 12 #[.val (.ref a1)] [(.int (1 : Int32))])) t → Steps p.tables e below (s₁.setTop (entryFrame m #[(.ref a1)] 1)) t := fun t k => pre3 t (by
      show Steps p.tables e below (T1.setTop (mkF m 4 #[.val (.ref a1)] [(.int f_size)])) _
      refine XS.ifNo X1.here hx rfl (hb hby d_jdk_38_method_9_4) rfl ((if0 _ _).trans (teq hc4_2).2) ?_
      show Steps p.tables e below (T1.setTop (mkF m 7 #[.val (.ref a1)] [])) _
      refine XS.iconst X1.here hx rfl (hb hby d_jdk_38_method_9_7) ?_
      show Steps p.tables e below (T1.setTop (mkF m 8 #[.val (.ref a1)] [(.int (1 : Int32))])) _
      refine XS.goto X1.here hx rfl (pc0 := 8) (pc' := 12) rfl (hb hby d_jdk_38_method_9_8) (by decide) (by decide) ?_
      exact k)
    obtain ⟨fs, hr, hrun, hended, hW, hsame⟩ := X1.leave (v := some (.int (1 : Int32))) (fun h => by rw [Bd.returns] at h; cases h)
    refine ⟨_, _, pre4 _ ?_, hrun, hended, _, _, rfl, ?_, ⟨_, rfl⟩, hW, hsame.mono (by decide) (by decide)⟩
    · show Steps p.tables e below (T1.setTop (mkF m 12 #[.val (.ref a1)] [(.int (1 : Int32))])) _
      exact retN X1 hx (t := .boolean) Bd.returns (by simp) (hb hby d_jdk_38_method_9_12) hr
    · exact ⟨congrArg (fun z => some (Value.int z)) (Eq.symm (if_pos hc4_2)), N0, e1⟩
  · have pre5 : ∀ t, Steps p.tables e below (T1.setTop (mkF m 12 #[.val (.ref a1)] [(.int (0 : Int32))])) t → Steps p.tables e below (s₁.setTop (entryFrame m #[(.ref a1)] 1)) t := fun t k => pre3 t (by
      show Steps p.tables e below (T1.setTop (mkF m 4 #[.val (.ref a1)] [(.int f_size)])) _
      refine XS.ifYes X1.here hx rfl (pc0 := 4) (pc' := 11) rfl (hb hby d_jdk_38_method_9_4) rfl ((if0 _ _).trans (feq hc4_2).2) (by decide) (by decide) ?_
      show Steps p.tables e below (T1.setTop (mkF m 11 #[.val (.ref a1)] [])) _
      refine XS.iconst X1.here hx rfl (hb hby d_jdk_38_method_9_11) ?_
      exact k)
    obtain ⟨fs, hr, hrun, hended, hW, hsame⟩ := X1.leave (v := some (.int (0 : Int32))) (fun h => by rw [Bd.returns] at h; cases h)
    refine ⟨_, _, pre5 _ ?_, hrun, hended, _, _, rfl, ?_, ⟨_, rfl⟩, hW, hsame.mono (by decide) (by decide)⟩
    · show Steps p.tables e below (T1.setTop (mkF m 12 #[.val (.ref a1)] [(.int (0 : Int32))])) _
      exact retN X1 hx (t := .boolean) Bd.returns (by simp) (hb hby d_jdk_38_method_9_12) hr
    · exact ⟨congrArg (fun z => some (Value.int z)) (Eq.symm (if_neg hc4_2)), N0, e1⟩
theorem d_jdk_44_method_4_0 : decode jdk_44_method_4_code 0 = .ok (.iconst 0, 1) := by decide +kernel
theorem d_jdk_44_method_4_1 : decode jdk_44_method_4_code 1 = .ok (.ireturn, 1) := by decide +kernel
theorem pn_8 : plainName "java/util/ImmutableCollections$List12" = true := by first | (simp [plainName, overriddenIn]; done) | decide +kernel
theorem ef_l12iE (m : MethodId) (x0 : Addr) : entryFrame m #[(.ref x0)] 1 = mkF m 0 #[.val (.ref x0)] [] := by first | (simp [entryFrame, mkF, argsToLocals, Value.category]; done) | rfl
set_option maxRecDepth 65536 in
set_option maxHeartbeats 40000000 in
theorem rm_l12iE (l : Launch) (Z : State) (a0 : Array Value) (hw : ∀ d ∈ tables_1, d.before a0 Z = true) (ws : List Jvm.Cond) (a1 : Addr) (h0 : Heap) (n0 : Nat) :
    MetFree l (⟨"java/util/ImmutableCollections$List12", "isEmpty", "()Z"⟩ : MethodName) (head1 (Jvm.Cond.code (⟨"java/util/ImmutableCollections$List12", "isEmpty", "()Z"⟩ : MethodName) jdk_44_method_4_code 1 (some .boolean) :: ws) ({ frames := 0, cells := 0, slots := 0, locals := 0 } : Room)) (fun a U => a = #[(.ref a1)] ∧ Z.Warmed39 U.vm ∧ U.heap = h0) (fun _ _ _ _ _ => True) (fun _ U o U' => ∃ v L, o = .returned v ∧ own_Q (some (.int (0 : Int32))) h0 n0 v U'.heap L ∧ FrameEnd U o U' L ({ frames := 0, cells := 0, slots := 0, locals := 0 } : Room).cells ({ frames := 0, cells := 0, slots := 0, locals := 0 } : Room).slots) := by
  refine MetFree.of_bodySF (plainFor_of_name pn_8) hisR ?_
  intro p e s m args below meth c s₁ Bd hml0 hP hK0
  obtain ⟨rfl, hZ, hh⟩ := hP
  have hx := Bd.exec
  have hby := Bd.bytes
  have hml : c.maxLocals = 1 := hml0
  have hown : s.vm.findClass "java/util/ImmutableCollections$List12" = some m.cls := findClass_of_methodNamed Bd.named
  have hnm := (name_of_methodNamed Bd.named Bd.method).1
  have X0 : Stand p l e ({ frames := 0, cells := 0, slots := 0, locals := 0 } : Room) s m #[(.ref a1)] below meth c s₁ [] 0 0 := Stand.of_body Bd
  have e0 : s₁.heap = h0 := by rw [← hh, Bd.state]; rfl
  have N0 := Fr.nil n0
  have pre0 : ∀ t, Steps p.tables e below (s₁.setTop (mkF m 0 #[.val (.ref a1)] [])) t → Steps p.tables e below (s₁.setTop (entryFrame m #[(.ref a1)] 1)) t := fun t k => castTop (ef_l12iE m a1) k
  have pre1 : ∀ t, Steps p.tables e below (s₁.setTop (mkF m 1 #[.val (.ref a1)] [(.int (0 : Int32))])) t → Steps p.tables e below (s₁.setTop (entryFrame m #[(.ref a1)] 1)) t := fun t k => pre0 t (by
    show Steps p.tables e below (s₁.setTop (mkF m 0 #[.val (.ref a1)] [])) _
    refine XS.iconst X0.here hx rfl (hb hby d_jdk_44_method_4_0) ?_
    exact k)
  obtain ⟨fs, hr, hrun, hended, hW, hsame⟩ := X0.leave (v := some (.int (0 : Int32))) (fun h => by rw [Bd.returns] at h; cases h)
  refine ⟨_, _, pre1 _ ?_, hrun, hended, _, _, rfl, ?_, ⟨_, rfl⟩, hW, hsame.mono (by decide) (by decide)⟩
  · show Steps p.tables e below (s₁.setTop (mkF m 1 #[.val (.ref a1)] [(.int (0 : Int32))])) _
    exact retN X0 hx (t := .boolean) Bd.returns (by simp) (hb hby d_jdk_44_method_4_1) hr
  · exact ⟨rfl, N0, e0⟩
theorem d_jdk_45_method_2_0 : decode jdk_45_method_2_code 0 = .ok (.aload_n 0, 1) := by decide +kernel
theorem d_jdk_45_method_2_1 : decode jdk_45_method_2_code 1 = .ok (.getfield 7, 3) := by decide +kernel
theorem d_jdk_45_method_2_4 : decode jdk_45_method_2_code 4 = .ok (.arraylength, 1) := by decide +kernel
theorem d_jdk_45_method_2_5 : decode jdk_45_method_2_code 5 = .ok (.ifCond .ne 7, 3) := by decide +kernel
theorem d_jdk_45_method_2_8 : decode jdk_45_method_2_code 8 = .ok (.iconst 1, 1) := by decide +kernel
theorem d_jdk_45_method_2_9 : decode jdk_45_method_2_code 9 = .ok (.goto 4, 3) := by decide +kernel
theorem d_jdk_45_method_2_13 : decode jdk_45_method_2_code 13 = .ok (.ireturn, 1) := by decide +kernel
theorem pn_9 : plainName "java/util/ImmutableCollections$ListN" = true := by first | (simp [plainName, overriddenIn]; done) | decide +kernel
theorem ef_lniE (m : MethodId) (x0 : Addr) : entryFrame m #[(.ref x0)] 1 = mkF m 0 #[.val (.ref x0)] [] := by first | (simp [entryFrame, mkF, argsToLocals, Value.category]; done) | rfl
set_option maxRecDepth 65536 in
set_option maxHeartbeats 40000000 in
theorem rm_lniE (l : Launch) (Z : State) (a0 : Array Value) (hw : ∀ d ∈ tables_1, d.before a0 Z = true) (ws : List Jvm.Cond)  (h0 : Heap) (n0 : Nat) (w_ROWS w_RESULT w_PARTIAL_GROUPS w_MERGED_GROUPS w_D w_EL w_EE w_C w_EM w_M : Addr) (hK : own_K Z h0 w_ROWS w_RESULT w_PARTIAL_GROUPS w_MERGED_GROUPS w_D w_EL w_EE w_C w_EM w_M) :
    MetFree l (⟨"java/util/ImmutableCollections$ListN", "isEmpty", "()Z"⟩ : MethodName) (head1 (Jvm.Cond.code (⟨"java/util/ImmutableCollections$ListN", "isEmpty", "()Z"⟩ : MethodName) jdk_45_method_2_code 1 (some .boolean) :: ws) ({ frames := 0, cells := 0, slots := 0, locals := 0 } : Room)) (fun a U => a = #[(.ref w_EL)] ∧ Z.Warmed39 U.vm ∧ U.heap = h0) (fun _ _ _ _ _ => True) (fun _ U o U' => ∃ v L, o = .returned v ∧ own_Q (some (.int (1 : Int32))) h0 n0 v U'.heap L ∧ FrameEnd U o U' L ({ frames := 0, cells := 0, slots := 0, locals := 0 } : Room).cells ({ frames := 0, cells := 0, slots := 0, locals := 0 } : Room).slots) := by
  refine MetFree.of_bodySF (plainFor_of_name pn_9) hisR ?_
  intro p e s m args below meth c s₁ Bd hml0 hP hK0
  obtain ⟨rfl, hZ, hh⟩ := hP
  have hx := Bd.exec
  have hby := Bd.bytes
  have hml : c.maxLocals = 1 := hml0
  have hown : s.vm.findClass "java/util/ImmutableCollections$ListN" = some m.cls := findClass_of_methodNamed Bd.named
  have hnm := (name_of_methodNamed Bd.named Bd.method).1
  have X0 : Stand p l e ({ frames := 0, cells := 0, slots := 0, locals := 0 } : Room) s m #[(.ref w_EL)] below meth c s₁ [] 0 0 := Stand.of_body Bd
  have e0 : s₁.heap = h0 := by rw [← hh, Bd.state]; rfl
  have N0 := Fr.nil n0
  have pre0 : ∀ t, Steps p.tables e below (s₁.setTop (mkF m 0 #[.val (.ref w_EL)] [])) t → Steps p.tables e below (s₁.setTop (entryFrame m #[(.ref w_EL)] 1)) t := fun t k => castTop (ef_lniE m w_EL) k
  have hK' := hK
  obtain ⟨S_w_ROWS, E_w_ROWS, F_ordinal_w_ROWS, S_w_RESULT, E_w_RESULT, F_ordinal_w_RESULT, S_w_PARTIAL_GROUPS, E_w_PARTIAL_GROUPS, F_ordinal_w_PARTIAL_GROUPS, S_w_MERGED_GROUPS, E_w_MERGED_GROUPS, F_ordinal_w_MERGED_GROUPS, S_w_D, B_w_D, S_w_EL, E_w_EL, F_elements_w_EL, B_w_EE, F_allowNulls_w_EL, S_high, S_w_C, C_w_C, S_w_EM, M_w_M⟩ := hK'
  obtain ⟨cl_w_D, A_w_D, q_w_D⟩ := B_w_D
  obtain ⟨cl_w_EE, A_w_EE, q_w_EE⟩ := B_w_EE
  obtain ⟨T1, X1, e1, st1⟩ := getF X0 hx hZ hown (host := "") (Or.inl (hw _ (ow 206 rfl))) Via.refl e0 F_elements_w_EL (g := (mkF m 1 #[.val (.ref w_EL)] [(.ref w_EL)])) rfl rfl (hb hby d_jdk_45_method_2_1)
  have pre2 : ∀ t, Steps p.tables e below (T1.setTop (mkF m 13 #[.val (.ref w_EL)] [(.int (1 : Int32))])) t → Steps p.tables e below (s₁.setTop (entryFrame m #[(.ref w_EL)] 1)) t := fun t k => pre0 t (by
    show Steps p.tables e below (s₁.setTop (mkF m 0 #[.val (.ref w_EL)] [])) _
    refine XS.aloadN X0.here hx rfl (hb hby d_jdk_45_method_2_0) rfl rfl ?_
    show Steps p.tables e below (s₁.setTop (mkF m 1 #[.val (.ref w_EL)] [(.ref w_EL)])) _
    refine st1 _ ?_
    show Steps p.tables e below (T1.setTop (mkF m 4 #[.val (.ref w_EL)] [(.ref w_EE)])) _
    refine X1.arraylength hx (by rw [e1]; exact A_w_EE.1) (State.isArrayOf_alike hZ.alike A_w_EE.2.1) (g := (mkF m 4 #[.val (.ref w_EL)] [(.ref w_EE)])) rfl rfl (hb hby d_jdk_45_method_2_4) _ ?_
    rw [q_w_EE]
    show Steps p.tables e below (T1.setTop (mkF m 5 #[.val (.ref w_EL)] [(.int (0 : Int32))])) _
    refine XS.ifNo X1.here hx rfl (hb hby d_jdk_45_method_2_5) rfl ((if0 _ _).trans (teq (by decide)).2) ?_
    show Steps p.tables e below (T1.setTop (mkF m 8 #[.val (.ref w_EL)] [])) _
    refine XS.iconst X1.here hx rfl (hb hby d_jdk_45_method_2_8) ?_
    show Steps p.tables e below (T1.setTop (mkF m 9 #[.val (.ref w_EL)] [(.int (1 : Int32))])) _
    refine XS.goto X1.here hx rfl (pc0 := 9) (pc' := 13) rfl (hb hby d_jdk_45_method_2_9) (by decide) (by decide) ?_
    exact k)
  obtain ⟨fs, hr, hrun, hended, hW, hsame⟩ := X1.leave (v := some (.int (1 : Int32))) (fun h => by rw [Bd.returns] at h; cases h)
  refine ⟨_, _, pre2 _ ?_, hrun, hended, _, _, rfl, ?_, ⟨_, rfl⟩, hW, hsame.mono (by decide) (by decide)⟩
  · show Steps p.tables e below (T1.setTop (mkF m 13 #[.val (.ref w_EL)] [(.int (1 : Int32))])) _
    exact retN X1 hx (t := .boolean) Bd.returns (by simp) (hb hby d_jdk_45_method_2_13) hr
  · exact ⟨rfl, N0, e1⟩
def own_Q_lc0 (Z : State) (a1 : Addr) (w_ROWS w_RESULT w_PARTIAL_GROUPS w_MERGED_GROUPS w_D w_EL w_EE w_C w_EM w_M : Addr)  (h0 : Heap) (n0 : Nat) (v : Option Value) (h : Heap) (L : List Loc) : Prop := v = (some (.ref w_EL)) ∧ Fr n0 L ∧ Keep h0 h []
theorem d_jdk_56_method_3_0 : decode jdk_56_method_3_code 0 = .ok (.aload_n 0, 1) := by decide +kernel
theorem d_jdk_56_method_3_1 : decode jdk_56_method_3_code 1 = .ok (.instanceof 10, 3) := by decide +kernel
theorem d_jdk_56_method_3_4 : decode jdk_56_method_3_code 4 = .ok (.ifCond .ne 22, 3) := by decide +kernel
theorem d_jdk_56_method_3_7 : decode jdk_56_method_3_code 7 = .ok (.aload_n 0, 1) := by decide +kernel
theorem d_jdk_56_method_3_8 : decode jdk_56_method_3_code 8 = .ok (.instanceof 12, 3) := by decide +kernel
theorem d_jdk_56_method_3_11 : decode jdk_56_method_3_code 11 = .ok (.ifCond .eq 20, 3) := by decide +kernel
theorem d_jdk_56_method_3_31 : decode jdk_56_method_3_code 31 = .ok (.aload_n 0, 1) := by decide +kernel
theorem d_jdk_56_method_3_32 : decode jdk_56_method_3_code 32 = .ok (.invokeinterface 20 1, 5) := by decide +kernel
theorem pd_1 : parseMethodDescriptor "()Z" = some ⟨[], some .boolean⟩ := by decide +kernel
theorem d_jdk_56_method_3_37 : decode jdk_56_method_3_code 37 = .ok (.ifCond .eq 7, 3) := by decide +kernel
theorem d_jdk_56_method_3_40 : decode jdk_56_method_3_code 40 = .ok (.invokestatic 26, 3) := by decide +kernel
theorem pd_2 : parseMethodDescriptor "()Ljava/util/List;" = some ⟨[], some (.object "java/util/List")⟩ := by decide +kernel
theorem d_jdk_56_method_3_43 : decode jdk_56_method_3_code 43 = .ok (.areturn, 1) := by decide +kernel
theorem pn_10 : plainName "java/util/ImmutableCollections" = true := by first | (simp [plainName, overriddenIn]; done) | decide +kernel
theorem ef_lc0 (m : MethodId) (x0 : Addr) : entryFrame m #[(.ref x0)] 2 = mkF m 0 #[.val (.ref x0), .unset] [] := by first | (simp [entryFrame, mkF, argsToLocals, Value.category]; done) | rfl
set_option maxRecDepth 65536 in
set_option maxHeartbeats 40000000 in
theorem rm_lc0 (l : Launch) (Z : State) (a0 : Array Value) (hw : ∀ d ∈ tables_1, d.before a0 Z = true) (ws : List Jvm.Cond) (a1 : Addr) (h0 : Heap) (n0 : Nat) (w_ROWS w_RESULT w_PARTIAL_GROUPS w_MERGED_GROUPS w_D w_EL w_EE w_C w_EM w_M : Addr) (hK : own_K Z Z.heap w_ROWS w_RESULT w_PARTIAL_GROUPS w_MERGED_GROUPS w_D w_EL w_EE w_C w_EM w_M) (hn0 : n0 = Z.heap.size) (EX0 : Ext Z.heap h0) (E_a1 : Exa Z h0 a1 "java/util/ArrayList") (g_a1 : n0 ≤ a1) (F_size_a1 : Fld Z h0 a1 "java/util/ArrayList" "size" "I" (.int (0 : Int32))) :
    MetFree l (⟨"java/util/ImmutableCollections", "listCopy", "(Ljava/util/Collection;)Ljava/util/List;"⟩ : MethodName) (head1 (Jvm.Cond.code (⟨"java/util/ImmutableCollections", "listCopy", "(Ljava/util/Collection;)Ljava/util/List;"⟩ : MethodName) jdk_56_method_3_code 2 (some (.object "java/util/List")) :: ws) ({ frames := 1, cells := 0, slots := 0, locals := 12 } : Room)) (fun a U => a = #[(.ref a1)] ∧ Z.Warmed39 U.vm ∧ U.heap = h0) (fun _ _ _ _ _ => True) (fun _ U o U' => ∃ v L, o = .returned v ∧ own_Q_lc0 Z a1 w_ROWS w_RESULT w_PARTIAL_GROUPS w_MERGED_GROUPS w_D w_EL w_EE w_C w_EM w_M h0 n0 v U'.heap L ∧ FrameEnd U o U' L ({ frames := 1, cells := 0, slots := 0, locals := 12 } : Room).cells ({ frames := 1, cells := 0, slots := 0, locals := 12 } : Room).slots) := by
  refine MetFree.of_bodySF (plainFor_of_name pn_10) hisR ?_
  intro p e s m args below meth c s₁ Bd hml0 hP hK0
  obtain ⟨rfl, hZ, hh⟩ := hP
  have hx := Bd.exec
  have hby := Bd.bytes
  have hml : c.maxLocals = 2 := hml0
  have hown : s.vm.findClass "java/util/ImmutableCollections" = some m.cls := findClass_of_methodNamed Bd.named
  have hnm := (name_of_methodNamed Bd.named Bd.method).1
  have X0 : Stand p l e ({ frames := 1, cells := 0, slots := 0, locals := 12 } : Room) s m #[(.ref a1)] below meth c s₁ [] 0 0 := Stand.of_body Bd
  have e0 : s₁.heap = h0 := by rw [← hh, Bd.state]; rfl
  have N0 := Fr.nil n0
  have pre0 : ∀ t, Steps p.tables e below (s₁.setTop (mkF m 0 #[.val (.ref a1), .unset] [])) t → Steps p.tables e below (s₁.setTop (entryFrame m #[(.ref a1)] 2)) t := fun t k => castTop (ef_lc0 m a1) k
  have hK' := hK
  obtain ⟨S_w_ROWS, E_w_ROWS, F_ordinal_w_ROWS, S_w_RESULT, E_w_RESULT, F_ordinal_w_RESULT, S_w_PARTIAL_GROUPS, E_w_PARTIAL_GROUPS, F_ordinal_w_PARTIAL_GROUPS, S_w_MERGED_GROUPS, E_w_MERGED_GROUPS, F_ordinal_w_MERGED_GROUPS, S_w_D, B_w_D, S_w_EL, E_w_EL, F_elements_w_EL, B_w_EE, F_allowNulls_w_EL, S_high, S_w_C, C_w_C, S_w_EM, M_w_M⟩ := hK'
  obtain ⟨cl_w_D, A_w_D, q_w_D⟩ := B_w_D
  obtain ⟨cl_w_EE, A_w_EE, q_w_EE⟩ := B_w_EE
  obtain ⟨T1, X1, e1, st1⟩ := instNo X0 hx hZ hown (hw _ (ow 46 rfl)) e0 E_a1 (own_NS_no (hw _ (ow 47 rfl)) (hw _ (ow 152 rfl)) (NS.step (hw _ (ow 47 rfl)) (NS.step (hw _ (ow 48 rfl)) (NS.step (hw _ (ow 49 rfl)) (own_NS_root (hw _ (ow 50 rfl)) (hw _ (ow 152 rfl)) (by decide)) (by decide)) (by decide)) (by decide)) (by decide)) (g := (mkF m 1 #[.val (.ref a1), .unset] [(.ref a1)])) rfl rfl (hb hby d_jdk_56_method_3_1)
  obtain ⟨T2, X2, e2, st2⟩ := instNo X1 hx hZ hown (hw _ (ow 51 rfl)) e1 E_a1 (NS.no (hw _ (ow 47 rfl)) (hw _ (ow 231 rfl)) (NS.step (hw _ (ow 47 rfl)) (NS.step (hw _ (ow 48 rfl)) (NS.step (hw _ (ow 49 rfl)) (NS.root (hw _ (ow 50 rfl)) (hw _ (ow 231 rfl)) (by decide)) (by decide)) (by decide)) (by decide)) (by decide)) (g := (mkF m 8 #[.val (.ref a1), .unset] [(.ref a1)])) rfl rfl (hb hby d_jdk_56_method_3_8)
  obtain ⟨cq3, kq3, q3a, q3b, q3c⟩ := isOf hZ e2 E_a1
  obtain ⟨v3, _, ⟨T3, L3, k3, n3⟩, -, X3, ⟨Lc3, hQ3, l3, y3, z3⟩, st3⟩ := X2.interfaceBack hx (xi := (⟨"java/util/Collection", "isEmpty", "()Z"⟩ : MethodName)) (y := (⟨"java/util/ArrayList", "isEmpty", "()Z"⟩ : MethodName)) hown (mvT hZ (hw _ (ow 52 rfl))) (mvT hZ (hw _ (ow 53 rfl))) (mvT hZ (hw _ (ow 54 rfl))) (mvT hZ (hw _ (ow 55 rfl))) (mvT hZ (hw _ (ow 56 rfl))) (mvT hZ (hw _ (ow 57 rfl))) (mvT hZ (hw _ (ow 58 rfl))) (mvT hZ (hw _ (ow 59 rfl))) (by decide) (backOf (W := 0) (rm_aliE l Z a0 hw [] a1 (0 : Int32) h0 n0 F_size_a1) hZ (hw _ (ow 60 rfl)) (hw _ (ow 2 rfl)) (by decide) (by decide)) q3a q3b q3c (g := (mkF m 32 #[.val (.ref a1), .unset] [(.ref a1)])) rfl (by rw [hml]; rfl) (Steps.refl _) (argsL := []) (rest := []) (lenOf pd_1 rfl) rfl (Nat.le_of_eq rfl) (hb hby d_jdk_56_method_3_32) (fun _ _ => ⟨rfl, e2, (by decide : 0 + 0 ≤ _), (by decide : 0 + 0 ≤ _)⟩)
  dsimp only [Pt.U, Pt.locs, Pt.cells, Pt.slots] at X3 l3 y3 z3 st3 hQ3
  subst y3 z3
  obtain ⟨hv3, Nq3, e3⟩ := hQ3
  obtain rfl : v3 = some (.int (1 : Int32)) := hv3.trans (congrArg some (congrArg Value.int (if_pos (by decide))))
  have N3 : Fr n0 L3 := by rw [l3]; exact Fr.app N0 Nq3
  obtain ⟨v4, _, ⟨T4, L4, k4, n4⟩, -, X4, ⟨Lc4, hQ4, l4, y4, z4⟩, st4⟩ := Jvm.LawKit.callS X3 hx (y := (⟨"java/util/List", "of", "()Ljava/util/List;"⟩ : MethodName)) hown (mvT hZ (hw _ (ow 63 rfl))) (mvT hZ (hw _ (ow 64 rfl))) (mvT hZ (hw _ (ow 40 rfl))) (mvT hZ (hw _ (ow 65 rfl))) (by decide) (backOf (W := 0) (rm_of0 l Z a0 hw []  h0 n0 w_ROWS w_RESULT w_PARTIAL_GROUPS w_MERGED_GROUPS w_D w_EL w_EE w_C w_EM w_M (own_K_ext EX0 hK)) hZ (hw _ (ow 65 rfl)) (hw _ (ow 40 rfl)) (by decide) (by decide)) (g := (mkF m 40 #[.val (.ref a1), .unset] [])) rfl (by rw [hml]; rfl) (argsL := []) (rest := []) (lenOf pd_2 rfl) rfl (Nat.le_of_eq rfl) (hb hby d_jdk_56_method_3_40) (fun _ _ => ⟨rfl, e3, (by decide : 0 + 0 ≤ _), (by decide : 0 + 0 ≤ _)⟩)
  dsimp only [Pt.U, Pt.locs, Pt.cells, Pt.slots] at X4 l4 y4 z4 st4 hQ4
  subst y4 z4
  obtain ⟨hv4, Nq4, e4⟩ := hQ4
  obtain rfl : v4 = some (.ref w_EL) := hv4
  have N4 : Fr n0 L4 := by rw [l4]; exact Fr.app N3 Nq4
  have pre5 : ∀ t, Steps p.tables e below (T4.setTop (mkF m 43 #[.val (.ref a1), .unset] [(.ref w_EL)])) t → Steps p.tables e below (s₁.setTop (entryFrame m #[(.ref a1)] 2)) t := fun t k => pre0 t (by
    show Steps p.tables e below (s₁.setTop (mkF m 0 #[.val (.ref a1), .unset] [])) _
    refine XS.aloadN X0.here hx rfl (hb hby d_jdk_56_method_3_0) rfl rfl ?_
    show Steps p.tables e below (s₁.setTop (mkF m 1 #[.val (.ref a1), .unset] [(.ref a1)])) _
    refine st1 _ ?_
    show Steps p.tables e below (T1.setTop (mkF m 4 #[.val (.ref a1), .unset] [(.int (0 : Int32))])) _
    refine XS.ifNo X1.here hx rfl (hb hby d_jdk_56_method_3_4) rfl ((if0 _ _).trans (teq (by decide)).2) ?_
    show Steps p.tables e below (T1.setTop (mkF m 7 #[.val (.ref a1), .unset] [])) _
    refine XS.aloadN X1.here hx rfl (hb hby d_jdk_56_method_3_7) rfl rfl ?_
    show Steps p.tables e below (T1.setTop (mkF m 8 #[.val (.ref a1), .unset] [(.ref a1)])) _
    refine st2 _ ?_
    show Steps p.tables e below (T2.setTop (mkF m 11 #[.val (.ref a1), .unset] [(.int (0 : Int32))])) _
    refine XS.ifYes X2.here hx rfl (pc0 := 11) (pc' := 31) rfl (hb hby d_jdk_56_method_3_11) rfl ((if0 _ _).trans (teq (by decide)).1) (by decide) (by decide) ?_
    show Steps p.tables e below (T2.setTop (mkF m 31 #[.val (.ref a1), .unset] [])) _
    refine XS.aloadN X2.here hx rfl (hb hby d_jdk_56_method_3_31) rfl rfl ?_
    show Steps p.tables e below (T2.setTop (mkF m 32 #[.val (.ref a1), .unset] [(.ref a1)])) _
    refine st3.trans ?_
    show Steps p.tables e below (T3.setTop (mkF m 37 #[.val (.ref a1), .unset] [(.int (1 : Int32))])) _
    refine XS.ifNo X3.here hx rfl (hb hby d_jdk_56_method_3_37) rfl ((if0 _ _).trans (feq (by decide)).1) ?_
    show Steps p.tables e below (T3.setTop (mkF m 40 #[.val (.ref a1), .unset] [])) _
    refine st4 _ ?_
    exact k)
  obtain ⟨fs, hr, hrun, hended, hW, hsame⟩ := X4.leave (v := some (.ref w_EL)) (fun h => by rw [Bd.returns] at h; cases h)
  refine ⟨_, _, pre5 _ ?_, hrun, hended, _, _, rfl, ?_, ⟨_, rfl⟩, hW, hsame.mono (by decide) (by decide)⟩
  · show Steps p.tables e below (T4.setTop (mkF m 43 #[.val (.ref a1), .unset] [(.ref w_EL)])) _
    exact retOut X4 hx Bd.returns rfl (Or.inr (Or.inr (Or.inr (Or.inr ⟨rfl, rfl, rfl⟩)))) (hb hby d_jdk_56_method_3_43) hr
  · exact ⟨rfl, N4, by rw [show (T4.setFrames fs).heap = _ from e4]; exact (Keep.refl h0 [])⟩
def own_Q_co0 (Z : State) (a1 : Addr) (w_ROWS w_RESULT w_PARTIAL_GROUPS w_MERGED_GROUPS w_D w_EL w_EE w_C w_EM w_M : Addr)  (h0 : Heap) (n0 : Nat) (v : Option Value) (h : Heap) (L : List Loc) : Prop := v = (some (.ref w_EL)) ∧ Fr n0 L ∧ Keep h0 h []
theorem d_jdk_40_method_48_0 : decode jdk_40_method_48_code 0 = .ok (.aload_n 0, 1) := by decide +kernel
theorem d_jdk_40_method_48_1 : decode jdk_40_method_48_code 1 = .ok (.invokestatic 112, 3) := by decide +kernel
theorem pd_3 : parseMethodDescriptor "(Ljava/util/Collection;)Ljava/util/List;" = some ⟨[(.object "java/util/Collection")], some (.object "java/util/List")⟩ := by decide +kernel
theorem d_jdk_40_method_48_4 : decode jdk_40_method_48_code 4 = .ok (.areturn, 1) := by decide +kernel
theorem ef_co0 (m : MethodId) (x0 : Addr) : entryFrame m #[(.ref x0)] 1 = mkF m 0 #[.val (.ref x0)] [] := by first | (simp [entryFrame, mkF, argsToLocals, Value.category]; done) | rfl
set_option maxRecDepth 65536 in
set_option maxHeartbeats 40000000 in
theorem rm_co0 (l : Launch) (Z : State) (a0 : Array Value) (hw : ∀ d ∈ tables_1, d.before a0 Z = true) (ws : List Jvm.Cond) (a1 : Addr) (h0 : Heap) (n0 : Nat) (w_ROWS w_RESULT w_PARTIAL_GROUPS w_MERGED_GROUPS w_D w_EL w_EE w_C w_EM w_M : Addr) (hK : own_K Z Z.heap w_ROWS w_RESULT w_PARTIAL_GROUPS w_MERGED_GROUPS w_D w_EL w_EE w_C w_EM w_M) (hn0 : n0 = Z.heap.size) (EX0 : Ext Z.heap h0) (E_a1 : Exa Z h0 a1 "java/util/ArrayList") (g_a1 : n0 ≤ a1) (F_size_a1 : Fld Z h0 a1 "java/util/ArrayList" "size" "I" (.int (0 : Int32))) :
    MetFree l (⟨"java/util/List", "copyOf", "(Ljava/util/Collection;)Ljava/util/List;"⟩ : MethodName) (head1 (Jvm.Cond.code (⟨"java/util/List", "copyOf", "(Ljava/util/Collection;)Ljava/util/List;"⟩ : MethodName) jdk_40_method_48_code 1 (some (.object "java/util/List")) :: ws) ({ frames := 2, cells := 0, slots := 0, locals := 25 } : Room)) (fun a U => a = #[(.ref a1)] ∧ Z.Warmed39 U.vm ∧ U.heap = h0) (fun _ _ _ _ _ => True) (fun _ U o U' => ∃ v L, o = .returned v ∧ own_Q_co0 Z a1 w_ROWS w_RESULT w_PARTIAL_GROUPS w_MERGED_GROUPS w_D w_EL w_EE w_C w_EM w_M h0 n0 v U'.heap L ∧ FrameEnd U o U' L ({ frames := 2, cells := 0, slots := 0, locals := 25 } : Room).cells ({ frames := 2, cells := 0, slots := 0, locals := 25 } : Room).slots) := by
  refine MetFree.of_bodySF (plainFor_of_name pn_7) hisR ?_
  intro p e s m args below meth c s₁ Bd hml0 hP hK0
  obtain ⟨rfl, hZ, hh⟩ := hP
  have hx := Bd.exec
  have hby := Bd.bytes
  have hml : c.maxLocals = 1 := hml0
  have hown : s.vm.findClass "java/util/List" = some m.cls := findClass_of_methodNamed Bd.named
  have hnm := (name_of_methodNamed Bd.named Bd.method).1
  have X0 : Stand p l e ({ frames := 2, cells := 0, slots := 0, locals := 25 } : Room) s m #[(.ref a1)] below meth c s₁ [] 0 0 := Stand.of_body Bd
  have e0 : s₁.heap = h0 := by rw [← hh, Bd.state]; rfl
  have N0 := Fr.nil n0
  have pre0 : ∀ t, Steps p.tables e below (s₁.setTop (mkF m 0 #[.val (.ref a1)] [])) t → Steps p.tables e below (s₁.setTop (entryFrame m #[(.ref a1)] 1)) t := fun t k => castTop (ef_co0 m a1) k
  have hK' := hK
  obtain ⟨S_w_ROWS, E_w_ROWS, F_ordinal_w_ROWS, S_w_RESULT, E_w_RESULT, F_ordinal_w_RESULT, S_w_PARTIAL_GROUPS, E_w_PARTIAL_GROUPS, F_ordinal_w_PARTIAL_GROUPS, S_w_MERGED_GROUPS, E_w_MERGED_GROUPS, F_ordinal_w_MERGED_GROUPS, S_w_D, B_w_D, S_w_EL, E_w_EL, F_elements_w_EL, B_w_EE, F_allowNulls_w_EL, S_high, S_w_C, C_w_C, S_w_EM, M_w_M⟩ := hK'
  obtain ⟨cl_w_D, A_w_D, q_w_D⟩ := B_w_D
  obtain ⟨cl_w_EE, A_w_EE, q_w_EE⟩ := B_w_EE
  obtain ⟨v1, _, ⟨T1, L1, k1, n1⟩, -, X1, ⟨Lc1, hQ1, l1, y1, z1⟩, st1⟩ := Jvm.LawKit.callS X0 hx (y := (⟨"java/util/ImmutableCollections", "listCopy", "(Ljava/util/Collection;)Ljava/util/List;"⟩ : MethodName)) hown (mvT hZ (hw _ (ow 42 rfl))) (mvT hZ (hw _ (ow 43 rfl))) (mvT hZ (hw _ (ow 44 rfl))) (mvT hZ (hw _ (ow 45 rfl))) (by decide) (backOf (W := 0) (rm_lc0 l Z a0 hw [] a1 h0 n0 w_ROWS w_RESULT w_PARTIAL_GROUPS w_MERGED_GROUPS w_D w_EL w_EE w_C w_EM w_M hK hn0 EX0 E_a1 g_a1 F_size_a1) hZ (hw _ (ow 45 rfl)) (hw _ (ow 44 rfl)) (by decide) (by decide)) (g := (mkF m 1 #[.val (.ref a1)] [(.ref a1)])) rfl (by rw [hml]; rfl) (argsL := [(.ref a1)]) (rest := []) (lenOf pd_3 rfl) rfl (Nat.le_of_eq rfl) (hb hby d_jdk_40_method_48_1) (fun _ _ => ⟨rfl, e0, (by decide : 0 + 0 ≤ _), (by decide : 0 + 0 ≤ _)⟩)
  dsimp only [Pt.U, Pt.locs, Pt.cells, Pt.slots] at X1 l1 y1 z1 st1 hQ1
  subst y1 z1
  obtain ⟨hv1, Nq1, Kq1⟩ := hQ1
  obtain rfl : v1 = some (.ref w_EL) := hv1
  have N1 : Fr n0 L1 := by rw [l1]; exact Fr.app N0 Nq1
  have x1_E_a1 := E_a1.keep Kq1
  have x1_F_a1_size := F_size_a1.keep Kq1 nin0
  have EX1 := own_ext_keepL EX0 Kq1 all0
  have K1 := Keep.trans (Keep.refl h0 []) Kq1 all0
  have pre2 : ∀ t, Steps p.tables e below (T1.setTop (mkF m 4 #[.val (.ref a1)] [(.ref w_EL)])) t → Steps p.tables e below (s₁.setTop (entryFrame m #[(.ref a1)] 1)) t := fun t k => pre0 t (by
    show Steps p.tables e below (s₁.setTop (mkF m 0 #[.val (.ref a1)] [])) _
    refine XS.aloadN X0.here hx rfl (hb hby d_jdk_40_method_48_0) rfl rfl ?_
    show Steps p.tables e below (s₁.setTop (mkF m 1 #[.val (.ref a1)] [(.ref a1)])) _
    refine st1 _ ?_
    exact k)
  obtain ⟨fs, hr, hrun, hended, hW, hsame⟩ := X1.leave (v := some (.ref w_EL)) (fun h => by rw [Bd.returns] at h; cases h)
  refine ⟨_, _, pre2 _ ?_, hrun, hended, _, _, rfl, ?_, ⟨_, rfl⟩, hW, hsame.mono (by decide) (by decide)⟩
  · show Steps p.tables e below (T1.setTop (mkF m 4 #[.val (.ref a1)] [(.ref w_EL)])) _
    exact retOut X1 hx Bd.returns rfl (Or.inr (Or.inr (Or.inr (Or.inr ⟨rfl, rfl, rfl⟩)))) (hb hby d_jdk_40_method_48_4) hr
  · exact ⟨rfl, N1, by rw [show (T1.setFrames fs).heap = _ from (rfl : T1.heap = T1.heap)]; exact K1⟩
def own_Q_lcN (Z : State)  (w_ROWS w_RESULT w_PARTIAL_GROUPS w_MERGED_GROUPS w_D w_EL w_EE w_C w_EM w_M : Addr)  (h0 : Heap) (n0 : Nat) (v : Option Value) (h : Heap) (L : List Loc) : Prop := v = (some (.ref w_EL)) ∧ Fr n0 L ∧ Keep h0 h []
theorem d_jdk_56_method_3_14 : decode jdk_56_method_3_code 14 = .ok (.aload_n 0, 1) := by decide +kernel
theorem d_jdk_56_method_3_15 : decode jdk_56_method_3_code 15 = .ok (.checkcast 12, 3) := by decide +kernel
theorem d_jdk_56_method_3_18 : decode jdk_56_method_3_code 18 = .ok (.astore_n 1, 1) := by decide +kernel
theorem d_jdk_56_method_3_19 : decode jdk_56_method_3_code 19 = .ok (.aload_n 1, 1) := by decide +kernel
theorem d_jdk_56_method_3_20 : decode jdk_56_method_3_code 20 = .ok (.getfield 14, 3) := by decide +kernel
theorem d_jdk_56_method_3_23 : decode jdk_56_method_3_code 23 = .ok (.ifCond .ne 8, 3) := by decide +kernel
theorem d_jdk_56_method_3_26 : decode jdk_56_method_3_code 26 = .ok (.aload_n 0, 1) := by decide +kernel
theorem d_jdk_56_method_3_27 : decode jdk_56_method_3_code 27 = .ok (.checkcast 18, 3) := by decide +kernel
theorem d_jdk_56_method_3_30 : decode jdk_56_method_3_code 30 = .ok (.areturn, 1) := by decide +kernel
theorem ef_lcN (m : MethodId) (x0 : Addr) : entryFrame m #[(.ref x0)] 2 = mkF m 0 #[.val (.ref x0), .unset] [] := by first | (simp [entryFrame, mkF, argsToLocals, Value.category]; done) | rfl
set_option maxRecDepth 65536 in
set_option maxHeartbeats 40000000 in
theorem rm_lcN (l : Launch) (Z : State) (a0 : Array Value) (hw : ∀ d ∈ tables_1, d.before a0 Z = true) (ws : List Jvm.Cond)  (h0 : Heap) (n0 : Nat) (w_ROWS w_RESULT w_PARTIAL_GROUPS w_MERGED_GROUPS w_D w_EL w_EE w_C w_EM w_M : Addr) (hK : own_K Z Z.heap w_ROWS w_RESULT w_PARTIAL_GROUPS w_MERGED_GROUPS w_D w_EL w_EE w_C w_EM w_M) (hn0 : n0 = Z.heap.size) (EX0 : Ext Z.heap h0) :
    MetFree l (⟨"java/util/ImmutableCollections", "listCopy", "(Ljava/util/Collection;)Ljava/util/List;"⟩ : MethodName) (head1 (Jvm.Cond.code (⟨"java/util/ImmutableCollections", "listCopy", "(Ljava/util/Collection;)Ljava/util/List;"⟩ : MethodName) jdk_56_method_3_code 2 (some (.object "java/util/List")) :: ws) ({ frames := 0, cells := 0, slots := 0, locals := 0 } : Room)) (fun a U => a = #[(.ref w_EL)] ∧ Z.Warmed39 U.vm ∧ U.heap = h0) (fun _ _ _ _ _ => True) (fun _ U o U' => ∃ v L, o = .returned v ∧ own_Q_lcN Z w_ROWS w_RESULT w_PARTIAL_GROUPS w_MERGED_GROUPS w_D w_EL w_EE w_C w_EM w_M h0 n0 v U'.heap L ∧ FrameEnd U o U' L ({ frames := 0, cells := 0, slots := 0, locals := 0 } : Room).cells ({ frames := 0, cells := 0, slots := 0, locals := 0 } : Room).slots) := by
  refine MetFree.of_bodySF (plainFor_of_name pn_10) hisR ?_
  intro p e s m args below meth c s₁ Bd hml0 hP hK0
  obtain ⟨rfl, hZ, hh⟩ := hP
  have hx := Bd.exec
  have hby := Bd.bytes
  have hml : c.maxLocals = 2 := hml0
  have hown : s.vm.findClass "java/util/ImmutableCollections" = some m.cls := findClass_of_methodNamed Bd.named
  have hnm := (name_of_methodNamed Bd.named Bd.method).1
  have X0 : Stand p l e ({ frames := 0, cells := 0, slots := 0, locals := 0 } : Room) s m #[(.ref w_EL)] below meth c s₁ [] 0 0 := Stand.of_body Bd
  have e0 : s₁.heap = h0 := by rw [← hh, Bd.state]; rfl
  have N0 := Fr.nil n0
  have pre0 : ∀ t, Steps p.tables e below (s₁.setTop (mkF m 0 #[.val (.ref w_EL), .unset] [])) t → Steps p.tables e below (s₁.setTop (entryFrame m #[(.ref w_EL)] 2)) t := fun t k => castTop (ef_lcN m w_EL) k
  have hK' := hK
  obtain ⟨S_w_ROWS, E_w_ROWS, F_ordinal_w_ROWS, S_w_RESULT, E_w_RESULT, F_ordinal_w_RESULT, S_w_PARTIAL_GROUPS, E_w_PARTIAL_GROUPS, F_ordinal_w_PARTIAL_GROUPS, S_w_MERGED_GROUPS, E_w_MERGED_GROUPS, F_ordinal_w_MERGED_GROUPS, S_w_D, B_w_D, S_w_EL, E_w_EL, F_elements_w_EL, B_w_EE, F_allowNulls_w_EL, S_high, S_w_C, C_w_C, S_w_EM, M_w_M⟩ := hK'
  obtain ⟨cl_w_D, A_w_D, q_w_D⟩ := B_w_D
  obtain ⟨cl_w_EE, A_w_EE, q_w_EE⟩ := B_w_EE
  obtain ⟨T1, X1, e1, st1⟩ := instNo X0 hx hZ hown (hw _ (ow 46 rfl)) e0 (E_w_EL.ext EX0) (own_NS_no (hw _ (ow 231 rfl)) (hw _ (ow 152 rfl)) (NS.step (hw _ (ow 231 rfl)) (NS.step (hw _ (ow 232 rfl)) (NS.step (hw _ (ow 233 rfl)) (NS.step (hw _ (ow 49 rfl)) (own_NS_root (hw _ (ow 50 rfl)) (hw _ (ow 152 rfl)) (by decide)) (by decide)) (by decide)) (by decide)) (by decide)) (by decide)) (g := (mkF m 1 #[.val (.ref w_EL), .unset] [(.ref w_EL)])) rfl rfl (hb hby d_jdk_56_method_3_1)
  obtain ⟨T2, X2, e2, st2⟩ := instY X1 hx hZ hown (hw _ (ow 51 rfl)) e1 (Ins.self (E_w_EL.ext EX0)) (g := (mkF m 8 #[.val (.ref w_EL), .unset] [(.ref w_EL)])) rfl rfl (hb hby d_jdk_56_method_3_8)
  obtain ⟨T3, X3, e3, st3⟩ := castY X2 hx hZ hown (hw _ (ow 51 rfl)) e2 (Ins.self (E_w_EL.ext EX0)) (g := (mkF m 15 #[.val (.ref w_EL), .unset] [(.ref w_EL)])) rfl rfl (hb hby d_jdk_56_method_3_15)
  obtain ⟨T4, X4, e4, st4⟩ := getF X3 hx hZ hown (Or.inr (hw _ (ow 235 rfl))) Via.refl e3 (F_allowNulls_w_EL.ext EX0) (g := (mkF m 20 #[.val (.ref w_EL), .val (.ref w_EL)] [(.ref w_EL)])) rfl rfl (hb hby d_jdk_56_method_3_20)
  obtain ⟨T5, X5, e5, st5⟩ := castY X4 hx hZ hown (hw _ (ow 237 rfl)) e4 (Ins.of_exa (E_w_EL.ext EX0) (hw _ (ow 203 rfl))) (g := (mkF m 27 #[.val (.ref w_EL), .val (.ref w_EL)] [(.ref w_EL)])) rfl rfl (hb hby d_jdk_56_method_3_27)
  have pre6 : ∀ t, Steps p.tables e below (T5.setTop (mkF m 30 #[.val (.ref w_EL), .val (.ref w_EL)] [(.ref w_EL)])) t → Steps p.tables e below (s₁.setTop (entryFrame m #[(.ref w_EL)] 2)) t := fun t k => pre0 t (by
    show Steps p.tables e below (s₁.setTop (mkF m 0 #[.val (.ref w_EL), .unset] [])) _
    refine XS.aloadN X0.here hx rfl (hb hby d_jdk_56_method_3_0) rfl rfl ?_
    show Steps p.tables e below (s₁.setTop (mkF m 1 #[.val (.ref w_EL), .unset] [(.ref w_EL)])) _
    refine st1 _ ?_
    show Steps p.tables e below (T1.setTop (mkF m 4 #[.val (.ref w_EL), .unset] [(.int (0 : Int32))])) _
    refine XS.ifNo X1.here hx rfl (hb hby d_jdk_56_method_3_4) rfl ((if0 _ _).trans (teq (by decide)).2) ?_
    show Steps p.tables e below (T1.setTop (mkF m 7 #[.val (.ref w_EL), .unset] [])) _
    refine XS.aloadN X1.here hx rfl (hb hby d_jdk_56_method_3_7) rfl rfl ?_
    show Steps p.tables e below (T1.setTop (mkF m 8 #[.val (.ref w_EL), .unset] [(.ref w_EL)])) _
    refine st2 _ ?_
    show Steps p.tables e below (T2.setTop (mkF m 11 #[.val (.ref w_EL), .unset] [(.int (1 : Int32))])) _
    refine XS.ifNo X2.here hx rfl (hb hby d_jdk_56_method_3_11) rfl ((if0 _ _).trans (feq (by decide)).1) ?_
    show Steps p.tables e below (T2.setTop (mkF m 14 #[.val (.ref w_EL), .unset] [])) _
    refine XS.aloadN X2.here hx rfl (hb hby d_jdk_56_method_3_14) rfl rfl ?_
    show Steps p.tables e below (T2.setTop (mkF m 15 #[.val (.ref w_EL), .unset] [(.ref w_EL)])) _
    refine st3 _ ?_
    show Steps p.tables e below (T3.setTop (mkF m 18 #[.val (.ref w_EL), .unset] [(.ref w_EL)])) _
    refine XS.astoreN X3.here hx rfl (hb hby d_jdk_56_method_3_18) rfl rfl (l' := #[.val (.ref w_EL), .val (.ref w_EL)]) rfl ?_
    show Steps p.tables e below (T3.setTop (mkF m 19 #[.val (.ref w_EL), .val (.ref w_EL)] [])) _
    refine XS.aloadN X3.here hx rfl (hb hby d_jdk_56_method_3_19) rfl rfl ?_
    show Steps p.tables e below (T3.setTop (mkF m 20 #[.val (.ref w_EL), .val (.ref w_EL)] [(.ref w_EL)])) _
    refine st4 _ ?_
    show Steps p.tables e below (T4.setTop (mkF m 23 #[.val (.ref w_EL), .val (.ref w_EL)] [(.int (0 : Int32))])) _
    refine XS.ifNo X4.here hx rfl (hb hby d_jdk_56_method_3_23) rfl ((if0 _ _).trans (teq (by decide)).2) ?_
    show Steps p.tables e below (T4.setTop (mkF m 26 #[.val (.ref w_EL), .val (.ref w_EL)] [])) _
    refine XS.aloadN X4.here hx rfl (hb hby d_jdk_56_method_3_26) rfl rfl ?_
    show Steps p.tables e below (T4.setTop (mkF m 27 #[.val (.ref w_EL), .val (.ref w_EL)] [(.ref w_EL)])) _
    refine st5 _ ?_
    exact k)
  obtain ⟨fs, hr, hrun, hended, hW, hsame⟩ := X5.leave (v := some (.ref w_EL)) (fun h => by rw [Bd.returns] at h; cases h)
  refine ⟨_, _, pre6 _ ?_, hrun, hended, _, _, rfl, ?_, ⟨_, rfl⟩, hW, hsame.mono (by decide) (by decide)⟩
  · show Steps p.tables e below (T5.setTop (mkF m 30 #[.val (.ref w_EL), .val (.ref w_EL)] [(.ref w_EL)])) _
    exact retOut X5 hx Bd.returns rfl (Or.inr (Or.inr (Or.inr (Or.inr ⟨rfl, rfl, rfl⟩)))) (hb hby d_jdk_56_method_3_30) hr
  · exact ⟨rfl, N0, by rw [show (T5.setFrames fs).heap = _ from e5]; exact (Keep.refl h0 [])⟩
def own_Q_coN (Z : State)  (w_ROWS w_RESULT w_PARTIAL_GROUPS w_MERGED_GROUPS w_D w_EL w_EE w_C w_EM w_M : Addr)  (h0 : Heap) (n0 : Nat) (v : Option Value) (h : Heap) (L : List Loc) : Prop := v = (some (.ref w_EL)) ∧ Fr n0 L ∧ Keep h0 h []
theorem ef_coN (m : MethodId) (x0 : Addr) : entryFrame m #[(.ref x0)] 1 = mkF m 0 #[.val (.ref x0)] [] := by first | (simp [entryFrame, mkF, argsToLocals, Value.category]; done) | rfl
set_option maxRecDepth 65536 in
set_option maxHeartbeats 40000000 in
theorem rm_coN (l : Launch) (Z : State) (a0 : Array Value) (hw : ∀ d ∈ tables_1, d.before a0 Z = true) (ws : List Jvm.Cond)  (h0 : Heap) (n0 : Nat) (w_ROWS w_RESULT w_PARTIAL_GROUPS w_MERGED_GROUPS w_D w_EL w_EE w_C w_EM w_M : Addr) (hK : own_K Z Z.heap w_ROWS w_RESULT w_PARTIAL_GROUPS w_MERGED_GROUPS w_D w_EL w_EE w_C w_EM w_M) (hn0 : n0 = Z.heap.size) (EX0 : Ext Z.heap h0) :
    MetFree l (⟨"java/util/List", "copyOf", "(Ljava/util/Collection;)Ljava/util/List;"⟩ : MethodName) (head1 (Jvm.Cond.code (⟨"java/util/List", "copyOf", "(Ljava/util/Collection;)Ljava/util/List;"⟩ : MethodName) jdk_40_method_48_code 1 (some (.object "java/util/List")) :: ws) ({ frames := 1, cells := 0, slots := 0, locals := 13 } : Room)) (fun a U => a = #[(.ref w_EL)] ∧ Z.Warmed39 U.vm ∧ U.heap = h0) (fun _ _ _ _ _ => True) (fun _ U o U' => ∃ v L, o = .returned v ∧ own_Q_coN Z w_ROWS w_RESULT w_PARTIAL_GROUPS w_MERGED_GROUPS w_D w_EL w_EE w_C w_EM w_M h0 n0 v U'.heap L ∧ FrameEnd U o U' L ({ frames := 1, cells := 0, slots := 0, locals := 13 } : Room).cells ({ frames := 1, cells := 0, slots := 0, locals := 13 } : Room).slots) := by
  refine MetFree.of_bodySF (plainFor_of_name pn_7) hisR ?_
  intro p e s m args below meth c s₁ Bd hml0 hP hK0
  obtain ⟨rfl, hZ, hh⟩ := hP
  have hx := Bd.exec
  have hby := Bd.bytes
  have hml : c.maxLocals = 1 := hml0
  have hown : s.vm.findClass "java/util/List" = some m.cls := findClass_of_methodNamed Bd.named
  have hnm := (name_of_methodNamed Bd.named Bd.method).1
  have X0 : Stand p l e ({ frames := 1, cells := 0, slots := 0, locals := 13 } : Room) s m #[(.ref w_EL)] below meth c s₁ [] 0 0 := Stand.of_body Bd
  have e0 : s₁.heap = h0 := by rw [← hh, Bd.state]; rfl
  have N0 := Fr.nil n0
  have pre0 : ∀ t, Steps p.tables e below (s₁.setTop (mkF m 0 #[.val (.ref w_EL)] [])) t → Steps p.tables e below (s₁.setTop (entryFrame m #[(.ref w_EL)] 1)) t := fun t k => castTop (ef_coN m w_EL) k
  have hK' := hK
  obtain ⟨S_w_ROWS, E_w_ROWS, F_ordinal_w_ROWS, S_w_RESULT, E_w_RESULT, F_ordinal_w_RESULT, S_w_PARTIAL_GROUPS, E_w_PARTIAL_GROUPS, F_ordinal_w_PARTIAL_GROUPS, S_w_MERGED_GROUPS, E_w_MERGED_GROUPS, F_ordinal_w_MERGED_GROUPS, S_w_D, B_w_D, S_w_EL, E_w_EL, F_elements_w_EL, B_w_EE, F_allowNulls_w_EL, S_high, S_w_C, C_w_C, S_w_EM, M_w_M⟩ := hK'
  obtain ⟨cl_w_D, A_w_D, q_w_D⟩ := B_w_D
  obtain ⟨cl_w_EE, A_w_EE, q_w_EE⟩ := B_w_EE
  obtain ⟨v1, _, ⟨T1, L1, k1, n1⟩, -, X1, ⟨Lc1, hQ1, l1, y1, z1⟩, st1⟩ := Jvm.LawKit.callS X0 hx (y := (⟨"java/util/ImmutableCollections", "listCopy", "(Ljava/util/Collection;)Ljava/util/List;"⟩ : MethodName)) hown (mvT hZ (hw _ (ow 42 rfl))) (mvT hZ (hw _ (ow 43 rfl))) (mvT hZ (hw _ (ow 44 rfl))) (mvT hZ (hw _ (ow 45 rfl))) (by decide) (backOf (W := 0) (rm_lcN l Z a0 hw []  h0 n0 w_ROWS w_RESULT w_PARTIAL_GROUPS w_MERGED_GROUPS w_D w_EL w_EE w_C w_EM w_M hK hn0 EX0) hZ (hw _ (ow 45 rfl)) (hw _ (ow 44 rfl)) (by decide) (by decide)) (g := (mkF m 1 #[.val (.ref w_EL)] [(.ref w_EL)])) rfl (by rw [hml]; rfl) (argsL := [(.ref w_EL)]) (rest := []) (lenOf pd_3 rfl) rfl (Nat.le_of_eq rfl) (hb hby d_jdk_40_method_48_1) (fun _ _ => ⟨rfl, e0, (by decide : 0 + 0 ≤ _), (by decide : 0 + 0 ≤ _)⟩)
  dsimp only [Pt.U, Pt.locs, Pt.cells, Pt.slots] at X1 l1 y1 z1 st1 hQ1
  subst y1 z1
  obtain ⟨hv1, Nq1, Kq1⟩ := hQ1
  obtain rfl : v1 = some (.ref w_EL) := hv1
  have N1 : Fr n0 L1 := by rw [l1]; exact Fr.app N0 Nq1
  have EX1 := own_ext_keepL EX0 Kq1 all0
  have K1 := Keep.trans (Keep.refl h0 []) Kq1 all0
  have pre2 : ∀ t, Steps p.tables e below (T1.setTop (mkF m 4 #[.val (.ref w_EL)] [(.ref w_EL)])) t → Steps p.tables e below (s₁.setTop (entryFrame m #[(.ref w_EL)] 1)) t := fun t k => pre0 t (by
    show Steps p.tables e below (s₁.setTop (mkF m 0 #[.val (.ref w_EL)] [])) _
    refine XS.aloadN X0.here hx rfl (hb hby d_jdk_40_method_48_0) rfl rfl ?_
    show Steps p.tables e below (s₁.setTop (mkF m 1 #[.val (.ref w_EL)] [(.ref w_EL)])) _
    refine st1 _ ?_
    exact k)
  obtain ⟨fs, hr, hrun, hended, hW, hsame⟩ := X1.leave (v := some (.ref w_EL)) (fun h => by rw [Bd.returns] at h; cases h)
  refine ⟨_, _, pre2 _ ?_, hrun, hended, _, _, rfl, ?_, ⟨_, rfl⟩, hW, hsame.mono (by decide) (by decide)⟩
  · show Steps p.tables e below (T1.setTop (mkF m 4 #[.val (.ref w_EL)] [(.ref w_EL)])) _
    exact retOut X1 hx Bd.returns rfl (Or.inr (Or.inr (Or.inr (Or.inr ⟨rfl, rfl, rfl⟩)))) (hb hby d_jdk_40_method_48_4) hr
  · exact ⟨rfl, N1, by rw [show (T1.setFrames fs).heap = _ from (rfl : T1.heap = T1.heap)]; exact K1⟩
def own_Q_grinit (Z : State) (a1 : Addr) (a2 : Addr) (a3 : Addr) (w_ROWS w_RESULT w_PARTIAL_GROUPS w_MERGED_GROUPS w_D w_EL w_EE w_C w_EM w_M : Addr)  (h0 : Heap) (n0 : Nat) (v : Option Value) (h : Heap) (L : List Loc) : Prop := v = none ∧ Fr n0 L ∧ Keep h0 h [a1] ∧ Exa Z h a1 "com/example/cairn/cairn/plan/Grouping"
theorem d_prog_92_method_1_0 : decode prog_92_method_1_code 0 = .ok (.aload_n 0, 1) := by decide +kernel
theorem d_prog_92_method_1_1 : decode prog_92_method_1_code 1 = .ok (.invokespecial 1, 3) := by decide +kernel
theorem d_prog_92_method_1_4 : decode prog_92_method_1_code 4 = .ok (.aload_n 1, 1) := by decide +kernel
theorem d_prog_92_method_1_5 : decode prog_92_method_1_code 5 = .ok (.invokestatic 7, 3) := by decide +kernel
theorem d_prog_92_method_1_8 : decode prog_92_method_1_code 8 = .ok (.astore_n 1, 1) := by decide +kernel
theorem d_prog_92_method_1_9 : decode prog_92_method_1_code 9 = .ok (.aload_n 2, 1) := by decide +kernel
theorem d_prog_92_method_1_10 : decode prog_92_method_1_code 10 = .ok (.invokestatic 7, 3) := by decide +kernel
theorem d_prog_92_method_1_13 : decode prog_92_method_1_code 13 = .ok (.astore_n 2, 1) := by decide +kernel
theorem d_prog_92_method_1_14 : decode prog_92_method_1_code 14 = .ok (.aload_n 0, 1) := by decide +kernel
theorem d_prog_92_method_1_15 : decode prog_92_method_1_code 15 = .ok (.aload_n 1, 1) := by decide +kernel
theorem d_prog_92_method_1_16 : decode prog_92_method_1_code 16 = .ok (.putfield 13, 3) := by decide +kernel
theorem d_prog_92_method_1_19 : decode prog_92_method_1_code 19 = .ok (.aload_n 0, 1) := by decide +kernel
theorem d_prog_92_method_1_20 : decode prog_92_method_1_code 20 = .ok (.aload_n 2, 1) := by decide +kernel
theorem d_prog_92_method_1_21 : decode prog_92_method_1_code 21 = .ok (.putfield 19, 3) := by decide +kernel
theorem d_prog_92_method_1_24 : decode prog_92_method_1_code 24 = .ok (.return_, 1) := by decide +kernel
theorem pn_11 : plainName "com/example/cairn/cairn/plan/Grouping" = true := by first | (simp [plainName, overriddenIn]; done) | decide +kernel
theorem ef_grinit (m : MethodId) (x0 : Addr) (x1 : Addr) (x2 : Addr) : entryFrame m #[(.ref x0), (.ref x1), (.ref x2)] 3 = mkF m 0 #[.val (.ref x0), .val (.ref x1), .val (.ref x2)] [] := by first | (simp [entryFrame, mkF, argsToLocals, Value.category]; done) | rfl
set_option maxRecDepth 65536 in
set_option maxHeartbeats 40000000 in
theorem rm_grinit (l : Launch) (Z : State) (a0 : Array Value) (hw : ∀ d ∈ tables_1, d.before a0 Z = true) (ws : List Jvm.Cond) (a1 : Addr) (a2 : Addr) (a3 : Addr) (h0 : Heap) (n0 : Nat) (w_ROWS w_RESULT w_PARTIAL_GROUPS w_MERGED_GROUPS w_D w_EL w_EE w_C w_EM w_M : Addr) (hK : own_K Z Z.heap w_ROWS w_RESULT w_PARTIAL_GROUPS w_MERGED_GROUPS w_D w_EL w_EE w_C w_EM w_M) (hn0 : n0 = Z.heap.size) (EX0 : Ext Z.heap h0) (E_a1 : Exa Z h0 a1 "com/example/cairn/cairn/plan/Grouping") (g_a1 : n0 ≤ a1) (F_keys_a1 : Fld Z h0 a1 "com/example/cairn/cairn/plan/Grouping" "keys" "Ljava/util/List;" .null) (F_aggregates_a1 : Fld Z h0 a1 "com/example/cairn/cairn/plan/Grouping" "aggregates" "Ljava/util/List;" .null) (E_a2 : Exa Z h0 a2 "java/util/ArrayList") (g_a2 : n0 ≤ a2) (F_size_a2 : Fld Z h0 a2 "java/util/ArrayList" "size" "I" (.int (0 : Int32))) (E_a3 : Exa Z h0 a3 "java/util/ArrayList") (g_a3 : n0 ≤ a3) (F_size_a3 : Fld Z h0 a3 "java/util/ArrayList" "size" "I" (.int (0 : Int32))) :
    MetFree l (⟨"com/example/cairn/cairn/plan/Grouping", "<init>", "(Ljava/util/List;Ljava/util/List;)V"⟩ : MethodName) (head1 (Jvm.Cond.code (⟨"com/example/cairn/cairn/plan/Grouping", "<init>", "(Ljava/util/List;Ljava/util/List;)V"⟩ : MethodName) prog_92_method_1_code 3 none :: ws) ({ frames := 3, cells := 0, slots := 0, locals := 37 } : Room)) (fun a U => a = #[(.ref a1), (.ref a2), (.ref a3)] ∧ Z.Warmed39 U.vm ∧ U.heap = h0) (fun _ _ _ _ _ => True) (fun _ U o U' => ∃ v L, o = .returned v ∧ own_Q_grinit Z a1 a2 a3 w_ROWS w_RESULT w_PARTIAL_GROUPS w_MERGED_GROUPS w_D w_EL w_EE w_C w_EM w_M h0 n0 v U'.heap L ∧ FrameEnd U o U' L ({ frames := 3, cells := 0, slots := 0, locals := 37 } : Room).cells ({ frames := 3, cells := 0, slots := 0, locals := 37 } : Room).slots) := by
  refine MetFree.of_bodySF (plainFor_of_name pn_11) hisR ?_
  intro p e s m args below meth c s₁ Bd hml0 hP hK0
  obtain ⟨rfl, hZ, hh⟩ := hP
  have hx := Bd.exec
  have hby := Bd.bytes
  have hml : c.maxLocals = 3 := hml0
  have hown : s.vm.findClass "com/example/cairn/cairn/plan/Grouping" = some m.cls := findClass_of_methodNamed Bd.named
  have hnm := (name_of_methodNamed Bd.named Bd.method).1
  have X0 : Stand p l e ({ frames := 3, cells := 0, slots := 0, locals := 37 } : Room) s m #[(.ref a1), (.ref a2), (.ref a3)] below meth c s₁ [] 0 0 := Stand.of_body Bd
  have e0 : s₁.heap = h0 := by rw [← hh, Bd.state]; rfl
  have N0 := Fr.nil n0
  have pre0 : ∀ t, Steps p.tables e below (s₁.setTop (mkF m 0 #[.val (.ref a1), .val (.ref a2), .val (.ref a3)] [])) t → Steps p.tables e below (s₁.setTop (entryFrame m #[(.ref a1), (.ref a2), (.ref a3)] 3)) t := fun t k => castTop (ef_grinit m a1 a2 a3) k
  have hK' := hK
  obtain ⟨S_w_ROWS, E_w_ROWS, F_ordinal_w_ROWS, S_w_RESULT, E_w_RESULT, F_ordinal_w_RESULT, S_w_PARTIAL_GROUPS, E_w_PARTIAL_GROUPS, F_ordinal_w_PARTIAL_GROUPS, S_w_MERGED_GROUPS, E_w_MERGED_GROUPS, F_ordinal_w_MERGED_GROUPS, S_w_D, B_w_D, S_w_EL, E_w_EL, F_elements_w_EL, B_w_EE, F_allowNulls_w_EL, S_high, S_w_C, C_w_C, S_w_EM, M_w_M⟩ := hK'
  obtain ⟨cl_w_D, A_w_D, q_w_D⟩ := B_w_D
  obtain ⟨cl_w_EE, A_w_EE, q_w_EE⟩ := B_w_EE
  obtain ⟨v1, _, ⟨T1, L1, k1, n1⟩, -, X1, ⟨Lc1, hQ1, l1, y1, z1⟩, st1⟩ := X0.specialBack hx (y := (⟨"java/lang/Record", "<init>", "()V"⟩ : MethodName)) rfl hown (mvT hZ (hw _ (ow 32 rfl))) (mvT hZ (hw _ (ow 33 rfl))) (mvT hZ (hw _ (ow 36 rfl))) (by decide) (backOf (W := 0) (rm_recinit l Z a0 hw [] a1 h0 n0) hZ (hw _ (ow 36 rfl)) (hw _ (ow 35 rfl)) (by decide) (by decide)) (g := (mkF m 1 #[.val (.ref a1), .val (.ref a2), .val (.ref a3)] [(.ref a1)])) rfl (by rw [hml]; rfl) (Steps.refl _) (a := a1) (argsL := []) (rest := []) (lenOf pd_0 rfl) rfl (Nat.le_of_eq rfl) (hb hby d_prog_92_method_1_1) (fun _ _ => ⟨rfl, e0, (by decide : 0 + 0 ≤ _), (by decide : 0 + 0 ≤ _)⟩)
  dsimp only [Pt.U, Pt.locs, Pt.cells, Pt.slots] at X1 l1 y1 z1 st1 hQ1
  subst y1 z1
  obtain ⟨hv1, Nq1, e1⟩ := hQ1
  obtain rfl : v1 = none := hv1
  have N1 : Fr n0 L1 := by rw [l1]; exact Fr.app N0 Nq1
  obtain ⟨v2, _, ⟨T2, L2, k2, n2⟩, -, X2, ⟨Lc2, hQ2, l2, y2, z2⟩, st2⟩ := Jvm.LawKit.callS X1 hx (y := (⟨"java/util/List", "copyOf", "(Ljava/util/Collection;)Ljava/util/List;"⟩ : MethodName)) hown (mvT hZ (hw _ (ow 38 rfl))) (mvT hZ (hw _ (ow 39 rfl))) (mvT hZ (hw _ (ow 40 rfl))) (mvT hZ (hw _ (ow 41 rfl))) (by decide) (backOf (W := 0) (rm_co0 l Z a0 hw [] a2 h0 n0 w_ROWS w_RESULT w_PARTIAL_GROUPS w_MERGED_GROUPS w_D w_EL w_EE w_C w_EM w_M hK hn0 EX0 E_a2 g_a2 F_size_a2) hZ (hw _ (ow 41 rfl)) (hw _ (ow 40 rfl)) (by decide) (by decide)) (g := (mkF m 5 #[.val (.ref a1), .val (.ref a2), .val (.ref a3)] [(.ref a2)])) rfl (by rw [hml]; rfl) (argsL := [(.ref a2)]) (rest := []) (lenOf pd_3 rfl) rfl (Nat.le_of_eq rfl) (hb hby d_prog_92_method_1_5) (fun _ _ => ⟨rfl, e1, (by decide : 0 + 0 ≤ _), (by decide : 0 + 0 ≤ _)⟩)
  dsimp only [Pt.U, Pt.locs, Pt.cells, Pt.slots] at X2 l2 y2 z2 st2 hQ2
  subst y2 z2
  obtain ⟨hv2, Nq2, Kq2⟩ := hQ2
  obtain rfl : v2 = some (.ref w_EL) := hv2
  have N2 : Fr n0 L2 := by rw [l2]; exact Fr.app N1 Nq2
  have x2_E_a1 := E_a1.keep Kq2
  have x2_F_a1_keys := F_keys_a1.keep Kq2 nin0
  have x2_F_a1_aggregates := F_aggregates_a1.keep Kq2 nin0
  have x2_E_a2 := E_a2.keep Kq2
  have x2_F_a2_size := F_size_a2.keep Kq2 nin0
  have x2_E_a3 := E_a3.keep Kq2
  have x2_F_a3_size := F_size_a3.keep Kq2 nin0
  have EX2 := own_ext_keepL EX0 Kq2 all0
  have K2 := Keep.trans (Keep.refl h0 [a1]) Kq2 all0
  obtain ⟨v3, _, ⟨T3, L3, k3, n3⟩, -, X3, ⟨Lc3, hQ3, l3, y3, z3⟩, st3⟩ := Jvm.LawKit.callS X2 hx (y := (⟨"java/util/List", "copyOf", "(Ljava/util/Collection;)Ljava/util/List;"⟩ : MethodName)) hown (mvT hZ (hw _ (ow 38 rfl))) (mvT hZ (hw _ (ow 39 rfl))) (mvT hZ (hw _ (ow 40 rfl))) (mvT hZ (hw _ (ow 41 rfl))) (by decide) (backOf (W := 0) (rm_co0 l Z a0 hw [] a3 T2.heap n0 w_ROWS w_RESULT w_PARTIAL_GROUPS w_MERGED_GROUPS w_D w_EL w_EE w_C w_EM w_M hK hn0 EX2 x2_E_a3 g_a3 x2_F_a3_size) hZ (hw _ (ow 41 rfl)) (hw _ (ow 40 rfl)) (by decide) (by decide)) (g := (mkF m 10 #[.val (.ref a1), .val (.ref w_EL), .val (.ref a3)] [(.ref a3)])) rfl (by rw [hml]; rfl) (argsL := [(.ref a3)]) (rest := []) (lenOf pd_3 rfl) rfl (Nat.le_of_eq rfl) (hb hby d_prog_92_method_1_10) (fun _ _ => ⟨rfl, (rfl : T2.heap = T2.heap), (by decide : 0 + 0 ≤ _), (by decide : 0 + 0 ≤ _)⟩)
  dsimp only [Pt.U, Pt.locs, Pt.cells, Pt.slots] at X3 l3 y3 z3 st3 hQ3
  subst y3 z3
  obtain ⟨hv3, Nq3, Kq3⟩ := hQ3
  obtain rfl : v3 = some (.ref w_EL) := hv3
  have N3 : Fr n0 L3 := by rw [l3]; exact Fr.app N2 Nq3
  have x3_E_a1 := x2_E_a1.keep Kq3
  have x3_F_a1_keys := x2_F_a1_keys.keep Kq3 nin0
  have x3_F_a1_aggregates := x2_F_a1_aggregates.keep Kq3 nin0
  have x3_E_a2 := x2_E_a2.keep Kq3
  have x3_F_a2_size := x2_F_a2_size.keep Kq3 nin0
  have x3_E_a3 := x2_E_a3.keep Kq3
  have x3_F_a3_size := x2_F_a3_size.keep Kq3 nin0
  have EX3 := own_ext_keepL EX2 Kq3 all0
  have K3 := Keep.trans K2 Kq3 all0
  obtain ⟨T4, h4, X4, e4, W4, st4⟩ := putF X3 hx hZ hown (host := "") (Or.inl (hw _ (ow 67 rfl))) Via.refl (rfl : T3.heap = T3.heap) x3_F_a1_keys x3_E_a1 (Or.inr ⟨(hw _ (ow 68 rfl)), rfl, hnm⟩) (hw _ (ow 27 rfl)) (ty := (.object "java/util/List")) (by decide) rfl rfl (g := (mkF m 16 #[.val (.ref a1), .val (.ref w_EL), .val (.ref w_EL)] [(.ref w_EL), (.ref a1)])) rfl rfl (hb hby d_prog_92_method_1_16)
  have x4_E_a1 := x3_E_a1.wr W4
  have x4_F_a1_keys := x3_F_a1_keys.same W4
  have x4_F_a1_aggregates := x3_F_a1_aggregates.other W4 (Or.inr (slot_ne (Or.inr (hw _ (ow 70 rfl))) (Or.inr (hw _ (ow 68 rfl))) (by decide) (t := (.object "java/util/List")) (t' := (.object "java/util/List")) (by decide) (by decide)))
  have x4_E_a2 := x3_E_a2.wr W4
  have x4_E_a3 := x3_E_a3.wr W4
  have EX4 := own_ext_wr EX3 W4 (hn0 ▸ g_a1)
  have K4 := Keep.wr K3 W4 (Or.inl (List.mem_of_getElem? (i := 0) rfl))
  have N4 := Fr.snoc X4 N3 g_a1
  obtain ⟨T5, h5, X5, e5, W5, st5⟩ := putF X4 hx hZ hown (host := "") (Or.inl (hw _ (ow 69 rfl))) Via.refl e4 x4_F_a1_aggregates x4_E_a1 (Or.inr ⟨(hw _ (ow 70 rfl)), rfl, hnm⟩) (hw _ (ow 27 rfl)) (ty := (.object "java/util/List")) (by decide) rfl rfl (g := (mkF m 21 #[.val (.ref a1), .val (.ref w_EL), .val (.ref w_EL)] [(.ref w_EL), (.ref a1)])) rfl rfl (hb hby d_prog_92_method_1_21)
  have x5_E_a1 := x4_E_a1.wr W5
  have x5_F_a1_keys := x4_F_a1_keys.other W5 (Or.inr (slot_ne (Or.inr (hw _ (ow 68 rfl))) (Or.inr (hw _ (ow 70 rfl))) (by decide) (t := (.object "java/util/List")) (t' := (.object "java/util/List")) (by decide) (by decide)))
  have x5_F_a1_aggregates := x4_F_a1_aggregates.same W5
  have x5_E_a2 := x4_E_a2.wr W5
  have x5_E_a3 := x4_E_a3.wr W5
  have EX5 := own_ext_wr EX4 W5 (hn0 ▸ g_a1)
  have K5 := Keep.wr K4 W5 (Or.inl (List.mem_of_getElem? (i := 0) rfl))
  have N5 := Fr.snoc X5 N4 g_a1
  have pre6 : ∀ t, Steps p.tables e below (T5.setTop (mkF m 24 #[.val (.ref a1), .val (.ref w_EL), .val (.ref w_EL)] [])) t → Steps p.tables e below (s₁.setTop (entryFrame m #[(.ref a1), (.ref a2), (.ref a3)] 3)) t := fun t k => pre0 t (by
    show Steps p.tables e below (s₁.setTop (mkF m 0 #[.val (.ref a1), .val (.ref a2), .val (.ref a3)] [])) _
    refine XS.aloadN X0.here hx rfl (hb hby d_prog_92_method_1_0) rfl rfl ?_
    show Steps p.tables e below (s₁.setTop (mkF m 1 #[.val (.ref a1), .val (.ref a2), .val (.ref a3)] [(.ref a1)])) _
    refine st1.trans ?_
    show Steps p.tables e below (T1.setTop (mkF m 4 #[.val (.ref a1), .val (.ref a2), .val (.ref a3)] [])) _
    refine XS.aloadN X1.here hx rfl (hb hby d_prog_92_method_1_4) rfl rfl ?_
    show Steps p.tables e below (T1.setTop (mkF m 5 #[.val (.ref a1), .val (.ref a2), .val (.ref a3)] [(.ref a2)])) _
    refine st2 _ ?_
    show Steps p.tables e below (T2.setTop (mkF m 8 #[.val (.ref a1), .val (.ref a2), .val (.ref a3)] [(.ref w_EL)])) _
    refine XS.astoreN X2.here hx rfl (hb hby d_prog_92_method_1_8) rfl rfl (l' := #[.val (.ref a1), .val (.ref w_EL), .val (.ref a3)]) rfl ?_
    show Steps p.tables e below (T2.setTop (mkF m 9 #[.val (.ref a1), .val (.ref w_EL), .val (.ref a3)] [])) _
    refine XS.aloadN X2.here hx rfl (hb hby d_prog_92_method_1_9) rfl rfl ?_
    show Steps p.tables e below (T2.setTop (mkF m 10 #[.val (.ref a1), .val (.ref w_EL), .val (.ref a3)] [(.ref a3)])) _
    refine st3 _ ?_
    show Steps p.tables e below (T3.setTop (mkF m 13 #[.val (.ref a1), .val (.ref w_EL), .val (.ref a3)] [(.ref w_EL)])) _
    refine XS.astoreN X3.here hx rfl (hb hby d_prog_92_method_1_13) rfl rfl (l' := #[.val (.ref a1), .val (.ref w_EL), .val (.ref w_EL)]) rfl ?_
    show Steps p.tables e below (T3.setTop (mkF m 14 #[.val (.ref a1), .val (.ref w_EL), .val (.ref w_EL)] [])) _
    refine XS.aloadN X3.here hx rfl (hb hby d_prog_92_method_1_14) rfl rfl ?_
    show Steps p.tables e below (T3.setTop (mkF m 15 #[.val (.ref a1), .val (.ref w_EL), .val (.ref w_EL)] [(.ref a1)])) _
    refine XS.aloadN X3.here hx rfl (hb hby d_prog_92_method_1_15) rfl rfl ?_
    show Steps p.tables e below (T3.setTop (mkF m 16 #[.val (.ref a1), .val (.ref w_EL), .val (.ref w_EL)] [(.ref w_EL), (.ref a1)])) _
    refine st4 _ ?_
    show Steps p.tables e below (T4.setTop (mkF m 19 #[.val (.ref a1), .val (.ref w_EL), .val (.ref w_EL)] [])) _
    refine XS.aloadN X4.here hx rfl (hb hby d_prog_92_method_1_19) rfl rfl ?_
    show Steps p.tables e below (T4.setTop (mkF m 20 #[.val (.ref a1), .val (.ref w_EL), .val (.ref w_EL)] [(.ref a1)])) _
    refine XS.aloadN X4.here hx rfl (hb hby d_prog_92_method_1_20) rfl rfl ?_
    show Steps p.tables e below (T4.setTop (mkF m 21 #[.val (.ref a1), .val (.ref w_EL), .val (.ref w_EL)] [(.ref w_EL), (.ref a1)])) _
    refine st5 _ ?_
    exact k)
  obtain ⟨fs, hr, hrun, hended, hW, hsame⟩ := X5.leave (v := none) (fun _ => rfl)
  refine ⟨_, _, pre6 _ ?_, hrun, hended, _, _, rfl, ?_, ⟨_, rfl⟩, hW, hsame.mono (by decide) (by decide)⟩
  · show Steps p.tables e below (T5.setTop (mkF m 24 #[.val (.ref a1), .val (.ref w_EL), .val (.ref w_EL)] [])) _
    exact X5.returnOut hx Bd.returns (hb hby d_prog_92_method_1_24) hr
  · exact ⟨rfl, N5, by rw [show (T5.setFrames fs).heap = _ from e5]; exact ⟨K5, x5_E_a1⟩⟩
def own_Q_intinit (Z : State) (a1 : Addr) (p1 : Int32)   (h0 : Heap) (n0 : Nat) (v : Option Value) (h : Heap) (L : List Loc) : Prop := v = none ∧ Fr n0 L ∧ Keep h0 h [a1] ∧ Exa Z h a1 "java/lang/Integer"
theorem d_jdk_33_method_23_0 : decode jdk_33_method_23_code 0 = .ok (.aload_n 0, 1) := by decide +kernel
theorem d_jdk_33_method_23_1 : decode jdk_33_method_23_code 1 = .ok (.invokespecial 202, 3) := by decide +kernel
theorem d_jdk_33_method_23_4 : decode jdk_33_method_23_code 4 = .ok (.aload_n 0, 1) := by decide +kernel
theorem d_jdk_33_method_23_5 : decode jdk_33_method_23_code 5 = .ok (.iload_n 1, 1) := by decide +kernel
theorem d_jdk_33_method_23_6 : decode jdk_33_method_23_code 6 = .ok (.putfield 205, 3) := by decide +kernel
theorem d_jdk_33_method_23_9 : decode jdk_33_method_23_code 9 = .ok (.return_, 1) := by decide +kernel
theorem pn_12 : plainName "java/lang/Integer" = true := by first | (simp [plainName, overriddenIn]; done) | decide +kernel
theorem ef_intinit (m : MethodId) (x0 : Addr) (x1 : Int32) : entryFrame m #[(.ref x0), (.int x1)] 2 = mkF m 0 #[.val (.ref x0), .val (.int x1)] [] := by first | (simp [entryFrame, mkF, argsToLocals, Value.category]; done) | rfl
set_option maxRecDepth 65536 in
set_option maxHeartbeats 40000000 in
theorem rm_intinit (l : Launch) (Z : State) (a0 : Array Value) (hw : ∀ d ∈ tables_1, d.before a0 Z = true) (ws : List Jvm.Cond) (a1 : Addr) (p1 : Int32) (h0 : Heap) (n0 : Nat) (hn0 : n0 = Z.heap.size) (EX0 : Ext Z.heap h0) (E_a1 : Exa Z h0 a1 "java/lang/Integer") (g_a1 : n0 ≤ a1) (F_value_a1 : Fld Z h0 a1 "java/lang/Integer" "value" "I" (.int (0 : Int32))) :
    MetFree l (⟨"java/lang/Integer", "<init>", "(I)V"⟩ : MethodName) (head1 (Jvm.Cond.code (⟨"java/lang/Integer", "<init>", "(I)V"⟩ : MethodName) jdk_33_method_23_code 2 none :: ws) ({ frames := 2, cells := 0, slots := 0, locals := 24 } : Room)) (fun a U => a = #[(.ref a1), (.int p1)] ∧ Z.Warmed39 U.vm ∧ U.heap = h0) (fun _ _ _ _ _ => True) (fun _ U o U' => ∃ v L, o = .returned v ∧ own_Q_intinit Z a1 p1 h0 n0 v U'.heap L ∧ FrameEnd U o U' L ({ frames := 2, cells := 0, slots := 0, locals := 24 } : Room).cells ({ frames := 2, cells := 0, slots := 0, locals := 24 } : Room).slots) := by
  refine MetFree.of_bodySF (plainFor_of_name pn_12) hisR ?_
  intro p e s m args below meth c s₁ Bd hml0 hP hK0
  obtain ⟨rfl, hZ, hh⟩ := hP
  have hx := Bd.exec
  have hby := Bd.bytes
  have hml : c.maxLocals = 2 := hml0
  have hown : s.vm.findClass "java/lang/Integer" = some m.cls := findClass_of_methodNamed Bd.named
  have hnm := (name_of_methodNamed Bd.named Bd.method).1
  have X0 : Stand p l e ({ frames := 2, cells := 0, slots := 0, locals := 24 } : Room) s m #[(.ref a1), (.int p1)] below meth c s₁ [] 0 0 := Stand.of_body Bd
  have e0 : s₁.heap = h0 := by rw [← hh, Bd.state]; rfl
  have N0 := Fr.nil n0
  have pre0 : ∀ t, Steps p.tables e below (s₁.setTop (mkF m 0 #[.val (.ref a1), .val (.int p1)] [])) t → Steps p.tables e below (s₁.setTop (entryFrame m #[(.ref a1), (.int p1)] 2)) t := fun t k => castTop (ef_intinit m a1 p1) k
  obtain ⟨v1, _, ⟨T1, L1, k1, n1⟩, -, X1, ⟨Lc1, hQ1, l1, y1, z1⟩, st1⟩ := X0.specialBack hx (y := (⟨"java/lang/Number", "<init>", "()V"⟩ : MethodName)) rfl hown (mvT hZ (hw _ (ow 247 rfl))) (mvT hZ (hw _ (ow 248 rfl))) (mvT hZ (hw _ (ow 252 rfl))) (by decide) (backOf (W := 0) (rm_numinit l Z a0 hw [] a1 h0 n0) hZ (hw _ (ow 252 rfl)) (hw _ (ow 251 rfl)) (by decide) (by decide)) (g := (mkF m 1 #[.val (.ref a1), .val (.int p1)] [(.ref a1)])) rfl (by rw [hml]; rfl) (Steps.refl _) (a := a1) (argsL := []) (rest := []) (lenOf pd_0 rfl) rfl (Nat.le_of_eq rfl) (hb hby d_jdk_33_method_23_1) (fun _ _ => ⟨rfl, e0, (by decide : 0 + 0 ≤ _), (by decide : 0 + 0 ≤ _)⟩)
  dsimp only [Pt.U, Pt.locs, Pt.cells, Pt.slots] at X1 l1 y1 z1 st1 hQ1
  subst y1 z1
  obtain ⟨hv1, Nq1, e1⟩ := hQ1
  obtain rfl : v1 = none := hv1
  have N1 : Fr n0 L1 := by rw [l1]; exact Fr.app N0 Nq1
  obtain ⟨T2, h2, X2, e2, W2, st2⟩ := putF X1 hx hZ hown (host := "") (Or.inl (hw _ (ow 254 rfl))) Via.refl e1 F_value_a1 E_a1 (Or.inr ⟨(hw _ (ow 255 rfl)), rfl, hnm⟩) (hw _ (ow 242 rfl)) (ty := .int) (by decide) rfl rfl (g := (mkF m 6 #[.val (.ref a1), .val (.int p1)] [(.int p1), (.ref a1)])) rfl rfl (hb hby d_jdk_33_method_23_6)
  have x2_E_a1 := E_a1.wr W2
  have x2_F_a1_value := F_value_a1.same W2
  have EX2 := own_ext_wr EX0 W2 (hn0 ▸ g_a1)
  have K2 := Keep.wr (Keep.refl h0 [a1]) W2 (Or.inl (List.mem_of_getElem? (i := 0) rfl))
  have N2 := Fr.snoc X2 N1 g_a1
  have pre3 : ∀ t, Steps p.tables e below (T2.setTop (mkF m 9 #[.val (.ref a1), .val (.int p1)] [])) t → Steps p.tables e below (s₁.setTop (entryFrame m #[(.ref a1), (.int p1)] 2)) t := fun t k => pre0 t (by
    show Steps p.tables e below (s₁.setTop (mkF m 0 #[.val (.ref a1), .val (.int p1)] [])) _
    refine XS.aloadN X0.here hx rfl (hb hby d_jdk_33_method_23_0) rfl rfl ?_
    show Steps p.tables e below (s₁.setTop (mkF m 1 #[.val (.ref a1), .val (.int p1)] [(.ref a1)])) _
    refine st1.trans ?_
    show Steps p.tables e below (T1.setTop (mkF m 4 #[.val (.ref a1), .val (.int p1)] [])) _
    refine XS.aloadN X1.here hx rfl (hb hby d_jdk_33_method_23_4) rfl rfl ?_
    show Steps p.tables e below (T1.setTop (mkF m 5 #[.val (.ref a1), .val (.int p1)] [(.ref a1)])) _
    refine XS.iloadN X1.here hx rfl (hb hby d_jdk_33_method_23_5) rfl ?_
    show Steps p.tables e below (T1.setTop (mkF m 6 #[.val (.ref a1), .val (.int p1)] [(.int p1), (.ref a1)])) _
    refine st2 _ ?_
    exact k)
  obtain ⟨fs, hr, hrun, hended, hW, hsame⟩ := X2.leave (v := none) (fun _ => rfl)
  refine ⟨_, _, pre3 _ ?_, hrun, hended, _, _, rfl, ?_, ⟨_, rfl⟩, hW, hsame.mono (by decide) (by decide)⟩
  · show Steps p.tables e below (T2.setTop (mkF m 9 #[.val (.ref a1), .val (.int p1)] [])) _
    exact X2.returnOut hx Bd.returns (hb hby d_jdk_33_method_23_9) hr
  · exact ⟨rfl, N2, by rw [show (T2.setFrames fs).heap = _ from e2]; exact ⟨K2, x2_E_a1⟩⟩
theorem own_idx {p : Int32} (h1 : ¬ p < (-128 : Int32)) (h2 : ¬ (127 : Int32) < p) : ¬ (p + (128 : Int32)) < 0 ∧ (p + (128 : Int32)) < (256 : Int32) := by
  have a := c_iadd p 128
  have r := rng32 (p + 128)
  have e1 : (-128 : Int32).toInt = -128 := by decide
  have e2 : (127 : Int32).toInt = 127 := by decide
  have e3 : (128 : Int32).toInt = 128 := by decide
  have e4 : (256 : Int32).toInt = 256 := by decide
  have e5 : (0 : Int32).toInt = 0 := by decide
  simp only [Int32.lt_iff_toInt_lt] at *
  omega
def own_Q_valueOf (Z : State) (p0 : Int32) (w_ROWS w_RESULT w_PARTIAL_GROUPS w_MERGED_GROUPS w_D w_EL w_EE w_C w_EM w_M : Addr)  (h0 : Heap) (n0 : Nat) (v : Option Value) (h : Heap) (L : List Loc) : Prop := ∃ r : Addr, v = some (.ref r) ∧ Fr n0 L ∧ Keep h0 h [] ∧ Exa Z h r "java/lang/Integer"
theorem d_jdk_33_method_22_0 : decode jdk_33_method_22_code 0 = .ok (.iload_n 0, 1) := by decide +kernel
theorem d_jdk_33_method_22_1 : decode jdk_33_method_22_code 1 = .ok (.bipush (-128), 2) := by decide +kernel
theorem d_jdk_33_method_22_3 : decode jdk_33_method_22_code 3 = .ok (.if_icmp .lt 20, 3) := by decide +kernel
theorem d_jdk_33_method_22_23 : decode jdk_33_method_22_code 23 = .ok (.new 1, 3) := by decide +kernel
theorem d_jdk_33_method_22_26 : decode jdk_33_method_22_code 26 = .ok (.dup, 1) := by decide +kernel
theorem d_jdk_33_method_22_27 : decode jdk_33_method_22_code 27 = .ok (.iload_n 0, 1) := by decide +kernel
theorem d_jdk_33_method_22_28 : decode jdk_33_method_22_code 28 = .ok (.invokespecial 199, 3) := by decide +kernel
theorem pd_4 : parseMethodDescriptor "(I)V" = some ⟨[.int], none⟩ := by decide +kernel
theorem d_jdk_33_method_22_31 : decode jdk_33_method_22_code 31 = .ok (.areturn, 1) := by decide +kernel
theorem d_jdk_33_method_22_6 : decode jdk_33_method_22_code 6 = .ok (.iload_n 0, 1) := by decide +kernel
theorem d_jdk_33_method_22_7 : decode jdk_33_method_22_code 7 = .ok (.getstatic 191, 3) := by decide +kernel
theorem d_jdk_33_method_22_10 : decode jdk_33_method_22_code 10 = .ok (.if_icmp .gt 13, 3) := by decide +kernel
theorem d_jdk_33_method_22_13 : decode jdk_33_method_22_code 13 = .ok (.getstatic 195, 3) := by decide +kernel
theorem d_jdk_33_method_22_16 : decode jdk_33_method_22_code 16 = .ok (.iload_n 0, 1) := by decide +kernel
theorem d_jdk_33_method_22_17 : decode jdk_33_method_22_code 17 = .ok (.sipush 128, 3) := by decide +kernel
theorem d_jdk_33_method_22_20 : decode jdk_33_method_22_code 20 = .ok (.iadd, 1) := by decide +kernel
theorem d_jdk_33_method_22_21 : decode jdk_33_method_22_code 21 = .ok (.aaload, 1) := by decide +kernel
theorem d_jdk_33_method_22_22 : decode jdk_33_method_22_code 22 = .ok (.areturn, 1) := by decide +kernel
theorem ef_valueOf (m : MethodId) (x0 : Int32) : entryFrame m #[(.int x0)] 1 = mkF m 0 #[.val (.int x0)] [] := by first | (simp [entryFrame, mkF, argsToLocals, Value.category]; done) | rfl
set_option maxRecDepth 65536 in
set_option maxHeartbeats 40000000 in
theorem rm_valueOf (l : Launch) (Z : State) (a0 : Array Value) (hw : ∀ d ∈ tables_1, d.before a0 Z = true) (ws : List Jvm.Cond) (p0 : Int32) (h0 : Heap) (n0 : Nat) (w_ROWS w_RESULT w_PARTIAL_GROUPS w_MERGED_GROUPS w_D w_EL w_EE w_C w_EM w_M : Addr) (hK : own_K Z Z.heap w_ROWS w_RESULT w_PARTIAL_GROUPS w_MERGED_GROUPS w_D w_EL w_EE w_C w_EM w_M) (hn0 : n0 = Z.heap.size) (EX0 : Ext Z.heap h0) :
    MetFree l (⟨"java/lang/Integer", "valueOf", "(I)Ljava/lang/Integer;"⟩ : MethodName) (head1 (Jvm.Cond.code (⟨"java/lang/Integer", "valueOf", "(I)Ljava/lang/Integer;"⟩ : MethodName) jdk_33_method_22_code 1 (some (.object "java/lang/Integer")) :: ws) ({ frames := 3, cells := 1, slots := 1, locals := 38 } : Room)) (fun a U => a = #[(.int p0)] ∧ Z.Warmed39 U.vm ∧ U.heap = h0) (fun _ _ _ _ _ => True) (fun _ U o U' => ∃ v L, o = .returned v ∧ own_Q_valueOf Z p0 w_ROWS w_RESULT w_PARTIAL_GROUPS w_MERGED_GROUPS w_D w_EL w_EE w_C w_EM w_M h0 n0 v U'.heap L ∧ FrameEnd U o U' L ({ frames := 3, cells := 1, slots := 1, locals := 38 } : Room).cells ({ frames := 3, cells := 1, slots := 1, locals := 38 } : Room).slots) := by
  refine MetFree.of_bodySF (plainFor_of_name pn_12) hisR ?_
  intro p e s m args below meth c s₁ Bd hml0 hP hK0
  obtain ⟨rfl, hZ, hh⟩ := hP
  have hx := Bd.exec
  have hby := Bd.bytes
  have hml : c.maxLocals = 1 := hml0
  have hown : s.vm.findClass "java/lang/Integer" = some m.cls := findClass_of_methodNamed Bd.named
  have hnm := (name_of_methodNamed Bd.named Bd.method).1
  have X0 : Stand p l e ({ frames := 3, cells := 1, slots := 1, locals := 38 } : Room) s m #[(.int p0)] below meth c s₁ [] 0 0 := Stand.of_body Bd
  have e0 : s₁.heap = h0 := by rw [← hh, Bd.state]; rfl
  have N0 := Fr.nil n0
  have pre0 : ∀ t, Steps p.tables e below (s₁.setTop (mkF m 0 #[.val (.int p0)] [])) t → Steps p.tables e below (s₁.setTop (entryFrame m #[(.int p0)] 1)) t := fun t k => castTop (ef_valueOf m p0) k
  have hK' := hK
  obtain ⟨S_w_ROWS, E_w_ROWS, F_ordinal_w_ROWS, S_w_RESULT, E_w_RESULT, F_ordinal_w_RESULT, S_w_PARTIAL_GROUPS, E_w_PARTIAL_GROUPS, F_ordinal_w_PARTIAL_GROUPS, S_w_MERGED_GROUPS, E_w_MERGED_GROUPS, F_ordinal_w_MERGED_GROUPS, S_w_D, B_w_D, S_w_EL, E_w_EL, F_elements_w_EL, B_w_EE, F_allowNulls_w_EL, S_high, S_w_C, C_w_C, S_w_EM, M_w_M⟩ := hK'
  obtain ⟨cl_w_D, A_w_D, q_w_D⟩ := B_w_D
  obtain ⟨cl_w_EE, A_w_EE, q_w_EE⟩ := B_w_EE
  have pre2 : ∀ t, Steps p.tables e below (s₁.setTop (mkF m 3 #[.val (.int p0)] [(.int (-128 : Int32)), (.int p0)])) t → Steps p.tables e below (s₁.setTop (entryFrame m #[(.int p0)] 1)) t := fun t k => pre0 t (by
    show Steps p.tables e below (s₁.setTop (mkF m 0 #[.val (.int p0)] [])) _
    refine XS.iloadN X0.here hx rfl (hb hby d_jdk_33_method_22_0) rfl ?_
    show Steps p.tables e below (s₁.setTop (mkF m 1 #[.val (.int p0)] [(.int p0)])) _
    refine XS.bipush X0.here hx rfl (hb hby d_jdk_33_method_22_1) ?_
    exact k)
  by_cases hc3_1 : p0 < (-128 : Int32)
  · obtain ⟨T3, h3, X3, e3, Eq3, A3, D3, -, st3⟩ := newO X0 hx hZ hown (hw _ (ow 241 rfl)) (hw _ (ow 242 rfl)) (hw _ (ow 76 rfl)) e0 (g := (mkF m 23 #[.val (.int p0)] [])) rfl (hb hby d_jdk_33_method_22_23) (by decide) (by decide)
    obtain ⟨b3, gb3⟩ : ∃ z, z = h0.size := ⟨_, rfl⟩
    rw [← gb3] at A3 D3 st3
    have sz_b3 : h0.size ≤ b3 := Nat.le_trans (Keep.refl h0 []).1 (Nat.le_of_eq gb3.symm)
    have g_b3 : n0 ≤ b3 := hn0 ▸ Nat.le_trans EX0.1 (Nat.le_of_eq gb3.symm)
    have EX3 := own_ext_trans EX0 Eq3
    have K3 := Keep.ext (Keep.refl h0 []) Eq3
    have F3_value : Fld Z h3 b3 "java/lang/Integer" "value" "I" (.int (0 : Int32)) := D3 (Or.inr (hw _ (ow 255 rfl))) (ty := .int) (by decide)
    obtain ⟨v4, _, ⟨T4, L4, k4, n4⟩, -, X4, ⟨Lc4, hQ4, l4, y4, z4⟩, st4⟩ := X3.specialBack hx (y := (⟨"java/lang/Integer", "<init>", "(I)V"⟩ : MethodName)) rfl hown (mvT hZ (hw _ (ow 243 rfl))) (mvT hZ (hw _ (ow 244 rfl))) (mvT hZ (hw _ (ow 246 rfl))) (by decide) (backOf (W := 1) (rm_intinit l Z a0 hw [] b3 p0 h3 n0 hn0 EX3 A3 g_b3 F3_value) hZ (hw _ (ow 246 rfl)) (hw _ (ow 76 rfl)) (by decide) (by decide)) (g := (mkF m 28 #[.val (.int p0)] [(.int p0), (.ref b3), (.ref b3)])) rfl (by rw [hml]; rfl) (Steps.refl _) (a := b3) (argsL := [(.int p0)]) (rest := [(.ref b3)]) (lenOf pd_4 rfl) rfl (Nat.le_of_eq rfl) (hb hby d_jdk_33_method_22_28) (fun _ _ => ⟨rfl, e3, (by decide : 1 + 0 ≤ _), (by decide : 1 + 0 ≤ _)⟩)
    dsimp only [Pt.U, Pt.locs, Pt.cells, Pt.slots] at X4 l4 y4 z4 st4 hQ4
    subst y4 z4
    obtain ⟨hv4, Nq4, Kq4, q4_0⟩ := hQ4
    obtain rfl : v4 = none := hv4
    have N4 : Fr n0 L4 := by rw [l4]; exact Fr.app N0 Nq4
    have x4_E_b3 := A3.keep Kq4
    have EX4 := own_ext_keepL EX3 Kq4 (allS (hn0 ▸ g_b3) all0)
    have K4 := Keep.trans K3 Kq4 (allS (Or.inr sz_b3) all0)
    have pre5 : ∀ t, Steps p.tables e below (T4.setTop (mkF m 31 #[.val (.int p0)] [(.ref b3)])) t → Steps p.tables e below (s₁.setTop (entryFrame m #[(.int p0)] 1)) t := fun t k => pre2 t (by
      show Steps p.tables e below (s₁.setTop (mkF m 3 #[.val (.int p0)] [(.int (-128 : Int32)), (.int p0)])) _
      refine XS.icmpYes X0.here hx rfl (pc0 := 3) (pc' := 23) rfl (hb hby d_jdk_33_method_22_3) rfl (tlt hc3_1).1 (by decide) (by decide) ?_
      show Steps p.tables e below (s₁.setTop (mkF m 23 #[.val (.int p0)] [])) _
      refine st3 _ ?_
      show Steps p.tables e below (T3.setTop (mkF m 26 #[.val (.int p0)] [(.ref b3)])) _
      refine XS.dup X3.here hx rfl (hb hby d_jdk_33_method_22_26) rfl rfl ?_
      show Steps p.tables e below (T3.setTop (mkF m 27 #[.val (.int p0)] [(.ref b3), (.ref b3)])) _
      refine XS.iloadN X3.here hx rfl (hb hby d_jdk_33_method_22_27) rfl ?_
      show Steps p.tables e below (T3.setTop (mkF m 28 #[.val (.int p0)] [(.int p0), (.ref b3), (.ref b3)])) _
      refine st4.trans ?_
      exact k)
    obtain ⟨fs, hr, hrun, hended, hW, hsame⟩ := X4.leave (v := some (.ref b3)) (fun h => by rw [Bd.returns] at h; cases h)
    refine ⟨_, _, pre5 _ ?_, hrun, hended, _, _, rfl, ?_, ⟨_, rfl⟩, hW, hsame.mono (by decide) (by decide)⟩
    · show Steps p.tables e below (T4.setTop (mkF m 31 #[.val (.int p0)] [(.ref b3)])) _
      exact retOut X4 hx Bd.returns rfl (Or.inr (Or.inr (Or.inr (Or.inr ⟨rfl, rfl, rfl⟩)))) (hb hby d_jdk_33_method_22_31) hr
    · exact ⟨b3, rfl, N4, by rw [show (T4.setFrames fs).heap = _ from (rfl : T4.heap = T4.heap)]; exact ⟨K4, q4_0⟩⟩
  · obtain ⟨T6, X6, e6, st6⟩ := getS2 X0 hx hZ hown (host := "") (Or.inl (hw _ (ow 78 rfl))) Via.refl e0 (S_high.ext EX0) (g := (mkF m 7 #[.val (.int p0)] [(.int p0)])) rfl (hb hby d_jdk_33_method_22_7)
    have pre8 : ∀ t, Steps p.tables e below (T6.setTop (mkF m 10 #[.val (.int p0)] [(.int (127 : Int32)), (.int p0)])) t → Steps p.tables e below (s₁.setTop (entryFrame m #[(.int p0)] 1)) t := fun t k => pre2 t (by
      show Steps p.tables e below (s₁.setTop (mkF m 3 #[.val (.int p0)] [(.int (-128 : Int32)), (.int p0)])) _
      refine XS.icmpNo X0.here hx rfl (hb hby d_jdk_33_method_22_3) rfl (flt hc3_1).1 ?_
      show Steps p.tables e below (s₁.setTop (mkF m 6 #[.val (.int p0)] [])) _
      refine XS.iloadN X0.here hx rfl (hb hby d_jdk_33_method_22_6) rfl ?_
      show Steps p.tables e below (s₁.setTop (mkF m 7 #[.val (.int p0)] [(.int p0)])) _
      refine st6 _ ?_
      exact k)
    by_cases hc10_7 : (127 : Int32) < p0
    · obtain ⟨T9, h9, X9, e9, Eq9, A9, D9, -, st9⟩ := newO X6 hx hZ hown (hw _ (ow 241 rfl)) (hw _ (ow 242 rfl)) (hw _ (ow 76 rfl)) e6 (g := (mkF m 23 #[.val (.int p0)] [])) rfl (hb hby d_jdk_33_method_22_23) (by decide) (by decide)
      obtain ⟨b9, gb9⟩ : ∃ z, z = h0.size := ⟨_, rfl⟩
      rw [← gb9] at A9 D9 st9
      have sz_b9 : h0.size ≤ b9 := Nat.le_trans (Keep.refl h0 []).1 (Nat.le_of_eq gb9.symm)
      have g_b9 : n0 ≤ b9 := hn0 ▸ Nat.le_trans EX0.1 (Nat.le_of_eq gb9.symm)
      have EX9 := own_ext_trans EX0 Eq9
      have K9 := Keep.ext (Keep.refl h0 []) Eq9
      have F9_value : Fld Z h9 b9 "java/lang/Integer" "value" "I" (.int (0 : Int32)) := D9 (Or.inr (hw _ (ow 255 rfl))) (ty := .int) (by decide)
      obtain ⟨v10, _, ⟨T10, L10, k10, n10⟩, -, X10, ⟨Lc10, hQ10, l10, y10, z10⟩, st10⟩ := X9.specialBack hx (y := (⟨"java/lang/Integer", "<init>", "(I)V"⟩ : MethodName)) rfl hown (mvT hZ (hw _ (ow 243 rfl))) (mvT hZ (hw _ (ow 244 rfl))) (mvT hZ (hw _ (ow 246 rfl))) (by decide) (backOf (W := 1) (rm_intinit l Z a0 hw [] b9 p0 h9 n0 hn0 EX9 A9 g_b9 F9_value) hZ (hw _ (ow 246 rfl)) (hw _ (ow 76 rfl)) (by decide) (by decide)) (g := (mkF m 28 #[.val (.int p0)] [(.int p0), (.ref b9), (.ref b9)])) rfl (by rw [hml]; rfl) (Steps.refl _) (a := b9) (argsL := [(.int p0)]) (rest := [(.ref b9)]) (lenOf pd_4 rfl) rfl (Nat.le_of_eq rfl) (hb hby d_jdk_33_method_22_28) (fun _ _ => ⟨rfl, e9, (by decide : 1 + 0 ≤ _), (by decide : 1 + 0 ≤ _)⟩)
      dsimp only [Pt.U, Pt.locs, Pt.cells, Pt.slots] at X10 l10 y10 z10 st10 hQ10
      subst y10 z10
      obtain ⟨hv10, Nq10, Kq10, q10_0⟩ := hQ10
      obtain rfl : v10 = none := hv10
      have N10 : Fr n0 L10 := by rw [l10]; exact Fr.app N0 Nq10
      have x10_E_b9 := A9.keep Kq10
      have EX10 := own_ext_keepL EX9 Kq10 (allS (hn0 ▸ g_b9) all0)
      have K10 := Keep.trans K9 Kq10 (allS (Or.inr sz_b9) all0)
      have pre11 : ∀ t, Steps p.tables e below (T10.setTop (mkF m 31 #[.val (.int p0)] [(.ref b9)])) t → Steps p.tables e below (s₁.setTop (entryFrame m #[(.int p0)] 1)) t := fun t k => pre8 t (by
        show Steps p.tables e below (T6.setTop (mkF m 10 #[.val (.int p0)] [(.int (127 : Int32)), (.int p0)])) _
        refine XS.icmpYes X6.here hx rfl (pc0 := 10) (pc' := 23) rfl (hb hby d_jdk_33_method_22_10) rfl (tlt hc10_7).2.2.1 (by decide) (by decide) ?_
        show Steps p.tables e below (T6.setTop (mkF m 23 #[.val (.int p0)] [])) _
        refine st9 _ ?_
        show Steps p.tables e below (T9.setTop (mkF m 26 #[.val (.int p0)] [(.ref b9)])) _
        refine XS.dup X9.here hx rfl (hb hby d_jdk_33_method_22_26) rfl rfl ?_
        show Steps p.tables e below (T9.setTop (mkF m 27 #[.val (.int p0)] [(.ref b9), (.ref b9)])) _
        refine XS.iloadN X9.here hx rfl (hb hby d_jdk_33_method_22_27) rfl ?_
        show Steps p.tables e below (T9.setTop (mkF m 28 #[.val (.int p0)] [(.int p0), (.ref b9), (.ref b9)])) _
        refine st10.trans ?_
        exact k)
      obtain ⟨fs, hr, hrun, hended, hW, hsame⟩ := X10.leave (v := some (.ref b9)) (fun h => by rw [Bd.returns] at h; cases h)
      refine ⟨_, _, pre11 _ ?_, hrun, hended, _, _, rfl, ?_, ⟨_, rfl⟩, hW, hsame.mono (by decide) (by decide)⟩
      · show Steps p.tables e below (T10.setTop (mkF m 31 #[.val (.int p0)] [(.ref b9)])) _
        exact retOut X10 hx Bd.returns rfl (Or.inr (Or.inr (Or.inr (Or.inr ⟨rfl, rfl, rfl⟩)))) (hb hby d_jdk_33_method_22_31) hr
      · exact ⟨b9, rfl, N10, by rw [show (T10.setFrames fs).heap = _ from (rfl : T10.heap = T10.heap)]; exact ⟨K10, q10_0⟩⟩
    · obtain ⟨T12, X12, e12, st12⟩ := getS2 X6 hx hZ hown (host := "") (Or.inl (hw _ (ow 80 rfl))) Via.refl e6 (S_w_C.ext EX0) (g := (mkF m 13 #[.val (.int p0)] [])) rfl (hb hby d_jdk_33_method_22_13)
      obtain ⟨cl13, Ar13, G13⟩ := C_w_C.ext EX0
      have hj13 := own_idx hc3_1 hc10_7
      obtain ⟨r13, hi13, ha13, Er13⟩ := G13 _ hj13.1 hj13.2
      have pre14 : ∀ t, Steps p.tables e below (T12.setTop (mkF m 22 #[.val (.int p0)] [(.ref r13)])) t → Steps p.tables e below (s₁.setTop (entryFrame m #[(.int p0)] 1)) t := fun t k => pre8 t (by
        show Steps p.tables e below (T6.setTop (mkF m 10 #[.val (.int p0)] [(.int (127 : Int32)), (.int p0)])) _
        refine XS.icmpNo X6.here hx rfl (hb hby d_jdk_33_method_22_10) rfl (flt hc10_7).2.2.1 ?_
        show Steps p.tables e below (T6.setTop (mkF m 13 #[.val (.int p0)] [])) _
        refine st12 _ ?_
        show Steps p.tables e below (T12.setTop (mkF m 16 #[.val (.int p0)] [(.ref w_C)])) _
        refine XS.iloadN X12.here hx rfl (hb hby d_jdk_33_method_22_16) rfl ?_
        show Steps p.tables e below (T12.setTop (mkF m 17 #[.val (.int p0)] [(.int p0), (.ref w_C)])) _
        refine XS.sipush X12.here hx rfl (hb hby d_jdk_33_method_22_17) ?_
        show Steps p.tables e below (T12.setTop (mkF m 20 #[.val (.int p0)] [(.int (128 : Int32)), (.int p0), (.ref w_C)])) _
        refine XS.iadd X12.here hx rfl (hb hby d_jdk_33_method_22_20) rfl ?_
        show Steps p.tables e below (T12.setTop (mkF m 21 #[.val (.int p0)] [(.int (p0 + (128 : Int32))), (.ref w_C)])) _
        refine X12.aaload hx (j := (p0 + (128 : Int32))) (v := .ref r13) (by rw [e12]; exact Ar13.1) (State.isArrayOf_alike hZ.alike Ar13.2.1) rfl Ar13.2.2 hi13 ha13 (g := (mkF m 21 #[.val (.int p0)] [(.int (p0 + (128 : Int32))), (.ref w_C)])) rfl rfl (hb hby d_jdk_33_method_22_21) _ ?_
        exact k)
      obtain ⟨fs, hr, hrun, hended, hW, hsame⟩ := X12.leave (v := some (.ref r13)) (fun h => by rw [Bd.returns] at h; cases h)
      refine ⟨_, _, pre14 _ ?_, hrun, hended, _, _, rfl, ?_, ⟨_, rfl⟩, hW, hsame.mono (by decide) (by decide)⟩
      · show Steps p.tables e below (T12.setTop (mkF m 22 #[.val (.int p0)] [(.ref r13)])) _
        exact retOut X12 hx Bd.returns rfl (Or.inr (Or.inr (Or.inr (Or.inr ⟨rfl, rfl, rfl⟩)))) (hb hby d_jdk_33_method_22_22) hr
      · exact ⟨r13, rfl, N0, by rw [show (T12.setFrames fs).heap = _ from e12]; exact ⟨(Keep.refl h0 []), Er13⟩⟩
theorem d_jdk_29_method_65_0 : decode jdk_29_method_65_code 0 = .ok (.iload_n 0, 1) := by decide +kernel
theorem d_jdk_29_method_65_1 : decode jdk_29_method_65_code 1 = .ok (.iload_n 1, 1) := by decide +kernel
theorem d_jdk_29_method_65_2 : decode jdk_29_method_65_code 2 = .ok (.if_icmp .lt 7, 3) := by decide +kernel
theorem d_jdk_29_method_65_9 : decode jdk_29_method_65_code 9 = .ok (.iload_n 1, 1) := by decide +kernel
theorem d_jdk_29_method_65_10 : decode jdk_29_method_65_code 10 = .ok (.ireturn, 1) := by decide +kernel
theorem d_jdk_29_method_65_5 : decode jdk_29_method_65_code 5 = .ok (.iload_n 0, 1) := by decide +kernel
theorem d_jdk_29_method_65_6 : decode jdk_29_method_65_code 6 = .ok (.goto 4, 3) := by decide +kernel
theorem ef_max (m : MethodId) (x0 : Int32) (x1 : Int32) : entryFrame m #[(.int x0), (.int x1)] 2 = mkF m 0 #[.val (.int x0), .val (.int x1)] [] := by first | (simp [entryFrame, mkF, argsToLocals, Value.category]; done) | rfl
set_option maxRecDepth 65536 in
set_option maxHeartbeats 40000000 in
theorem rm_max (l : Launch) (Z : State) (a0 : Array Value) (hw : ∀ d ∈ tables_1, d.before a0 Z = true) (ws : List Jvm.Cond) (p0 : Int32) (p1 : Int32) (h0 : Heap) (n0 : Nat) :
    MetFree l (⟨"java/lang/Math", "max", "(II)I"⟩ : MethodName) (head1 (Jvm.Cond.code (⟨"java/lang/Math", "max", "(II)I"⟩ : MethodName) jdk_29_method_65_code 2 (some .int) :: ws) ({ frames := 0, cells := 0, slots := 0, locals := 0 } : Room)) (fun a U => a = #[(.int p0), (.int p1)] ∧ Z.Warmed39 U.vm ∧ U.heap = h0) (fun _ _ _ _ _ => True) (fun _ U o U' => ∃ v L, o = .returned v ∧ own_Q (some (.int (if p0 < p1 then p1 else p0))) h0 n0 v U'.heap L ∧ FrameEnd U o U' L ({ frames := 0, cells := 0, slots := 0, locals := 0 } : Room).cells ({ frames := 0, cells := 0, slots := 0, locals := 0 } : Room).slots) := by
  refine MetFree.of_bodySF (Jvm.Free.JP.mathPlain rfl (by decide +kernel)) hisR ?_
  intro p e s m args below meth c s₁ Bd hml0 hP hK0
  obtain ⟨rfl, hZ, hh⟩ := hP
  have hx := Bd.exec
  have hby := Bd.bytes
  have hml : c.maxLocals = 2 := hml0
  have hown : s.vm.findClass "java/lang/Math" = some m.cls := findClass_of_methodNamed Bd.named
  have hnm := (name_of_methodNamed Bd.named Bd.method).1
  have X0 : Stand p l e ({ frames := 0, cells := 0, slots := 0, locals := 0 } : Room) s m #[(.int p0), (.int p1)] below meth c s₁ [] 0 0 := Stand.of_body Bd
  have e0 : s₁.heap = h0 := by rw [← hh, Bd.state]; rfl
  have N0 := Fr.nil n0
  have pre0 : ∀ t, Steps p.tables e below (s₁.setTop (mkF m 0 #[.val (.int p0), .val (.int p1)] [])) t → Steps p.tables e below (s₁.setTop (entryFrame m #[(.int p0), (.int p1)] 2)) t := fun t k => castTop (ef_max m p0 p1) k
  have pre2 : ∀ t, Steps p.tables e below (s₁.setTop (mkF m 2 #[.val (.int p0), .val (.int p1)] [(.int p1), (.int p0)])) t → Steps p.tables e below (s₁.setTop (entryFrame m #[(.int p0), (.int p1)] 2)) t := fun t k => pre0 t (by
    show Steps p.tables e below (s₁.setTop (mkF m 0 #[.val (.int p0), .val (.int p1)] [])) _
    refine XS.iloadN X0.here hx rfl (hb hby d_jdk_29_method_65_0) rfl ?_
    show Steps p.tables e below (s₁.setTop (mkF m 1 #[.val (.int p0), .val (.int p1)] [(.int p0)])) _
    refine XS.iloadN X0.here hx rfl (hb hby d_jdk_29_method_65_1) rfl ?_
    exact k)
  by_cases hc2_1 : p0 < p1
  · have pre3 : ∀ t, Steps p.tables e below (s₁.setTop (mkF m 10 #[.val (.int p0), .val (.int p1)] [(.int p1)])) t → Steps p.tables e below (s₁.setTop (entryFrame m #[(.int p0), (.int p1)] 2)) t := fun t k => pre2 t (by
      show Steps p.tables e below (s₁.setTop (mkF m 2 #[.val (.int p0), .val (.int p1)] [(.int p1), (.int p0)])) _
      refine XS.icmpYes X0.here hx rfl (pc0 := 2) (pc' := 9) rfl (hb hby d_jdk_29_method_65_2) rfl (tlt hc2_1).1 (by decide) (by decide) ?_
      show Steps p.tables e below (s₁.setTop (mkF m 9 #[.val (.int p0), .val (.int p1)] [])) _
      refine XS.iloadN X0.here hx rfl (hb hby d_jdk_29_method_65_9) rfl ?_
      exact k)
    obtain ⟨fs, hr, hrun, hended, hW, hsame⟩ := X0.leave (v := some (.int p1)) (fun h => by rw [Bd.returns] at h; cases h)
    refine ⟨_, _, pre3 _ ?_, hrun, hended, _, _, rfl, ?_, ⟨_, rfl⟩, hW, hsame.mono (by decide) (by decide)⟩
    · show Steps p.tables e below (s₁.setTop (mkF m 10 #[.val (.int p0), .val (.int p1)] [(.int p1)])) _
      exact retI X0 hx Bd.returns (hb hby d_jdk_29_method_65_10) hr
    · exact ⟨congrArg (fun z => some (Value.int z)) (Eq.symm (if_pos hc2_1)), N0, e0⟩
  · have pre4 : ∀ t, Steps p.tables e below (s₁.setTop (mkF m 10 #[.val (.int p0), .val (.int p1)] [(.int p0)])) t → Steps p.tables e below (s₁.setTop (entryFrame m #[(.int p0), (.int p1)] 2)) t := fun t k => pre2 t (by
      show Steps p.tables e below (s₁.setTop (mkF m 2 #[.val (.int p0), .val (.int p1)] [(.int p1), (.int p0)])) _
      refine XS.icmpNo X0.here hx rfl (hb hby d_jdk_29_method_65_2) rfl (flt hc2_1).1 ?_
      show Steps p.tables e below (s₁.setTop (mkF m 5 #[.val (.int p0), .val (.int p1)] [])) _
      refine XS.iloadN X0.here hx rfl (hb hby d_jdk_29_method_65_5) rfl ?_
      show Steps p.tables e below (s₁.setTop (mkF m 6 #[.val (.int p0), .val (.int p1)] [(.int p0)])) _
      refine XS.goto X0.here hx rfl (pc0 := 6) (pc' := 10) rfl (hb hby d_jdk_29_method_65_6) (by decide) (by decide) ?_
      exact k)
    obtain ⟨fs, hr, hrun, hended, hW, hsame⟩ := X0.leave (v := some (.int p0)) (fun h => by rw [Bd.returns] at h; cases h)
    refine ⟨_, _, pre4 _ ?_, hrun, hended, _, _, rfl, ?_, ⟨_, rfl⟩, hW, hsame.mono (by decide) (by decide)⟩
    · show Steps p.tables e below (s₁.setTop (mkF m 10 #[.val (.int p0), .val (.int p1)] [(.int p0)])) _
      exact retI X0 hx Bd.returns (hb hby d_jdk_29_method_65_10) hr
    · exact ⟨congrArg (fun z => some (Value.int z)) (Eq.symm (if_neg hc2_1)), N0, e0⟩
def own_Q_growI (Z : State) (a1 : Addr) (w_ROWS w_RESULT w_PARTIAL_GROUPS w_MERGED_GROUPS w_D w_EL w_EE w_C w_EM w_M : Addr)  (h0 : Heap) (n0 : Nat) (v : Option Value) (h : Heap) (L : List Loc) : Prop := ∃ r : Addr, v = some (.ref r) ∧ h0.size ≤ r ∧ Fr n0 L ∧ Keep h0 h [a1] ∧ Exa Z h a1 "java/util/ArrayList" ∧ Fld Z h a1 "java/util/AbstractList" "modCount" "I" (.int (1 : Int32)) ∧ Fld Z h a1 "java/util/ArrayList" "elementData" "[Ljava/lang/Object;" (.ref r) ∧ Fld Z h a1 "java/util/ArrayList" "size" "I" (.int (0 : Int32)) ∧ (∃ k, own_ArrK Z h r k (.object "java/lang/Object") [.null, .null, .null, .null, .null, .null, .null, .null, .null, .null] ∧ Exa Z h r "[Ljava/lang/Object;" ∧ Ovr Z k "java/lang/Object")
theorem d_jdk_38_method_6_0 : decode jdk_38_method_6_code 0 = .ok (.aload_n 0, 1) := by decide +kernel
theorem d_jdk_38_method_6_1 : decode jdk_38_method_6_code 1 = .ok (.getfield 9, 3) := by decide +kernel
theorem d_jdk_38_method_6_4 : decode jdk_38_method_6_code 4 = .ok (.arraylength, 1) := by decide +kernel
theorem d_jdk_38_method_6_5 : decode jdk_38_method_6_code 5 = .ok (.istore_n 2, 1) := by decide +kernel
theorem d_jdk_38_method_6_6 : decode jdk_38_method_6_code 6 = .ok (.iload_n 2, 1) := by decide +kernel
theorem d_jdk_38_method_6_7 : decode jdk_38_method_6_code 7 = .ok (.ifCond .gt 13, 3) := by decide +kernel
theorem d_jdk_38_method_6_10 : decode jdk_38_method_6_code 10 = .ok (.aload_n 0, 1) := by decide +kernel
theorem d_jdk_38_method_6_11 : decode jdk_38_method_6_code 11 = .ok (.getfield 9, 3) := by decide +kernel
theorem d_jdk_38_method_6_14 : decode jdk_38_method_6_code 14 = .ok (.getstatic 39, 3) := by decide +kernel
theorem d_jdk_38_method_6_17 : decode jdk_38_method_6_code 17 = .ok (.if_acmp .eq 28, 3) := by decide +kernel
theorem d_jdk_38_method_6_45 : decode jdk_38_method_6_code 45 = .ok (.aload_n 0, 1) := by decide +kernel
theorem d_jdk_38_method_6_46 : decode jdk_38_method_6_code 46 = .ok (.bipush 10, 2) := by decide +kernel
theorem d_jdk_38_method_6_48 : decode jdk_38_method_6_code 48 = .ok (.iload_n 1, 1) := by decide +kernel
theorem d_jdk_38_method_6_49 : decode jdk_38_method_6_code 49 = .ok (.invokestatic 79, 3) := by decide +kernel
theorem pd_5 : parseMethodDescriptor "(II)I" = some ⟨[.int, .int], some .int⟩ := by decide +kernel
theorem d_jdk_38_method_6_52 : decode jdk_38_method_6_code 52 = .ok (.anewarray 7, 3) := by decide +kernel
theorem d_jdk_38_method_6_55 : decode jdk_38_method_6_code 55 = .ok (.dup_x1, 1) := by decide +kernel
theorem d_jdk_38_method_6_56 : decode jdk_38_method_6_code 56 = .ok (.putfield 9, 3) := by decide +kernel
theorem d_jdk_38_method_6_59 : decode jdk_38_method_6_code 59 = .ok (.areturn, 1) := by decide +kernel
theorem ef_growI (m : MethodId) (x0 : Addr) (x1 : Int32) : entryFrame m #[(.ref x0), (.int x1)] 4 = mkF m 0 #[.val (.ref x0), .val (.int x1), .unset, .unset] [] := by first | (simp [entryFrame, mkF, argsToLocals, Value.category]; done) | rfl
set_option maxRecDepth 65536 in
set_option maxHeartbeats 40000000 in
theorem rm_growI (l : Launch) (Z : State) (a0 : Array Value) (hw : ∀ d ∈ tables_1, d.before a0 Z = true) (ws : List Jvm.Cond) (a1 : Addr) (h0 : Heap) (n0 : Nat) (w_ROWS w_RESULT w_PARTIAL_GROUPS w_MERGED_GROUPS w_D w_EL w_EE w_C w_EM w_M : Addr) (hK : own_K Z Z.heap w_ROWS w_RESULT w_PARTIAL_GROUPS w_MERGED_GROUPS w_D w_EL w_EE w_C w_EM w_M) (hn0 : n0 = Z.heap.size) (EX0 : Ext Z.heap h0) (E_a1 : Exa Z h0 a1 "java/util/ArrayList") (g_a1 : n0 ≤ a1) (F_modCount_a1 : Fld Z h0 a1 "java/util/AbstractList" "modCount" "I" (.int (1 : Int32))) (F_elementData_a1 : Fld Z h0 a1 "java/util/ArrayList" "elementData" "[Ljava/lang/Object;" (.ref w_D)) (F_size_a1 : Fld Z h0 a1 "java/util/ArrayList" "size" "I" (.int (0 : Int32))) :
    MetFree l (⟨"java/util/ArrayList", "grow", "(I)[Ljava/lang/Object;"⟩ : MethodName) (head1 (Jvm.Cond.code (⟨"java/util/ArrayList", "grow", "(I)[Ljava/lang/Object;"⟩ : MethodName) jdk_38_method_6_code 4 (some (.array (.object "java/lang/Object"))) :: ws) ({ frames := 1, cells := 1, slots := 10, locals := 14 } : Room)) (fun a U => a = #[(.ref a1), (.int (1 : Int32))] ∧ Z.Warmed39 U.vm ∧ U.heap = h0) (fun _ _ _ _ _ => True) (fun _ U o U' => ∃ v L, o = .returned v ∧ own_Q_growI Z a1 w_ROWS w_RESULT w_PARTIAL_GROUPS w_MERGED_GROUPS w_D w_EL w_EE w_C w_EM w_M h0 n0 v U'.heap L ∧ FrameEnd U o U' L ({ frames := 1, cells := 1, slots := 10, locals := 14 } : Room).cells ({ frames := 1, cells := 1, slots := 10, locals := 14 } : Room).slots) := by
  refine MetFree.of_bodySF (plainFor_of_name pn_6) hisR ?_
  intro p e s m args below meth c s₁ Bd hml0 hP hK0
  obtain ⟨rfl, hZ, hh⟩ := hP
  have hx := Bd.exec
  have hby := Bd.bytes
  have hml : c.maxLocals = 4 := hml0
  have hown : s.vm.findClass "java/util/ArrayList" = some m.cls := findClass_of_methodNamed Bd.named
  have hnm := (name_of_methodNamed Bd.named Bd.method).1
  have X0 : Stand p l e ({ frames := 1, cells := 1, slots := 10, locals := 14 } : Room) s m #[(.ref a1), (.int (1 : Int32))] below meth c s₁ [] 0 0 := Stand.of_body Bd
  have e0 : s₁.heap = h0 := by rw [← hh, Bd.state]; rfl
  have N0 := Fr.nil n0
  have pre0 : ∀ t, Steps p.tables e below (s₁.setTop (mkF m 0 #[.val (.ref a1), .val (.int (1 : Int32)), .unset, .unset] [])) t → Steps p.tables e below (s₁.setTop (entryFrame m #[(.ref a1), (.int (1 : Int32))] 4)) t := fun t k => castTop (ef_growI m a1 ((1 : Int32))) k
  have hK' := hK
  obtain ⟨S_w_ROWS, E_w_ROWS, F_ordinal_w_ROWS, S_w_RESULT, E_w_RESULT, F_ordinal_w_RESULT, S_w_PARTIAL_GROUPS, E_w_PARTIAL_GROUPS, F_ordinal_w_PARTIAL_GROUPS, S_w_MERGED_GROUPS, E_w_MERGED_GROUPS, F_ordinal_w_MERGED_GROUPS, S_w_D, B_w_D, S_w_EL, E_w_EL, F_elements_w_EL, B_w_EE, F_allowNulls_w_EL, S_high, S_w_C, C_w_C, S_w_EM, M_w_M⟩ := hK'
  obtain ⟨cl_w_D, A_w_D, q_w_D⟩ := B_w_D
  obtain ⟨cl_w_EE, A_w_EE, q_w_EE⟩ := B_w_EE
  obtain ⟨T1, X1, e1, st1⟩ := getF X0 hx hZ hown (host := "") (Or.inl (hw _ (ow 24 rfl))) Via.refl e0 F_elementData_a1 (g := (mkF m 1 #[.val (.ref a1), .val (.int (1 : Int32)), .unset, .unset] [(.ref a1)])) rfl rfl (hb hby d_jdk_38_method_6_1)
  obtain ⟨T2, X2, e2, st2⟩ := getF X1 hx hZ hown (host := "") (Or.inl (hw _ (ow 24 rfl))) Via.refl e1 F_elementData_a1 (g := (mkF m 11 #[.val (.ref a1), .val (.int (1 : Int32)), .val (.int (0 : Int32)), .unset] [(.ref a1)])) rfl rfl (hb hby d_jdk_38_method_6_11)
  obtain ⟨T3, X3, e3, st3⟩ := getS2 X2 hx hZ hown (host := "") (Or.inl (hw _ (ow 23 rfl))) Via.refl e2 (S_w_D.ext EX0) (g := (mkF m 14 #[.val (.ref a1), .val (.int (1 : Int32)), .val (.int (0 : Int32)), .unset] [(.ref w_D)])) rfl (hb hby d_jdk_38_method_6_14)
  obtain ⟨v4, _, ⟨T4, L4, k4, n4⟩, -, X4, ⟨Lc4, hQ4, l4, y4, z4⟩, st4⟩ := Jvm.LawKit.callS X3 hx (y := (⟨"java/lang/Math", "max", "(II)I"⟩ : MethodName)) hown (mvT hZ (hw _ (ow 103 rfl))) (mvT hZ (hw _ (ow 104 rfl))) (mvT hZ (hw _ (ow 105 rfl))) (mvT hZ (hw _ (ow 106 rfl))) (by decide) (backOf (W := 1) (rm_max l Z a0 hw [] (10 : Int32) (1 : Int32) h0 n0) hZ (hw _ (ow 106 rfl)) (hw _ (ow 105 rfl)) (by decide) (by decide)) (g := (mkF m 49 #[.val (.ref a1), .val (.int (1 : Int32)), .val (.int (0 : Int32)), .unset] [(.int (1 : Int32)), (.int (10 : Int32)), (.ref a1)])) rfl (by rw [hml]; rfl) (argsL := [(.int (10 : Int32)), (.int (1 : Int32))]) (rest := [(.ref a1)]) (lenOf pd_5 rfl) rfl (Nat.le_of_eq rfl) (hb hby d_jdk_38_method_6_49) (fun _ _ => ⟨rfl, e3, (by decide : 0 + 0 ≤ _), (by decide : 0 + 0 ≤ _)⟩)
  dsimp only [Pt.U, Pt.locs, Pt.cells, Pt.slots] at X4 l4 y4 z4 st4 hQ4
  subst y4 z4
  obtain ⟨hv4, Nq4, e4⟩ := hQ4
  obtain rfl : v4 = some (.int (10 : Int32)) := hv4.trans (congrArg some (congrArg Value.int (if_neg (by decide))))
  have N4 : Fr n0 L4 := by rw [l4]; exact Fr.app N0 Nq4
  obtain ⟨T5, h5, k5, X5, e5, Eq5, A5, Ea5, O5, st5⟩ := newRE X4 hx hZ hown (hw _ (ow 107 rfl)) (hw _ (ow 108 rfl)) e4 (g := (mkF m 52 #[.val (.ref a1), .val (.int (1 : Int32)), .val (.int (0 : Int32)), .unset] [(.int (10 : Int32)), (.ref a1)])) rfl (hb hby d_jdk_38_method_6_52) rfl (by decide) (cap := 10) (by decide) (by decide) (by decide) (by decide) (ad := "[Ljava/lang/Object;") (by decide)
  obtain ⟨b5, gb5⟩ : ∃ z, z = h0.size := ⟨_, rfl⟩
  rw [← gb5] at A5 Ea5 st5
  have ne_a1_b5 : a1 ≠ b5 := Nat.ne_of_lt (Nat.lt_of_lt_of_le E_a1.lt (Nat.le_of_eq gb5.symm))
  have sz_b5 : h0.size ≤ b5 := Nat.le_trans (Keep.refl h0 [a1]).1 (Nat.le_of_eq gb5.symm)
  have g_b5 : n0 ≤ b5 := hn0 ▸ Nat.le_trans EX0.1 (Nat.le_of_eq gb5.symm)
  have x5_E_a1 := E_a1.ext Eq5
  have x5_F_a1_modCount := F_modCount_a1.ext Eq5
  have x5_F_a1_elementData := F_elementData_a1.ext Eq5
  have x5_F_a1_size := F_size_a1.ext Eq5
  have EX5 := own_ext_trans EX0 Eq5
  have K5 := Keep.ext (Keep.refl h0 [a1]) Eq5
  have B5 : own_ArrK Z h5 b5 k5 (.object "java/lang/Object") [.null, .null, .null, .null, .null, .null, .null, .null, .null, .null] := ⟨_, A5, rfl, rfl⟩
  obtain ⟨T6, h6, X6, e6, W6, st6⟩ := putF X5 hx hZ hown (host := "") (Or.inl (hw _ (ow 24 rfl))) Via.refl e5 x5_F_a1_elementData x5_E_a1 (Or.inl (hw _ (ow 25 rfl))) (hw _ (ow 1 rfl)) (ty := (.array (.object "java/lang/Object"))) (by decide) rfl rfl (g := (mkF m 56 #[.val (.ref a1), .val (.int (1 : Int32)), .val (.int (0 : Int32)), .unset] [(.ref b5), (.ref a1), (.ref b5)])) rfl rfl (hb hby d_jdk_38_method_6_56)
  have x6_E_a1 := x5_E_a1.wr W6
  have x6_F_a1_modCount := x5_F_a1_modCount.other W6 (Or.inr (slot_ne (Or.inl (hw _ (ow 22 rfl))) (Or.inl (hw _ (ow 25 rfl))) (by decide) (t := .int) (t' := (.array (.object "java/lang/Object"))) (by decide) (by decide)))
  have x6_F_a1_elementData := x5_F_a1_elementData.same W6
  have x6_F_a1_size := x5_F_a1_size.other W6 (Or.inr (slot_ne (Or.inl (hw _ (ow 62 rfl))) (Or.inl (hw _ (ow 25 rfl))) (by decide) (t := .int) (t' := (.array (.object "java/lang/Object"))) (by decide) (by decide)))
  have x6_E_b5 := Ea5.wr W6
  have x6_A_b5 := B5.other W6 (Ne.symm ne_a1_b5)
  have EX6 := own_ext_wr EX5 W6 (hn0 ▸ g_a1)
  have K6 := Keep.wr K5 W6 (Or.inl (List.mem_of_getElem? (i := 0) rfl))
  have N6 := Fr.snoc X6 N4 g_a1
  have pre7 : ∀ t, Steps p.tables e below (T6.setTop (mkF m 59 #[.val (.ref a1), .val (.int (1 : Int32)), .val (.int (0 : Int32)), .unset] [(.ref b5)])) t → Steps p.tables e below (s₁.setTop (entryFrame m #[(.ref a1), (.int (1 : Int32))] 4)) t := fun t k => pre0 t (by
    show Steps p.tables e below (s₁.setTop (mkF m 0 #[.val (.ref a1), .val (.int (1 : Int32)), .unset, .unset] [])) _
    refine XS.aloadN X0.here hx rfl (hb hby d_jdk_38_method_6_0) rfl rfl ?_
    show Steps p.tables e below (s₁.setTop (mkF m 1 #[.val (.ref a1), .val (.int (1 : Int32)), .unset, .unset] [(.ref a1)])) _
    refine st1 _ ?_
    show Steps p.tables e below (T1.setTop (mkF m 4 #[.val (.ref a1), .val (.int (1 : Int32)), .unset, .unset] [(.ref w_D)])) _
    refine X1.arraylength hx (by rw [e1]; exact (A_w_D.ext EX0).1) (State.isArrayOf_alike hZ.alike (A_w_D.ext EX0).2.1) (g := (mkF m 4 #[.val (.ref a1), .val (.int (1 : Int32)), .unset, .unset] [(.ref w_D)])) rfl rfl (hb hby d_jdk_38_method_6_4) _ ?_
    rw [q_w_D]
    show Steps p.tables e below (T1.setTop (mkF m 5 #[.val (.ref a1), .val (.int (1 : Int32)), .unset, .unset] [(.int (0 : Int32))])) _
    refine XS.istoreN X1.here hx rfl (hb hby d_jdk_38_method_6_5) rfl (l' := #[.val (.ref a1), .val (.int (1 : Int32)), .val (.int (0 : Int32)), .unset]) rfl ?_
    show Steps p.tables e below (T1.setTop (mkF m 6 #[.val (.ref a1), .val (.int (1 : Int32)), .val (.int (0 : Int32)), .unset] [])) _
    refine XS.iloadN X1.here hx rfl (hb hby d_jdk_38_method_6_6) rfl ?_
    show Steps p.tables e below (T1.setTop (mkF m 7 #[.val (.ref a1), .val (.int (1 : Int32)), .val (.int (0 : Int32)), .unset] [(.int (0 : Int32))])) _
    refine XS.ifNo X1.here hx rfl (hb hby d_jdk_38_method_6_7) rfl ((if0 _ _).trans (flt (by decide)).2.2.1) ?_
    show Steps p.tables e below (T1.setTop (mkF m 10 #[.val (.ref a1), .val (.int (1 : Int32)), .val (.int (0 : Int32)), .unset] [])) _
    refine XS.aloadN X1.here hx rfl (hb hby d_jdk_38_method_6_10) rfl rfl ?_
    show Steps p.tables e below (T1.setTop (mkF m 11 #[.val (.ref a1), .val (.int (1 : Int32)), .val (.int (0 : Int32)), .unset] [(.ref a1)])) _
    refine st2 _ ?_
    show Steps p.tables e below (T2.setTop (mkF m 14 #[.val (.ref a1), .val (.int (1 : Int32)), .val (.int (0 : Int32)), .unset] [(.ref w_D)])) _
    refine st3 _ ?_
    show Steps p.tables e below (T3.setTop (mkF m 17 #[.val (.ref a1), .val (.int (1 : Int32)), .val (.int (0 : Int32)), .unset] [(.ref w_D), (.ref w_D)])) _
    refine Jvm.RoadKit.acmp (g := (mkF m 17 #[.val (.ref a1), .val (.int (1 : Int32)), .val (.int (0 : Int32)), .unset] [(.ref w_D), (.ref w_D)])) X3 hx rfl rfl rfl (pc0 := 17) (pc' := 45) (same := true) rfl (hb hby d_jdk_38_method_6_17) rfl (decide_eq_true rfl) (by decide) (by decide) ?_
    show Steps p.tables e below (T3.setTop (mkF m 45 #[.val (.ref a1), .val (.int (1 : Int32)), .val (.int (0 : Int32)), .unset] [])) _
    refine XS.aloadN X3.here hx rfl (hb hby d_jdk_38_method_6_45) rfl rfl ?_
    show Steps p.tables e below (T3.setTop (mkF m 46 #[.val (.ref a1), .val (.int (1 : Int32)), .val (.int (0 : Int32)), .unset] [(.ref a1)])) _
    refine XS.bipush X3.here hx rfl (hb hby d_jdk_38_method_6_46) ?_
    show Steps p.tables e below (T3.setTop (mkF m 48 #[.val (.ref a1), .val (.int (1 : Int32)), .val (.int (0 : Int32)), .unset] [(.int (10 : Int32)), (.ref a1)])) _
    refine XS.iloadN X3.here hx rfl (hb hby d_jdk_38_method_6_48) rfl ?_
    show Steps p.tables e below (T3.setTop (mkF m 49 #[.val (.ref a1), .val (.int (1 : Int32)), .val (.int (0 : Int32)), .unset] [(.int (1 : Int32)), (.int (10 : Int32)), (.ref a1)])) _
    refine st4 _ ?_
    show Steps p.tables e below (T4.setTop (mkF m 52 #[.val (.ref a1), .val (.int (1 : Int32)), .val (.int (0 : Int32)), .unset] [(.int (10 : Int32)), (.ref a1)])) _
    refine st5 _ ?_
    show Steps p.tables e below (T5.setTop (mkF m 55 #[.val (.ref a1), .val (.int (1 : Int32)), .val (.int (0 : Int32)), .unset] [(.ref b5), (.ref a1)])) _
    refine XS.dupX1 X5.here hx rfl (hb hby d_jdk_38_method_6_55) rfl rfl rfl ?_
    show Steps p.tables e below (T5.setTop (mkF m 56 #[.val (.ref a1), .val (.int (1 : Int32)), .val (.int (0 : Int32)), .unset] [(.ref b5), (.ref a1), (.ref b5)])) _
    refine st6 _ ?_
    exact k)
  obtain ⟨fs, hr, hrun, hended, hW, hsame⟩ := X6.leave (v := some (.ref b5)) (fun h => by rw [Bd.returns] at h; cases h)
  refine ⟨_, _, pre7 _ ?_, hrun, hended, _, _, rfl, ?_, ⟨_, rfl⟩, hW, hsame.mono (by decide) (by decide)⟩
  · show Steps p.tables e below (T6.setTop (mkF m 59 #[.val (.ref a1), .val (.int (1 : Int32)), .val (.int (0 : Int32)), .unset] [(.ref b5)])) _
    exact retOut X6 hx Bd.returns rfl (Or.inr (Or.inr (Or.inr (Or.inr ⟨rfl, rfl, rfl⟩)))) (hb hby d_jdk_38_method_6_59) hr
  · exact ⟨b5, rfl, sz_b5, N6, by rw [show (T6.setFrames fs).heap = _ from e6]; exact ⟨K6, x6_E_a1, x6_F_a1_modCount, x6_F_a1_elementData, x6_F_a1_size, ⟨_, x6_A_b5, x6_E_b5, O5⟩⟩⟩
def own_Q_grow0 (Z : State) (a1 : Addr) (w_ROWS w_RESULT w_PARTIAL_GROUPS w_MERGED_GROUPS w_D w_EL w_EE w_C w_EM w_M : Addr)  (h0 : Heap) (n0 : Nat) (v : Option Value) (h : Heap) (L : List Loc) : Prop := ∃ r : Addr, v = some (.ref r) ∧ h0.size ≤ r ∧ Fr n0 L ∧ Keep h0 h [a1] ∧ Exa Z h a1 "java/util/ArrayList" ∧ Fld Z h a1 "java/util/AbstractList" "modCount" "I" (.int (1 : Int32)) ∧ Fld Z h a1 "java/util/ArrayList" "elementData" "[Ljava/lang/Object;" (.ref r) ∧ Fld Z h a1 "java/util/ArrayList" "size" "I" (.int (0 : Int32)) ∧ (∃ k, own_ArrK Z h r k (.object "java/lang/Object") [.null, .null, .null, .null, .null, .null, .null, .null, .null, .null] ∧ Exa Z h r "[Ljava/lang/Object;" ∧ Ovr Z k "java/lang/Object")
theorem d_jdk_38_method_7_0 : decode jdk_38_method_7_code 0 = .ok (.aload_n 0, 1) := by decide +kernel
theorem d_jdk_38_method_7_1 : decode jdk_38_method_7_code 1 = .ok (.aload_n 0, 1) := by decide +kernel
theorem d_jdk_38_method_7_2 : decode jdk_38_method_7_code 2 = .ok (.getfield 48, 3) := by decide +kernel
theorem d_jdk_38_method_7_5 : decode jdk_38_method_7_code 5 = .ok (.iconst 1, 1) := by decide +kernel
theorem d_jdk_38_method_7_6 : decode jdk_38_method_7_code 6 = .ok (.iadd, 1) := by decide +kernel
theorem d_jdk_38_method_7_7 : decode jdk_38_method_7_code 7 = .ok (.invokevirtual 69, 3) := by decide +kernel
theorem pd_6 : parseMethodDescriptor "(I)[Ljava/lang/Object;" = some ⟨[.int], some (.array (.object "java/lang/Object"))⟩ := by decide +kernel
theorem d_jdk_38_method_7_10 : decode jdk_38_method_7_code 10 = .ok (.areturn, 1) := by decide +kernel
theorem ef_grow0 (m : MethodId) (x0 : Addr) : entryFrame m #[(.ref x0)] 1 = mkF m 0 #[.val (.ref x0)] [] := by first | (simp [entryFrame, mkF, argsToLocals, Value.category]; done) | rfl
set_option maxRecDepth 65536 in
set_option maxHeartbeats 40000000 in
theorem rm_grow0 (l : Launch) (Z : State) (a0 : Array Value) (hw : ∀ d ∈ tables_1, d.before a0 Z = true) (ws : List Jvm.Cond) (a1 : Addr) (h0 : Heap) (n0 : Nat) (w_ROWS w_RESULT w_PARTIAL_GROUPS w_MERGED_GROUPS w_D w_EL w_EE w_C w_EM w_M : Addr) (hK : own_K Z Z.heap w_ROWS w_RESULT w_PARTIAL_GROUPS w_MERGED_GROUPS w_D w_EL w_EE w_C w_EM w_M) (hn0 : n0 = Z.heap.size) (EX0 : Ext Z.heap h0) (E_a1 : Exa Z h0 a1 "java/util/ArrayList") (g_a1 : n0 ≤ a1) (F_modCount_a1 : Fld Z h0 a1 "java/util/AbstractList" "modCount" "I" (.int (1 : Int32))) (F_elementData_a1 : Fld Z h0 a1 "java/util/ArrayList" "elementData" "[Ljava/lang/Object;" (.ref w_D)) (F_size_a1 : Fld Z h0 a1 "java/util/ArrayList" "size" "I" (.int (0 : Int32))) :
    MetFree l (⟨"java/util/ArrayList", "grow", "()[Ljava/lang/Object;"⟩ : MethodName) (head1 (Jvm.Cond.code (⟨"java/util/ArrayList", "grow", "()[Ljava/lang/Object;"⟩ : MethodName) jdk_38_method_7_code 1 (some (.array (.object "java/lang/Object"))) :: ws) ({ frames := 2, cells := 1, slots := 10, locals := 29 } : Room)) (fun a U => a = #[(.ref a1)] ∧ Z.Warmed39 U.vm ∧ U.heap = h0) (fun _ _ _ _ _ => True) (fun _ U o U' => ∃ v L, o = .returned v ∧ own_Q_grow0 Z a1 w_ROWS w_RESULT w_PARTIAL_GROUPS w_MERGED_GROUPS w_D w_EL w_EE w_C w_EM w_M h0 n0 v U'.heap L ∧ FrameEnd U o U' L ({ frames := 2, cells := 1, slots := 10, locals := 29 } : Room).cells ({ frames := 2, cells := 1, slots := 10, locals := 29 } : Room).slots) := by
  refine MetFree.of_bodySF (plainFor_of_name pn_6) hisR ?_
  intro p e s m args below meth c s₁ Bd hml0 hP hK0
  obtain ⟨rfl, hZ, hh⟩ := hP
  have hx := Bd.exec
  have hby := Bd.bytes
  have hml : c.maxLocals = 1 := hml0
  have hown : s.vm.findClass "java/util/ArrayList" = some m.cls := findClass_of_methodNamed Bd.named
  have hnm := (name_of_methodNamed Bd.named Bd.method).1
  have X0 : Stand p l e ({ frames := 2, cells := 1, slots := 10, locals := 29 } : Room) s m #[(.ref a1)] below meth c s₁ [] 0 0 := Stand.of_body Bd
  have e0 : s₁.heap = h0 := by rw [← hh, Bd.state]; rfl
  have N0 := Fr.nil n0
  have pre0 : ∀ t, Steps p.tables e below (s₁.setTop (mkF m 0 #[.val (.ref a1)] [])) t → Steps p.tables e below (s₁.setTop (entryFrame m #[(.ref a1)] 1)) t := fun t k => castTop (ef_grow0 m a1) k
  have hK' := hK
  obtain ⟨S_w_ROWS, E_w_ROWS, F_ordinal_w_ROWS, S_w_RESULT, E_w_RESULT, F_ordinal_w_RESULT, S_w_PARTIAL_GROUPS, E_w_PARTIAL_GROUPS, F_ordinal_w_PARTIAL_GROUPS, S_w_MERGED_GROUPS, E_w_MERGED_GROUPS, F_ordinal_w_MERGED_GROUPS, S_w_D, B_w_D, S_w_EL, E_w_EL, F_elements_w_EL, B_w_EE, F_allowNulls_w_EL, S_high, S_w_C, C_w_C, S_w_EM, M_w_M⟩ := hK'
  obtain ⟨cl_w_D, A_w_D, q_w_D⟩ := B_w_D
  obtain ⟨cl_w_EE, A_w_EE, q_w_EE⟩ := B_w_EE
  obtain ⟨T1, X1, e1, st1⟩ := getF X0 hx hZ hown (host := "") (Or.inl (hw _ (ow 61 rfl))) Via.refl e0 F_size_a1 (g := (mkF m 2 #[.val (.ref a1)] [(.ref a1), (.ref a1)])) rfl rfl (hb hby d_jdk_38_method_7_2)
  obtain ⟨cq2, q2, q2'⟩ := Exa.cell E_a1
  obtain ⟨v2, _, ⟨T2, L2, k2, n2⟩, -, X2, ⟨Lc2, hQ2, l2, y2, z2⟩, st2⟩ := X1.privateBack hx (y := (⟨"java/util/ArrayList", "grow", "(I)[Ljava/lang/Object;"⟩ : MethodName)) hown (mvT hZ (hw _ (ow 98 rfl))) (mvT hZ (hw _ (ow 99 rfl))) (mvT hZ (hw _ (ow 101 rfl))) (Cond.privateMethod_at (mvP hZ (hw _ (ow 100 rfl)) (args := #[]))) (mvT hZ (hw _ (ow 102 rfl))) (by decide) (backOf (W := 0) (rm_growI l Z a0 hw [] a1 h0 n0 w_ROWS w_RESULT w_PARTIAL_GROUPS w_MERGED_GROUPS w_D w_EL w_EE w_C w_EM w_M hK hn0 EX0 E_a1 g_a1 F_modCount_a1 F_elementData_a1 F_size_a1) hZ (hw _ (ow 102 rfl)) (hw _ (ow 2 rfl)) (by decide) (by decide)) (g := (mkF m 7 #[.val (.ref a1)] [(.int (1 : Int32)), (.ref a1)])) rfl (by rw [hml]; rfl) (Steps.refl _) (a := a1) (by rw [e1]; exact q2) q2' (argsL := [(.int (1 : Int32))]) (rest := []) (lenOf pd_6 rfl) rfl (Nat.le_of_eq rfl) (hb hby d_jdk_38_method_7_7) (fun _ _ => ⟨rfl, e1, (by decide : 0 + 1 ≤ _), (by decide : 0 + 10 ≤ _)⟩)
  dsimp only [Pt.U, Pt.locs, Pt.cells, Pt.slots] at X2 l2 y2 z2 st2 hQ2
  subst y2 z2
  obtain ⟨r2, hv2, sy2, Nq2, Kq2, q2_0, q2_1, q2_2, q2_3, q2_4⟩ := hQ2
  obtain rfl : v2 = some (.ref r2) := hv2
  have ne_a1_r2 : a1 ≠ r2 := Nat.ne_of_lt (Nat.lt_of_lt_of_le E_a1.lt sy2)
  have sz_r2 : h0.size ≤ r2 := Nat.le_trans (Keep.refl h0 [a1]).1 sy2
  have g_r2 : n0 ≤ r2 := hn0 ▸ Nat.le_trans EX0.1 sy2
  have N2 : Fr n0 L2 := by rw [l2]; exact Fr.app N0 Nq2
  have x2_E_a1 := E_a1.keep Kq2
  have EX2 := own_ext_keepL EX0 Kq2 (allS (hn0 ▸ g_a1) all0)
  have K2 := Keep.trans (Keep.refl h0 [a1]) Kq2 (allS (Or.inl (List.mem_of_getElem? (i := 0) rfl)) all0)
  obtain ⟨ka_r2, Aa_r2, Ea_r2, Oa_r2⟩ := q2_4
  have pre3 : ∀ t, Steps p.tables e below (T2.setTop (mkF m 10 #[.val (.ref a1)] [(.ref r2)])) t → Steps p.tables e below (s₁.setTop (entryFrame m #[(.ref a1)] 1)) t := fun t k => pre0 t (by
    show Steps p.tables e below (s₁.setTop (mkF m 0 #[.val (.ref a1)] [])) _
    refine XS.aloadN X0.here hx rfl (hb hby d_jdk_38_method_7_0) rfl rfl ?_
    show Steps p.tables e below (s₁.setTop (mkF m 1 #[.val (.ref a1)] [(.ref a1)])) _
    refine XS.aloadN X0.here hx rfl (hb hby d_jdk_38_method_7_1) rfl rfl ?_
    show Steps p.tables e below (s₁.setTop (mkF m 2 #[.val (.ref a1)] [(.ref a1), (.ref a1)])) _
    refine st1 _ ?_
    show Steps p.tables e below (T1.setTop (mkF m 5 #[.val (.ref a1)] [(.int (0 : Int32)), (.ref a1)])) _
    refine XS.iconst X1.here hx rfl (hb hby d_jdk_38_method_7_5) ?_
    show Steps p.tables e below (T1.setTop (mkF m 6 #[.val (.ref a1)] [(.int (1 : Int32)), (.int (0 : Int32)), (.ref a1)])) _
    refine XS.iadd X1.here hx rfl (hb hby d_jdk_38_method_7_6) rfl ?_
    show Steps p.tables e below (T1.setTop (mkF m 7 #[.val (.ref a1)] [(.int ((0 : Int32) + (1 : Int32))), (.ref a1)])) _
    rw [(show ((0 : Int32) + (1 : Int32)) = (1 : Int32) from by decide)]
    show Steps p.tables e below (T1.setTop (mkF m 7 #[.val (.ref a1)] [(.int (1 : Int32)), (.ref a1)])) _
    refine st2.trans ?_
    exact k)
  obtain ⟨fs, hr, hrun, hended, hW, hsame⟩ := X2.leave (v := some (.ref r2)) (fun h => by rw [Bd.returns] at h; cases h)
  refine ⟨_, _, pre3 _ ?_, hrun, hended, _, _, rfl, ?_, ⟨_, rfl⟩, hW, hsame.mono (by decide) (by decide)⟩
  · show Steps p.tables e below (T2.setTop (mkF m 10 #[.val (.ref a1)] [(.ref r2)])) _
    exact retOut X2 hx Bd.returns rfl (Or.inr (Or.inr (Or.inr (Or.inr ⟨rfl, rfl, rfl⟩)))) (hb hby d_jdk_38_method_7_10) hr
  · exact ⟨r2, rfl, sz_r2, N2, by rw [show (T2.setFrames fs).heap = _ from (rfl : T2.heap = T2.heap)]; exact ⟨K2, q2_0, q2_1, q2_2, q2_3, ⟨_, Aa_r2, Ea_r2, Oa_r2⟩⟩⟩
def own_Q_add3 (Z : State) (a1 : Addr) (a2 : Addr) (w_ROWS w_RESULT w_PARTIAL_GROUPS w_MERGED_GROUPS w_D w_EL w_EE w_C w_EM w_M : Addr)  (h0 : Heap) (n0 : Nat) (v : Option Value) (h : Heap) (L : List Loc) : Prop := v = none ∧ Fr n0 L ∧ Keep h0 h [a1] ∧ Exa Z h a1 "java/util/ArrayList" ∧ Fld Z h a1 "java/util/ArrayList" "size" "I" (.int (1 : Int32)) ∧ Exa Z h a2 "java/lang/Integer" ∧ (∃ (ar : Addr) (k : ClassId), h0.size ≤ ar ∧ Fld Z h a1 "java/util/ArrayList" "elementData" "[Ljava/lang/Object;" (.ref ar) ∧ own_ArrK Z h ar k (.object "java/lang/Object") [(.ref a2), .null, .null, .null, .null, .null, .null, .null, .null, .null] ∧ Exa Z h ar "[Ljava/lang/Object;" ∧ Ovr Z k "java/lang/Object")
theorem d_jdk_38_method_24_0 : decode jdk_38_method_24_code 0 = .ok (.iload_n 3, 1) := by decide +kernel
theorem d_jdk_38_method_24_1 : decode jdk_38_method_24_code 1 = .ok (.aload_n 2, 1) := by decide +kernel
theorem d_jdk_38_method_24_2 : decode jdk_38_method_24_code 2 = .ok (.arraylength, 1) := by decide +kernel
theorem d_jdk_38_method_24_3 : decode jdk_38_method_24_code 3 = .ok (.if_icmp .ne 8, 3) := by decide +kernel
theorem d_jdk_38_method_24_6 : decode jdk_38_method_24_code 6 = .ok (.aload_n 0, 1) := by decide +kernel
theorem d_jdk_38_method_24_7 : decode jdk_38_method_24_code 7 = .ok (.invokevirtual 129, 3) := by decide +kernel
theorem pd_7 : parseMethodDescriptor "()[Ljava/lang/Object;" = some ⟨[], some (.array (.object "java/lang/Object"))⟩ := by decide +kernel
theorem d_jdk_38_method_24_10 : decode jdk_38_method_24_code 10 = .ok (.astore_n 2, 1) := by decide +kernel
theorem d_jdk_38_method_24_11 : decode jdk_38_method_24_code 11 = .ok (.aload_n 2, 1) := by decide +kernel
theorem d_jdk_38_method_24_12 : decode jdk_38_method_24_code 12 = .ok (.iload_n 3, 1) := by decide +kernel
theorem d_jdk_38_method_24_13 : decode jdk_38_method_24_code 13 = .ok (.aload_n 1, 1) := by decide +kernel
theorem d_jdk_38_method_24_14 : decode jdk_38_method_24_code 14 = .ok (.aastore, 1) := by decide +kernel
theorem d_jdk_38_method_24_15 : decode jdk_38_method_24_code 15 = .ok (.aload_n 0, 1) := by decide +kernel
theorem d_jdk_38_method_24_16 : decode jdk_38_method_24_code 16 = .ok (.iload_n 3, 1) := by decide +kernel
theorem d_jdk_38_method_24_17 : decode jdk_38_method_24_code 17 = .ok (.iconst 1, 1) := by decide +kernel
theorem d_jdk_38_method_24_18 : decode jdk_38_method_24_code 18 = .ok (.iadd, 1) := by decide +kernel
theorem d_jdk_38_method_24_19 : decode jdk_38_method_24_code 19 = .ok (.putfield 48, 3) := by decide +kernel
theorem d_jdk_38_method_24_22 : decode jdk_38_method_24_code 22 = .ok (.return_, 1) := by decide +kernel
theorem ef_add3 (m : MethodId) (x0 : Addr) (x1 : Addr) (x2 : Addr) (x3 : Int32) : entryFrame m #[(.ref x0), (.ref x1), (.ref x2), (.int x3)] 4 = mkF m 0 #[.val (.ref x0), .val (.ref x1), .val (.ref x2), .val (.int x3)] [] := by first | (simp [entryFrame, mkF, argsToLocals, Value.category]; done) | rfl
set_option maxRecDepth 65536 in
set_option maxHeartbeats 40000000 in
theorem rm_add3 (l : Launch) (Z : State) (a0 : Array Value) (hw : ∀ d ∈ tables_1, d.before a0 Z = true) (ws : List Jvm.Cond) (a1 : Addr) (a2 : Addr) (h0 : Heap) (n0 : Nat) (w_ROWS w_RESULT w_PARTIAL_GROUPS w_MERGED_GROUPS w_D w_EL w_EE w_C w_EM w_M : Addr) (hK : own_K Z Z.heap w_ROWS w_RESULT w_PARTIAL_GROUPS w_MERGED_GROUPS w_D w_EL w_EE w_C w_EM w_M) (hn0 : n0 = Z.heap.size) (EX0 : Ext Z.heap h0) (E_a1 : Exa Z h0 a1 "java/util/ArrayList") (g_a1 : n0 ≤ a1) (F_modCount_a1 : Fld Z h0 a1 "java/util/AbstractList" "modCount" "I" (.int (1 : Int32))) (F_elementData_a1 : Fld Z h0 a1 "java/util/ArrayList" "elementData" "[Ljava/lang/Object;" (.ref w_D)) (F_size_a1 : Fld Z h0 a1 "java/util/ArrayList" "size" "I" (.int (0 : Int32))) (E_a2 : Exa Z h0 a2 "java/lang/Integer") :
    MetFree l (⟨"java/util/ArrayList", "add", "(Ljava/lang/Object;[Ljava/lang/Object;I)V"⟩ : MethodName) (head1 (Jvm.Cond.code (⟨"java/util/ArrayList", "add", "(Ljava/lang/Object;[Ljava/lang/Object;I)V"⟩ : MethodName) jdk_38_method_24_code 4 none :: ws) ({ frames := 3, cells := 1, slots := 10, locals := 41 } : Room)) (fun a U => a = #[(.ref a1), (.ref a2), (.ref w_D), (.int (0 : Int32))] ∧ Z.Warmed39 U.vm ∧ U.heap = h0) (fun _ _ _ _ _ => True) (fun _ U o U' => ∃ v L, o = .returned v ∧ own_Q_add3 Z a1 a2 w_ROWS w_RESULT w_PARTIAL_GROUPS w_MERGED_GROUPS w_D w_EL w_EE w_C w_EM w_M h0 n0 v U'.heap L ∧ FrameEnd U o U' L ({ frames := 3, cells := 1, slots := 10, locals := 41 } : Room).cells ({ frames := 3, cells := 1, slots := 10, locals := 41 } : Room).slots) := by
  refine MetFree.of_bodySF (plainFor_of_name pn_6) hisR ?_
  intro p e s m args below meth c s₁ Bd hml0 hP hK0
  obtain ⟨rfl, hZ, hh⟩ := hP
  have hx := Bd.exec
  have hby := Bd.bytes
  have hml : c.maxLocals = 4 := hml0
  have hown : s.vm.findClass "java/util/ArrayList" = some m.cls := findClass_of_methodNamed Bd.named
  have hnm := (name_of_methodNamed Bd.named Bd.method).1
  have X0 : Stand p l e ({ frames := 3, cells := 1, slots := 10, locals := 41 } : Room) s m #[(.ref a1), (.ref a2), (.ref w_D), (.int (0 : Int32))] below meth c s₁ [] 0 0 := Stand.of_body Bd
  have e0 : s₁.heap = h0 := by rw [← hh, Bd.state]; rfl
  have N0 := Fr.nil n0
  have pre0 : ∀ t, Steps p.tables e below (s₁.setTop (mkF m 0 #[.val (.ref a1), .val (.ref a2), .val (.ref w_D), .val (.int (0 : Int32))] [])) t → Steps p.tables e below (s₁.setTop (entryFrame m #[(.ref a1), (.ref a2), (.ref w_D), (.int (0 : Int32))] 4)) t := fun t k => castTop (ef_add3 m a1 a2 w_D ((0 : Int32))) k
  have hK' := hK
  obtain ⟨S_w_ROWS, E_w_ROWS, F_ordinal_w_ROWS, S_w_RESULT, E_w_RESULT, F_ordinal_w_RESULT, S_w_PARTIAL_GROUPS, E_w_PARTIAL_GROUPS, F_ordinal_w_PARTIAL_GROUPS, S_w_MERGED_GROUPS, E_w_MERGED_GROUPS, F_ordinal_w_MERGED_GROUPS, S_w_D, B_w_D, S_w_EL, E_w_EL, F_elements_w_EL, B_w_EE, F_allowNulls_w_EL, S_high, S_w_C, C_w_C, S_w_EM, M_w_M⟩ := hK'
  obtain ⟨cl_w_D, A_w_D, q_w_D⟩ := B_w_D
  obtain ⟨cl_w_EE, A_w_EE, q_w_EE⟩ := B_w_EE
  obtain ⟨cq1, q1, q1'⟩ := Exa.cell E_a1
  obtain ⟨v1, _, ⟨T1, L1, k1, n1⟩, -, X1, ⟨Lc1, hQ1, l1, y1, z1⟩, st1⟩ := X0.privateBack hx (y := (⟨"java/util/ArrayList", "grow", "()[Ljava/lang/Object;"⟩ : MethodName)) hown (mvT hZ (hw _ (ow 93 rfl))) (mvT hZ (hw _ (ow 94 rfl))) (mvT hZ (hw _ (ow 96 rfl))) (Cond.privateMethod_at (mvP hZ (hw _ (ow 95 rfl)) (args := #[]))) (mvT hZ (hw _ (ow 97 rfl))) (by decide) (backOf (W := 0) (rm_grow0 l Z a0 hw [] a1 h0 n0 w_ROWS w_RESULT w_PARTIAL_GROUPS w_MERGED_GROUPS w_D w_EL w_EE w_C w_EM w_M hK hn0 EX0 E_a1 g_a1 F_modCount_a1 F_elementData_a1 F_size_a1) hZ (hw _ (ow 97 rfl)) (hw _ (ow 2 rfl)) (by decide) (by decide)) (g := (mkF m 7 #[.val (.ref a1), .val (.ref a2), .val (.ref w_D), .val (.int (0 : Int32))] [(.ref a1)])) rfl (by rw [hml]; rfl) (Steps.refl _) (a := a1) (by rw [e0]; exact q1) q1' (argsL := []) (rest := []) (lenOf pd_7 rfl) rfl (Nat.le_of_eq rfl) (hb hby d_jdk_38_method_24_7) (fun _ _ => ⟨rfl, e0, (by decide : 0 + 1 ≤ _), (by decide : 0 + 10 ≤ _)⟩)
  dsimp only [Pt.U, Pt.locs, Pt.cells, Pt.slots] at X1 l1 y1 z1 st1 hQ1
  subst y1 z1
  obtain ⟨r1, hv1, sy1, Nq1, Kq1, q1_0, q1_1, q1_2, q1_3, q1_4⟩ := hQ1
  obtain rfl : v1 = some (.ref r1) := hv1
  have ne_a1_r1 : a1 ≠ r1 := Nat.ne_of_lt (Nat.lt_of_lt_of_le E_a1.lt sy1)
  have sz_r1 : h0.size ≤ r1 := Nat.le_trans (Keep.refl h0 [a1]).1 sy1
  have g_r1 : n0 ≤ r1 := hn0 ▸ Nat.le_trans EX0.1 sy1
  have N1 : Fr n0 L1 := by rw [l1]; exact Fr.app N0 Nq1
  have x1_E_a1 := E_a1.keep Kq1
  have x1_E_a2 := E_a2.keep Kq1
  have EX1 := own_ext_keepL EX0 Kq1 (allS (hn0 ▸ g_a1) all0)
  have K1 := Keep.trans (Keep.refl h0 [a1]) Kq1 (allS (Or.inl (List.mem_of_getElem? (i := 0) rfl)) all0)
  obtain ⟨ka_r1, Aa_r1, Ea_r1, Oa_r1⟩ := q1_4
  obtain ⟨cl2, Ar2, qk2, hs2⟩ := id Aa_r1
  obtain ⟨T2, h2, X2, e2, W2, st2⟩ := stR X1 hx hZ (rfl : T1.heap = T1.heap) Ar2 (j := (0 : Int32)) (own_inb 10 hs2 rfl (by decide) (by decide)) rfl (Sto.ofV Ar2 qk2 Oa_r1 (Ins.of_exa x1_E_a2 (hw _ (ow 109 rfl)))) (g := (mkF m 14 #[.val (.ref a1), .val (.ref a2), .val (.ref r1), .val (.int (0 : Int32))] [(.ref a2), (.int (0 : Int32)), (.ref r1)])) rfl rfl (hb hby d_jdk_38_method_24_14)
  have x2_E_a1 := q1_0.wr W2
  have x2_E_a2 := x1_E_a2.wr W2
  have x2_F_a1_modCount := q1_1.other W2 (Or.inl ne_a1_r1)
  have x2_F_a1_elementData := q1_2.other W2 (Or.inl ne_a1_r1)
  have x2_F_a1_size := q1_3.other W2 (Or.inl ne_a1_r1)
  have x2_A_r1 : own_ArrK Z h2 r1 ka_r1 (.object "java/lang/Object") [(.ref a2), .null, .null, .null, .null, .null, .null, .null, .null, .null] := own_set W2 Ar2 qk2 hs2
  have x2_E_r1 := Ea_r1.wr W2
  have EX2 := own_ext_wr EX1 W2 (hn0 ▸ g_r1)
  have K2 := Keep.wr K1 W2 (Or.inr sz_r1)
  have N2 := Fr.snoc X2 N1 g_r1
  obtain ⟨T3, h3, X3, e3, W3, st3⟩ := putF X2 hx hZ hown (host := "") (Or.inl (hw _ (ow 61 rfl))) Via.refl e2 x2_F_a1_size x2_E_a1 (Or.inl (hw _ (ow 62 rfl))) (hw _ (ow 1 rfl)) (ty := .int) (by decide) rfl rfl (g := (mkF m 19 #[.val (.ref a1), .val (.ref a2), .val (.ref r1), .val (.int (0 : Int32))] [(.int (1 : Int32)), (.ref a1)])) rfl rfl (hb hby d_jdk_38_method_24_19)
  have x3_E_a1 := x2_E_a1.wr W3
  have x3_E_a2 := x2_E_a2.wr W3
  have x3_F_a1_modCount := x2_F_a1_modCount.other W3 (Or.inr (slot_ne (Or.inl (hw _ (ow 22 rfl))) (Or.inl (hw _ (ow 62 rfl))) (by decide) (t := .int) (t' := .int) (by decide) (by decide)))
  have x3_F_a1_elementData := x2_F_a1_elementData.other W3 (Or.inr (slot_ne (Or.inl (hw _ (ow 25 rfl))) (Or.inl (hw _ (ow 62 rfl))) (by decide) (t := (.array (.object "java/lang/Object"))) (t' := .int) (by decide) (by decide)))
  have x3_F_a1_size := x2_F_a1_size.same W3
  have x3_A_r1 := x2_A_r1.other W3 (Ne.symm ne_a1_r1)
  have x3_E_r1 := x2_E_r1.wr W3
  have EX3 := own_ext_wr EX2 W3 (hn0 ▸ g_a1)
  have K3 := Keep.wr K2 W3 (Or.inl (List.mem_of_getElem? (i := 0) rfl))
  have N3 := Fr.snoc X3 N2 g_a1
  have pre4 : ∀ t, Steps p.tables e below (T3.setTop (mkF m 22 #[.val (.ref a1), .val (.ref a2), .val (.ref r1), .val (.int (0 : Int32))] [])) t → Steps p.tables e below (s₁.setTop (entryFrame m #[(.ref a1), (.ref a2), (.ref w_D), (.int (0 : Int32))] 4)) t := fun t k => pre0 t (by
    show Steps p.tables e below (s₁.setTop (mkF m 0 #[.val (.ref a1), .val (.ref a2), .val (.ref w_D), .val (.int (0 : Int32))] [])) _
    refine XS.iloadN X0.here hx rfl (hb hby d_jdk_38_method_24_0) rfl ?_
    show Steps p.tables e below (s₁.setTop (mkF m 1 #[.val (.ref a1), .val (.ref a2), .val (.ref w_D), .val (.int (0 : Int32))] [(.int (0 : Int32))])) _
    refine XS.aloadN X0.here hx rfl (hb hby d_jdk_38_method_24_1) rfl rfl ?_
    show Steps p.tables e below (s₁.setTop (mkF m 2 #[.val (.ref a1), .val (.ref a2), .val (.ref w_D), .val (.int (0 : Int32))] [(.ref w_D), (.int (0 : Int32))])) _
    refine X0.arraylength hx (by rw [e0]; exact (A_w_D.ext EX0).1) (State.isArrayOf_alike hZ.alike (A_w_D.ext EX0).2.1) (g := (mkF m 2 #[.val (.ref a1), .val (.ref a2), .val (.ref w_D), .val (.int (0 : Int32))] [(.ref w_D), (.int (0 : Int32))])) rfl rfl (hb hby d_jdk_38_method_24_2) _ ?_
    rw [q_w_D]
    show Steps p.tables e below (s₁.setTop (mkF m 3 #[.val (.ref a1), .val (.ref a2), .val (.ref w_D), .val (.int (0 : Int32))] [(.int (0 : Int32)), (.int (0 : Int32))])) _
    refine XS.icmpNo X0.here hx rfl (hb hby d_jdk_38_method_24_3) rfl (teq (by decide)).2 ?_
    show Steps p.tables e below (s₁.setTop (mkF m 6 #[.val (.ref a1), .val (.ref a2), .val (.ref w_D), .val (.int (0 : Int32))] [])) _
    refine XS.aloadN X0.here hx rfl (hb hby d_jdk_38_method_24_6) rfl rfl ?_
    show Steps p.tables e below (s₁.setTop (mkF m 7 #[.val (.ref a1), .val (.ref a2), .val (.ref w_D), .val (.int (0 : Int32))] [(.ref a1)])) _
    refine st1.trans ?_
    show Steps p.tables e below (T1.setTop (mkF m 10 #[.val (.ref a1), .val (.ref a2), .val (.ref w_D), .val (.int (0 : Int32))] [(.ref r1)])) _
    refine XS.astoreN X1.here hx rfl (hb hby d_jdk_38_method_24_10) rfl rfl (l' := #[.val (.ref a1), .val (.ref a2), .val (.ref r1), .val (.int (0 : Int32))]) rfl ?_
    show Steps p.tables e below (T1.setTop (mkF m 11 #[.val (.ref a1), .val (.ref a2), .val (.ref r1), .val (.int (0 : Int32))] [])) _
    refine XS.aloadN X1.here hx rfl (hb hby d_jdk_38_method_24_11) rfl rfl ?_
    show Steps p.tables e below (T1.setTop (mkF m 12 #[.val (.ref a1), .val (.ref a2), .val (.ref r1), .val (.int (0 : Int32))] [(.ref r1)])) _
    refine XS.iloadN X1.here hx rfl (hb hby d_jdk_38_method_24_12) rfl ?_
    show Steps p.tables e below (T1.setTop (mkF m 13 #[.val (.ref a1), .val (.ref a2), .val (.ref r1), .val (.int (0 : Int32))] [(.int (0 : Int32)), (.ref r1)])) _
    refine XS.aloadN X1.here hx rfl (hb hby d_jdk_38_method_24_13) rfl rfl ?_
    show Steps p.tables e below (T1.setTop (mkF m 14 #[.val (.ref a1), .val (.ref a2), .val (.ref r1), .val (.int (0 : Int32))] [(.ref a2), (.int (0 : Int32)), (.ref r1)])) _
    refine st2 _ ?_
    show Steps p.tables e below (T2.setTop (mkF m 15 #[.val (.ref a1), .val (.ref a2), .val (.ref r1), .val (.int (0 : Int32))] [])) _
    refine XS.aloadN X2.here hx rfl (hb hby d_jdk_38_method_24_15) rfl rfl ?_
    show Steps p.tables e below (T2.setTop (mkF m 16 #[.val (.ref a1), .val (.ref a2), .val (.ref r1), .val (.int (0 : Int32))] [(.ref a1)])) _
    refine XS.iloadN X2.here hx rfl (hb hby d_jdk_38_method_24_16) rfl ?_
    show Steps p.tables e below (T2.setTop (mkF m 17 #[.val (.ref a1), .val (.ref a2), .val (.ref r1), .val (.int (0 : Int32))] [(.int (0 : Int32)), (.ref a1)])) _
    refine XS.iconst X2.here hx rfl (hb hby d_jdk_38_method_24_17) ?_
    show Steps p.tables e below (T2.setTop (mkF m 18 #[.val (.ref a1), .val (.ref a2), .val (.ref r1), .val (.int (0 : Int32))] [(.int (1 : Int32)), (.int (0 : Int32)), (.ref a1)])) _
    refine XS.iadd X2.here hx rfl (hb hby d_jdk_38_method_24_18) rfl ?_
    show Steps p.tables e below (T2.setTop (mkF m 19 #[.val (.ref a1), .val (.ref a2), .val (.ref r1), .val (.int (0 : Int32))] [(.int ((0 : Int32) + (1 : Int32))), (.ref a1)])) _
    rw [(show ((0 : Int32) + (1 : Int32)) = (1 : Int32) from by decide)]
    show Steps p.tables e below (T2.setTop (mkF m 19 #[.val (.ref a1), .val (.ref a2), .val (.ref r1), .val (.int (0 : Int32))] [(.int (1 : Int32)), (.ref a1)])) _
    refine st3 _ ?_
    exact k)
  obtain ⟨fs, hr, hrun, hended, hW, hsame⟩ := X3.leave (v := none) (fun _ => rfl)
  refine ⟨_, _, pre4 _ ?_, hrun, hended, _, _, rfl, ?_, ⟨_, rfl⟩, hW, hsame.mono (by decide) (by decide)⟩
  · show Steps p.tables e below (T3.setTop (mkF m 22 #[.val (.ref a1), .val (.ref a2), .val (.ref r1), .val (.int (0 : Int32))] [])) _
    exact X3.returnOut hx Bd.returns (hb hby d_jdk_38_method_24_22) hr
  · exact ⟨rfl, N3, by rw [show (T3.setFrames fs).heap = _ from e3]; exact ⟨K3, x3_E_a1, x3_F_a1_size, x3_E_a2, ⟨r1, _, sz_r1, x3_F_a1_elementData, x3_A_r1, x3_E_r1, Oa_r1⟩⟩⟩
def own_Q_add1 (Z : State) (a1 : Addr) (a2 : Addr) (w_ROWS w_RESULT w_PARTIAL_GROUPS w_MERGED_GROUPS w_D w_EL w_EE w_C w_EM w_M : Addr)  (h0 : Heap) (n0 : Nat) (v : Option Value) (h : Heap) (L : List Loc) : Prop := v = (some (.int (1 : Int32))) ∧ Fr n0 L ∧ Keep h0 h [a1] ∧ Exa Z h a1 "java/util/ArrayList" ∧ Fld Z h a1 "java/util/ArrayList" "size" "I" (.int (1 : Int32)) ∧ Exa Z h a2 "java/lang/Integer" ∧ (∃ (ar : Addr) (k : ClassId), h0.size ≤ ar ∧ Fld Z h a1 "java/util/ArrayList" "elementData" "[Ljava/lang/Object;" (.ref ar) ∧ own_ArrK Z h ar k (.object "java/lang/Object") [(.ref a2), .null, .null, .null, .null, .null, .null, .null, .null, .null] ∧ Exa Z h ar "[Ljava/lang/Object;" ∧ Ovr Z k "java/lang/Object")
theorem d_jdk_38_method_25_0 : decode jdk_38_method_25_code 0 = .ok (.aload_n 0, 1) := by decide +kernel
theorem d_jdk_38_method_25_1 : decode jdk_38_method_25_code 1 = .ok (.dup, 1) := by decide +kernel
theorem d_jdk_38_method_25_2 : decode jdk_38_method_25_code 2 = .ok (.getfield 63, 3) := by decide +kernel
theorem d_jdk_38_method_25_5 : decode jdk_38_method_25_code 5 = .ok (.iconst 1, 1) := by decide +kernel
theorem d_jdk_38_method_25_6 : decode jdk_38_method_25_code 6 = .ok (.iadd, 1) := by decide +kernel
theorem d_jdk_38_method_25_7 : decode jdk_38_method_25_code 7 = .ok (.putfield 63, 3) := by decide +kernel
theorem d_jdk_38_method_25_10 : decode jdk_38_method_25_code 10 = .ok (.aload_n 0, 1) := by decide +kernel
theorem d_jdk_38_method_25_11 : decode jdk_38_method_25_code 11 = .ok (.aload_n 1, 1) := by decide +kernel
theorem d_jdk_38_method_25_12 : decode jdk_38_method_25_code 12 = .ok (.aload_n 0, 1) := by decide +kernel
theorem d_jdk_38_method_25_13 : decode jdk_38_method_25_code 13 = .ok (.getfield 9, 3) := by decide +kernel
theorem d_jdk_38_method_25_16 : decode jdk_38_method_25_code 16 = .ok (.aload_n 0, 1) := by decide +kernel
theorem d_jdk_38_method_25_17 : decode jdk_38_method_25_code 17 = .ok (.getfield 48, 3) := by decide +kernel
theorem d_jdk_38_method_25_20 : decode jdk_38_method_25_code 20 = .ok (.invokevirtual 131, 3) := by decide +kernel
theorem pd_8 : parseMethodDescriptor "(Ljava/lang/Object;[Ljava/lang/Object;I)V" = some ⟨[(.object "java/lang/Object"), (.array (.object "java/lang/Object")), .int], none⟩ := by decide +kernel
theorem d_jdk_38_method_25_23 : decode jdk_38_method_25_code 23 = .ok (.iconst 1, 1) := by decide +kernel
theorem d_jdk_38_method_25_24 : decode jdk_38_method_25_code 24 = .ok (.ireturn, 1) := by decide +kernel
theorem ef_add1 (m : MethodId) (x0 : Addr) (x1 : Addr) : entryFrame m #[(.ref x0), (.ref x1)] 2 = mkF m 0 #[.val (.ref x0), .val (.ref x1)] [] := by first | (simp [entryFrame, mkF, argsToLocals, Value.category]; done) | rfl
set_option maxRecDepth 65536 in
set_option maxHeartbeats 40000000 in
theorem rm_add1 (l : Launch) (Z : State) (a0 : Array Value) (hw : ∀ d ∈ tables_1, d.before a0 Z = true) (ws : List Jvm.Cond) (a1 : Addr) (a2 : Addr) (h0 : Heap) (n0 : Nat) (w_ROWS w_RESULT w_PARTIAL_GROUPS w_MERGED_GROUPS w_D w_EL w_EE w_C w_EM w_M : Addr) (hK : own_K Z Z.heap w_ROWS w_RESULT w_PARTIAL_GROUPS w_MERGED_GROUPS w_D w_EL w_EE w_C w_EM w_M) (hn0 : n0 = Z.heap.size) (EX0 : Ext Z.heap h0) (E_a1 : Exa Z h0 a1 "java/util/ArrayList") (g_a1 : n0 ≤ a1) (F_modCount_a1 : Fld Z h0 a1 "java/util/AbstractList" "modCount" "I" (.int (0 : Int32))) (F_elementData_a1 : Fld Z h0 a1 "java/util/ArrayList" "elementData" "[Ljava/lang/Object;" (.ref w_D)) (F_size_a1 : Fld Z h0 a1 "java/util/ArrayList" "size" "I" (.int (0 : Int32))) (E_a2 : Exa Z h0 a2 "java/lang/Integer") :
    MetFree l (⟨"java/util/ArrayList", "add", "(Ljava/lang/Object;)Z"⟩ : MethodName) (head1 (Jvm.Cond.code (⟨"java/util/ArrayList", "add", "(Ljava/lang/Object;)Z"⟩ : MethodName) jdk_38_method_25_code 2 (some .boolean) :: ws) ({ frames := 4, cells := 1, slots := 10, locals := 56 } : Room)) (fun a U => a = #[(.ref a1), (.ref a2)] ∧ Z.Warmed39 U.vm ∧ U.heap = h0) (fun _ _ _ _ _ => True) (fun _ U o U' => ∃ v L, o = .returned v ∧ own_Q_add1 Z a1 a2 w_ROWS w_RESULT w_PARTIAL_GROUPS w_MERGED_GROUPS w_D w_EL w_EE w_C w_EM w_M h0 n0 v U'.heap L ∧ FrameEnd U o U' L ({ frames := 4, cells := 1, slots := 10, locals := 56 } : Room).cells ({ frames := 4, cells := 1, slots := 10, locals := 56 } : Room).slots) := by
  refine MetFree.of_bodySF (plainFor_of_name pn_6) hisR ?_
  intro p e s m args below meth c s₁ Bd hml0 hP hK0
  obtain ⟨rfl, hZ, hh⟩ := hP
  have hx := Bd.exec
  have hby := Bd.bytes
  have hml : c.maxLocals = 2 := hml0
  have hown : s.vm.findClass "java/util/ArrayList" = some m.cls := findClass_of_methodNamed Bd.named
  have hnm := (name_of_methodNamed Bd.named Bd.method).1
  have X0 : Stand p l e ({ frames := 4, cells := 1, slots := 10, locals := 56 } : Room) s m #[(.ref a1), (.ref a2)] below meth c s₁ [] 0 0 := Stand.of_body Bd
  have e0 : s₁.heap = h0 := by rw [← hh, Bd.state]; rfl
  have N0 := Fr.nil n0
  have pre0 : ∀ t, Steps p.tables e below (s₁.setTop (mkF m 0 #[.val (.ref a1), .val (.ref a2)] [])) t → Steps p.tables e below (s₁.setTop (entryFrame m #[(.ref a1), (.ref a2)] 2)) t := fun t k => castTop (ef_add1 m a1 a2) k
  have hK' := hK
  obtain ⟨S_w_ROWS, E_w_ROWS, F_ordinal_w_ROWS, S_w_RESULT, E_w_RESULT, F_ordinal_w_RESULT, S_w_PARTIAL_GROUPS, E_w_PARTIAL_GROUPS, F_ordinal_w_PARTIAL_GROUPS, S_w_MERGED_GROUPS, E_w_MERGED_GROUPS, F_ordinal_w_MERGED_GROUPS, S_w_D, B_w_D, S_w_EL, E_w_EL, F_elements_w_EL, B_w_EE, F_allowNulls_w_EL, S_high, S_w_C, C_w_C, S_w_EM, M_w_M⟩ := hK'
  obtain ⟨cl_w_D, A_w_D, q_w_D⟩ := B_w_D
  obtain ⟨cl_w_EE, A_w_EE, q_w_EE⟩ := B_w_EE
  obtain ⟨T1, X1, e1, st1⟩ := getF X0 hx hZ hown (host := "") (Or.inl (hw _ (ow 86 rfl))) (Via.of (hw _ (ow 87 rfl))) e0 F_modCount_a1 (g := (mkF m 2 #[.val (.ref a1), .val (.ref a2)] [(.ref a1), (.ref a1)])) rfl rfl (hb hby d_jdk_38_method_25_2)
  obtain ⟨T2, h2, X2, e2, W2, st2⟩ := putF X1 hx hZ hown (host := "") (Or.inl (hw _ (ow 86 rfl))) (Via.of (hw _ (ow 87 rfl))) e1 F_modCount_a1 E_a1 (Or.inl (hw _ (ow 22 rfl))) (hw _ (ow 1 rfl)) (ty := .int) (by decide) rfl rfl (g := (mkF m 7 #[.val (.ref a1), .val (.ref a2)] [(.int (1 : Int32)), (.ref a1)])) rfl rfl (hb hby d_jdk_38_method_25_7)
  have x2_E_a1 := E_a1.wr W2
  have x2_F_a1_modCount := F_modCount_a1.same W2
  have x2_F_a1_elementData := F_elementData_a1.other W2 (Or.inr (slot_ne (Or.inl (hw _ (ow 25 rfl))) (Or.inl (hw _ (ow 22 rfl))) (by decide) (t := (.array (.object "java/lang/Object"))) (t' := .int) (by decide) (by decide)))
  have x2_F_a1_size := F_size_a1.other W2 (Or.inr (slot_ne (Or.inl (hw _ (ow 62 rfl))) (Or.inl (hw _ (ow 22 rfl))) (by decide) (t := .int) (t' := .int) (by decide) (by decide)))
  have x2_E_a2 := E_a2.wr W2
  have EX2 := own_ext_wr EX0 W2 (hn0 ▸ g_a1)
  have K2 := Keep.wr (Keep.refl h0 [a1]) W2 (Or.inl (List.mem_of_getElem? (i := 0) rfl))
  have N2 := Fr.snoc X2 N0 g_a1
  obtain ⟨T3, X3, e3, st3⟩ := getF X2 hx hZ hown (host := "") (Or.inl (hw _ (ow 24 rfl))) Via.refl e2 x2_F_a1_elementData (g := (mkF m 13 #[.val (.ref a1), .val (.ref a2)] [(.ref a1), (.ref a2), (.ref a1)])) rfl rfl (hb hby d_jdk_38_method_25_13)
  obtain ⟨T4, X4, e4, st4⟩ := getF X3 hx hZ hown (host := "") (Or.inl (hw _ (ow 61 rfl))) Via.refl e3 x2_F_a1_size (g := (mkF m 17 #[.val (.ref a1), .val (.ref a2)] [(.ref a1), (.ref w_D), (.ref a2), (.ref a1)])) rfl rfl (hb hby d_jdk_38_method_25_17)
  obtain ⟨cq5, q5, q5'⟩ := Exa.cell x2_E_a1
  obtain ⟨v5, _, ⟨T5, L5, k5, n5⟩, -, X5, ⟨Lc5, hQ5, l5, y5, z5⟩, st5⟩ := X4.privateBack hx (y := (⟨"java/util/ArrayList", "add", "(Ljava/lang/Object;[Ljava/lang/Object;I)V"⟩ : MethodName)) hown (mvT hZ (hw _ (ow 88 rfl))) (mvT hZ (hw _ (ow 89 rfl))) (mvT hZ (hw _ (ow 91 rfl))) (Cond.privateMethod_at (mvP hZ (hw _ (ow 90 rfl)) (args := #[]))) (mvT hZ (hw _ (ow 92 rfl))) (by decide) (backOf (W := 0) (rm_add3 l Z a0 hw [] a1 a2 h2 n0 w_ROWS w_RESULT w_PARTIAL_GROUPS w_MERGED_GROUPS w_D w_EL w_EE w_C w_EM w_M hK hn0 EX2 x2_E_a1 g_a1 x2_F_a1_modCount x2_F_a1_elementData x2_F_a1_size x2_E_a2) hZ (hw _ (ow 92 rfl)) (hw _ (ow 2 rfl)) (by decide) (by decide)) (g := (mkF m 20 #[.val (.ref a1), .val (.ref a2)] [(.int (0 : Int32)), (.ref w_D), (.ref a2), (.ref a1)])) rfl (by rw [hml]; rfl) (Steps.refl _) (a := a1) (by rw [e4]; exact q5) q5' (argsL := [(.ref a2), (.ref w_D), (.int (0 : Int32))]) (rest := []) (lenOf pd_8 rfl) rfl (Nat.le_of_eq rfl) (hb hby d_jdk_38_method_25_20) (fun _ _ => ⟨rfl, e4, (by decide : 0 + 1 ≤ _), (by decide : 0 + 10 ≤ _)⟩)
  dsimp only [Pt.U, Pt.locs, Pt.cells, Pt.slots] at X5 l5 y5 z5 st5 hQ5
  subst y5 z5
  obtain ⟨hv5, Nq5, Kq5, q5_0, q5_1, q5_2, q5_3⟩ := hQ5
  obtain rfl : v5 = none := hv5
  obtain ⟨ar5, ka5, sa5, fa5, aa5, ea5, oa5⟩ := q5_3
  have ne_a1_ar5 : a1 ≠ ar5 := Nat.ne_of_lt (Nat.lt_of_lt_of_le x2_E_a1.lt sa5)
  have sz_ar5 : h0.size ≤ ar5 := Nat.le_trans K2.1 sa5
  have g_ar5 : n0 ≤ ar5 := hn0 ▸ Nat.le_trans EX2.1 sa5
  have N5 : Fr n0 L5 := by rw [l5]; exact Fr.app N2 Nq5
  have x5_E_a1 := x2_E_a1.keep Kq5
  have x5_E_a2 := x2_E_a2.keep Kq5
  have EX5 := own_ext_keepL EX2 Kq5 (allS (hn0 ▸ g_a1) all0)
  have K5 := Keep.trans K2 Kq5 (allS (Or.inl (List.mem_of_getElem? (i := 0) rfl)) all0)
  have pre6 : ∀ t, Steps p.tables e below (T5.setTop (mkF m 24 #[.val (.ref a1), .val (.ref a2)] [(.int (1 : Int32))])) t → Steps p.tables e below (s₁.setTop (entryFrame m #[(.ref a1), (.ref a2)] 2)) t := fun t k => pre0 t (by
    show Steps p.tables e below (s₁.setTop (mkF m 0 #[.val (.ref a1), .val (.ref a2)] [])) _
    refine XS.aloadN X0.here hx rfl (hb hby d_jdk_38_method_25_0) rfl rfl ?_
    show Steps p.tables e below (s₁.setTop (mkF m 1 #[.val (.ref a1), .val (.ref a2)] [(.ref a1)])) _
    refine XS.dup X0.here hx rfl (hb hby d_jdk_38_method_25_1) rfl rfl ?_
    show Steps p.tables e below (s₁.setTop (mkF m 2 #[.val (.ref a1), .val (.ref a2)] [(.ref a1), (.ref a1)])) _
    refine st1 _ ?_
    show Steps p.tables e below (T1.setTop (mkF m 5 #[.val (.ref a1), .val (.ref a2)] [(.int (0 : Int32)), (.ref a1)])) _
    refine XS.iconst X1.here hx rfl (hb hby d_jdk_38_method_25_5) ?_
    show Steps p.tables e below (T1.setTop (mkF m 6 #[.val (.ref a1), .val (.ref a2)] [(.int (1 : Int32)), (.int (0 : Int32)), (.ref a1)])) _
    refine XS.iadd X1.here hx rfl (hb hby d_jdk_38_method_25_6) rfl ?_
    show Steps p.tables e below (T1.setTop (mkF m 7 #[.val (.ref a1), .val (.ref a2)] [(.int ((0 : Int32) + (1 : Int32))), (.ref a1)])) _
    rw [(show ((0 : Int32) + (1 : Int32)) = (1 : Int32) from by decide)]
    show Steps p.tables e below (T1.setTop (mkF m 7 #[.val (.ref a1), .val (.ref a2)] [(.int (1 : Int32)), (.ref a1)])) _
    refine st2 _ ?_
    show Steps p.tables e below (T2.setTop (mkF m 10 #[.val (.ref a1), .val (.ref a2)] [])) _
    refine XS.aloadN X2.here hx rfl (hb hby d_jdk_38_method_25_10) rfl rfl ?_
    show Steps p.tables e below (T2.setTop (mkF m 11 #[.val (.ref a1), .val (.ref a2)] [(.ref a1)])) _
    refine XS.aloadN X2.here hx rfl (hb hby d_jdk_38_method_25_11) rfl rfl ?_
    show Steps p.tables e below (T2.setTop (mkF m 12 #[.val (.ref a1), .val (.ref a2)] [(.ref a2), (.ref a1)])) _
    refine XS.aloadN X2.here hx rfl (hb hby d_jdk_38_method_25_12) rfl rfl ?_
    show Steps p.tables e below (T2.setTop (mkF m 13 #[.val (.ref a1), .val (.ref a2)] [(.ref a1), (.ref a2), (.ref a1)])) _
    refine st3 _ ?_
    show Steps p.tables e below (T3.setTop (mkF m 16 #[.val (.ref a1), .val (.ref a2)] [(.ref w_D), (.ref a2), (.ref a1)])) _
    refine XS.aloadN X3.here hx rfl (hb hby d_jdk_38_method_25_16) rfl rfl ?_
    show Steps p.tables e below (T3.setTop (mkF m 17 #[.val (.ref a1), .val (.ref a2)] [(.ref a1), (.ref w_D), (.ref a2), (.ref a1)])) _
    refine st4 _ ?_
    show Steps p.tables e below (T4.setTop (mkF m 20 #[.val (.ref a1), .val (.ref a2)] [(.int (0 : Int32)), (.ref w_D), (.ref a2), (.ref a1)])) _
    refine st5.trans ?_
    show Steps p.tables e below (T5.setTop (mkF m 23 #[.val (.ref a1), .val (.ref a2)] [])) _
    refine XS.iconst X5.here hx rfl (hb hby d_jdk_38_method_25_23) ?_
    exact k)
  obtain ⟨fs, hr, hrun, hended, hW, hsame⟩ := X5.leave (v := some (.int (1 : Int32))) (fun h => by rw [Bd.returns] at h; cases h)
  refine ⟨_, _, pre6 _ ?_, hrun, hended, _, _, rfl, ?_, ⟨_, rfl⟩, hW, hsame.mono (by decide) (by decide)⟩
  · show Steps p.tables e below (T5.setTop (mkF m 24 #[.val (.ref a1), .val (.ref a2)] [(.int (1 : Int32))])) _
    exact retN X5 hx (t := .boolean) Bd.returns (by simp) (hb hby d_jdk_38_method_25_24) hr
  · exact ⟨rfl, N5, by rw [show (T5.setFrames fs).heap = _ from (rfl : T5.heap = T5.heap)]; exact ⟨K5, q5_0, q5_1, q5_2, ⟨ar5, _, sz_ar5, fa5, aa5, ea5, oa5⟩⟩⟩
theorem d_jdk_29_method_69_0 : decode jdk_29_method_69_code 0 = .ok (.iload_n 0, 1) := by decide +kernel
theorem d_jdk_29_method_69_1 : decode jdk_29_method_69_code 1 = .ok (.iload_n 1, 1) := by decide +kernel
theorem d_jdk_29_method_69_2 : decode jdk_29_method_69_code 2 = .ok (.if_icmp .gt 7, 3) := by decide +kernel
theorem d_jdk_29_method_69_9 : decode jdk_29_method_69_code 9 = .ok (.iload_n 1, 1) := by decide +kernel
theorem d_jdk_29_method_69_10 : decode jdk_29_method_69_code 10 = .ok (.ireturn, 1) := by decide +kernel
theorem d_jdk_29_method_69_5 : decode jdk_29_method_69_code 5 = .ok (.iload_n 0, 1) := by decide +kernel
theorem d_jdk_29_method_69_6 : decode jdk_29_method_69_code 6 = .ok (.goto 4, 3) := by decide +kernel
theorem ef_min (m : MethodId) (x0 : Int32) (x1 : Int32) : entryFrame m #[(.int x0), (.int x1)] 2 = mkF m 0 #[.val (.int x0), .val (.int x1)] [] := by first | (simp [entryFrame, mkF, argsToLocals, Value.category]; done) | rfl
set_option maxRecDepth 65536 in
set_option maxHeartbeats 40000000 in
theorem rm_min (l : Launch) (Z : State) (a0 : Array Value) (hw : ∀ d ∈ tables_1, d.before a0 Z = true) (ws : List Jvm.Cond) (p0 : Int32) (p1 : Int32) (h0 : Heap) (n0 : Nat) :
    MetFree l (⟨"java/lang/Math", "min", "(II)I"⟩ : MethodName) (head1 (Jvm.Cond.code (⟨"java/lang/Math", "min", "(II)I"⟩ : MethodName) jdk_29_method_69_code 2 (some .int) :: ws) ({ frames := 0, cells := 0, slots := 0, locals := 0 } : Room)) (fun a U => a = #[(.int p0), (.int p1)] ∧ Z.Warmed39 U.vm ∧ U.heap = h0) (fun _ _ _ _ _ => True) (fun _ U o U' => ∃ v L, o = .returned v ∧ own_Q (some (.int (if p1 < p0 then p1 else p0))) h0 n0 v U'.heap L ∧ FrameEnd U o U' L ({ frames := 0, cells := 0, slots := 0, locals := 0 } : Room).cells ({ frames := 0, cells := 0, slots := 0, locals := 0 } : Room).slots) := by
  refine MetFree.of_bodySF (Jvm.Free.JP.mathPlain rfl (by decide +kernel)) hisR ?_
  intro p e s m args below meth c s₁ Bd hml0 hP hK0
  obtain ⟨rfl, hZ, hh⟩ := hP
  have hx := Bd.exec
  have hby := Bd.bytes
  have hml : c.maxLocals = 2 := hml0
  have hown : s.vm.findClass "java/lang/Math" = some m.cls := findClass_of_methodNamed Bd.named
  have hnm := (name_of_methodNamed Bd.named Bd.method).1
  have X0 : Stand p l e ({ frames := 0, cells := 0, slots := 0, locals := 0 } : Room) s m #[(.int p0), (.int p1)] below meth c s₁ [] 0 0 := Stand.of_body Bd
  have e0 : s₁.heap = h0 := by rw [← hh, Bd.state]; rfl
  have N0 := Fr.nil n0
  have pre0 : ∀ t, Steps p.tables e below (s₁.setTop (mkF m 0 #[.val (.int p0), .val (.int p1)] [])) t → Steps p.tables e below (s₁.setTop (entryFrame m #[(.int p0), (.int p1)] 2)) t := fun t k => castTop (ef_min m p0 p1) k
  have pre2 : ∀ t, Steps p.tables e below (s₁.setTop (mkF m 2 #[.val (.int p0), .val (.int p1)] [(.int p1), (.int p0)])) t → Steps p.tables e below (s₁.setTop (entryFrame m #[(.int p0), (.int p1)] 2)) t := fun t k => pre0 t (by
    show Steps p.tables e below (s₁.setTop (mkF m 0 #[.val (.int p0), .val (.int p1)] [])) _
    refine XS.iloadN X0.here hx rfl (hb hby d_jdk_29_method_69_0) rfl ?_
    show Steps p.tables e below (s₁.setTop (mkF m 1 #[.val (.int p0), .val (.int p1)] [(.int p0)])) _
    refine XS.iloadN X0.here hx rfl (hb hby d_jdk_29_method_69_1) rfl ?_
    exact k)
  by_cases hc2_1 : p1 < p0
  · have pre3 : ∀ t, Steps p.tables e below (s₁.setTop (mkF m 10 #[.val (.int p0), .val (.int p1)] [(.int p1)])) t → Steps p.tables e below (s₁.setTop (entryFrame m #[(.int p0), (.int p1)] 2)) t := fun t k => pre2 t (by
      show Steps p.tables e below (s₁.setTop (mkF m 2 #[.val (.int p0), .val (.int p1)] [(.int p1), (.int p0)])) _
      refine XS.icmpYes X0.here hx rfl (pc0 := 2) (pc' := 9) rfl (hb hby d_jdk_29_method_69_2) rfl (tlt hc2_1).2.2.1 (by decide) (by decide) ?_
      show Steps p.tables e below (s₁.setTop (mkF m 9 #[.val (.int p0), .val (.int p1)] [])) _
      refine XS.iloadN X0.here hx rfl (hb hby d_jdk_29_method_69_9) rfl ?_
      exact k)
    obtain ⟨fs, hr, hrun, hended, hW, hsame⟩ := X0.leave (v := some (.int p1)) (fun h => by rw [Bd.returns] at h; cases h)
    refine ⟨_, _, pre3 _ ?_, hrun, hended, _, _, rfl, ?_, ⟨_, rfl⟩, hW, hsame.mono (by decide) (by decide)⟩
    · show Steps p.tables e below (s₁.setTop (mkF m 10 #[.val (.int p0), .val (.int p1)] [(.int p1)])) _
      exact retI X0 hx Bd.returns (hb hby d_jdk_29_method_69_10) hr
    · exact ⟨congrArg (fun z => some (Value.int z)) (Eq.symm (if_pos hc2_1)), N0, e0⟩
  · have pre4 : ∀ t, Steps p.tables e below (s₁.setTop (mkF m 10 #[.val (.int p0), .val (.int p1)] [(.int p0)])) t → Steps p.tables e below (s₁.setTop (entryFrame m #[(.int p0), (.int p1)] 2)) t := fun t k => pre2 t (by
      show Steps p.tables e below (s₁.setTop (mkF m 2 #[.val (.int p0), .val (.int p1)] [(.int p1), (.int p0)])) _
      refine XS.icmpNo X0.here hx rfl (hb hby d_jdk_29_method_69_2) rfl (flt hc2_1).2.2.1 ?_
      show Steps p.tables e below (s₁.setTop (mkF m 5 #[.val (.int p0), .val (.int p1)] [])) _
      refine XS.iloadN X0.here hx rfl (hb hby d_jdk_29_method_69_5) rfl ?_
      show Steps p.tables e below (s₁.setTop (mkF m 6 #[.val (.int p0), .val (.int p1)] [(.int p0)])) _
      refine XS.goto X0.here hx rfl (pc0 := 6) (pc' := 10) rfl (hb hby d_jdk_29_method_69_6) (by decide) (by decide) ?_
      exact k)
    obtain ⟨fs, hr, hrun, hended, hW, hsame⟩ := X0.leave (v := some (.int p0)) (fun h => by rw [Bd.returns] at h; cases h)
    refine ⟨_, _, pre4 _ ?_, hrun, hended, _, _, rfl, ?_, ⟨_, rfl⟩, hW, hsame.mono (by decide) (by decide)⟩
    · show Steps p.tables e below (s₁.setTop (mkF m 10 #[.val (.int p0), .val (.int p1)] [(.int p0)])) _
      exact retI X0 hx Bd.returns (hb hby d_jdk_29_method_69_10) hr
    · exact ⟨congrArg (fun z => some (Value.int z)) (Eq.symm (if_neg hc2_1)), N0, e0⟩
theorem own_arv {Z : State} {h : Heap} {a : Addr} {k : ClassId} {C : String} {vs : List Value} {n : Int32} (F : own_ArrK Z h a k (.object C) vs) (hn : n.toNatClampNeg = vs.length) (h0 : ¬ n < 0) (hf : ∀ i, i < vs.length → fits (.object C) (vs.getD i .null) = true) : Arv Z h a k (.object C) n vs .null := by
  obtain ⟨c, A, q, e⟩ := F
  refine ⟨c, A, q, by rw [e, hn]; simp, h0, fun i hi => ?_, fun i hi => hf i (by rw [e] at hi; simpa using hi)⟩
  rw [e] at hi ⊢
  have hi' : i < vs.length := by simpa using hi
  simp [List.getD_eq_getElem?_getD, hi']
theorem own_unarv {Z : State} {h : Heap} {a : Addr} {k : ClassId} {ty : FieldType} {vs : List Value} {n : Int32} {d : Value} (F : Arv Z h a k ty n vs d) (hn : n.toNatClampNeg = vs.length) : own_ArrK Z h a k ty vs := by
  obtain ⟨c, A, q, S, -, H, -⟩ := F
  refine ⟨c, A, q, Array.ext_getElem? fun i => ?_⟩
  by_cases hi : i < c.slots.size
  · have hi' : i < vs.length := by rw [← hn, ← S]; exact hi
    rw [H i hi]; simp [List.getD_eq_getElem?_getD, hi']
  · have hi' : ¬ i < vs.length := by rw [← hn, ← S]; exact hi
    rw [Array.getElem?_eq_none (by omega), Array.getElem?_eq_none (by simp; omega)]
theorem own_gcls {p : Program} {l : Launch} {e : Env} {R : Room} {s : State} {m : MethodId} {args : Array Value} {below : List Frame} {meth : Method} {c : Code} {T : State} {locs : List Loc} {cells slots : Nat} {Z : State} {h : Heap} {a : Addr} (X : Stand p l e R s m args below meth c T locs cells slots) (hx : p.tables.exec = Jvm.exec) (hZ : Z.Warmed39 s.vm) {a0 : Array Value} {own : String} {index : Nat} (hown : s.vm.findClass own = some m.cls)
    (w1 : (Jvm.Cond.methodLink own index ⟨"java/lang/Object", "getClass", "()Ljava/lang/Class;"⟩).before a0 Z = true) (w2 : (Jvm.Cond.declares ⟨"java/lang/Object", "getClass", "()Ljava/lang/Class;"⟩).before a0 Z = true) (w3 : (Jvm.Cond.noSuperclass "java/lang/Object").before a0 Z = true) (w4 : (Jvm.Cond.selects "[Ljava/lang/Object;" ⟨"java/lang/Object", "getClass", "()Ljava/lang/Class;"⟩ ⟨"java/lang/Object", "getClass", "()Ljava/lang/Class;"⟩).before a0 Z = true)
    (w5 : (Jvm.Cond.instanceMethod ⟨"java/lang/Object", "getClass", "()Ljava/lang/Class;"⟩).before a0 Z = true) (w6 : (Jvm.Cond.native ⟨"java/lang/Object", "getClass", "()Ljava/lang/Class;"⟩).before a0 Z = true) (eT : T.heap = h) (E : Exa Z h a "[Ljava/lang/Object;") {mr : Addr} (M : own_M Z Z.heap mr)
    {g : JFrame} (hg : g.method = m) (hsize : g.locals.size = c.maxLocals) {rest : List Value} (hs : g.stack = .ref a :: rest) (hd : decode c.code g.pc = .ok (.invokevirtual index, 3)) (hf : 1 ≤ R.frames) (hl : 2 * g.monitorRoom + (rest.map fun v => v.category).sum + (nativeFrameWords "java/lang/Object" "getClass" 1 + 11) ≤ R.locals) :
    ∃ T', Stand p l e R s m args below meth c T' locs cells slots ∧ T'.heap = h ∧ ∀ target, Steps p.tables e below (T'.setTop { g with pc := g.pc + 3, stack := .ref mr :: rest }) target → Steps p.tables e below (T.setTop g) target := by
  obtain ⟨cB, kB, i1, i2, i3⟩ := isOf hZ eT E
  obtain ⟨cc, kc, m1, m2, m3⟩ := M
  have j1 := i1
  rw [hZ.alike.findClass] at j1
  cases j1.symm.trans m1
  obtain ⟨k', q, ek⟩ := hZ.alike.2.2 _ _ m2
  obtain ⟨vm', X', st⟩ := X.getClassOf hx hown (mvT hZ w1) (mvT hZ w2) (nf_top (args := #[]) (mvT hZ w3)) (mvT hZ w4) (mvT hZ w5) (mvT hZ w6) i1 i3 q (by rw [ek]; exact m3) hg hsize hs hd hf hl
  exact ⟨_, X', eT, st⟩
theorem own_ldcM {p : Program} {l : Launch} {e : Env} {R : Room} {s : State} {m : MethodId} {args : Array Value} {below : List Frame} {meth : Method} {c : Code} {T : State} {locs : List Loc} {cells slots : Nat} {Z : State} {h : Heap} (X : Stand p l e R s m args below meth c T locs cells slots) (hx : p.tables.exec = Jvm.exec) (hZ : Z.Warmed39 s.vm) {a0 : Array Value} {own : String} {index : Nat} (hown : s.vm.findClass own = some m.cls)
    (w1 : (Jvm.Cond.classLink own index "[Ljava/lang/Object;").before a0 Z = true) (eT : T.heap = h) {mr : Addr} (M : own_M Z Z.heap mr) {g : JFrame} (hg : g.method = m) (hd : decode c.code g.pc = .ok (.ldc index, 2)) :
    ∃ T', Stand p l e R s m args below meth c T' locs cells slots ∧ T'.heap = h ∧ ∀ target, Steps p.tables e below (T'.setTop { g with pc := g.pc + 2, stack := .ref mr :: g.stack }) target → Steps p.tables e below (T.setTop g) target := by
  obtain ⟨cc, kc, m1, m2, m3⟩ := M
  obtain ⟨k', q, ek⟩ := hZ.alike.2.2 _ _ m2
  have hm : k'.mirror = some mr := by rw [ek]; exact m3
  have hev : (Term.mirror "[Ljava/lang/Object;").eval args s none [] s = some (.ref mr) := by simp [Term.eval, hZ.alike.findClass, m1, q, hm]
  obtain ⟨vm', X', st⟩ := X.ldcMirror hx hown (mvT hZ w1) hev hg hd
  exact ⟨_, X', eT, st⟩
def own_Q_copy3 (Z : State) (a1 : Addr) (w_ROWS w_RESULT w_PARTIAL_GROUPS w_MERGED_GROUPS w_D w_EL w_EE w_C w_EM w_M : Addr) (el : Addr) (kel : ClassId) (h0 : Heap) (n0 : Nat) (v : Option Value) (h : Heap) (L : List Loc) : Prop := ∃ r : Addr, v = some (.ref r) ∧ h0.size ≤ r ∧ Fr n0 L ∧ Keep h0 h [] ∧ (∃ k, own_ArrK Z h r k (.object "java/lang/Object") [(.ref el)] ∧ Exa Z h r "[Ljava/lang/Object;" ∧ Ovr Z k "java/lang/Object") ∧ Exa Z h el "java/lang/Integer"
theorem d_jdk_65_method_120_0 : decode jdk_65_method_120_code 0 = .ok (.aload_n 2, 1) := by decide +kernel
theorem d_jdk_65_method_120_1 : decode jdk_65_method_120_code 1 = .ok (.ldc 110, 2) := by decide +kernel
theorem d_jdk_65_method_120_3 : decode jdk_65_method_120_code 3 = .ok (.if_acmp .ne 10, 3) := by decide +kernel
theorem d_jdk_65_method_120_6 : decode jdk_65_method_120_code 6 = .ok (.iload_n 1, 1) := by decide +kernel
theorem d_jdk_65_method_120_7 : decode jdk_65_method_120_code 7 = .ok (.anewarray 2, 3) := by decide +kernel
theorem d_jdk_65_method_120_10 : decode jdk_65_method_120_code 10 = .ok (.goto 14, 3) := by decide +kernel
theorem d_jdk_65_method_120_24 : decode jdk_65_method_120_code 24 = .ok (.astore_n 3, 1) := by decide +kernel
theorem d_jdk_65_method_120_25 : decode jdk_65_method_120_code 25 = .ok (.aload_n 0, 1) := by decide +kernel
theorem d_jdk_65_method_120_26 : decode jdk_65_method_120_code 26 = .ok (.iconst 0, 1) := by decide +kernel
theorem d_jdk_65_method_120_27 : decode jdk_65_method_120_code 27 = .ok (.aload_n 3, 1) := by decide +kernel
theorem d_jdk_65_method_120_28 : decode jdk_65_method_120_code 28 = .ok (.iconst 0, 1) := by decide +kernel
theorem d_jdk_65_method_120_29 : decode jdk_65_method_120_code 29 = .ok (.aload_n 0, 1) := by decide +kernel
theorem d_jdk_65_method_120_30 : decode jdk_65_method_120_code 30 = .ok (.arraylength, 1) := by decide +kernel
theorem d_jdk_65_method_120_31 : decode jdk_65_method_120_code 31 = .ok (.iload_n 1, 1) := by decide +kernel
theorem d_jdk_65_method_120_32 : decode jdk_65_method_120_code 32 = .ok (.invokestatic 304, 3) := by decide +kernel
theorem d_jdk_65_method_120_35 : decode jdk_65_method_120_code 35 = .ok (.invokestatic 150, 3) := by decide +kernel
theorem d_jdk_65_method_120_38 : decode jdk_65_method_120_code 38 = .ok (.aload_n 3, 1) := by decide +kernel
theorem d_jdk_65_method_120_39 : decode jdk_65_method_120_code 39 = .ok (.areturn, 1) := by decide +kernel
theorem pn_13 : plainName "java/util/Arrays" = true := by first | (simp [plainName, overriddenIn]; done) | decide +kernel
theorem ef_copy3 (m : MethodId) (x0 : Addr) (x1 : Int32) (x2 : Addr) : entryFrame m #[(.ref x0), (.int x1), (.ref x2)] 4 = mkF m 0 #[.val (.ref x0), .val (.int x1), .val (.ref x2), .unset] [] := by first | (simp [entryFrame, mkF, argsToLocals, Value.category]; done) | rfl
set_option maxRecDepth 65536 in
set_option maxHeartbeats 40000000 in
theorem rm_copy3 (l : Launch) (Z : State) (a0 : Array Value) (hw : ∀ d ∈ tables_1, d.before a0 Z = true) (ws : List Jvm.Cond) (a1 : Addr) (h0 : Heap) (n0 : Nat) (w_ROWS w_RESULT w_PARTIAL_GROUPS w_MERGED_GROUPS w_D w_EL w_EE w_C w_EM w_M : Addr) (hK : own_K Z Z.heap w_ROWS w_RESULT w_PARTIAL_GROUPS w_MERGED_GROUPS w_D w_EL w_EE w_C w_EM w_M) (hn0 : n0 = Z.heap.size) (EX0 : Ext Z.heap h0) (el : Addr) (kel : ClassId) (A_a1 : own_ArrK Z h0 a1 kel (.object "java/lang/Object") [(.ref el), .null, .null, .null, .null, .null, .null, .null, .null, .null]) (O_a1 : Ovr Z kel "java/lang/Object") (g_a1 : n0 ≤ a1) (E_a1 : Exa Z h0 a1 "[Ljava/lang/Object;") (E_el : Exa Z h0 el "java/lang/Integer") :
    MetFree l (⟨"java/util/Arrays", "copyOf", "([Ljava/lang/Object;ILjava/lang/Class;)[Ljava/lang/Object;"⟩ : MethodName) (head1 (Jvm.Cond.code (⟨"java/util/Arrays", "copyOf", "([Ljava/lang/Object;ILjava/lang/Class;)[Ljava/lang/Object;"⟩ : MethodName) jdk_65_method_120_code 4 (some (.array (.object "java/lang/Object"))) :: ws) ({ frames := 1, cells := 1, slots := 1, locals := 40 } : Room)) (fun a U => a = #[(.ref a1), (.int (1 : Int32)), (.ref w_M)] ∧ Z.Warmed39 U.vm ∧ U.heap = h0) (fun _ _ _ _ _ => True) (fun _ U o U' => ∃ v L, o = .returned v ∧ own_Q_copy3 Z a1 w_ROWS w_RESULT w_PARTIAL_GROUPS w_MERGED_GROUPS w_D w_EL w_EE w_C w_EM w_M el kel h0 n0 v U'.heap L ∧ FrameEnd U o U' L ({ frames := 1, cells := 1, slots := 1, locals := 40 } : Room).cells ({ frames := 1, cells := 1, slots := 1, locals := 40 } : Room).slots) := by
  refine MetFree.of_bodySF (plainFor_of_name pn_13) hisR ?_
  intro p e s m args below meth c s₁ Bd hml0 hP hK0
  obtain ⟨rfl, hZ, hh⟩ := hP
  have hx := Bd.exec
  have hby := Bd.bytes
  have hml : c.maxLocals = 4 := hml0
  have hown : s.vm.findClass "java/util/Arrays" = some m.cls := findClass_of_methodNamed Bd.named
  have hnm := (name_of_methodNamed Bd.named Bd.method).1
  have X0 : Stand p l e ({ frames := 1, cells := 1, slots := 1, locals := 40 } : Room) s m #[(.ref a1), (.int (1 : Int32)), (.ref w_M)] below meth c s₁ [] 0 0 := Stand.of_body Bd
  have e0 : s₁.heap = h0 := by rw [← hh, Bd.state]; rfl
  have N0 := Fr.nil n0
  have pre0 : ∀ t, Steps p.tables e below (s₁.setTop (mkF m 0 #[.val (.ref a1), .val (.int (1 : Int32)), .val (.ref w_M), .unset] [])) t → Steps p.tables e below (s₁.setTop (entryFrame m #[(.ref a1), (.int (1 : Int32)), (.ref w_M)] 4)) t := fun t k => castTop (ef_copy3 m a1 ((1 : Int32)) w_M) k
  have hK' := hK
  obtain ⟨S_w_ROWS, E_w_ROWS, F_ordinal_w_ROWS, S_w_RESULT, E_w_RESULT, F_ordinal_w_RESULT, S_w_PARTIAL_GROUPS, E_w_PARTIAL_GROUPS, F_ordinal_w_PARTIAL_GROUPS, S_w_MERGED_GROUPS, E_w_MERGED_GROUPS, F_ordinal_w_MERGED_GROUPS, S_w_D, B_w_D, S_w_EL, E_w_EL, F_elements_w_EL, B_w_EE, F_allowNulls_w_EL, S_high, S_w_C, C_w_C, S_w_EM, M_w_M⟩ := hK'
  obtain ⟨cl_w_D, A_w_D, q_w_D⟩ := B_w_D
  obtain ⟨cl_w_EE, A_w_EE, q_w_EE⟩ := B_w_EE
  obtain ⟨T1, X1, e1, st1⟩ := own_ldcM X0 hx hZ hown (hw _ (ow 139 rfl)) e0 M_w_M (g := (mkF m 1 #[.val (.ref a1), .val (.int (1 : Int32)), .val (.ref w_M), .unset] [(.ref w_M)])) rfl (hb hby d_jdk_65_method_120_1)
  obtain ⟨T2, h2, k2, X2, e2, Eq2, A2, Ea2, O2, st2⟩ := newRE X1 hx hZ hown (hw _ (ow 140 rfl)) (hw _ (ow 108 rfl)) e1 (g := (mkF m 7 #[.val (.ref a1), .val (.int (1 : Int32)), .val (.ref w_M), .unset] [(.int (1 : Int32))])) rfl (hb hby d_jdk_65_method_120_7) rfl (by decide) (cap := 1) (by decide) (by decide) (by decide) (by decide) (ad := "[Ljava/lang/Object;") (by decide)
  obtain ⟨b2, gb2⟩ : ∃ z, z = h0.size := ⟨_, rfl⟩
  rw [← gb2] at A2 Ea2 st2
  have ne_a1_b2 : a1 ≠ b2 := Nat.ne_of_lt (Nat.lt_of_lt_of_le E_a1.lt (Nat.le_of_eq gb2.symm))
  have sz_b2 : h0.size ≤ b2 := Nat.le_trans (Keep.refl h0 []).1 (Nat.le_of_eq gb2.symm)
  have g_b2 : n0 ≤ b2 := hn0 ▸ Nat.le_trans EX0.1 (Nat.le_of_eq gb2.symm)
  have x2_A_a1 := A_a1.ext Eq2
  have x2_E_a1 := E_a1.ext Eq2
  have x2_E_el := E_el.ext Eq2
  have EX2 := own_ext_trans EX0 Eq2
  have K2 := Keep.ext (Keep.refl h0 []) Eq2
  have B2 : own_ArrK Z h2 b2 k2 (.object "java/lang/Object") [.null] := ⟨_, A2, rfl, rfl⟩
  obtain ⟨cl3, Ar3, qk3, hs3⟩ := id x2_A_a1
  obtain ⟨v4, _, ⟨T4, L4, k4, n4⟩, -, X4, ⟨Lc4, hQ4, l4, y4, z4⟩, st4⟩ := Jvm.LawKit.callS X2 hx (y := (⟨"java/lang/Math", "min", "(II)I"⟩ : MethodName)) hown (mvT hZ (hw _ (ow 141 rfl))) (mvT hZ (hw _ (ow 142 rfl))) (mvT hZ (hw _ (ow 105 rfl))) (mvT hZ (hw _ (ow 143 rfl))) (by decide) (backOf (W := 4) (rm_min l Z a0 hw [] (10 : Int32) (1 : Int32) h2 n0) hZ (hw _ (ow 143 rfl)) (hw _ (ow 105 rfl)) (by decide) (by decide)) (g := (mkF m 32 #[.val (.ref a1), .val (.int (1 : Int32)), .val (.ref w_M), .val (.ref b2)] [(.int (1 : Int32)), (.int (10 : Int32)), (.int (0 : Int32)), (.ref b2), (.int (0 : Int32)), (.ref a1)])) rfl (by rw [hml]; rfl) (argsL := [(.int (10 : Int32)), (.int (1 : Int32))]) (rest := [(.int (0 : Int32)), (.ref b2), (.int (0 : Int32)), (.ref a1)]) (lenOf pd_5 rfl) rfl (Nat.le_of_eq rfl) (hb hby d_jdk_65_method_120_32) (fun _ _ => ⟨rfl, e2, (by decide : 1 + 0 ≤ _), (by decide : 1 + 0 ≤ _)⟩)
  dsimp only [Pt.U, Pt.locs, Pt.cells, Pt.slots] at X4 l4 y4 z4 st4 hQ4
  subst y4 z4
  obtain ⟨hv4, Nq4, e4⟩ := hQ4
  obtain rfl : v4 = some (.int (1 : Int32)) := hv4.trans (congrArg some (congrArg Value.int (if_pos (by decide))))
  have N4 : Fr n0 L4 := by rw [l4]; exact Fr.app N0 Nq4
  have Va5 : Arv Z h2 a1 kel (.object "java/lang/Object") (10 : Int32) [(.ref el), .null, .null, .null, .null, .null, .null, .null, .null, .null] .null := own_arv x2_A_a1 rfl (by decide) (fun i hi => by (iterate 10 (cases i with | zero => rfl | succ i => _)); exact absurd hi (by simp))
  have Vb5 : Arv Z h2 b2 k2 (.object "java/lang/Object") (1 : Int32) [.null] .null := own_arv B2 rfl (by decide) (fun i hi => by (iterate 1 (cases i with | zero => rfl | succ i => _)); exact absurd hi (by simp))
  obtain ⟨cl5, Ar5, qk5, hs5⟩ := id B2
  have sto5 : Sto Z h2 b2 (.ref el) := Sto.ofV Ar5 qk5 O2 (Ins.of_exa x2_E_el (hw _ (ow 109 rfl)))
  obtain ⟨T5, h5, Lx5, X5, e5, N5, Kq5, Vc5, st5⟩ := cpA X4 hx hZ hown (hw _ (ow 144 rfl)) (hw _ (ow 147 rfl)) (hw _ (ow 145 rfl)) (hw _ (ow 146 rfl)) e4 Va5 Vb5 (us := [.ref el]) (Or.inr ⟨rfl, rfl, sto5, trivial⟩) (sp := (0 : Int32)) (dp := (0 : Int32)) (nn := (1 : Int32)) (by decide) (by decide) (by decide) (by decide) (by decide) rfl (by decide) N4 g_b2 (g := (mkF m 35 #[.val (.ref a1), .val (.int (1 : Int32)), .val (.ref w_M), .val (.ref b2)] [(.int (1 : Int32)), (.int (0 : Int32)), (.ref b2), (.int (0 : Int32)), (.ref a1)])) rfl (by rw [hml]; rfl) rfl (hb hby d_jdk_65_method_120_35) (by decide) (W := 0) (Nat.le_of_eq rfl) (by decide)
  have x5_A_a1 := x2_A_a1.keep Kq5 (ninS ne_a1_b2 nin0)
  have x5_E_a1 := x2_E_a1.keep Kq5
  have x5_E_el := x2_E_el.keep Kq5
  have x5_E_b2 := Ea2.keep Kq5
  have EX5 := own_ext_keepL EX2 Kq5 (allS (hn0 ▸ g_b2) all0)
  have K5 := Keep.trans K2 Kq5 (allS (Or.inr sz_b2) all0)
  have Bc5 : own_ArrK Z h5 b2 k2 (.object "java/lang/Object") [.ref el] := own_unarv Vc5 rfl
  have pre6 : ∀ t, Steps p.tables e below (T5.setTop (mkF m 39 #[.val (.ref a1), .val (.int (1 : Int32)), .val (.ref w_M), .val (.ref b2)] [(.ref b2)])) t → Steps p.tables e below (s₁.setTop (entryFrame m #[(.ref a1), (.int (1 : Int32)), (.ref w_M)] 4)) t := fun t k => pre0 t (by
    show Steps p.tables e below (s₁.setTop (mkF m 0 #[.val (.ref a1), .val (.int (1 : Int32)), .val (.ref w_M), .unset] [])) _
    refine XS.aloadN X0.here hx rfl (hb hby d_jdk_65_method_120_0) rfl rfl ?_
    show Steps p.tables e below (s₁.setTop (mkF m 1 #[.val (.ref a1), .val (.int (1 : Int32)), .val (.ref w_M), .unset] [(.ref w_M)])) _
    refine st1 _ ?_
    show Steps p.tables e below (T1.setTop (mkF m 3 #[.val (.ref a1), .val (.int (1 : Int32)), .val (.ref w_M), .unset] [(.ref w_M), (.ref w_M)])) _
    refine Jvm.RoadKit.acmp (g := (mkF m 3 #[.val (.ref a1), .val (.int (1 : Int32)), .val (.ref w_M), .unset] [(.ref w_M), (.ref w_M)])) X1 hx rfl rfl rfl (pc0 := 3) (pc' := 6) (same := true) rfl (hb hby d_jdk_65_method_120_3) rfl (decide_eq_true rfl) (by decide) (by decide) ?_
    show Steps p.tables e below (T1.setTop (mkF m 6 #[.val (.ref a1), .val (.int (1 : Int32)), .val (.ref w_M), .unset] [])) _
    refine XS.iloadN X1.here hx rfl (hb hby d_jdk_65_method_120_6) rfl ?_
    show Steps p.tables e below (T1.setTop (mkF m 7 #[.val (.ref a1), .val (.int (1 : Int32)), .val (.ref w_M), .unset] [(.int (1 : Int32))])) _
    refine st2 _ ?_
    show Steps p.tables e below (T2.setTop (mkF m 10 #[.val (.ref a1), .val (.int (1 : Int32)), .val (.ref w_M), .unset] [(.ref b2)])) _
    refine XS.goto X2.here hx rfl (pc0 := 10) (pc' := 24) rfl (hb hby d_jdk_65_method_120_10) (by decide) (by decide) ?_
    show Steps p.tables e below (T2.setTop (mkF m 24 #[.val (.ref a1), .val (.int (1 : Int32)), .val (.ref w_M), .unset] [(.ref b2)])) _
    refine XS.astoreN X2.here hx rfl (hb hby d_jdk_65_method_120_24) rfl rfl (l' := #[.val (.ref a1), .val (.int (1 : Int32)), .val (.ref w_M), .val (.ref b2)]) rfl ?_
    show Steps p.tables e below (T2.setTop (mkF m 25 #[.val (.ref a1), .val (.int (1 : Int32)), .val (.ref w_M), .val (.ref b2)] [])) _
    refine XS.aloadN X2.here hx rfl (hb hby d_jdk_65_method_120_25) rfl rfl ?_
    show Steps p.tables e below (T2.setTop (mkF m 26 #[.val (.ref a1), .val (.int (1 : Int32)), .val (.ref w_M), .val (.ref b2)] [(.ref a1)])) _
    refine XS.iconst X2.here hx rfl (hb hby d_jdk_65_method_120_26) ?_
    show Steps p.tables e below (T2.setTop (mkF m 27 #[.val (.ref a1), .val (.int (1 : Int32)), .val (.ref w_M), .val (.ref b2)] [(.int (0 : Int32)), (.ref a1)])) _
    refine XS.aloadN X2.here hx rfl (hb hby d_jdk_65_method_120_27) rfl rfl ?_
    show Steps p.tables e below (T2.setTop (mkF m 28 #[.val (.ref a1), .val (.int (1 : Int32)), .val (.ref w_M), .val (.ref b2)] [(.ref b2), (.int (0 : Int32)), (.ref a1)])) _
    refine XS.iconst X2.here hx rfl (hb hby d_jdk_65_method_120_28) ?_
    show Steps p.tables e below (T2.setTop (mkF m 29 #[.val (.ref a1), .val (.int (1 : Int32)), .val (.ref w_M), .val (.ref b2)] [(.int (0 : Int32)), (.ref b2), (.int (0 : Int32)), (.ref a1)])) _
    refine XS.aloadN X2.here hx rfl (hb hby d_jdk_65_method_120_29) rfl rfl ?_
    show Steps p.tables e below (T2.setTop (mkF m 30 #[.val (.ref a1), .val (.int (1 : Int32)), .val (.ref w_M), .val (.ref b2)] [(.ref a1), (.int (0 : Int32)), (.ref b2), (.int (0 : Int32)), (.ref a1)])) _
    refine X2.arraylength hx (by rw [e2]; exact Ar3.1) (State.isArrayOf_alike hZ.alike Ar3.2.1) (g := (mkF m 30 #[.val (.ref a1), .val (.int (1 : Int32)), .val (.ref w_M), .val (.ref b2)] [(.ref a1), (.int (0 : Int32)), (.ref b2), (.int (0 : Int32)), (.ref a1)])) rfl rfl (hb hby d_jdk_65_method_120_30) _ ?_
    rw [hs3]
    show Steps p.tables e below (T2.setTop (mkF m 31 #[.val (.ref a1), .val (.int (1 : Int32)), .val (.ref w_M), .val (.ref b2)] [(.int (10 : Int32)), (.int (0 : Int32)), (.ref b2), (.int (0 : Int32)), (.ref a1)])) _
    refine XS.iloadN X2.here hx rfl (hb hby d_jdk_65_method_120_31) rfl ?_
    show Steps p.tables e below (T2.setTop (mkF m 32 #[.val (.ref a1), .val (.int (1 : Int32)), .val (.ref w_M), .val (.ref b2)] [(.int (1 : Int32)), (.int (10 : Int32)), (.int (0 : Int32)), (.ref b2), (.int (0 : Int32)), (.ref a1)])) _
    refine st4 _ ?_
    show Steps p.tables e below (T4.setTop (mkF m 35 #[.val (.ref a1), .val (.int (1 : Int32)), .val (.ref w_M), .val (.ref b2)] [(.int (1 : Int32)), (.int (0 : Int32)), (.ref b2), (.int (0 : Int32)), (.ref a1)])) _
    refine st5 _ ?_
    show Steps p.tables e below (T5.setTop (mkF m 38 #[.val (.ref a1), .val (.int (1 : Int32)), .val (.ref w_M), .val (.ref b2)] [])) _
    refine XS.aloadN X5.here hx rfl (hb hby d_jdk_65_method_120_38) rfl rfl ?_
    exact k)
  obtain ⟨fs, hr, hrun, hended, hW, hsame⟩ := X5.leave (v := some (.ref b2)) (fun h => by rw [Bd.returns] at h; cases h)
  refine ⟨_, _, pre6 _ ?_, hrun, hended, _, _, rfl, ?_, ⟨_, rfl⟩, hW, hsame.mono (by decide) (by decide)⟩
  · show Steps p.tables e below (T5.setTop (mkF m 39 #[.val (.ref a1), .val (.int (1 : Int32)), .val (.ref w_M), .val (.ref b2)] [(.ref b2)])) _
    exact retOut X5 hx Bd.returns rfl (Or.inr (Or.inr (Or.inr (Or.inr ⟨rfl, rfl, rfl⟩)))) (hb hby d_jdk_65_method_120_39) hr
  · exact ⟨b2, rfl, sz_b2, N5, by rw [show (T5.setFrames fs).heap = _ from e5]; exact ⟨K5, ⟨_, Bc5, x5_E_b2, O2⟩, x5_E_el⟩⟩
def own_Q_copy2 (Z : State) (a1 : Addr) (w_ROWS w_RESULT w_PARTIAL_GROUPS w_MERGED_GROUPS w_D w_EL w_EE w_C w_EM w_M : Addr) (el : Addr) (kel : ClassId) (h0 : Heap) (n0 : Nat) (v : Option Value) (h : Heap) (L : List Loc) : Prop := ∃ r : Addr, v = some (.ref r) ∧ h0.size ≤ r ∧ Fr n0 L ∧ Keep h0 h [] ∧ (∃ k, own_ArrK Z h r k (.object "java/lang/Object") [(.ref el)] ∧ Exa Z h r "[Ljava/lang/Object;" ∧ Ovr Z k "java/lang/Object") ∧ Exa Z h el "java/lang/Integer"
theorem d_jdk_65_method_119_0 : decode jdk_65_method_119_code 0 = .ok (.aload_n 0, 1) := by decide +kernel
theorem d_jdk_65_method_119_1 : decode jdk_65_method_119_code 1 = .ok (.iload_n 1, 1) := by decide +kernel
theorem d_jdk_65_method_119_2 : decode jdk_65_method_119_code 2 = .ok (.aload_n 0, 1) := by decide +kernel
theorem d_jdk_65_method_119_3 : decode jdk_65_method_119_code 3 = .ok (.invokevirtual 86, 3) := by decide +kernel
theorem d_jdk_65_method_119_6 : decode jdk_65_method_119_code 6 = .ok (.invokestatic 300, 3) := by decide +kernel
theorem pd_9 : parseMethodDescriptor "([Ljava/lang/Object;ILjava/lang/Class;)[Ljava/lang/Object;" = some ⟨[(.array (.object "java/lang/Object")), .int, (.object "java/lang/Class")], some (.array (.object "java/lang/Object"))⟩ := by decide +kernel
theorem d_jdk_65_method_119_9 : decode jdk_65_method_119_code 9 = .ok (.areturn, 1) := by decide +kernel
theorem ef_copy2 (m : MethodId) (x0 : Addr) (x1 : Int32) : entryFrame m #[(.ref x0), (.int x1)] 2 = mkF m 0 #[.val (.ref x0), .val (.int x1)] [] := by first | (simp [entryFrame, mkF, argsToLocals, Value.category]; done) | rfl
set_option maxRecDepth 65536 in
set_option maxHeartbeats 40000000 in
theorem rm_copy2 (l : Launch) (Z : State) (a0 : Array Value) (hw : ∀ d ∈ tables_1, d.before a0 Z = true) (ws : List Jvm.Cond) (a1 : Addr) (h0 : Heap) (n0 : Nat) (w_ROWS w_RESULT w_PARTIAL_GROUPS w_MERGED_GROUPS w_D w_EL w_EE w_C w_EM w_M : Addr) (hK : own_K Z Z.heap w_ROWS w_RESULT w_PARTIAL_GROUPS w_MERGED_GROUPS w_D w_EL w_EE w_C w_EM w_M) (hn0 : n0 = Z.heap.size) (EX0 : Ext Z.heap h0) (el : Addr) (kel : ClassId) (A_a1 : own_ArrK Z h0 a1 kel (.object "java/lang/Object") [(.ref el), .null, .null, .null, .null, .null, .null, .null, .null, .null]) (O_a1 : Ovr Z kel "java/lang/Object") (g_a1 : n0 ≤ a1) (E_a1 : Exa Z h0 a1 "[Ljava/lang/Object;") (E_el : Exa Z h0 el "java/lang/Integer") :
    MetFree l (⟨"java/util/Arrays", "copyOf", "([Ljava/lang/Object;I)[Ljava/lang/Object;"⟩ : MethodName) (head1 (Jvm.Cond.code (⟨"java/util/Arrays", "copyOf", "([Ljava/lang/Object;I)[Ljava/lang/Object;"⟩ : MethodName) jdk_65_method_119_code 2 (some (.array (.object "java/lang/Object"))) :: ws) ({ frames := 2, cells := 1, slots := 1, locals := 55 } : Room)) (fun a U => a = #[(.ref a1), (.int (1 : Int32))] ∧ Z.Warmed39 U.vm ∧ U.heap = h0) (fun _ _ _ _ _ => True) (fun _ U o U' => ∃ v L, o = .returned v ∧ own_Q_copy2 Z a1 w_ROWS w_RESULT w_PARTIAL_GROUPS w_MERGED_GROUPS w_D w_EL w_EE w_C w_EM w_M el kel h0 n0 v U'.heap L ∧ FrameEnd U o U' L ({ frames := 2, cells := 1, slots := 1, locals := 55 } : Room).cells ({ frames := 2, cells := 1, slots := 1, locals := 55 } : Room).slots) := by
  refine MetFree.of_bodySF (plainFor_of_name pn_13) hisR ?_
  intro p e s m args below meth c s₁ Bd hml0 hP hK0
  obtain ⟨rfl, hZ, hh⟩ := hP
  have hx := Bd.exec
  have hby := Bd.bytes
  have hml : c.maxLocals = 2 := hml0
  have hown : s.vm.findClass "java/util/Arrays" = some m.cls := findClass_of_methodNamed Bd.named
  have hnm := (name_of_methodNamed Bd.named Bd.method).1
  have X0 : Stand p l e ({ frames := 2, cells := 1, slots := 1, locals := 55 } : Room) s m #[(.ref a1), (.int (1 : Int32))] below meth c s₁ [] 0 0 := Stand.of_body Bd
  have e0 : s₁.heap = h0 := by rw [← hh, Bd.state]; rfl
  have N0 := Fr.nil n0
  have pre0 : ∀ t, Steps p.tables e below (s₁.setTop (mkF m 0 #[.val (.ref a1), .val (.int (1 : Int32))] [])) t → Steps p.tables e below (s₁.setTop (entryFrame m #[(.ref a1), (.int (1 : Int32))] 2)) t := fun t k => castTop (ef_copy2 m a1 ((1 : Int32))) k
  have hK' := hK
  obtain ⟨S_w_ROWS, E_w_ROWS, F_ordinal_w_ROWS, S_w_RESULT, E_w_RESULT, F_ordinal_w_RESULT, S_w_PARTIAL_GROUPS, E_w_PARTIAL_GROUPS, F_ordinal_w_PARTIAL_GROUPS, S_w_MERGED_GROUPS, E_w_MERGED_GROUPS, F_ordinal_w_MERGED_GROUPS, S_w_D, B_w_D, S_w_EL, E_w_EL, F_elements_w_EL, B_w_EE, F_allowNulls_w_EL, S_high, S_w_C, C_w_C, S_w_EM, M_w_M⟩ := hK'
  obtain ⟨cl_w_D, A_w_D, q_w_D⟩ := B_w_D
  obtain ⟨cl_w_EE, A_w_EE, q_w_EE⟩ := B_w_EE
  obtain ⟨T1, X1, e1, st1⟩ := own_gcls X0 hx hZ hown (hw _ (ow 130 rfl)) (hw _ (ow 131 rfl)) (hw _ (ow 50 rfl)) (hw _ (ow 133 rfl)) (hw _ (ow 132 rfl)) (hw _ (ow 134 rfl)) e0 E_a1 M_w_M (g := (mkF m 3 #[.val (.ref a1), .val (.int (1 : Int32))] [(.ref a1), (.int (1 : Int32)), (.ref a1)])) rfl (by rw [hml]; rfl) rfl (hb hby d_jdk_65_method_119_3) (by decide) (by show 2 * 0 + 2 + (nativeFrameWords "java/lang/Object" "getClass" 1 + 11) ≤ _; decide)
  obtain ⟨v2, _, ⟨T2, L2, k2, n2⟩, -, X2, ⟨Lc2, hQ2, l2, y2, z2⟩, st2⟩ := Jvm.LawKit.callS X1 hx (y := (⟨"java/util/Arrays", "copyOf", "([Ljava/lang/Object;ILjava/lang/Class;)[Ljava/lang/Object;"⟩ : MethodName)) hown (mvT hZ (hw _ (ow 136 rfl))) (mvT hZ (hw _ (ow 137 rfl))) (mvT hZ (hw _ (ow 128 rfl))) (mvT hZ (hw _ (ow 138 rfl))) (by decide) (backOf (W := 0) (rm_copy3 l Z a0 hw [] a1 h0 n0 w_ROWS w_RESULT w_PARTIAL_GROUPS w_MERGED_GROUPS w_D w_EL w_EE w_C w_EM w_M hK hn0 EX0 el kel A_a1 O_a1 g_a1 E_a1 E_el) hZ (hw _ (ow 138 rfl)) (hw _ (ow 128 rfl)) (by decide) (by decide)) (g := (mkF m 6 #[.val (.ref a1), .val (.int (1 : Int32))] [(.ref w_M), (.int (1 : Int32)), (.ref a1)])) rfl (by rw [hml]; rfl) (argsL := [(.ref a1), (.int (1 : Int32)), (.ref w_M)]) (rest := []) (lenOf pd_9 rfl) rfl (Nat.le_of_eq rfl) (hb hby d_jdk_65_method_119_6) (fun _ _ => ⟨rfl, e1, (by decide : 0 + 1 ≤ _), (by decide : 0 + 1 ≤ _)⟩)
  dsimp only [Pt.U, Pt.locs, Pt.cells, Pt.slots] at X2 l2 y2 z2 st2 hQ2
  subst y2 z2
  obtain ⟨r2, hv2, sy2, Nq2, Kq2, q2_0, q2_1⟩ := hQ2
  obtain rfl : v2 = some (.ref r2) := hv2
  have ne_a1_r2 : a1 ≠ r2 := Nat.ne_of_lt (Nat.lt_of_lt_of_le E_a1.lt sy2)
  have sz_r2 : h0.size ≤ r2 := Nat.le_trans (Keep.refl h0 []).1 sy2
  have g_r2 : n0 ≤ r2 := hn0 ▸ Nat.le_trans EX0.1 sy2
  have N2 : Fr n0 L2 := by rw [l2]; exact Fr.app N0 Nq2
  have x2_A_a1 := A_a1.keep Kq2 nin0
  have x2_E_a1 := E_a1.keep Kq2
  have x2_E_el := E_el.keep Kq2
  have EX2 := own_ext_keepL EX0 Kq2 all0
  have K2 := Keep.trans (Keep.refl h0 []) Kq2 all0
  obtain ⟨ka_r2, Aa_r2, Ea_r2, Oa_r2⟩ := q2_0
  have pre3 : ∀ t, Steps p.tables e below (T2.setTop (mkF m 9 #[.val (.ref a1), .val (.int (1 : Int32))] [(.ref r2)])) t → Steps p.tables e below (s₁.setTop (entryFrame m #[(.ref a1), (.int (1 : Int32))] 2)) t := fun t k => pre0 t (by
    show Steps p.tables e below (s₁.setTop (mkF m 0 #[.val (.ref a1), .val (.int (1 : Int32))] [])) _
    refine XS.aloadN X0.here hx rfl (hb hby d_jdk_65_method_119_0) rfl rfl ?_
    show Steps p.tables e below (s₁.setTop (mkF m 1 #[.val (.ref a1), .val (.int (1 : Int32))] [(.ref a1)])) _
    refine XS.iloadN X0.here hx rfl (hb hby d_jdk_65_method_119_1) rfl ?_
    show Steps p.tables e below (s₁.setTop (mkF m 2 #[.val (.ref a1), .val (.int (1 : Int32))] [(.int (1 : Int32)), (.ref a1)])) _
    refine XS.aloadN X0.here hx rfl (hb hby d_jdk_65_method_119_2) rfl rfl ?_
    show Steps p.tables e below (s₁.setTop (mkF m 3 #[.val (.ref a1), .val (.int (1 : Int32))] [(.ref a1), (.int (1 : Int32)), (.ref a1)])) _
    refine st1 _ ?_
    show Steps p.tables e below (T1.setTop (mkF m 6 #[.val (.ref a1), .val (.int (1 : Int32))] [(.ref w_M), (.int (1 : Int32)), (.ref a1)])) _
    refine st2 _ ?_
    exact k)
  obtain ⟨fs, hr, hrun, hended, hW, hsame⟩ := X2.leave (v := some (.ref r2)) (fun h => by rw [Bd.returns] at h; cases h)
  refine ⟨_, _, pre3 _ ?_, hrun, hended, _, _, rfl, ?_, ⟨_, rfl⟩, hW, hsame.mono (by decide) (by decide)⟩
  · show Steps p.tables e below (T2.setTop (mkF m 9 #[.val (.ref a1), .val (.int (1 : Int32))] [(.ref r2)])) _
    exact retOut X2 hx Bd.returns rfl (Or.inr (Or.inr (Or.inr (Or.inr ⟨rfl, rfl, rfl⟩)))) (hb hby d_jdk_65_method_119_9) hr
  · exact ⟨r2, rfl, sz_r2, N2, by rw [show (T2.setFrames fs).heap = _ from (rfl : T2.heap = T2.heap)]; exact ⟨K2, ⟨_, Aa_r2, Ea_r2, Oa_r2⟩, q2_1⟩⟩
def own_Q_toArr (Z : State) (a1 : Addr) (w_ROWS w_RESULT w_PARTIAL_GROUPS w_MERGED_GROUPS w_D w_EL w_EE w_C w_EM w_M : Addr) (ar el : Addr) (kel : ClassId) (h0 : Heap) (n0 : Nat) (v : Option Value) (h : Heap) (L : List Loc) : Prop := ∃ r : Addr, v = some (.ref r) ∧ h0.size ≤ r ∧ Fr n0 L ∧ Keep h0 h [] ∧ (∃ k, own_ArrK Z h r k (.object "java/lang/Object") [(.ref el)] ∧ Exa Z h r "[Ljava/lang/Object;" ∧ Ovr Z k "java/lang/Object") ∧ Exa Z h el "java/lang/Integer"
theorem d_jdk_38_method_16_0 : decode jdk_38_method_16_code 0 = .ok (.aload_n 0, 1) := by decide +kernel
theorem d_jdk_38_method_16_1 : decode jdk_38_method_16_code 1 = .ok (.getfield 9, 3) := by decide +kernel
theorem d_jdk_38_method_16_4 : decode jdk_38_method_16_code 4 = .ok (.aload_n 0, 1) := by decide +kernel
theorem d_jdk_38_method_16_5 : decode jdk_38_method_16_code 5 = .ok (.getfield 48, 3) := by decide +kernel
theorem d_jdk_38_method_16_8 : decode jdk_38_method_16_code 8 = .ok (.invokestatic 66, 3) := by decide +kernel
theorem pd_10 : parseMethodDescriptor "([Ljava/lang/Object;I)[Ljava/lang/Object;" = some ⟨[(.array (.object "java/lang/Object")), .int], some (.array (.object "java/lang/Object"))⟩ := by decide +kernel
theorem d_jdk_38_method_16_11 : decode jdk_38_method_16_code 11 = .ok (.areturn, 1) := by decide +kernel
theorem ef_toArr (m : MethodId) (x0 : Addr) : entryFrame m #[(.ref x0)] 1 = mkF m 0 #[.val (.ref x0)] [] := by first | (simp [entryFrame, mkF, argsToLocals, Value.category]; done) | rfl
set_option maxRecDepth 65536 in
set_option maxHeartbeats 40000000 in
theorem rm_toArr (l : Launch) (Z : State) (a0 : Array Value) (hw : ∀ d ∈ tables_1, d.before a0 Z = true) (ws : List Jvm.Cond) (a1 : Addr) (h0 : Heap) (n0 : Nat) (w_ROWS w_RESULT w_PARTIAL_GROUPS w_MERGED_GROUPS w_D w_EL w_EE w_C w_EM w_M : Addr) (hK : own_K Z Z.heap w_ROWS w_RESULT w_PARTIAL_GROUPS w_MERGED_GROUPS w_D w_EL w_EE w_C w_EM w_M) (hn0 : n0 = Z.heap.size) (EX0 : Ext Z.heap h0) (ar el : Addr) (kel : ClassId) (E_a1 : Exa Z h0 a1 "java/util/ArrayList") (g_a1 : n0 ≤ a1) (F_elementData_a1 : Fld Z h0 a1 "java/util/ArrayList" "elementData" "[Ljava/lang/Object;" (.ref ar)) (F_size_a1 : Fld Z h0 a1 "java/util/ArrayList" "size" "I" (.int (1 : Int32))) (A_ar : own_ArrK Z h0 ar kel (.object "java/lang/Object") [(.ref el), .null, .null, .null, .null, .null, .null, .null, .null, .null]) (O_ar : Ovr Z kel "java/lang/Object") (g_ar : n0 ≤ ar) (E_ar : Exa Z h0 ar "[Ljava/lang/Object;") (E_el : Exa Z h0 el "java/lang/Integer") :
    MetFree l (⟨"java/util/ArrayList", "toArray", "()[Ljava/lang/Object;"⟩ : MethodName) (head1 (Jvm.Cond.code (⟨"java/util/ArrayList", "toArray", "()[Ljava/lang/Object;"⟩ : MethodName) jdk_38_method_16_code 1 (some (.array (.object "java/lang/Object"))) :: ws) ({ frames := 3, cells := 1, slots := 1, locals := 68 } : Room)) (fun a U => a = #[(.ref a1)] ∧ Z.Warmed39 U.vm ∧ U.heap = h0) (fun _ _ _ _ _ => True) (fun _ U o U' => ∃ v L, o = .returned v ∧ own_Q_toArr Z a1 w_ROWS w_RESULT w_PARTIAL_GROUPS w_MERGED_GROUPS w_D w_EL w_EE w_C w_EM w_M ar el kel h0 n0 v U'.heap L ∧ FrameEnd U o U' L ({ frames := 3, cells := 1, slots := 1, locals := 68 } : Room).cells ({ frames := 3, cells := 1, slots := 1, locals := 68 } : Room).slots) := by
  refine MetFree.of_bodySF (plainFor_of_name pn_6) hisR ?_
  intro p e s m args below meth c s₁ Bd hml0 hP hK0
  obtain ⟨rfl, hZ, hh⟩ := hP
  have hx := Bd.exec
  have hby := Bd.bytes
  have hml : c.maxLocals = 1 := hml0
  have hown : s.vm.findClass "java/util/ArrayList" = some m.cls := findClass_of_methodNamed Bd.named
  have hnm := (name_of_methodNamed Bd.named Bd.method).1
  have X0 : Stand p l e ({ frames := 3, cells := 1, slots := 1, locals := 68 } : Room) s m #[(.ref a1)] below meth c s₁ [] 0 0 := Stand.of_body Bd
  have e0 : s₁.heap = h0 := by rw [← hh, Bd.state]; rfl
  have N0 := Fr.nil n0
  have pre0 : ∀ t, Steps p.tables e below (s₁.setTop (mkF m 0 #[.val (.ref a1)] [])) t → Steps p.tables e below (s₁.setTop (entryFrame m #[(.ref a1)] 1)) t := fun t k => castTop (ef_toArr m a1) k
  have hK' := hK
  obtain ⟨S_w_ROWS, E_w_ROWS, F_ordinal_w_ROWS, S_w_RESULT, E_w_RESULT, F_ordinal_w_RESULT, S_w_PARTIAL_GROUPS, E_w_PARTIAL_GROUPS, F_ordinal_w_PARTIAL_GROUPS, S_w_MERGED_GROUPS, E_w_MERGED_GROUPS, F_ordinal_w_MERGED_GROUPS, S_w_D, B_w_D, S_w_EL, E_w_EL, F_elements_w_EL, B_w_EE, F_allowNulls_w_EL, S_high, S_w_C, C_w_C, S_w_EM, M_w_M⟩ := hK'
  obtain ⟨cl_w_D, A_w_D, q_w_D⟩ := B_w_D
  obtain ⟨cl_w_EE, A_w_EE, q_w_EE⟩ := B_w_EE
  obtain ⟨T1, X1, e1, st1⟩ := getF X0 hx hZ hown (host := "") (Or.inl (hw _ (ow 24 rfl))) Via.refl e0 F_elementData_a1 (g := (mkF m 1 #[.val (.ref a1)] [(.ref a1)])) rfl rfl (hb hby d_jdk_38_method_16_1)
  obtain ⟨T2, X2, e2, st2⟩ := getF X1 hx hZ hown (host := "") (Or.inl (hw _ (ow 61 rfl))) Via.refl e1 F_size_a1 (g := (mkF m 5 #[.val (.ref a1)] [(.ref a1), (.ref ar)])) rfl rfl (hb hby d_jdk_38_method_16_5)
  obtain ⟨v3, _, ⟨T3, L3, k3, n3⟩, -, X3, ⟨Lc3, hQ3, l3, y3, z3⟩, st3⟩ := Jvm.LawKit.callS X2 hx (y := (⟨"java/util/Arrays", "copyOf", "([Ljava/lang/Object;I)[Ljava/lang/Object;"⟩ : MethodName)) hown (mvT hZ (hw _ (ow 126 rfl))) (mvT hZ (hw _ (ow 127 rfl))) (mvT hZ (hw _ (ow 128 rfl))) (mvT hZ (hw _ (ow 129 rfl))) (by decide) (backOf (W := 0) (rm_copy2 l Z a0 hw [] ar h0 n0 w_ROWS w_RESULT w_PARTIAL_GROUPS w_MERGED_GROUPS w_D w_EL w_EE w_C w_EM w_M hK hn0 EX0 el kel A_ar O_ar g_ar E_ar E_el) hZ (hw _ (ow 129 rfl)) (hw _ (ow 128 rfl)) (by decide) (by decide)) (g := (mkF m 8 #[.val (.ref a1)] [(.int (1 : Int32)), (.ref ar)])) rfl (by rw [hml]; rfl) (argsL := [(.ref ar), (.int (1 : Int32))]) (rest := []) (lenOf pd_10 rfl) rfl (Nat.le_of_eq rfl) (hb hby d_jdk_38_method_16_8) (fun _ _ => ⟨rfl, e2, (by decide : 0 + 1 ≤ _), (by decide : 0 + 1 ≤ _)⟩)
  dsimp only [Pt.U, Pt.locs, Pt.cells, Pt.slots] at X3 l3 y3 z3 st3 hQ3
  subst y3 z3
  obtain ⟨r3, hv3, sy3, Nq3, Kq3, q3_0, q3_1⟩ := hQ3
  obtain rfl : v3 = some (.ref r3) := hv3
  have ne_a1_r3 : a1 ≠ r3 := Nat.ne_of_lt (Nat.lt_of_lt_of_le E_a1.lt sy3)
  have ne_ar_r3 : ar ≠ r3 := Nat.ne_of_lt (Nat.lt_of_lt_of_le E_ar.lt sy3)
  have sz_r3 : h0.size ≤ r3 := Nat.le_trans (Keep.refl h0 []).1 sy3
  have g_r3 : n0 ≤ r3 := hn0 ▸ Nat.le_trans EX0.1 sy3
  have N3 : Fr n0 L3 := by rw [l3]; exact Fr.app N0 Nq3
  have x3_E_a1 := E_a1.keep Kq3
  have x3_F_a1_elementData := F_elementData_a1.keep Kq3 nin0
  have x3_F_a1_size := F_size_a1.keep Kq3 nin0
  have x3_A_ar := A_ar.keep Kq3 nin0
  have x3_E_ar := E_ar.keep Kq3
  have x3_E_el := E_el.keep Kq3
  have EX3 := own_ext_keepL EX0 Kq3 all0
  have K3 := Keep.trans (Keep.refl h0 []) Kq3 all0
  obtain ⟨ka_r3, Aa_r3, Ea_r3, Oa_r3⟩ := q3_0
  have pre4 : ∀ t, Steps p.tables e below (T3.setTop (mkF m 11 #[.val (.ref a1)] [(.ref r3)])) t → Steps p.tables e below (s₁.setTop (entryFrame m #[(.ref a1)] 1)) t := fun t k => pre0 t (by
    show Steps p.tables e below (s₁.setTop (mkF m 0 #[.val (.ref a1)] [])) _
    refine XS.aloadN X0.here hx rfl (hb hby d_jdk_38_method_16_0) rfl rfl ?_
    show Steps p.tables e below (s₁.setTop (mkF m 1 #[.val (.ref a1)] [(.ref a1)])) _
    refine st1 _ ?_
    show Steps p.tables e below (T1.setTop (mkF m 4 #[.val (.ref a1)] [(.ref ar)])) _
    refine XS.aloadN X1.here hx rfl (hb hby d_jdk_38_method_16_4) rfl rfl ?_
    show Steps p.tables e below (T1.setTop (mkF m 5 #[.val (.ref a1)] [(.ref a1), (.ref ar)])) _
    refine st2 _ ?_
    show Steps p.tables e below (T2.setTop (mkF m 8 #[.val (.ref a1)] [(.int (1 : Int32)), (.ref ar)])) _
    refine st3 _ ?_
    exact k)
  obtain ⟨fs, hr, hrun, hended, hW, hsame⟩ := X3.leave (v := some (.ref r3)) (fun h => by rw [Bd.returns] at h; cases h)
  refine ⟨_, _, pre4 _ ?_, hrun, hended, _, _, rfl, ?_, ⟨_, rfl⟩, hW, hsame.mono (by decide) (by decide)⟩
  · show Steps p.tables e below (T3.setTop (mkF m 11 #[.val (.ref a1)] [(.ref r3)])) _
    exact retOut X3 hx Bd.returns rfl (Or.inr (Or.inr (Or.inr (Or.inr ⟨rfl, rfl, rfl⟩)))) (hb hby d_jdk_38_method_16_11) hr
  · exact ⟨r3, rfl, sz_r3, N3, by rw [show (T3.setFrames fs).heap = _ from (rfl : T3.heap = T3.heap)]; exact ⟨K3, ⟨_, Aa_r3, Ea_r3, Oa_r3⟩, q3_1⟩⟩
theorem d_jdk_31_method_10_0 : decode jdk_31_method_10_code 0 = .ok (.aload_n 0, 1) := by decide +kernel
theorem d_jdk_31_method_10_1 : decode jdk_31_method_10_code 1 = .ok (.ifnonnull 11, 3) := by decide +kernel
theorem d_jdk_31_method_10_12 : decode jdk_31_method_10_code 12 = .ok (.aload_n 0, 1) := by decide +kernel
theorem d_jdk_31_method_10_13 : decode jdk_31_method_10_code 13 = .ok (.areturn, 1) := by decide +kernel
theorem pn_14 : plainName "java/util/Objects" = true := by first | (simp [plainName, overriddenIn]; done) | decide +kernel
theorem ef_rnn (m : MethodId) (x0 : Addr) : entryFrame m #[(.ref x0)] 1 = mkF m 0 #[.val (.ref x0)] [] := by first | (simp [entryFrame, mkF, argsToLocals, Value.category]; done) | rfl
set_option maxRecDepth 65536 in
set_option maxHeartbeats 40000000 in
theorem rm_rnn (l : Launch) (Z : State) (a0 : Array Value) (hw : ∀ d ∈ tables_1, d.before a0 Z = true) (ws : List Jvm.Cond) (a1 : Addr) (h0 : Heap) (n0 : Nat) :
    MetFree l (⟨"java/util/Objects", "requireNonNull", "(Ljava/lang/Object;)Ljava/lang/Object;"⟩ : MethodName) (head1 (Jvm.Cond.code (⟨"java/util/Objects", "requireNonNull", "(Ljava/lang/Object;)Ljava/lang/Object;"⟩ : MethodName) jdk_31_method_10_code 1 (some (.object "java/lang/Object")) :: ws) ({ frames := 0, cells := 0, slots := 0, locals := 0 } : Room)) (fun a U => a = #[(.ref a1)] ∧ Z.Warmed39 U.vm ∧ U.heap = h0) (fun _ _ _ _ _ => True) (fun _ U o U' => ∃ v L, o = .returned v ∧ own_Q (some (.ref a1)) h0 n0 v U'.heap L ∧ FrameEnd U o U' L ({ frames := 0, cells := 0, slots := 0, locals := 0 } : Room).cells ({ frames := 0, cells := 0, slots := 0, locals := 0 } : Room).slots) := by
  refine MetFree.of_bodySF (plainFor_of_name pn_14) hisR ?_
  intro p e s m args below meth c s₁ Bd hml0 hP hK0
  obtain ⟨rfl, hZ, hh⟩ := hP
  have hx := Bd.exec
  have hby := Bd.bytes
  have hml : c.maxLocals = 1 := hml0
  have hown : s.vm.findClass "java/util/Objects" = some m.cls := findClass_of_methodNamed Bd.named
  have hnm := (name_of_methodNamed Bd.named Bd.method).1
  have X0 : Stand p l e ({ frames := 0, cells := 0, slots := 0, locals := 0 } : Room) s m #[(.ref a1)] below meth c s₁ [] 0 0 := Stand.of_body Bd
  have e0 : s₁.heap = h0 := by rw [← hh, Bd.state]; rfl
  have N0 := Fr.nil n0
  have pre0 : ∀ t, Steps p.tables e below (s₁.setTop (mkF m 0 #[.val (.ref a1)] [])) t → Steps p.tables e below (s₁.setTop (entryFrame m #[(.ref a1)] 1)) t := fun t k => castTop (ef_rnn m a1) k
  have pre1 : ∀ t, Steps p.tables e below (s₁.setTop (mkF m 13 #[.val (.ref a1)] [(.ref a1)])) t → Steps p.tables e below (s₁.setTop (entryFrame m #[(.ref a1)] 1)) t := fun t k => pre0 t (by
    show Steps p.tables e below (s₁.setTop (mkF m 0 #[.val (.ref a1)] [])) _
    refine XS.aloadN X0.here hx rfl (hb hby d_jdk_31_method_10_0) rfl rfl ?_
    show Steps p.tables e below (s₁.setTop (mkF m 1 #[.val (.ref a1)] [(.ref a1)])) _
    refine XS.ifnonnullYes X0.here hx rfl (pc0 := 1) (pc' := 12) rfl (hb hby d_jdk_31_method_10_1) rfl (by decide) (by decide) ?_
    show Steps p.tables e below (s₁.setTop (mkF m 12 #[.val (.ref a1)] [])) _
    refine XS.aloadN X0.here hx rfl (hb hby d_jdk_31_method_10_12) rfl rfl ?_
    exact k)
  obtain ⟨fs, hr, hrun, hended, hW, hsame⟩ := X0.leave (v := some (.ref a1)) (fun h => by rw [Bd.returns] at h; cases h)
  refine ⟨_, _, pre1 _ ?_, hrun, hended, _, _, rfl, ?_, ⟨_, rfl⟩, hW, hsame.mono (by decide) (by decide)⟩
  · show Steps p.tables e below (s₁.setTop (mkF m 13 #[.val (.ref a1)] [(.ref a1)])) _
    exact retOut X0 hx Bd.returns rfl (Or.inr (Or.inr (Or.inr (Or.inr ⟨rfl, rfl, rfl⟩)))) (hb hby d_jdk_31_method_10_13) hr
  · exact ⟨rfl, N0, e0⟩
def own_Q_l12init (Z : State) (a1 : Addr) (a2 : Addr) (w_ROWS w_RESULT w_PARTIAL_GROUPS w_MERGED_GROUPS w_D w_EL w_EE w_C w_EM w_M : Addr)  (h0 : Heap) (n0 : Nat) (v : Option Value) (h : Heap) (L : List Loc) : Prop := v = none ∧ Fr n0 L ∧ Keep h0 h [a1] ∧ Exa Z h a1 "java/util/ImmutableCollections$List12"
theorem d_jdk_44_method_1_0 : decode jdk_44_method_1_code 0 = .ok (.aload_n 0, 1) := by decide +kernel
theorem d_jdk_44_method_1_1 : decode jdk_44_method_1_code 1 = .ok (.invokespecial 1, 3) := by decide +kernel
theorem d_jdk_44_method_1_4 : decode jdk_44_method_1_code 4 = .ok (.aload_n 0, 1) := by decide +kernel
theorem d_jdk_44_method_1_5 : decode jdk_44_method_1_code 5 = .ok (.aload_n 1, 1) := by decide +kernel
theorem d_jdk_44_method_1_6 : decode jdk_44_method_1_code 6 = .ok (.invokestatic 7, 3) := by decide +kernel
theorem pd_11 : parseMethodDescriptor "(Ljava/lang/Object;)Ljava/lang/Object;" = some ⟨[(.object "java/lang/Object")], some (.object "java/lang/Object")⟩ := by decide +kernel
theorem d_jdk_44_method_1_9 : decode jdk_44_method_1_code 9 = .ok (.putfield 13, 3) := by decide +kernel
theorem d_jdk_44_method_1_12 : decode jdk_44_method_1_code 12 = .ok (.aload_n 0, 1) := by decide +kernel
theorem d_jdk_44_method_1_13 : decode jdk_44_method_1_code 13 = .ok (.getstatic 19, 3) := by decide +kernel
theorem d_jdk_44_method_1_16 : decode jdk_44_method_1_code 16 = .ok (.putfield 24, 3) := by decide +kernel
theorem d_jdk_44_method_1_19 : decode jdk_44_method_1_code 19 = .ok (.return_, 1) := by decide +kernel
theorem ef_l12init (m : MethodId) (x0 : Addr) (x1 : Addr) : entryFrame m #[(.ref x0), (.ref x1)] 2 = mkF m 0 #[.val (.ref x0), .val (.ref x1)] [] := by first | (simp [entryFrame, mkF, argsToLocals, Value.category]; done) | rfl
set_option maxRecDepth 65536 in
set_option maxHeartbeats 40000000 in
theorem rm_l12init (l : Launch) (Z : State) (a0 : Array Value) (hw : ∀ d ∈ tables_1, d.before a0 Z = true) (ws : List Jvm.Cond) (a1 : Addr) (a2 : Addr) (h0 : Heap) (n0 : Nat) (w_ROWS w_RESULT w_PARTIAL_GROUPS w_MERGED_GROUPS w_D w_EL w_EE w_C w_EM w_M : Addr) (hK : own_K Z Z.heap w_ROWS w_RESULT w_PARTIAL_GROUPS w_MERGED_GROUPS w_D w_EL w_EE w_C w_EM w_M) (hn0 : n0 = Z.heap.size) (EX0 : Ext Z.heap h0) (E_a1 : Exa Z h0 a1 "java/util/ImmutableCollections$List12") (g_a1 : n0 ≤ a1) (F_e0_a1 : Fld Z h0 a1 "java/util/ImmutableCollections$List12" "e0" "Ljava/lang/Object;" .null) (F_e1_a1 : Fld Z h0 a1 "java/util/ImmutableCollections$List12" "e1" "Ljava/lang/Object;" .null) :
    MetFree l (⟨"java/util/ImmutableCollections$List12", "<init>", "(Ljava/lang/Object;)V"⟩ : MethodName) (head1 (Jvm.Cond.code (⟨"java/util/ImmutableCollections$List12", "<init>", "(Ljava/lang/Object;)V"⟩ : MethodName) jdk_44_method_1_code 2 none :: ws) ({ frames := 4, cells := 0, slots := 0, locals := 48 } : Room)) (fun a U => a = #[(.ref a1), (.ref a2)] ∧ Z.Warmed39 U.vm ∧ U.heap = h0) (fun _ _ _ _ _ => True) (fun _ U o U' => ∃ v L, o = .returned v ∧ own_Q_l12init Z a1 a2 w_ROWS w_RESULT w_PARTIAL_GROUPS w_MERGED_GROUPS w_D w_EL w_EE w_C w_EM w_M h0 n0 v U'.heap L ∧ FrameEnd U o U' L ({ frames := 4, cells := 0, slots := 0, locals := 48 } : Room).cells ({ frames := 4, cells := 0, slots := 0, locals := 48 } : Room).slots) := by
  refine MetFree.of_bodySF (plainFor_of_name pn_8) hisR ?_
  intro p e s m args below meth c s₁ Bd hml0 hP hK0
  obtain ⟨rfl, hZ, hh⟩ := hP
  have hx := Bd.exec
  have hby := Bd.bytes
  have hml : c.maxLocals = 2 := hml0
  have hown : s.vm.findClass "java/util/ImmutableCollections$List12" = some m.cls := findClass_of_methodNamed Bd.named
  have hnm := (name_of_methodNamed Bd.named Bd.method).1
  have X0 : Stand p l e ({ frames := 4, cells := 0, slots := 0, locals := 48 } : Room) s m #[(.ref a1), (.ref a2)] below meth c s₁ [] 0 0 := Stand.of_body Bd
  have e0 : s₁.heap = h0 := by rw [← hh, Bd.state]; rfl
  have N0 := Fr.nil n0
  have pre0 : ∀ t, Steps p.tables e below (s₁.setTop (mkF m 0 #[.val (.ref a1), .val (.ref a2)] [])) t → Steps p.tables e below (s₁.setTop (entryFrame m #[(.ref a1), (.ref a2)] 2)) t := fun t k => castTop (ef_l12init m a1 a2) k
  have hK' := hK
  obtain ⟨S_w_ROWS, E_w_ROWS, F_ordinal_w_ROWS, S_w_RESULT, E_w_RESULT, F_ordinal_w_RESULT, S_w_PARTIAL_GROUPS, E_w_PARTIAL_GROUPS, F_ordinal_w_PARTIAL_GROUPS, S_w_MERGED_GROUPS, E_w_MERGED_GROUPS, F_ordinal_w_MERGED_GROUPS, S_w_D, B_w_D, S_w_EL, E_w_EL, F_elements_w_EL, B_w_EE, F_allowNulls_w_EL, S_high, S_w_C, C_w_C, S_w_EM, M_w_M⟩ := hK'
  obtain ⟨cl_w_D, A_w_D, q_w_D⟩ := B_w_D
  obtain ⟨cl_w_EE, A_w_EE, q_w_EE⟩ := B_w_EE
  obtain ⟨v1, _, ⟨T1, L1, k1, n1⟩, -, X1, ⟨Lc1, hQ1, l1, y1, z1⟩, st1⟩ := X0.specialBack hx (y := (⟨"java/util/ImmutableCollections$AbstractImmutableList", "<init>", "()V"⟩ : MethodName)) rfl hown (mvT hZ (hw _ (ow 158 rfl))) (mvT hZ (hw _ (ow 159 rfl))) (mvT hZ (hw _ (ow 163 rfl))) (by decide) (backOf (W := 0) (rm_ailinit l Z a0 hw [] a1 h0 n0) hZ (hw _ (ow 163 rfl)) (hw _ (ow 162 rfl)) (by decide) (by decide)) (g := (mkF m 1 #[.val (.ref a1), .val (.ref a2)] [(.ref a1)])) rfl (by rw [hml]; rfl) (Steps.refl _) (a := a1) (argsL := []) (rest := []) (lenOf pd_0 rfl) rfl (Nat.le_of_eq rfl) (hb hby d_jdk_44_method_1_1) (fun _ _ => ⟨rfl, e0, (by decide : 0 + 0 ≤ _), (by decide : 0 + 0 ≤ _)⟩)
  dsimp only [Pt.U, Pt.locs, Pt.cells, Pt.slots] at X1 l1 y1 z1 st1 hQ1
  subst y1 z1
  obtain ⟨hv1, Nq1, e1⟩ := hQ1
  obtain rfl : v1 = none := hv1
  have N1 : Fr n0 L1 := by rw [l1]; exact Fr.app N0 Nq1
  obtain ⟨v2, _, ⟨T2, L2, k2, n2⟩, -, X2, ⟨Lc2, hQ2, l2, y2, z2⟩, st2⟩ := Jvm.LawKit.callS X1 hx (y := (⟨"java/util/Objects", "requireNonNull", "(Ljava/lang/Object;)Ljava/lang/Object;"⟩ : MethodName)) hown (mvT hZ (hw _ (ow 172 rfl))) (mvT hZ (hw _ (ow 173 rfl))) (mvT hZ (hw _ (ow 174 rfl))) (mvT hZ (hw _ (ow 175 rfl))) (by decide) (backOf (W := 1) (rm_rnn l Z a0 hw [] a2 h0 n0) hZ (hw _ (ow 175 rfl)) (hw _ (ow 174 rfl)) (by decide) (by decide)) (g := (mkF m 6 #[.val (.ref a1), .val (.ref a2)] [(.ref a2), (.ref a1)])) rfl (by rw [hml]; rfl) (argsL := [(.ref a2)]) (rest := [(.ref a1)]) (lenOf pd_11 rfl) rfl (Nat.le_of_eq rfl) (hb hby d_jdk_44_method_1_6) (fun _ _ => ⟨rfl, e1, (by decide : 0 + 0 ≤ _), (by decide : 0 + 0 ≤ _)⟩)
  dsimp only [Pt.U, Pt.locs, Pt.cells, Pt.slots] at X2 l2 y2 z2 st2 hQ2
  subst y2 z2
  obtain ⟨hv2, Nq2, e2⟩ := hQ2
  obtain rfl : v2 = some (.ref a2) := hv2
  have N2 : Fr n0 L2 := by rw [l2]; exact Fr.app N1 Nq2
  obtain ⟨T3, h3, X3, e3, W3, st3⟩ := putF X2 hx hZ hown (host := "") (Or.inl (hw _ (ow 176 rfl))) Via.refl e2 F_e0_a1 E_a1 (Or.inr ⟨(hw _ (ow 177 rfl)), rfl, hnm⟩) (hw _ (ow 152 rfl)) (ty := (.object "java/lang/Object")) (by decide) rfl rfl (g := (mkF m 9 #[.val (.ref a1), .val (.ref a2)] [(.ref a2), (.ref a1)])) rfl rfl (hb hby d_jdk_44_method_1_9)
  have x3_E_a1 := E_a1.wr W3
  have x3_F_a1_e0 := F_e0_a1.same W3
  have x3_F_a1_e1 := F_e1_a1.other W3 (Or.inr (slot_ne (Or.inr (hw _ (ow 180 rfl))) (Or.inr (hw _ (ow 177 rfl))) (by decide) (t := (.object "java/lang/Object")) (t' := (.object "java/lang/Object")) (by decide) (by decide)))
  have EX3 := own_ext_wr EX0 W3 (hn0 ▸ g_a1)
  have K3 := Keep.wr (Keep.refl h0 [a1]) W3 (Or.inl (List.mem_of_getElem? (i := 0) rfl))
  have N3 := Fr.snoc X3 N2 g_a1
  obtain ⟨T4, X4, e4, st4⟩ := getS2 X3 hx hZ hown (Or.inr (hw _ (ow 178 rfl))) Via.refl e3 (S_w_EM.ext EX3) (g := (mkF m 13 #[.val (.ref a1), .val (.ref a2)] [(.ref a1)])) rfl (hb hby d_jdk_44_method_1_13)
  obtain ⟨T5, h5, X5, e5, W5, st5⟩ := putF X4 hx hZ hown (host := "") (Or.inl (hw _ (ow 179 rfl))) Via.refl e4 x3_F_a1_e1 x3_E_a1 (Or.inr ⟨(hw _ (ow 180 rfl)), rfl, hnm⟩) (hw _ (ow 152 rfl)) (ty := (.object "java/lang/Object")) (by decide) rfl rfl (g := (mkF m 16 #[.val (.ref a1), .val (.ref a2)] [(.ref w_EM), (.ref a1)])) rfl rfl (hb hby d_jdk_44_method_1_16)
  have x5_E_a1 := x3_E_a1.wr W5
  have x5_F_a1_e0 := x3_F_a1_e0.other W5 (Or.inr (slot_ne (Or.inr (hw _ (ow 177 rfl))) (Or.inr (hw _ (ow 180 rfl))) (by decide) (t := (.object "java/lang/Object")) (t' := (.object "java/lang/Object")) (by decide) (by decide)))
  have x5_F_a1_e1 := x3_F_a1_e1.same W5
  have EX5 := own_ext_wr EX3 W5 (hn0 ▸ g_a1)
  have K5 := Keep.wr K3 W5 (Or.inl (List.mem_of_getElem? (i := 0) rfl))
  have N5 := Fr.snoc X5 N3 g_a1
  have pre6 : ∀ t, Steps p.tables e below (T5.setTop (mkF m 19 #[.val (.ref a1), .val (.ref a2)] [])) t → Steps p.tables e below (s₁.setTop (entryFrame m #[(.ref a1), (.ref a2)] 2)) t := fun t k => pre0 t (by
    show Steps p.tables e below (s₁.setTop (mkF m 0 #[.val (.ref a1), .val (.ref a2)] [])) _
    refine XS.aloadN X0.here hx rfl (hb hby d_jdk_44_method_1_0) rfl rfl ?_
    show Steps p.tables e below (s₁.setTop (mkF m 1 #[.val (.ref a1), .val (.ref a2)] [(.ref a1)])) _
    refine st1.trans ?_
    show Steps p.tables e below (T1.setTop (mkF m 4 #[.val (.ref a1), .val (.ref a2)] [])) _
    refine XS.aloadN X1.here hx rfl (hb hby d_jdk_44_method_1_4) rfl rfl ?_
    show Steps p.tables e below (T1.setTop (mkF m 5 #[.val (.ref a1), .val (.ref a2)] [(.ref a1)])) _
    refine XS.aloadN X1.here hx rfl (hb hby d_jdk_44_method_1_5) rfl rfl ?_
    show Steps p.tables e below (T1.setTop (mkF m 6 #[.val (.ref a1), .val (.ref a2)] [(.ref a2), (.ref a1)])) _
    refine st2 _ ?_
    show Steps p.tables e below (T2.setTop (mkF m 9 #[.val (.ref a1), .val (.ref a2)] [(.ref a2), (.ref a1)])) _
    refine st3 _ ?_
    show Steps p.tables e below (T3.setTop (mkF m 12 #[.val (.ref a1), .val (.ref a2)] [])) _
    refine XS.aloadN X3.here hx rfl (hb hby d_jdk_44_method_1_12) rfl rfl ?_
    show Steps p.tables e below (T3.setTop (mkF m 13 #[.val (.ref a1), .val (.ref a2)] [(.ref a1)])) _
    refine st4 _ ?_
    show Steps p.tables e below (T4.setTop (mkF m 16 #[.val (.ref a1), .val (.ref a2)] [(.ref w_EM), (.ref a1)])) _
    refine st5 _ ?_
    exact k)
  obtain ⟨fs, hr, hrun, hended, hW, hsame⟩ := X5.leave (v := none) (fun _ => rfl)
  refine ⟨_, _, pre6 _ ?_, hrun, hended, _, _, rfl, ?_, ⟨_, rfl⟩, hW, hsame.mono (by decide) (by decide)⟩
  · show Steps p.tables e below (T5.setTop (mkF m 19 #[.val (.ref a1), .val (.ref a2)] [])) _
    exact X5.returnOut hx Bd.returns (hb hby d_jdk_44_method_1_19) hr
  · exact ⟨rfl, N5, by rw [show (T5.setFrames fs).heap = _ from e5]; exact ⟨K5, x5_E_a1⟩⟩
def own_Q_ofArr (Z : State) (a1 : Addr) (w_ROWS w_RESULT w_PARTIAL_GROUPS w_MERGED_GROUPS w_D w_EL w_EE w_C w_EM w_M : Addr) (el : Addr) (kel : ClassId) (h0 : Heap) (n0 : Nat) (v : Option Value) (h : Heap) (L : List Loc) : Prop := ∃ r : Addr, v = some (.ref r) ∧ h0.size ≤ r ∧ Fr n0 L ∧ Keep h0 h [] ∧ Exa Z h r "java/util/ImmutableCollections$List12"
theorem d_jdk_40_method_47_0 : decode jdk_40_method_47_code 0 = .ok (.aload_n 0, 1) := by decide +kernel
theorem d_jdk_40_method_47_1 : decode jdk_40_method_47_code 1 = .ok (.arraylength, 1) := by decide +kernel
theorem d_jdk_40_method_47_2 : decode jdk_40_method_47_code 2 = .ok (.tableswitch 57 0 2 #[26, 32, 43], 26) := by decide +kernel
theorem d_jdk_40_method_47_34 : decode jdk_40_method_47_code 34 = .ok (.new 96, 3) := by decide +kernel
theorem d_jdk_40_method_47_37 : decode jdk_40_method_47_code 37 = .ok (.dup, 1) := by decide +kernel
theorem d_jdk_40_method_47_38 : decode jdk_40_method_47_code 38 = .ok (.aload_n 0, 1) := by decide +kernel
theorem d_jdk_40_method_47_39 : decode jdk_40_method_47_code 39 = .ok (.iconst 0, 1) := by decide +kernel
theorem d_jdk_40_method_47_40 : decode jdk_40_method_47_code 40 = .ok (.aaload, 1) := by decide +kernel
theorem d_jdk_40_method_47_41 : decode jdk_40_method_47_code 41 = .ok (.invokespecial 98, 3) := by decide +kernel
theorem pd_12 : parseMethodDescriptor "(Ljava/lang/Object;)V" = some ⟨[(.object "java/lang/Object")], none⟩ := by decide +kernel
theorem d_jdk_40_method_47_44 : decode jdk_40_method_47_code 44 = .ok (.areturn, 1) := by decide +kernel
theorem ef_ofArr (m : MethodId) (x0 : Addr) : entryFrame m #[(.ref x0)] 2 = mkF m 0 #[.val (.ref x0), .unset] [] := by first | (simp [entryFrame, mkF, argsToLocals, Value.category]; done) | rfl
set_option maxRecDepth 65536 in
set_option maxHeartbeats 40000000 in
theorem rm_ofArr (l : Launch) (Z : State) (a0 : Array Value) (hw : ∀ d ∈ tables_1, d.before a0 Z = true) (ws : List Jvm.Cond) (a1 : Addr) (h0 : Heap) (n0 : Nat) (w_ROWS w_RESULT w_PARTIAL_GROUPS w_MERGED_GROUPS w_D w_EL w_EE w_C w_EM w_M : Addr) (hK : own_K Z Z.heap w_ROWS w_RESULT w_PARTIAL_GROUPS w_MERGED_GROUPS w_D w_EL w_EE w_C w_EM w_M) (hn0 : n0 = Z.heap.size) (EX0 : Ext Z.heap h0) (el : Addr) (kel : ClassId) (A_a1 : own_ArrK Z h0 a1 kel (.object "java/lang/Object") [(.ref el)]) (O_a1 : Ovr Z kel "java/lang/Object") (g_a1 : n0 ≤ a1) :
    MetFree l (⟨"java/util/List", "of", "([Ljava/lang/Object;)Ljava/util/List;"⟩ : MethodName) (head1 (Jvm.Cond.code (⟨"java/util/List", "of", "([Ljava/lang/Object;)Ljava/util/List;"⟩ : MethodName) jdk_40_method_47_code 2 (some (.object "java/util/List")) :: ws) ({ frames := 5, cells := 1, slots := 2, locals := 62 } : Room)) (fun a U => a = #[(.ref a1)] ∧ Z.Warmed39 U.vm ∧ U.heap = h0) (fun _ _ _ _ _ => True) (fun _ U o U' => ∃ v L, o = .returned v ∧ own_Q_ofArr Z a1 w_ROWS w_RESULT w_PARTIAL_GROUPS w_MERGED_GROUPS w_D w_EL w_EE w_C w_EM w_M el kel h0 n0 v U'.heap L ∧ FrameEnd U o U' L ({ frames := 5, cells := 1, slots := 2, locals := 62 } : Room).cells ({ frames := 5, cells := 1, slots := 2, locals := 62 } : Room).slots) := by
  refine MetFree.of_bodySF (plainFor_of_name pn_7) hisR ?_
  intro p e s m args below meth c s₁ Bd hml0 hP hK0
  obtain ⟨rfl, hZ, hh⟩ := hP
  have hx := Bd.exec
  have hby := Bd.bytes
  have hml : c.maxLocals = 2 := hml0
  have hown : s.vm.findClass "java/util/List" = some m.cls := findClass_of_methodNamed Bd.named
  have hnm := (name_of_methodNamed Bd.named Bd.method).1
  have X0 : Stand p l e ({ frames := 5, cells := 1, slots := 2, locals := 62 } : Room) s m #[(.ref a1)] below meth c s₁ [] 0 0 := Stand.of_body Bd
  have e0 : s₁.heap = h0 := by rw [← hh, Bd.state]; rfl
  have N0 := Fr.nil n0
  have pre0 : ∀ t, Steps p.tables e below (s₁.setTop (mkF m 0 #[.val (.ref a1), .unset] [])) t → Steps p.tables e below (s₁.setTop (entryFrame m #[(.ref a1)] 2)) t := fun t k => castTop (ef_ofArr m a1) k
  have hK' := hK
  obtain ⟨S_w_ROWS, E_w_ROWS, F_ordinal_w_ROWS, S_w_RESULT, E_w_RESULT, F_ordinal_w_RESULT, S_w_PARTIAL_GROUPS, E_w_PARTIAL_GROUPS, F_ordinal_w_PARTIAL_GROUPS, S_w_MERGED_GROUPS, E_w_MERGED_GROUPS, F_ordinal_w_MERGED_GROUPS, S_w_D, B_w_D, S_w_EL, E_w_EL, F_elements_w_EL, B_w_EE, F_allowNulls_w_EL, S_high, S_w_C, C_w_C, S_w_EM, M_w_M⟩ := hK'
  obtain ⟨cl_w_D, A_w_D, q_w_D⟩ := B_w_D
  obtain ⟨cl_w_EE, A_w_EE, q_w_EE⟩ := B_w_EE
  obtain ⟨cl1, Ar1, qk1, hs1⟩ := id A_a1
  obtain ⟨T2, h2, X2, e2, Eq2, A2, D2, -, st2⟩ := newO X0 hx hZ hown (hw _ (ow 151 rfl)) (hw _ (ow 152 rfl)) (hw _ (ow 153 rfl)) e0 (g := (mkF m 34 #[.val (.ref a1), .unset] [])) rfl (hb hby d_jdk_40_method_47_34) (by decide) (by decide)
  obtain ⟨b2, gb2⟩ : ∃ z, z = h0.size := ⟨_, rfl⟩
  rw [← gb2] at A2 D2 st2
  have ne_a1_b2 : a1 ≠ b2 := Nat.ne_of_lt (Nat.lt_of_lt_of_le A_a1.lt (Nat.le_of_eq gb2.symm))
  have sz_b2 : h0.size ≤ b2 := Nat.le_trans (Keep.refl h0 []).1 (Nat.le_of_eq gb2.symm)
  have g_b2 : n0 ≤ b2 := hn0 ▸ Nat.le_trans EX0.1 (Nat.le_of_eq gb2.symm)
  have x2_A_a1 := A_a1.ext Eq2
  have EX2 := own_ext_trans EX0 Eq2
  have K2 := Keep.ext (Keep.refl h0 []) Eq2
  have F2_e0 : Fld Z h2 b2 "java/util/ImmutableCollections$List12" "e0" "Ljava/lang/Object;" .null := D2 (Or.inr (hw _ (ow 177 rfl))) (ty := (.object "java/lang/Object")) (by decide)
  have F2_e1 : Fld Z h2 b2 "java/util/ImmutableCollections$List12" "e1" "Ljava/lang/Object;" .null := D2 (Or.inr (hw _ (ow 180 rfl))) (ty := (.object "java/lang/Object")) (by decide)
  obtain ⟨cl3, Ar3, qk3, hs3⟩ := id x2_A_a1
  obtain ⟨v4, _, ⟨T4, L4, k4, n4⟩, -, X4, ⟨Lc4, hQ4, l4, y4, z4⟩, st4⟩ := X2.specialBack hx (y := (⟨"java/util/ImmutableCollections$List12", "<init>", "(Ljava/lang/Object;)V"⟩ : MethodName)) rfl hown (mvT hZ (hw _ (ow 154 rfl))) (mvT hZ (hw _ (ow 155 rfl))) (mvT hZ (hw _ (ow 157 rfl))) (by decide) (backOf (W := 1) (rm_l12init l Z a0 hw [] b2 el h2 n0 w_ROWS w_RESULT w_PARTIAL_GROUPS w_MERGED_GROUPS w_D w_EL w_EE w_C w_EM w_M hK hn0 EX2 A2 g_b2 F2_e0 F2_e1) hZ (hw _ (ow 157 rfl)) (hw _ (ow 153 rfl)) (by decide) (by decide)) (g := (mkF m 41 #[.val (.ref a1), .unset] [(.ref el), (.ref b2), (.ref b2)])) rfl (by rw [hml]; rfl) (Steps.refl _) (a := b2) (argsL := [(.ref el)]) (rest := [(.ref b2)]) (lenOf pd_12 rfl) rfl (Nat.le_of_eq rfl) (hb hby d_jdk_40_method_47_41) (fun _ _ => ⟨rfl, e2, (by decide : 1 + 0 ≤ _), (by decide : 2 + 0 ≤ _)⟩)
  dsimp only [Pt.U, Pt.locs, Pt.cells, Pt.slots] at X4 l4 y4 z4 st4 hQ4
  subst y4 z4
  obtain ⟨hv4, Nq4, Kq4, q4_0⟩ := hQ4
  obtain rfl : v4 = none := hv4
  have N4 : Fr n0 L4 := by rw [l4]; exact Fr.app N0 Nq4
  have x4_A_a1 := x2_A_a1.keep Kq4 (ninS ne_a1_b2 nin0)
  have x4_E_b2 := A2.keep Kq4
  have EX4 := own_ext_keepL EX2 Kq4 (allS (hn0 ▸ g_b2) all0)
  have K4 := Keep.trans K2 Kq4 (allS (Or.inr sz_b2) all0)
  have pre5 : ∀ t, Steps p.tables e below (T4.setTop (mkF m 44 #[.val (.ref a1), .unset] [(.ref b2)])) t → Steps p.tables e below (s₁.setTop (entryFrame m #[(.ref a1)] 2)) t := fun t k => pre0 t (by
    show Steps p.tables e below (s₁.setTop (mkF m 0 #[.val (.ref a1), .unset] [])) _
    refine XS.aloadN X0.here hx rfl (hb hby d_jdk_40_method_47_0) rfl rfl ?_
    show Steps p.tables e below (s₁.setTop (mkF m 1 #[.val (.ref a1), .unset] [(.ref a1)])) _
    refine X0.arraylength hx (by rw [e0]; exact Ar1.1) (State.isArrayOf_alike hZ.alike Ar1.2.1) (g := (mkF m 1 #[.val (.ref a1), .unset] [(.ref a1)])) rfl rfl (hb hby d_jdk_40_method_47_1) _ ?_
    rw [hs1]
    show Steps p.tables e below (s₁.setTop (mkF m 2 #[.val (.ref a1), .unset] [(.int (1 : Int32))])) _
    refine XS.tswIn X0.here hx rfl (o := 32) (pc0 := 2) (pc' := 34) rfl (hb hby d_jdk_40_method_47_2) rfl (by decide) (by decide) (by decide) (by decide) ?_
    show Steps p.tables e below (s₁.setTop (mkF m 34 #[.val (.ref a1), .unset] [])) _
    refine st2 _ ?_
    show Steps p.tables e below (T2.setTop (mkF m 37 #[.val (.ref a1), .unset] [(.ref b2)])) _
    refine XS.dup X2.here hx rfl (hb hby d_jdk_40_method_47_37) rfl rfl ?_
    show Steps p.tables e below (T2.setTop (mkF m 38 #[.val (.ref a1), .unset] [(.ref b2), (.ref b2)])) _
    refine XS.aloadN X2.here hx rfl (hb hby d_jdk_40_method_47_38) rfl rfl ?_
    show Steps p.tables e below (T2.setTop (mkF m 39 #[.val (.ref a1), .unset] [(.ref a1), (.ref b2), (.ref b2)])) _
    refine XS.iconst X2.here hx rfl (hb hby d_jdk_40_method_47_39) ?_
    show Steps p.tables e below (T2.setTop (mkF m 40 #[.val (.ref a1), .unset] [(.int (0 : Int32)), (.ref a1), (.ref b2), (.ref b2)])) _
    refine X2.aaload hx (j := (0 : Int32)) (v := (.ref el)) (by rw [e2]; exact Ar3.1) (State.isArrayOf_alike hZ.alike Ar3.2.1) rfl Ar3.2.2 (own_get (v := (.ref el)) hs3 (by decide) rfl).1 (own_get hs3 (by decide) rfl).2 (g := (mkF m 40 #[.val (.ref a1), .unset] [(.int (0 : Int32)), (.ref a1), (.ref b2), (.ref b2)])) rfl rfl (hb hby d_jdk_40_method_47_40) _ ?_
    show Steps p.tables e below (T2.setTop (mkF m 41 #[.val (.ref a1), .unset] [(.ref el), (.ref b2), (.ref b2)])) _
    refine st4.trans ?_
    exact k)
  obtain ⟨fs, hr, hrun, hended, hW, hsame⟩ := X4.leave (v := some (.ref b2)) (fun h => by rw [Bd.returns] at h; cases h)
  refine ⟨_, _, pre5 _ ?_, hrun, hended, _, _, rfl, ?_, ⟨_, rfl⟩, hW, hsame.mono (by decide) (by decide)⟩
  · show Steps p.tables e below (T4.setTop (mkF m 44 #[.val (.ref a1), .unset] [(.ref b2)])) _
    exact retOut X4 hx Bd.returns rfl (Or.inr (Or.inr (Or.inr (Or.inr ⟨rfl, rfl, rfl⟩)))) (hb hby d_jdk_40_method_47_44) hr
  · exact ⟨b2, rfl, sz_b2, N4, by rw [show (T4.setFrames fs).heap = _ from (rfl : T4.heap = T4.heap)]; exact ⟨K4, q4_0⟩⟩
def own_Q_lc1 (Z : State) (a1 : Addr) (w_ROWS w_RESULT w_PARTIAL_GROUPS w_MERGED_GROUPS w_D w_EL w_EE w_C w_EM w_M : Addr) (ar el : Addr) (kel : ClassId) (h0 : Heap) (n0 : Nat) (v : Option Value) (h : Heap) (L : List Loc) : Prop := ∃ r : Addr, v = some (.ref r) ∧ h0.size ≤ r ∧ Fr n0 L ∧ Keep h0 h [] ∧ Exa Z h r "java/util/ImmutableCollections$List12"
theorem d_jdk_56_method_3_44 : decode jdk_56_method_3_code 44 = .ok (.aload_n 0, 1) := by decide +kernel
theorem d_jdk_56_method_3_45 : decode jdk_56_method_3_code 45 = .ok (.invokeinterface 30 1, 5) := by decide +kernel
theorem d_jdk_56_method_3_50 : decode jdk_56_method_3_code 50 = .ok (.invokestatic 34, 3) := by decide +kernel
theorem pd_13 : parseMethodDescriptor "([Ljava/lang/Object;)Ljava/util/List;" = some ⟨[(.array (.object "java/lang/Object"))], some (.object "java/util/List")⟩ := by decide +kernel
theorem d_jdk_56_method_3_53 : decode jdk_56_method_3_code 53 = .ok (.areturn, 1) := by decide +kernel
theorem ef_lc1 (m : MethodId) (x0 : Addr) : entryFrame m #[(.ref x0)] 2 = mkF m 0 #[.val (.ref x0), .unset] [] := by first | (simp [entryFrame, mkF, argsToLocals, Value.category]; done) | rfl
set_option maxRecDepth 65536 in
set_option maxHeartbeats 40000000 in
theorem rm_lc1 (l : Launch) (Z : State) (a0 : Array Value) (hw : ∀ d ∈ tables_1, d.before a0 Z = true) (ws : List Jvm.Cond) (a1 : Addr) (h0 : Heap) (n0 : Nat) (w_ROWS w_RESULT w_PARTIAL_GROUPS w_MERGED_GROUPS w_D w_EL w_EE w_C w_EM w_M : Addr) (hK : own_K Z Z.heap w_ROWS w_RESULT w_PARTIAL_GROUPS w_MERGED_GROUPS w_D w_EL w_EE w_C w_EM w_M) (hn0 : n0 = Z.heap.size) (EX0 : Ext Z.heap h0) (ar el : Addr) (kel : ClassId) (E_a1 : Exa Z h0 a1 "java/util/ArrayList") (g_a1 : n0 ≤ a1) (F_elementData_a1 : Fld Z h0 a1 "java/util/ArrayList" "elementData" "[Ljava/lang/Object;" (.ref ar)) (F_size_a1 : Fld Z h0 a1 "java/util/ArrayList" "size" "I" (.int (1 : Int32))) (A_ar : own_ArrK Z h0 ar kel (.object "java/lang/Object") [(.ref el), .null, .null, .null, .null, .null, .null, .null, .null, .null]) (O_ar : Ovr Z kel "java/lang/Object") (g_ar : n0 ≤ ar) (E_ar : Exa Z h0 ar "[Ljava/lang/Object;") (E_el : Exa Z h0 el "java/lang/Integer") :
    MetFree l (⟨"java/util/ImmutableCollections", "listCopy", "(Ljava/util/Collection;)Ljava/util/List;"⟩ : MethodName) (head1 (Jvm.Cond.code (⟨"java/util/ImmutableCollections", "listCopy", "(Ljava/util/Collection;)Ljava/util/List;"⟩ : MethodName) jdk_56_method_3_code 2 (some (.object "java/util/List")) :: ws) ({ frames := 6, cells := 2, slots := 3, locals := 80 } : Room)) (fun a U => a = #[(.ref a1)] ∧ Z.Warmed39 U.vm ∧ U.heap = h0) (fun _ _ _ _ _ => True) (fun _ U o U' => ∃ v L, o = .returned v ∧ own_Q_lc1 Z a1 w_ROWS w_RESULT w_PARTIAL_GROUPS w_MERGED_GROUPS w_D w_EL w_EE w_C w_EM w_M ar el kel h0 n0 v U'.heap L ∧ FrameEnd U o U' L ({ frames := 6, cells := 2, slots := 3, locals := 80 } : Room).cells ({ frames := 6, cells := 2, slots := 3, locals := 80 } : Room).slots) := by
  refine MetFree.of_bodySF (plainFor_of_name pn_10) hisR ?_
  intro p e s m args below meth c s₁ Bd hml0 hP hK0
  obtain ⟨rfl, hZ, hh⟩ := hP
  have hx := Bd.exec
  have hby := Bd.bytes
  have hml : c.maxLocals = 2 := hml0
  have hown : s.vm.findClass "java/util/ImmutableCollections" = some m.cls := findClass_of_methodNamed Bd.named
  have hnm := (name_of_methodNamed Bd.named Bd.method).1
  have X0 : Stand p l e ({ frames := 6, cells := 2, slots := 3, locals := 80 } : Room) s m #[(.ref a1)] below meth c s₁ [] 0 0 := Stand.of_body Bd
  have e0 : s₁.heap = h0 := by rw [← hh, Bd.state]; rfl
  have N0 := Fr.nil n0
  have pre0 : ∀ t, Steps p.tables e below (s₁.setTop (mkF m 0 #[.val (.ref a1), .unset] [])) t → Steps p.tables e below (s₁.setTop (entryFrame m #[(.ref a1)] 2)) t := fun t k => castTop (ef_lc1 m a1) k
  have hK' := hK
  obtain ⟨S_w_ROWS, E_w_ROWS, F_ordinal_w_ROWS, S_w_RESULT, E_w_RESULT, F_ordinal_w_RESULT, S_w_PARTIAL_GROUPS, E_w_PARTIAL_GROUPS, F_ordinal_w_PARTIAL_GROUPS, S_w_MERGED_GROUPS, E_w_MERGED_GROUPS, F_ordinal_w_MERGED_GROUPS, S_w_D, B_w_D, S_w_EL, E_w_EL, F_elements_w_EL, B_w_EE, F_allowNulls_w_EL, S_high, S_w_C, C_w_C, S_w_EM, M_w_M⟩ := hK'
  obtain ⟨cl_w_D, A_w_D, q_w_D⟩ := B_w_D
  obtain ⟨cl_w_EE, A_w_EE, q_w_EE⟩ := B_w_EE
  obtain ⟨T1, X1, e1, st1⟩ := instNo X0 hx hZ hown (hw _ (ow 46 rfl)) e0 E_a1 (own_NS_no (hw _ (ow 47 rfl)) (hw _ (ow 152 rfl)) (NS.step (hw _ (ow 47 rfl)) (NS.step (hw _ (ow 48 rfl)) (NS.step (hw _ (ow 49 rfl)) (own_NS_root (hw _ (ow 50 rfl)) (hw _ (ow 152 rfl)) (by decide)) (by decide)) (by decide)) (by decide)) (by decide)) (g := (mkF m 1 #[.val (.ref a1), .unset] [(.ref a1)])) rfl rfl (hb hby d_jdk_56_method_3_1)
  obtain ⟨T2, X2, e2, st2⟩ := instNo X1 hx hZ hown (hw _ (ow 51 rfl)) e1 E_a1 (NS.no (hw _ (ow 47 rfl)) (hw _ (ow 231 rfl)) (NS.step (hw _ (ow 47 rfl)) (NS.step (hw _ (ow 48 rfl)) (NS.step (hw _ (ow 49 rfl)) (NS.root (hw _ (ow 50 rfl)) (hw _ (ow 231 rfl)) (by decide)) (by decide)) (by decide)) (by decide)) (by decide)) (g := (mkF m 8 #[.val (.ref a1), .unset] [(.ref a1)])) rfl rfl (hb hby d_jdk_56_method_3_8)
  obtain ⟨cq3, kq3, q3a, q3b, q3c⟩ := isOf hZ e2 E_a1
  obtain ⟨v3, _, ⟨T3, L3, k3, n3⟩, -, X3, ⟨Lc3, hQ3, l3, y3, z3⟩, st3⟩ := X2.interfaceBack hx (xi := (⟨"java/util/Collection", "isEmpty", "()Z"⟩ : MethodName)) (y := (⟨"java/util/ArrayList", "isEmpty", "()Z"⟩ : MethodName)) hown (mvT hZ (hw _ (ow 52 rfl))) (mvT hZ (hw _ (ow 53 rfl))) (mvT hZ (hw _ (ow 54 rfl))) (mvT hZ (hw _ (ow 55 rfl))) (mvT hZ (hw _ (ow 56 rfl))) (mvT hZ (hw _ (ow 57 rfl))) (mvT hZ (hw _ (ow 58 rfl))) (mvT hZ (hw _ (ow 59 rfl))) (by decide) (backOf (W := 0) (rm_aliE l Z a0 hw [] a1 (1 : Int32) h0 n0 F_size_a1) hZ (hw _ (ow 60 rfl)) (hw _ (ow 2 rfl)) (by decide) (by decide)) q3a q3b q3c (g := (mkF m 32 #[.val (.ref a1), .unset] [(.ref a1)])) rfl (by rw [hml]; rfl) (Steps.refl _) (argsL := []) (rest := []) (lenOf pd_1 rfl) rfl (Nat.le_of_eq rfl) (hb hby d_jdk_56_method_3_32) (fun _ _ => ⟨rfl, e2, (by decide : 0 + 0 ≤ _), (by decide : 0 + 0 ≤ _)⟩)
  dsimp only [Pt.U, Pt.locs, Pt.cells, Pt.slots] at X3 l3 y3 z3 st3 hQ3
  subst y3 z3
  obtain ⟨hv3, Nq3, e3⟩ := hQ3
  obtain rfl : v3 = some (.int (0 : Int32)) := hv3.trans (congrArg some (congrArg Value.int (if_neg (by decide))))
  have N3 : Fr n0 L3 := by rw [l3]; exact Fr.app N0 Nq3
  obtain ⟨cq4, kq4, q4a, q4b, q4c⟩ := isOf hZ e3 E_a1
  obtain ⟨v4, _, ⟨T4, L4, k4, n4⟩, -, X4, ⟨Lc4, hQ4, l4, y4, z4⟩, st4⟩ := X3.interfaceBack hx (xi := (⟨"java/util/Collection", "toArray", "()[Ljava/lang/Object;"⟩ : MethodName)) (y := (⟨"java/util/ArrayList", "toArray", "()[Ljava/lang/Object;"⟩ : MethodName)) hown (mvT hZ (hw _ (ow 118 rfl))) (mvT hZ (hw _ (ow 119 rfl))) (mvT hZ (hw _ (ow 120 rfl))) (mvT hZ (hw _ (ow 121 rfl))) (mvT hZ (hw _ (ow 122 rfl))) (mvT hZ (hw _ (ow 123 rfl))) (mvT hZ (hw _ (ow 124 rfl))) (mvT hZ (hw _ (ow 59 rfl))) (by decide) (backOf (W := 0) (rm_toArr l Z a0 hw [] a1 h0 n0 w_ROWS w_RESULT w_PARTIAL_GROUPS w_MERGED_GROUPS w_D w_EL w_EE w_C w_EM w_M hK hn0 EX0 ar el kel E_a1 g_a1 F_elementData_a1 F_size_a1 A_ar O_ar g_ar E_ar E_el) hZ (hw _ (ow 125 rfl)) (hw _ (ow 2 rfl)) (by decide) (by decide)) q4a q4b q4c (g := (mkF m 45 #[.val (.ref a1), .unset] [(.ref a1)])) rfl (by rw [hml]; rfl) (Steps.refl _) (argsL := []) (rest := []) (lenOf pd_7 rfl) rfl (Nat.le_of_eq rfl) (hb hby d_jdk_56_method_3_45) (fun _ _ => ⟨rfl, e3, (by decide : 0 + 1 ≤ _), (by decide : 0 + 1 ≤ _)⟩)
  dsimp only [Pt.U, Pt.locs, Pt.cells, Pt.slots] at X4 l4 y4 z4 st4 hQ4
  subst y4 z4
  obtain ⟨r4, hv4, sy4, Nq4, Kq4, q4_0, q4_1⟩ := hQ4
  obtain rfl : v4 = some (.ref r4) := hv4
  have ne_a1_r4 : a1 ≠ r4 := Nat.ne_of_lt (Nat.lt_of_lt_of_le E_a1.lt sy4)
  have ne_ar_r4 : ar ≠ r4 := Nat.ne_of_lt (Nat.lt_of_lt_of_le E_ar.lt sy4)
  have sz_r4 : h0.size ≤ r4 := Nat.le_trans (Keep.refl h0 []).1 sy4
  have g_r4 : n0 ≤ r4 := hn0 ▸ Nat.le_trans EX0.1 sy4
  have N4 : Fr n0 L4 := by rw [l4]; exact Fr.app N3 Nq4
  have x4_E_a1 := E_a1.keep Kq4
  have x4_F_a1_elementData := F_elementData_a1.keep Kq4 nin0
  have x4_F_a1_size := F_size_a1.keep Kq4 nin0
  have x4_A_ar := A_ar.keep Kq4 nin0
  have x4_E_ar := E_ar.keep Kq4
  have x4_E_el := E_el.keep Kq4
  have EX4 := own_ext_keepL EX0 Kq4 all0
  have K4 := Keep.trans (Keep.refl h0 []) Kq4 all0
  obtain ⟨ka_r4, Aa_r4, Ea_r4, Oa_r4⟩ := q4_0
  obtain ⟨v5, _, ⟨T5, L5, k5, n5⟩, -, X5, ⟨Lc5, hQ5, l5, y5, z5⟩, st5⟩ := Jvm.LawKit.callS X4 hx (y := (⟨"java/util/List", "of", "([Ljava/lang/Object;)Ljava/util/List;"⟩ : MethodName)) hown (mvT hZ (hw _ (ow 148 rfl))) (mvT hZ (hw _ (ow 149 rfl))) (mvT hZ (hw _ (ow 40 rfl))) (mvT hZ (hw _ (ow 150 rfl))) (by decide) (backOf (W := 0) (rm_ofArr l Z a0 hw [] r4 T4.heap n0 w_ROWS w_RESULT w_PARTIAL_GROUPS w_MERGED_GROUPS w_D w_EL w_EE w_C w_EM w_M hK hn0 EX4 el ka_r4 Aa_r4 Oa_r4 g_r4) hZ (hw _ (ow 150 rfl)) (hw _ (ow 40 rfl)) (by decide) (by decide)) (g := (mkF m 50 #[.val (.ref a1), .unset] [(.ref r4)])) rfl (by rw [hml]; rfl) (argsL := [(.ref r4)]) (rest := []) (lenOf pd_13 rfl) rfl (Nat.le_of_eq rfl) (hb hby d_jdk_56_method_3_50) (fun _ _ => ⟨rfl, (rfl : T4.heap = T4.heap), (by decide : 1 + 1 ≤ _), (by decide : 1 + 2 ≤ _)⟩)
  dsimp only [Pt.U, Pt.locs, Pt.cells, Pt.slots] at X5 l5 y5 z5 st5 hQ5
  subst y5 z5
  obtain ⟨r5, hv5, sy5, Nq5, Kq5, q5_0⟩ := hQ5
  obtain rfl : v5 = some (.ref r5) := hv5
  have ne_a1_r5 : a1 ≠ r5 := Nat.ne_of_lt (Nat.lt_of_lt_of_le x4_E_a1.lt sy5)
  have ne_ar_r5 : ar ≠ r5 := Nat.ne_of_lt (Nat.lt_of_lt_of_le x4_E_ar.lt sy5)
  have ne_r4_r5 : r4 ≠ r5 := Nat.ne_of_lt (Nat.lt_of_lt_of_le Ea_r4.lt sy5)
  have sz_r5 : h0.size ≤ r5 := Nat.le_trans K4.1 sy5
  have g_r5 : n0 ≤ r5 := hn0 ▸ Nat.le_trans EX4.1 sy5
  have N5 : Fr n0 L5 := by rw [l5]; exact Fr.app N4 Nq5
  have x5_E_a1 := x4_E_a1.keep Kq5
  have x5_F_a1_elementData := x4_F_a1_elementData.keep Kq5 nin0
  have x5_F_a1_size := x4_F_a1_size.keep Kq5 nin0
  have x5_A_ar := x4_A_ar.keep Kq5 nin0
  have x5_E_ar := x4_E_ar.keep Kq5
  have x5_E_el := q4_1.keep Kq5
  have x5_A_r4 := Aa_r4.keep Kq5 nin0
  have x5_E_r4 := Ea_r4.keep Kq5
  have EX5 := own_ext_keepL EX4 Kq5 all0
  have K5 := Keep.trans K4 Kq5 all0
  have pre6 : ∀ t, Steps p.tables e below (T5.setTop (mkF m 53 #[.val (.ref a1), .unset] [(.ref r5)])) t → Steps p.tables e below (s₁.setTop (entryFrame m #[(.ref a1)] 2)) t := fun t k => pre0 t (by
    show Steps p.tables e below (s₁.setTop (mkF m 0 #[.val (.ref a1), .unset] [])) _
    refine XS.aloadN X0.here hx rfl (hb hby d_jdk_56_method_3_0) rfl rfl ?_
    show Steps p.tables e below (s₁.setTop (mkF m 1 #[.val (.ref a1), .unset] [(.ref a1)])) _
    refine st1 _ ?_
    show Steps p.tables e below (T1.setTop (mkF m 4 #[.val (.ref a1), .unset] [(.int (0 : Int32))])) _
    refine XS.ifNo X1.here hx rfl (hb hby d_jdk_56_method_3_4) rfl ((if0 _ _).trans (teq (by decide)).2) ?_
    show Steps p.tables e below (T1.setTop (mkF m 7 #[.val (.ref a1), .unset] [])) _
    refine XS.aloadN X1.here hx rfl (hb hby d_jdk_56_method_3_7) rfl rfl ?_
    show Steps p.tables e below (T1.setTop (mkF m 8 #[.val (.ref a1), .unset] [(.ref a1)])) _
    refine st2 _ ?_
    show Steps p.tables e below (T2.setTop (mkF m 11 #[.val (.ref a1), .unset] [(.int (0 : Int32))])) _
    refine XS.ifYes X2.here hx rfl (pc0 := 11) (pc' := 31) rfl (hb hby d_jdk_56_method_3_11) rfl ((if0 _ _).trans (teq (by decide)).1) (by decide) (by decide) ?_
    show Steps p.tables e below (T2.setTop (mkF m 31 #[.val (.ref a1), .unset] [])) _
    refine XS.aloadN X2.here hx rfl (hb hby d_jdk_56_method_3_31) rfl rfl ?_
    show Steps p.tables e below (T2.setTop (mkF m 32 #[.val (.ref a1), .unset] [(.ref a1)])) _
    refine st3.trans ?_
    show Steps p.tables e below (T3.setTop (mkF m 37 #[.val (.ref a1), .unset] [(.int (0 : Int32))])) _
    refine XS.ifYes X3.here hx rfl (pc0 := 37) (pc' := 44) rfl (hb hby d_jdk_56_method_3_37) rfl ((if0 _ _).trans (teq (by decide)).1) (by decide) (by decide) ?_
    show Steps p.tables e below (T3.setTop (mkF m 44 #[.val (.ref a1), .unset] [])) _
    refine XS.aloadN X3.here hx rfl (hb hby d_jdk_56_method_3_44) rfl rfl ?_
    show Steps p.tables e below (T3.setTop (mkF m 45 #[.val (.ref a1), .unset] [(.ref a1)])) _
    refine st4.trans ?_
    show Steps p.tables e below (T4.setTop (mkF m 50 #[.val (.ref a1), .unset] [(.ref r4)])) _
    refine st5 _ ?_
    exact k)
  obtain ⟨fs, hr, hrun, hended, hW, hsame⟩ := X5.leave (v := some (.ref r5)) (fun h => by rw [Bd.returns] at h; cases h)
  refine ⟨_, _, pre6 _ ?_, hrun, hended, _, _, rfl, ?_, ⟨_, rfl⟩, hW, hsame.mono (by decide) (by decide)⟩
  · show Steps p.tables e below (T5.setTop (mkF m 53 #[.val (.ref a1), .unset] [(.ref r5)])) _
    exact retOut X5 hx Bd.returns rfl (Or.inr (Or.inr (Or.inr (Or.inr ⟨rfl, rfl, rfl⟩)))) (hb hby d_jdk_56_method_3_53) hr
  · exact ⟨r5, rfl, sz_r5, N5, by rw [show (T5.setFrames fs).heap = _ from (rfl : T5.heap = T5.heap)]; exact ⟨K5, q5_0⟩⟩
def own_Q_co1 (Z : State) (a1 : Addr) (w_ROWS w_RESULT w_PARTIAL_GROUPS w_MERGED_GROUPS w_D w_EL w_EE w_C w_EM w_M : Addr) (ar el : Addr) (kel : ClassId) (h0 : Heap) (n0 : Nat) (v : Option Value) (h : Heap) (L : List Loc) : Prop := ∃ r : Addr, v = some (.ref r) ∧ h0.size ≤ r ∧ Fr n0 L ∧ Keep h0 h [] ∧ Exa Z h r "java/util/ImmutableCollections$List12"
theorem ef_co1 (m : MethodId) (x0 : Addr) : entryFrame m #[(.ref x0)] 1 = mkF m 0 #[.val (.ref x0)] [] := by first | (simp [entryFrame, mkF, argsToLocals, Value.category]; done) | rfl
set_option maxRecDepth 65536 in
set_option maxHeartbeats 40000000 in
theorem rm_co1 (l : Launch) (Z : State) (a0 : Array Value) (hw : ∀ d ∈ tables_1, d.before a0 Z = true) (ws : List Jvm.Cond) (a1 : Addr) (h0 : Heap) (n0 : Nat) (w_ROWS w_RESULT w_PARTIAL_GROUPS w_MERGED_GROUPS w_D w_EL w_EE w_C w_EM w_M : Addr) (hK : own_K Z Z.heap w_ROWS w_RESULT w_PARTIAL_GROUPS w_MERGED_GROUPS w_D w_EL w_EE w_C w_EM w_M) (hn0 : n0 = Z.heap.size) (EX0 : Ext Z.heap h0) (ar el : Addr) (kel : ClassId) (E_a1 : Exa Z h0 a1 "java/util/ArrayList") (g_a1 : n0 ≤ a1) (F_elementData_a1 : Fld Z h0 a1 "java/util/ArrayList" "elementData" "[Ljava/lang/Object;" (.ref ar)) (F_size_a1 : Fld Z h0 a1 "java/util/ArrayList" "size" "I" (.int (1 : Int32))) (A_ar : own_ArrK Z h0 ar kel (.object "java/lang/Object") [(.ref el), .null, .null, .null, .null, .null, .null, .null, .null, .null]) (O_ar : Ovr Z kel "java/lang/Object") (g_ar : n0 ≤ ar) (E_ar : Exa Z h0 ar "[Ljava/lang/Object;") (E_el : Exa Z h0 el "java/lang/Integer") :
    MetFree l (⟨"java/util/List", "copyOf", "(Ljava/util/Collection;)Ljava/util/List;"⟩ : MethodName) (head1 (Jvm.Cond.code (⟨"java/util/List", "copyOf", "(Ljava/util/Collection;)Ljava/util/List;"⟩ : MethodName) jdk_40_method_48_code 1 (some (.object "java/util/List")) :: ws) ({ frames := 7, cells := 2, slots := 3, locals := 93 } : Room)) (fun a U => a = #[(.ref a1)] ∧ Z.Warmed39 U.vm ∧ U.heap = h0) (fun _ _ _ _ _ => True) (fun _ U o U' => ∃ v L, o = .returned v ∧ own_Q_co1 Z a1 w_ROWS w_RESULT w_PARTIAL_GROUPS w_MERGED_GROUPS w_D w_EL w_EE w_C w_EM w_M ar el kel h0 n0 v U'.heap L ∧ FrameEnd U o U' L ({ frames := 7, cells := 2, slots := 3, locals := 93 } : Room).cells ({ frames := 7, cells := 2, slots := 3, locals := 93 } : Room).slots) := by
  refine MetFree.of_bodySF (plainFor_of_name pn_7) hisR ?_
  intro p e s m args below meth c s₁ Bd hml0 hP hK0
  obtain ⟨rfl, hZ, hh⟩ := hP
  have hx := Bd.exec
  have hby := Bd.bytes
  have hml : c.maxLocals = 1 := hml0
  have hown : s.vm.findClass "java/util/List" = some m.cls := findClass_of_methodNamed Bd.named
  have hnm := (name_of_methodNamed Bd.named Bd.method).1
  have X0 : Stand p l e ({ frames := 7, cells := 2, slots := 3, locals := 93 } : Room) s m #[(.ref a1)] below meth c s₁ [] 0 0 := Stand.of_body Bd
  have e0 : s₁.heap = h0 := by rw [← hh, Bd.state]; rfl
  have N0 := Fr.nil n0
  have pre0 : ∀ t, Steps p.tables e below (s₁.setTop (mkF m 0 #[.val (.ref a1)] [])) t → Steps p.tables e below (s₁.setTop (entryFrame m #[(.ref a1)] 1)) t := fun t k => castTop (ef_co1 m a1) k
  have hK' := hK
  obtain ⟨S_w_ROWS, E_w_ROWS, F_ordinal_w_ROWS, S_w_RESULT, E_w_RESULT, F_ordinal_w_RESULT, S_w_PARTIAL_GROUPS, E_w_PARTIAL_GROUPS, F_ordinal_w_PARTIAL_GROUPS, S_w_MERGED_GROUPS, E_w_MERGED_GROUPS, F_ordinal_w_MERGED_GROUPS, S_w_D, B_w_D, S_w_EL, E_w_EL, F_elements_w_EL, B_w_EE, F_allowNulls_w_EL, S_high, S_w_C, C_w_C, S_w_EM, M_w_M⟩ := hK'
  obtain ⟨cl_w_D, A_w_D, q_w_D⟩ := B_w_D
  obtain ⟨cl_w_EE, A_w_EE, q_w_EE⟩ := B_w_EE
  obtain ⟨v1, _, ⟨T1, L1, k1, n1⟩, -, X1, ⟨Lc1, hQ1, l1, y1, z1⟩, st1⟩ := Jvm.LawKit.callS X0 hx (y := (⟨"java/util/ImmutableCollections", "listCopy", "(Ljava/util/Collection;)Ljava/util/List;"⟩ : MethodName)) hown (mvT hZ (hw _ (ow 42 rfl))) (mvT hZ (hw _ (ow 43 rfl))) (mvT hZ (hw _ (ow 44 rfl))) (mvT hZ (hw _ (ow 45 rfl))) (by decide) (backOf (W := 0) (rm_lc1 l Z a0 hw [] a1 h0 n0 w_ROWS w_RESULT w_PARTIAL_GROUPS w_MERGED_GROUPS w_D w_EL w_EE w_C w_EM w_M hK hn0 EX0 ar el kel E_a1 g_a1 F_elementData_a1 F_size_a1 A_ar O_ar g_ar E_ar E_el) hZ (hw _ (ow 45 rfl)) (hw _ (ow 44 rfl)) (by decide) (by decide)) (g := (mkF m 1 #[.val (.ref a1)] [(.ref a1)])) rfl (by rw [hml]; rfl) (argsL := [(.ref a1)]) (rest := []) (lenOf pd_3 rfl) rfl (Nat.le_of_eq rfl) (hb hby d_jdk_40_method_48_1) (fun _ _ => ⟨rfl, e0, (by decide : 0 + 2 ≤ _), (by decide : 0 + 3 ≤ _)⟩)
  dsimp only [Pt.U, Pt.locs, Pt.cells, Pt.slots] at X1 l1 y1 z1 st1 hQ1
  subst y1 z1
  obtain ⟨r1, hv1, sy1, Nq1, Kq1, q1_0⟩ := hQ1
  obtain rfl : v1 = some (.ref r1) := hv1
  have ne_a1_r1 : a1 ≠ r1 := Nat.ne_of_lt (Nat.lt_of_lt_of_le E_a1.lt sy1)
  have ne_ar_r1 : ar ≠ r1 := Nat.ne_of_lt (Nat.lt_of_lt_of_le E_ar.lt sy1)
  have sz_r1 : h0.size ≤ r1 := Nat.le_trans (Keep.refl h0 []).1 sy1
  have g_r1 : n0 ≤ r1 := hn0 ▸ Nat.le_trans EX0.1 sy1
  have N1 : Fr n0 L1 := by rw [l1]; exact Fr.app N0 Nq1
  have x1_E_a1 := E_a1.keep Kq1
  have x1_F_a1_elementData := F_elementData_a1.keep Kq1 nin0
  have x1_F_a1_size := F_size_a1.keep Kq1 nin0
  have x1_A_ar := A_ar.keep Kq1 nin0
  have x1_E_ar := E_ar.keep Kq1
  have x1_E_el := E_el.keep Kq1
  have EX1 := own_ext_keepL EX0 Kq1 all0
  have K1 := Keep.trans (Keep.refl h0 []) Kq1 all0
  have pre2 : ∀ t, Steps p.tables e below (T1.setTop (mkF m 4 #[.val (.ref a1)] [(.ref r1)])) t → Steps p.tables e below (s₁.setTop (entryFrame m #[(.ref a1)] 1)) t := fun t k => pre0 t (by
    show Steps p.tables e below (s₁.setTop (mkF m 0 #[.val (.ref a1)] [])) _
    refine XS.aloadN X0.here hx rfl (hb hby d_jdk_40_method_48_0) rfl rfl ?_
    show Steps p.tables e below (s₁.setTop (mkF m 1 #[.val (.ref a1)] [(.ref a1)])) _
    refine st1 _ ?_
    exact k)
  obtain ⟨fs, hr, hrun, hended, hW, hsame⟩ := X1.leave (v := some (.ref r1)) (fun h => by rw [Bd.returns] at h; cases h)
  refine ⟨_, _, pre2 _ ?_, hrun, hended, _, _, rfl, ?_, ⟨_, rfl⟩, hW, hsame.mono (by decide) (by decide)⟩
  · show Steps p.tables e below (T1.setTop (mkF m 4 #[.val (.ref a1)] [(.ref r1)])) _
    exact retOut X1 hx Bd.returns rfl (Or.inr (Or.inr (Or.inr (Or.inr ⟨rfl, rfl, rfl⟩)))) (hb hby d_jdk_40_method_48_4) hr
  · exact ⟨r1, rfl, sz_r1, N1, by rw [show (T1.setFrames fs).heap = _ from (rfl : T1.heap = T1.heap)]; exact ⟨K1, q1_0⟩⟩
theorem d_jdk_37_method_2_0 : decode jdk_37_method_2_code 0 = .ok (.aload_n 0, 1) := by decide +kernel
theorem d_jdk_37_method_2_1 : decode jdk_37_method_2_code 1 = .ok (.getfield 7, 3) := by decide +kernel
theorem d_jdk_37_method_2_4 : decode jdk_37_method_2_code 4 = .ok (.ireturn, 1) := by decide +kernel
theorem pn_15 : plainName "java/lang/Enum" = true := by first | (simp [plainName, overriddenIn]; done) | decide +kernel
theorem ef_ordinal (m : MethodId) (x0 : Addr) : entryFrame m #[(.ref x0)] 1 = mkF m 0 #[.val (.ref x0)] [] := by first | (simp [entryFrame, mkF, argsToLocals, Value.category]; done) | rfl
set_option maxRecDepth 65536 in
set_option maxHeartbeats 40000000 in
theorem rm_ordinal (l : Launch) (Z : State) (a0 : Array Value) (hw : ∀ d ∈ tables_1, d.before a0 Z = true) (ws : List Jvm.Cond) (a1 : Addr) (f_ordinal : Int32) (h0 : Heap) (n0 : Nat) (F_ordinal : Fld Z h0 a1 "java/lang/Enum" "ordinal" "I" (.int f_ordinal)) :
    MetFree l (⟨"java/lang/Enum", "ordinal", "()I"⟩ : MethodName) (head1 (Jvm.Cond.code (⟨"java/lang/Enum", "ordinal", "()I"⟩ : MethodName) jdk_37_method_2_code 1 (some .int) :: ws) ({ frames := 0, cells := 0, slots := 0, locals := 0 } : Room)) (fun a U => a = #[(.ref a1)] ∧ Z.Warmed39 U.vm ∧ U.heap = h0) (fun _ _ _ _ _ => True) (fun _ U o U' => ∃ v L, o = .returned v ∧ own_Q (some (.int f_ordinal)) h0 n0 v U'.heap L ∧ FrameEnd U o U' L ({ frames := 0, cells := 0, slots := 0, locals := 0 } : Room).cells ({ frames := 0, cells := 0, slots := 0, locals := 0 } : Room).slots) := by
  refine MetFree.of_bodySF (plainFor_of_name pn_15) hisR ?_
  intro p e s m args below meth c s₁ Bd hml0 hP hK0
  obtain ⟨rfl, hZ, hh⟩ := hP
  have hx := Bd.exec
  have hby := Bd.bytes
  have hml : c.maxLocals = 1 := hml0
  have hown : s.vm.findClass "java/lang/Enum" = some m.cls := findClass_of_methodNamed Bd.named
  have hnm := (name_of_methodNamed Bd.named Bd.method).1
  have X0 : Stand p l e ({ frames := 0, cells := 0, slots := 0, locals := 0 } : Room) s m #[(.ref a1)] below meth c s₁ [] 0 0 := Stand.of_body Bd
  have e0 : s₁.heap = h0 := by rw [← hh, Bd.state]; rfl
  have N0 := Fr.nil n0
  have pre0 : ∀ t, Steps p.tables e below (s₁.setTop (mkF m 0 #[.val (.ref a1)] [])) t → Steps p.tables e below (s₁.setTop (entryFrame m #[(.ref a1)] 1)) t := fun t k => castTop (ef_ordinal m a1) k
  obtain ⟨T1, X1, e1, st1⟩ := getF X0 hx hZ hown (host := "") (Or.inl (hw _ (ow 188 rfl))) Via.refl e0 F_ordinal (g := (mkF m 1 #[.val (.ref a1)] [(.ref a1)])) rfl rfl (hb hby d_jdk_37_method_2_1)
  have pre2 : ∀ t, Steps p.tables e below (T1.setTop (mkF m 4 #[.val (.ref a1)] [(.int f_ordinal)])) t → Steps p.tables e below (s₁.setTop (entryFrame m #[(.ref a1)] 1)) t := fun t k => pre0 t (by
    show Steps p.tables e below (s₁.setTop (mkF m 0 #[.val (.ref a1)] [])) _
    refine XS.aloadN X0.here hx rfl (hb hby d_jdk_37_method_2_0) rfl rfl ?_
    show Steps p.tables e below (s₁.setTop (mkF m 1 #[.val (.ref a1)] [(.ref a1)])) _
    refine st1 _ ?_
    exact k)
  obtain ⟨fs, hr, hrun, hended, hW, hsame⟩ := X1.leave (v := some (.int f_ordinal)) (fun h => by rw [Bd.returns] at h; cases h)
  refine ⟨_, _, pre2 _ ?_, hrun, hended, _, _, rfl, ?_, ⟨_, rfl⟩, hW, hsame.mono (by decide) (by decide)⟩
  · show Steps p.tables e below (T1.setTop (mkF m 4 #[.val (.ref a1)] [(.int f_ordinal)])) _
    exact retI X1 hx Bd.returns (hb hby d_jdk_37_method_2_4) hr
  · exact ⟨rfl, N0, e1⟩
def own_Q_oi0 (Z : State) (a1 : Addr) (a2 : Addr) (a4 : Addr) (w_ROWS w_RESULT w_PARTIAL_GROUPS w_MERGED_GROUPS w_D w_EL w_EE w_C w_EM w_M : Addr) (ar el : Addr) (kel : ClassId) (h0 : Heap) (n0 : Nat) (v : Option Value) (h : Heap) (L : List Loc) : Prop := v = none ∧ Fr n0 L ∧ Keep h0 h [a1] ∧ Exa Z h a1 "com/example/cairn/cairn/plan/Stage$Output" ∧ Fld Z h a1 "com/example/cairn/cairn/plan/Stage$Output" "buckets" "I" (.int (1 : Int32))
theorem d_prog_108_method_1_0 : decode prog_108_method_1_code 0 = .ok (.aload_n 0, 1) := by decide +kernel
theorem d_prog_108_method_1_1 : decode prog_108_method_1_code 1 = .ok (.invokespecial 1, 3) := by decide +kernel
theorem d_prog_108_method_1_4 : decode prog_108_method_1_code 4 = .ok (.aload_n 2, 1) := by decide +kernel
theorem d_prog_108_method_1_5 : decode prog_108_method_1_code 5 = .ok (.invokestatic 7, 3) := by decide +kernel
theorem d_prog_108_method_1_8 : decode prog_108_method_1_code 8 = .ok (.astore_n 2, 1) := by decide +kernel
theorem d_prog_108_method_1_9 : decode prog_108_method_1_code 9 = .ok (.aload 4, 2) := by decide +kernel
theorem d_prog_108_method_1_11 : decode prog_108_method_1_code 11 = .ok (.invokestatic 7, 3) := by decide +kernel
theorem d_prog_108_method_1_14 : decode prog_108_method_1_code 14 = .ok (.astore 4, 2) := by decide +kernel
theorem d_prog_108_method_1_16 : decode prog_108_method_1_code 16 = .ok (.aload_n 1, 1) := by decide +kernel
theorem d_prog_108_method_1_17 : decode prog_108_method_1_code 17 = .ok (.invokevirtual 13, 3) := by decide +kernel
theorem pd_14 : parseMethodDescriptor "()I" = some ⟨[], some .int⟩ := by decide +kernel
theorem d_prog_108_method_1_20 : decode prog_108_method_1_code 20 = .ok (.tableswitch 32 0 3 #[42, 168, 96, 132], 32) := by decide +kernel
theorem d_prog_108_method_1_62 : decode prog_108_method_1_code 62 = .ok (.iload_n 3, 1) := by decide +kernel
theorem d_prog_108_method_1_63 : decode prog_108_method_1_code 63 = .ok (.ifCond .le 49, 3) := by decide +kernel
theorem d_prog_108_method_1_66 : decode prog_108_method_1_code 66 = .ok (.aload_n 2, 1) := by decide +kernel
theorem d_prog_108_method_1_67 : decode prog_108_method_1_code 67 = .ok (.invokeinterface 24 1, 5) := by decide +kernel
theorem d_prog_108_method_1_72 : decode prog_108_method_1_code 72 = .ok (.ifCond .ne 40, 3) := by decide +kernel
theorem d_prog_108_method_1_75 : decode prog_108_method_1_code 75 = .ok (.iload_n 3, 1) := by decide +kernel
theorem d_prog_108_method_1_76 : decode prog_108_method_1_code 76 = .ok (.iconst 1, 1) := by decide +kernel
theorem d_prog_108_method_1_77 : decode prog_108_method_1_code 77 = .ok (.if_icmp .ne 16, 3) := by decide +kernel
theorem d_prog_108_method_1_80 : decode prog_108_method_1_code 80 = .ok (.aload 4, 2) := by decide +kernel
theorem d_prog_108_method_1_82 : decode prog_108_method_1_code 82 = .ok (.invokeinterface 24 1, 5) := by decide +kernel
theorem d_prog_108_method_1_87 : decode prog_108_method_1_code 87 = .ok (.ifCond .eq 25, 3) := by decide +kernel
theorem d_prog_108_method_1_90 : decode prog_108_method_1_code 90 = .ok (.goto 13, 3) := by decide +kernel
theorem d_prog_108_method_1_103 : decode prog_108_method_1_code 103 = .ok (.aload 5, 2) := by decide +kernel
theorem d_prog_108_method_1_105 : decode prog_108_method_1_code 105 = .ok (.ifnonnull 7, 3) := by decide +kernel
theorem d_prog_108_method_1_108 : decode prog_108_method_1_code 108 = .ok (.iconst 1, 1) := by decide +kernel
theorem d_prog_108_method_1_109 : decode prog_108_method_1_code 109 = .ok (.goto 112, 3) := by decide +kernel
theorem d_prog_108_method_1_221 : decode prog_108_method_1_code 221 = .ok (.istore 6, 2) := by decide +kernel
theorem d_prog_108_method_1_223 : decode prog_108_method_1_code 223 = .ok (.iload 6, 2) := by decide +kernel
theorem d_prog_108_method_1_225 : decode prog_108_method_1_code 225 = .ok (.ifCond .ne 53, 3) := by decide +kernel
theorem d_prog_108_method_1_278 : decode prog_108_method_1_code 278 = .ok (.aload_n 0, 1) := by decide +kernel
theorem d_prog_108_method_1_279 : decode prog_108_method_1_code 279 = .ok (.aload_n 1, 1) := by decide +kernel
theorem d_prog_108_method_1_280 : decode prog_108_method_1_code 280 = .ok (.putfield 54, 3) := by decide +kernel
theorem d_prog_108_method_1_283 : decode prog_108_method_1_code 283 = .ok (.aload_n 0, 1) := by decide +kernel
theorem d_prog_108_method_1_284 : decode prog_108_method_1_code 284 = .ok (.aload_n 2, 1) := by decide +kernel
theorem d_prog_108_method_1_285 : decode prog_108_method_1_code 285 = .ok (.putfield 60, 3) := by decide +kernel
theorem d_prog_108_method_1_288 : decode prog_108_method_1_code 288 = .ok (.aload_n 0, 1) := by decide +kernel
theorem d_prog_108_method_1_289 : decode prog_108_method_1_code 289 = .ok (.iload_n 3, 1) := by decide +kernel
theorem d_prog_108_method_1_290 : decode prog_108_method_1_code 290 = .ok (.putfield 64, 3) := by decide +kernel
theorem d_prog_108_method_1_293 : decode prog_108_method_1_code 293 = .ok (.aload_n 0, 1) := by decide +kernel
theorem d_prog_108_method_1_294 : decode prog_108_method_1_code 294 = .ok (.aload 4, 2) := by decide +kernel
theorem d_prog_108_method_1_296 : decode prog_108_method_1_code 296 = .ok (.putfield 68, 3) := by decide +kernel
theorem d_prog_108_method_1_299 : decode prog_108_method_1_code 299 = .ok (.aload_n 0, 1) := by decide +kernel
theorem d_prog_108_method_1_300 : decode prog_108_method_1_code 300 = .ok (.aload 5, 2) := by decide +kernel
theorem d_prog_108_method_1_302 : decode prog_108_method_1_code 302 = .ok (.putfield 70, 3) := by decide +kernel
theorem d_prog_108_method_1_305 : decode prog_108_method_1_code 305 = .ok (.return_, 1) := by decide +kernel
theorem pn_16 : plainName "com/example/cairn/cairn/plan/Stage$Output" = true := by first | (simp [plainName, overriddenIn]; done) | decide +kernel
theorem ef_oi0 (m : MethodId) (x0 : Addr) (x1 : Addr) (x2 : Addr) (x3 : Int32) (x4 : Addr) : entryFrame m #[(.ref x0), (.ref x1), (.ref x2), (.int x3), (.ref x4), .null] 7 = mkF m 0 #[.val (.ref x0), .val (.ref x1), .val (.ref x2), .val (.int x3), .val (.ref x4), .val .null, .unset] [] := by first | (simp [entryFrame, mkF, argsToLocals, Value.category]; done) | rfl
set_option maxRecDepth 65536 in
set_option maxHeartbeats 40000000 in
theorem rm_oi0 (l : Launch) (Z : State) (a0 : Array Value) (hw : ∀ d ∈ tables_1, d.before a0 Z = true) (ws : List Jvm.Cond) (a1 : Addr) (a2 : Addr) (a4 : Addr) (h0 : Heap) (n0 : Nat) (w_ROWS w_RESULT w_PARTIAL_GROUPS w_MERGED_GROUPS w_D w_EL w_EE w_C w_EM w_M : Addr) (hK : own_K Z Z.heap w_ROWS w_RESULT w_PARTIAL_GROUPS w_MERGED_GROUPS w_D w_EL w_EE w_C w_EM w_M) (hn0 : n0 = Z.heap.size) (EX0 : Ext Z.heap h0) (ar el : Addr) (kel : ClassId) (E_a1 : Exa Z h0 a1 "com/example/cairn/cairn/plan/Stage$Output") (g_a1 : n0 ≤ a1) (F_shape_a1 : Fld Z h0 a1 "com/example/cairn/cairn/plan/Stage$Output" "shape" "Lcom/example/cairn/cairn/plan/Stage$Shape;" .null) (F_slots_a1 : Fld Z h0 a1 "com/example/cairn/cairn/plan/Stage$Output" "slots" "Ljava/util/List;" .null) (F_buckets_a1 : Fld Z h0 a1 "com/example/cairn/cairn/plan/Stage$Output" "buckets" "I" (.int (0 : Int32))) (F_keys_a1 : Fld Z h0 a1 "com/example/cairn/cairn/plan/Stage$Output" "keys" "Ljava/util/List;" .null) (F_grouping_a1 : Fld Z h0 a1 "com/example/cairn/cairn/plan/Stage$Output" "grouping" "Lcom/example/cairn/cairn/plan/Grouping;" .null) (E_a2 : Exa Z h0 a2 "java/util/ArrayList") (g_a2 : n0 ≤ a2) (F_elementData_a2 : Fld Z h0 a2 "java/util/ArrayList" "elementData" "[Ljava/lang/Object;" (.ref ar)) (F_size_a2 : Fld Z h0 a2 "java/util/ArrayList" "size" "I" (.int (1 : Int32))) (E_a4 : Exa Z h0 a4 "java/util/ArrayList") (g_a4 : n0 ≤ a4) (F_size_a4 : Fld Z h0 a4 "java/util/ArrayList" "size" "I" (.int (0 : Int32))) (A_ar : own_ArrK Z h0 ar kel (.object "java/lang/Object") [(.ref el), .null, .null, .null, .null, .null, .null, .null, .null, .null]) (O_ar : Ovr Z kel "java/lang/Object") (g_ar : n0 ≤ ar) (E_ar : Exa Z h0 ar "[Ljava/lang/Object;") (E_el : Exa Z h0 el "java/lang/Integer") :
    MetFree l (⟨"com/example/cairn/cairn/plan/Stage$Output", "<init>", "(Lcom/example/cairn/cairn/plan/Stage$Shape;Ljava/util/List;ILjava/util/List;Lcom/example/cairn/cairn/plan/Grouping;)V"⟩ : MethodName) (head1 (Jvm.Cond.code (⟨"com/example/cairn/cairn/plan/Stage$Output", "<init>", "(Lcom/example/cairn/cairn/plan/Stage$Shape;Ljava/util/List;ILjava/util/List;Lcom/example/cairn/cairn/plan/Grouping;)V"⟩ : MethodName) prog_108_method_1_code 7 none :: ws) ({ frames := 8, cells := 2, slots := 3, locals := 105 } : Room)) (fun a U => a = #[(.ref a1), (.ref w_ROWS), (.ref a2), (.int (1 : Int32)), (.ref a4), .null] ∧ Z.Warmed39 U.vm ∧ U.heap = h0) (fun _ _ _ _ _ => True) (fun _ U o U' => ∃ v L, o = .returned v ∧ own_Q_oi0 Z a1 a2 a4 w_ROWS w_RESULT w_PARTIAL_GROUPS w_MERGED_GROUPS w_D w_EL w_EE w_C w_EM w_M ar el kel h0 n0 v U'.heap L ∧ FrameEnd U o U' L ({ frames := 8, cells := 2, slots := 3, locals := 105 } : Room).cells ({ frames := 8, cells := 2, slots := 3, locals := 105 } : Room).slots) := by
  refine MetFree.of_bodySF (plainFor_of_name pn_16) hisR ?_
  intro p e s m args below meth c s₁ Bd hml0 hP hK0
  obtain ⟨rfl, hZ, hh⟩ := hP
  have hx := Bd.exec
  have hby := Bd.bytes
  have hml : c.maxLocals = 7 := hml0
  have hown : s.vm.findClass "com/example/cairn/cairn/plan/Stage$Output" = some m.cls := findClass_of_methodNamed Bd.named
  have hnm := (name_of_methodNamed Bd.named Bd.method).1
  have X0 : Stand p l e ({ frames := 8, cells := 2, slots := 3, locals := 105 } : Room) s m #[(.ref a1), (.ref w_ROWS), (.ref a2), (.int (1 : Int32)), (.ref a4), .null] below meth c s₁ [] 0 0 := Stand.of_body Bd
  have e0 : s₁.heap = h0 := by rw [← hh, Bd.state]; rfl
  have N0 := Fr.nil n0
  have pre0 : ∀ t, Steps p.tables e below (s₁.setTop (mkF m 0 #[.val (.ref a1), .val (.ref w_ROWS), .val (.ref a2), .val (.int (1 : Int32)), .val (.ref a4), .val .null, .unset] [])) t → Steps p.tables e below (s₁.setTop (entryFrame m #[(.ref a1), (.ref w_ROWS), (.ref a2), (.int (1 : Int32)), (.ref a4), .null] 7)) t := fun t k => castTop (ef_oi0 m a1 w_ROWS a2 ((1 : Int32)) a4) k
  have hK' := hK
  obtain ⟨S_w_ROWS, E_w_ROWS, F_ordinal_w_ROWS, S_w_RESULT, E_w_RESULT, F_ordinal_w_RESULT, S_w_PARTIAL_GROUPS, E_w_PARTIAL_GROUPS, F_ordinal_w_PARTIAL_GROUPS, S_w_MERGED_GROUPS, E_w_MERGED_GROUPS, F_ordinal_w_MERGED_GROUPS, S_w_D, B_w_D, S_w_EL, E_w_EL, F_elements_w_EL, B_w_EE, F_allowNulls_w_EL, S_high, S_w_C, C_w_C, S_w_EM, M_w_M⟩ := hK'
  obtain ⟨cl_w_D, A_w_D, q_w_D⟩ := B_w_D
  obtain ⟨cl_w_EE, A_w_EE, q_w_EE⟩ := B_w_EE
  obtain ⟨v1, _, ⟨T1, L1, k1, n1⟩, -, X1, ⟨Lc1, hQ1, l1, y1, z1⟩, st1⟩ := X0.specialBack hx (y := (⟨"java/lang/Record", "<init>", "()V"⟩ : MethodName)) rfl hown (mvT hZ (hw _ (ow 116 rfl))) (mvT hZ (hw _ (ow 33 rfl))) (mvT hZ (hw _ (ow 36 rfl))) (by decide) (backOf (W := 0) (rm_recinit l Z a0 hw [] a1 h0 n0) hZ (hw _ (ow 36 rfl)) (hw _ (ow 35 rfl)) (by decide) (by decide)) (g := (mkF m 1 #[.val (.ref a1), .val (.ref w_ROWS), .val (.ref a2), .val (.int (1 : Int32)), .val (.ref a4), .val .null, .unset] [(.ref a1)])) rfl (by rw [hml]; rfl) (Steps.refl _) (a := a1) (argsL := []) (rest := []) (lenOf pd_0 rfl) rfl (Nat.le_of_eq rfl) (hb hby d_prog_108_method_1_1) (fun _ _ => ⟨rfl, e0, (by decide : 0 + 0 ≤ _), (by decide : 0 + 0 ≤ _)⟩)
  dsimp only [Pt.U, Pt.locs, Pt.cells, Pt.slots] at X1 l1 y1 z1 st1 hQ1
  subst y1 z1
  obtain ⟨hv1, Nq1, e1⟩ := hQ1
  obtain rfl : v1 = none := hv1
  have N1 : Fr n0 L1 := by rw [l1]; exact Fr.app N0 Nq1
  obtain ⟨v2, _, ⟨T2, L2, k2, n2⟩, -, X2, ⟨Lc2, hQ2, l2, y2, z2⟩, st2⟩ := Jvm.LawKit.callS X1 hx (y := (⟨"java/util/List", "copyOf", "(Ljava/util/Collection;)Ljava/util/List;"⟩ : MethodName)) hown (mvT hZ (hw _ (ow 117 rfl))) (mvT hZ (hw _ (ow 39 rfl))) (mvT hZ (hw _ (ow 40 rfl))) (mvT hZ (hw _ (ow 41 rfl))) (by decide) (backOf (W := 0) (rm_co1 l Z a0 hw [] a2 h0 n0 w_ROWS w_RESULT w_PARTIAL_GROUPS w_MERGED_GROUPS w_D w_EL w_EE w_C w_EM w_M hK hn0 EX0 ar el kel E_a2 g_a2 F_elementData_a2 F_size_a2 A_ar O_ar g_ar E_ar E_el) hZ (hw _ (ow 41 rfl)) (hw _ (ow 40 rfl)) (by decide) (by decide)) (g := (mkF m 5 #[.val (.ref a1), .val (.ref w_ROWS), .val (.ref a2), .val (.int (1 : Int32)), .val (.ref a4), .val .null, .unset] [(.ref a2)])) rfl (by rw [hml]; rfl) (argsL := [(.ref a2)]) (rest := []) (lenOf pd_3 rfl) rfl (Nat.le_of_eq rfl) (hb hby d_prog_108_method_1_5) (fun _ _ => ⟨rfl, e1, (by decide : 0 + 2 ≤ _), (by decide : 0 + 3 ≤ _)⟩)
  dsimp only [Pt.U, Pt.locs, Pt.cells, Pt.slots] at X2 l2 y2 z2 st2 hQ2
  subst y2 z2
  obtain ⟨r2, hv2, sy2, Nq2, Kq2, q2_0⟩ := hQ2
  obtain rfl : v2 = some (.ref r2) := hv2
  have ne_a1_r2 : a1 ≠ r2 := Nat.ne_of_lt (Nat.lt_of_lt_of_le E_a1.lt sy2)
  have ne_a2_r2 : a2 ≠ r2 := Nat.ne_of_lt (Nat.lt_of_lt_of_le E_a2.lt sy2)
  have ne_a4_r2 : a4 ≠ r2 := Nat.ne_of_lt (Nat.lt_of_lt_of_le E_a4.lt sy2)
  have ne_ar_r2 : ar ≠ r2 := Nat.ne_of_lt (Nat.lt_of_lt_of_le E_ar.lt sy2)
  have sz_r2 : h0.size ≤ r2 := Nat.le_trans (Keep.refl h0 [a1]).1 sy2
  have g_r2 : n0 ≤ r2 := hn0 ▸ Nat.le_trans EX0.1 sy2
  have N2 : Fr n0 L2 := by rw [l2]; exact Fr.app N1 Nq2
  have x2_E_a1 := E_a1.keep Kq2
  have x2_F_a1_shape := F_shape_a1.keep Kq2 nin0
  have x2_F_a1_slots := F_slots_a1.keep Kq2 nin0
  have x2_F_a1_buckets := F_buckets_a1.keep Kq2 nin0
  have x2_F_a1_keys := F_keys_a1.keep Kq2 nin0
  have x2_F_a1_grouping := F_grouping_a1.keep Kq2 nin0
  have x2_E_a2 := E_a2.keep Kq2
  have x2_F_a2_elementData := F_elementData_a2.keep Kq2 nin0
  have x2_F_a2_size := F_size_a2.keep Kq2 nin0
  have x2_E_a4 := E_a4.keep Kq2
  have x2_F_a4_size := F_size_a4.keep Kq2 nin0
  have x2_A_ar := A_ar.keep Kq2 nin0
  have x2_E_ar := E_ar.keep Kq2
  have x2_E_el := E_el.keep Kq2
  have EX2 := own_ext_keepL EX0 Kq2 all0
  have K2 := Keep.trans (Keep.refl h0 [a1]) Kq2 all0
  obtain ⟨v3, _, ⟨T3, L3, k3, n3⟩, -, X3, ⟨Lc3, hQ3, l3, y3, z3⟩, st3⟩ := Jvm.LawKit.callS X2 hx (y := (⟨"java/util/List", "copyOf", "(Ljava/util/Collection;)Ljava/util/List;"⟩ : MethodName)) hown (mvT hZ (hw _ (ow 117 rfl))) (mvT hZ (hw _ (ow 39 rfl))) (mvT hZ (hw _ (ow 40 rfl))) (mvT hZ (hw _ (ow 41 rfl))) (by decide) (backOf (W := 0) (rm_co0 l Z a0 hw [] a4 T2.heap n0 w_ROWS w_RESULT w_PARTIAL_GROUPS w_MERGED_GROUPS w_D w_EL w_EE w_C w_EM w_M hK hn0 EX2 x2_E_a4 g_a4 x2_F_a4_size) hZ (hw _ (ow 41 rfl)) (hw _ (ow 40 rfl)) (by decide) (by decide)) (g := (mkF m 11 #[.val (.ref a1), .val (.ref w_ROWS), .val (.ref r2), .val (.int (1 : Int32)), .val (.ref a4), .val .null, .unset] [(.ref a4)])) rfl (by rw [hml]; rfl) (argsL := [(.ref a4)]) (rest := []) (lenOf pd_3 rfl) rfl (Nat.le_of_eq rfl) (hb hby d_prog_108_method_1_11) (fun _ _ => ⟨rfl, (rfl : T2.heap = T2.heap), (by decide : 2 + 0 ≤ _), (by decide : 3 + 0 ≤ _)⟩)
  dsimp only [Pt.U, Pt.locs, Pt.cells, Pt.slots] at X3 l3 y3 z3 st3 hQ3
  subst y3 z3
  obtain ⟨hv3, Nq3, Kq3⟩ := hQ3
  obtain rfl : v3 = some (.ref w_EL) := hv3
  have N3 : Fr n0 L3 := by rw [l3]; exact Fr.app N2 Nq3
  have x3_E_a1 := x2_E_a1.keep Kq3
  have x3_F_a1_shape := x2_F_a1_shape.keep Kq3 nin0
  have x3_F_a1_slots := x2_F_a1_slots.keep Kq3 nin0
  have x3_F_a1_buckets := x2_F_a1_buckets.keep Kq3 nin0
  have x3_F_a1_keys := x2_F_a1_keys.keep Kq3 nin0
  have x3_F_a1_grouping := x2_F_a1_grouping.keep Kq3 nin0
  have x3_E_a2 := x2_E_a2.keep Kq3
  have x3_F_a2_elementData := x2_F_a2_elementData.keep Kq3 nin0
  have x3_F_a2_size := x2_F_a2_size.keep Kq3 nin0
  have x3_E_a4 := x2_E_a4.keep Kq3
  have x3_F_a4_size := x2_F_a4_size.keep Kq3 nin0
  have x3_A_ar := x2_A_ar.keep Kq3 nin0
  have x3_E_ar := x2_E_ar.keep Kq3
  have x3_E_el := x2_E_el.keep Kq3
  have x3_E_r2 := q2_0.keep Kq3
  have EX3 := own_ext_keepL EX2 Kq3 all0
  have K3 := Keep.trans K2 Kq3 all0
  obtain ⟨cq4, kq4, q4a, q4b, q4c⟩ := isOf hZ (rfl : T3.heap = T3.heap) (E_w_ROWS.ext EX3)
  obtain ⟨v4, _, ⟨T4, L4, k4, n4⟩, -, X4, ⟨Lc4, hQ4, l4, y4, z4⟩, st4⟩ := X3.virtualBackUp hx (x := (⟨"com/example/cairn/cairn/plan/Stage$Shape", "ordinal", "()I"⟩ : MethodName)) (y := (⟨"java/lang/Enum", "ordinal", "()I"⟩ : MethodName)) (owner := "java/lang/Enum") hown (mvT hZ (hw _ (ow 181 rfl))) (mvT hZ (hw _ (ow 182 rfl))) (mvT hZ (hw _ (ow 183 rfl))) (by decide) (mvT hZ (hw _ (ow 185 rfl))) (mvT hZ (hw _ (ow 184 rfl))) (backOf (W := 0) (rm_ordinal l Z a0 hw [] w_ROWS (0 : Int32) T3.heap n0 (F_ordinal_w_ROWS.ext EX3)) hZ (hw _ (ow 187 rfl)) (hw _ (ow 186 rfl)) (by decide) (by decide)) q4a q4c (g := (mkF m 17 #[.val (.ref a1), .val (.ref w_ROWS), .val (.ref r2), .val (.int (1 : Int32)), .val (.ref w_EL), .val .null, .unset] [(.ref w_ROWS)])) rfl (by rw [hml]; rfl) (Steps.refl _) (argsL := []) (rest := []) (lenOf pd_14 rfl) rfl (Nat.le_of_eq rfl) (hb hby d_prog_108_method_1_17) (fun _ _ => ⟨rfl, (rfl : T3.heap = T3.heap), (by decide : 2 + 0 ≤ _), (by decide : 3 + 0 ≤ _)⟩)
  dsimp only [Pt.U, Pt.locs, Pt.cells, Pt.slots] at X4 l4 y4 z4 st4 hQ4
  subst y4 z4
  obtain ⟨hv4, Nq4, e4⟩ := hQ4
  obtain rfl : v4 = some (.int (0 : Int32)) := hv4
  have N4 : Fr n0 L4 := by rw [l4]; exact Fr.app N3 Nq4
  obtain ⟨cq5, kq5, q5a, q5b, q5c⟩ := isOf hZ e4 x3_E_r2
  obtain ⟨v5, _, ⟨T5, L5, k5, n5⟩, -, X5, ⟨Lc5, hQ5, l5, y5, z5⟩, st5⟩ := X4.interfaceBack hx (xi := (⟨"java/util/List", "isEmpty", "()Z"⟩ : MethodName)) (y := (⟨"java/util/ImmutableCollections$List12", "isEmpty", "()Z"⟩ : MethodName)) hown (mvT hZ (hw _ (ow 190 rfl))) (mvT hZ (hw _ (ow 191 rfl))) (mvT hZ (hw _ (ow 192 rfl))) (mvT hZ (hw _ (ow 193 rfl))) (mvT hZ (hw _ (ow 194 rfl))) (mvT hZ (hw _ (ow 195 rfl))) (mvT hZ (hw _ (ow 196 rfl))) (mvT hZ (hw _ (ow 197 rfl))) (by decide) (backOf (W := 0) (rm_l12iE l Z a0 hw [] r2 T3.heap n0) hZ (hw _ (ow 198 rfl)) (hw _ (ow 153 rfl)) (by decide) (by decide)) q5a q5b q5c (g := (mkF m 67 #[.val (.ref a1), .val (.ref w_ROWS), .val (.ref r2), .val (.int (1 : Int32)), .val (.ref w_EL), .val .null, .unset] [(.ref r2)])) rfl (by rw [hml]; rfl) (Steps.refl _) (argsL := []) (rest := []) (lenOf pd_1 rfl) rfl (Nat.le_of_eq rfl) (hb hby d_prog_108_method_1_67) (fun _ _ => ⟨rfl, e4, (by decide : 2 + 0 ≤ _), (by decide : 3 + 0 ≤ _)⟩)
  dsimp only [Pt.U, Pt.locs, Pt.cells, Pt.slots] at X5 l5 y5 z5 st5 hQ5
  subst y5 z5
  obtain ⟨hv5, Nq5, e5⟩ := hQ5
  obtain rfl : v5 = some (.int (0 : Int32)) := hv5
  have N5 : Fr n0 L5 := by rw [l5]; exact Fr.app N4 Nq5
  obtain ⟨cq6, kq6, q6a, q6b, q6c⟩ := isOf hZ e5 (E_w_EL.ext EX3)
  obtain ⟨v6, _, ⟨T6, L6, k6, n6⟩, -, X6, ⟨Lc6, hQ6, l6, y6, z6⟩, st6⟩ := X5.interfaceBack hx (xi := (⟨"java/util/List", "isEmpty", "()Z"⟩ : MethodName)) (y := (⟨"java/util/ImmutableCollections$ListN", "isEmpty", "()Z"⟩ : MethodName)) hown (mvT hZ (hw _ (ow 190 rfl))) (mvT hZ (hw _ (ow 191 rfl))) (mvT hZ (hw _ (ow 192 rfl))) (mvT hZ (hw _ (ow 199 rfl))) (mvT hZ (hw _ (ow 200 rfl))) (mvT hZ (hw _ (ow 201 rfl))) (mvT hZ (hw _ (ow 202 rfl))) (mvT hZ (hw _ (ow 203 rfl))) (by decide) (backOf (W := 0) (rm_lniE l Z a0 hw []  T3.heap n0 w_ROWS w_RESULT w_PARTIAL_GROUPS w_MERGED_GROUPS w_D w_EL w_EE w_C w_EM w_M (own_K_ext EX3 hK)) hZ (hw _ (ow 205 rfl)) (hw _ (ow 204 rfl)) (by decide) (by decide)) q6a q6b q6c (g := (mkF m 82 #[.val (.ref a1), .val (.ref w_ROWS), .val (.ref r2), .val (.int (1 : Int32)), .val (.ref w_EL), .val .null, .unset] [(.ref w_EL)])) rfl (by rw [hml]; rfl) (Steps.refl _) (argsL := []) (rest := []) (lenOf pd_1 rfl) rfl (Nat.le_of_eq rfl) (hb hby d_prog_108_method_1_82) (fun _ _ => ⟨rfl, e5, (by decide : 2 + 0 ≤ _), (by decide : 3 + 0 ≤ _)⟩)
  dsimp only [Pt.U, Pt.locs, Pt.cells, Pt.slots] at X6 l6 y6 z6 st6 hQ6
  subst y6 z6
  obtain ⟨hv6, Nq6, e6⟩ := hQ6
  obtain rfl : v6 = some (.int (1 : Int32)) := hv6
  have N6 : Fr n0 L6 := by rw [l6]; exact Fr.app N5 Nq6
  obtain ⟨T7, h7, X7, e7, W7, st7⟩ := putF X6 hx hZ hown (host := "") (Or.inl (hw _ (ow 208 rfl))) Via.refl e6 x3_F_a1_shape x3_E_a1 (Or.inr ⟨(hw _ (ow 209 rfl)), rfl, hnm⟩) (hw _ (ow 111 rfl)) (ty := (.object "com/example/cairn/cairn/plan/Stage$Shape")) (by decide) rfl rfl (g := (mkF m 280 #[.val (.ref a1), .val (.ref w_ROWS), .val (.ref r2), .val (.int (1 : Int32)), .val (.ref w_EL), .val .null, .val (.int (1 : Int32))] [(.ref w_ROWS), (.ref a1)])) rfl rfl (hb hby d_prog_108_method_1_280)
  have x7_E_a1 := x3_E_a1.wr W7
  have x7_F_a1_shape := x3_F_a1_shape.same W7
  have x7_F_a1_slots := x3_F_a1_slots.other W7 (Or.inr (slot_ne (Or.inr (hw _ (ow 211 rfl))) (Or.inr (hw _ (ow 209 rfl))) (by decide) (t := (.object "java/util/List")) (t' := (.object "com/example/cairn/cairn/plan/Stage$Shape")) (by decide) (by decide)))
  have x7_F_a1_buckets := x3_F_a1_buckets.other W7 (Or.inr (slot_ne (Or.inr (hw _ (ow 213 rfl))) (Or.inr (hw _ (ow 209 rfl))) (by decide) (t := .int) (t' := (.object "com/example/cairn/cairn/plan/Stage$Shape")) (by decide) (by decide)))
  have x7_F_a1_keys := x3_F_a1_keys.other W7 (Or.inr (slot_ne (Or.inr (hw _ (ow 215 rfl))) (Or.inr (hw _ (ow 209 rfl))) (by decide) (t := (.object "java/util/List")) (t' := (.object "com/example/cairn/cairn/plan/Stage$Shape")) (by decide) (by decide)))
  have x7_F_a1_grouping := x3_F_a1_grouping.other W7 (Or.inr (slot_ne (Or.inr (hw _ (ow 217 rfl))) (Or.inr (hw _ (ow 209 rfl))) (by decide) (t := (.object "com/example/cairn/cairn/plan/Grouping")) (t' := (.object "com/example/cairn/cairn/plan/Stage$Shape")) (by decide) (by decide)))
  have x7_E_a2 := x3_E_a2.wr W7
  have x7_E_a4 := x3_E_a4.wr W7
  have x7_E_ar := x3_E_ar.wr W7
  have x7_E_el := x3_E_el.wr W7
  have x7_E_r2 := x3_E_r2.wr W7
  have EX7 := own_ext_wr EX3 W7 (hn0 ▸ g_a1)
  have K7 := Keep.wr K3 W7 (Or.inl (List.mem_of_getElem? (i := 0) rfl))
  have N7 := Fr.snoc X7 N6 g_a1
  obtain ⟨T8, h8, X8, e8, W8, st8⟩ := putF X7 hx hZ hown (host := "") (Or.inl (hw _ (ow 210 rfl))) Via.refl e7 x7_F_a1_slots x7_E_a1 (Or.inr ⟨(hw _ (ow 211 rfl)), rfl, hnm⟩) (hw _ (ow 111 rfl)) (ty := (.object "java/util/List")) (by decide) rfl rfl (g := (mkF m 285 #[.val (.ref a1), .val (.ref w_ROWS), .val (.ref r2), .val (.int (1 : Int32)), .val (.ref w_EL), .val .null, .val (.int (1 : Int32))] [(.ref r2), (.ref a1)])) rfl rfl (hb hby d_prog_108_method_1_285)
  have x8_E_a1 := x7_E_a1.wr W8
  have x8_F_a1_shape := x7_F_a1_shape.other W8 (Or.inr (slot_ne (Or.inr (hw _ (ow 209 rfl))) (Or.inr (hw _ (ow 211 rfl))) (by decide) (t := (.object "com/example/cairn/cairn/plan/Stage$Shape")) (t' := (.object "java/util/List")) (by decide) (by decide)))
  have x8_F_a1_slots := x7_F_a1_slots.same W8
  have x8_F_a1_buckets := x7_F_a1_buckets.other W8 (Or.inr (slot_ne (Or.inr (hw _ (ow 213 rfl))) (Or.inr (hw _ (ow 211 rfl))) (by decide) (t := .int) (t' := (.object "java/util/List")) (by decide) (by decide)))
  have x8_F_a1_keys := x7_F_a1_keys.other W8 (Or.inr (slot_ne (Or.inr (hw _ (ow 215 rfl))) (Or.inr (hw _ (ow 211 rfl))) (by decide) (t := (.object "java/util/List")) (t' := (.object "java/util/List")) (by decide) (by decide)))
  have x8_F_a1_grouping := x7_F_a1_grouping.other W8 (Or.inr (slot_ne (Or.inr (hw _ (ow 217 rfl))) (Or.inr (hw _ (ow 211 rfl))) (by decide) (t := (.object "com/example/cairn/cairn/plan/Grouping")) (t' := (.object "java/util/List")) (by decide) (by decide)))
  have x8_E_a2 := x7_E_a2.wr W8
  have x8_E_a4 := x7_E_a4.wr W8
  have x8_E_ar := x7_E_ar.wr W8
  have x8_E_el := x7_E_el.wr W8
  have x8_E_r2 := x7_E_r2.wr W8
  have EX8 := own_ext_wr EX7 W8 (hn0 ▸ g_a1)
  have K8 := Keep.wr K7 W8 (Or.inl (List.mem_of_getElem? (i := 0) rfl))
  have N8 := Fr.snoc X8 N7 g_a1
  obtain ⟨T9, h9, X9, e9, W9, st9⟩ := putF X8 hx hZ hown (host := "") (Or.inl (hw _ (ow 212 rfl))) Via.refl e8 x8_F_a1_buckets x8_E_a1 (Or.inr ⟨(hw _ (ow 213 rfl)), rfl, hnm⟩) (hw _ (ow 111 rfl)) (ty := .int) (by decide) rfl rfl (g := (mkF m 290 #[.val (.ref a1), .val (.ref w_ROWS), .val (.ref r2), .val (.int (1 : Int32)), .val (.ref w_EL), .val .null, .val (.int (1 : Int32))] [(.int (1 : Int32)), (.ref a1)])) rfl rfl (hb hby d_prog_108_method_1_290)
  have x9_E_a1 := x8_E_a1.wr W9
  have x9_F_a1_shape := x8_F_a1_shape.other W9 (Or.inr (slot_ne (Or.inr (hw _ (ow 209 rfl))) (Or.inr (hw _ (ow 213 rfl))) (by decide) (t := (.object "com/example/cairn/cairn/plan/Stage$Shape")) (t' := .int) (by decide) (by decide)))
  have x9_F_a1_slots := x8_F_a1_slots.other W9 (Or.inr (slot_ne (Or.inr (hw _ (ow 211 rfl))) (Or.inr (hw _ (ow 213 rfl))) (by decide) (t := (.object "java/util/List")) (t' := .int) (by decide) (by decide)))
  have x9_F_a1_buckets := x8_F_a1_buckets.same W9
  have x9_F_a1_keys := x8_F_a1_keys.other W9 (Or.inr (slot_ne (Or.inr (hw _ (ow 215 rfl))) (Or.inr (hw _ (ow 213 rfl))) (by decide) (t := (.object "java/util/List")) (t' := .int) (by decide) (by decide)))
  have x9_F_a1_grouping := x8_F_a1_grouping.other W9 (Or.inr (slot_ne (Or.inr (hw _ (ow 217 rfl))) (Or.inr (hw _ (ow 213 rfl))) (by decide) (t := (.object "com/example/cairn/cairn/plan/Grouping")) (t' := .int) (by decide) (by decide)))
  have x9_E_a2 := x8_E_a2.wr W9
  have x9_E_a4 := x8_E_a4.wr W9
  have x9_E_ar := x8_E_ar.wr W9
  have x9_E_el := x8_E_el.wr W9
  have x9_E_r2 := x8_E_r2.wr W9
  have EX9 := own_ext_wr EX8 W9 (hn0 ▸ g_a1)
  have K9 := Keep.wr K8 W9 (Or.inl (List.mem_of_getElem? (i := 0) rfl))
  have N9 := Fr.snoc X9 N8 g_a1
  obtain ⟨T10, h10, X10, e10, W10, st10⟩ := putF X9 hx hZ hown (host := "") (Or.inl (hw _ (ow 214 rfl))) Via.refl e9 x9_F_a1_keys x9_E_a1 (Or.inr ⟨(hw _ (ow 215 rfl)), rfl, hnm⟩) (hw _ (ow 111 rfl)) (ty := (.object "java/util/List")) (by decide) rfl rfl (g := (mkF m 296 #[.val (.ref a1), .val (.ref w_ROWS), .val (.ref r2), .val (.int (1 : Int32)), .val (.ref w_EL), .val .null, .val (.int (1 : Int32))] [(.ref w_EL), (.ref a1)])) rfl rfl (hb hby d_prog_108_method_1_296)
  have x10_E_a1 := x9_E_a1.wr W10
  have x10_F_a1_shape := x9_F_a1_shape.other W10 (Or.inr (slot_ne (Or.inr (hw _ (ow 209 rfl))) (Or.inr (hw _ (ow 215 rfl))) (by decide) (t := (.object "com/example/cairn/cairn/plan/Stage$Shape")) (t' := (.object "java/util/List")) (by decide) (by decide)))
  have x10_F_a1_slots := x9_F_a1_slots.other W10 (Or.inr (slot_ne (Or.inr (hw _ (ow 211 rfl))) (Or.inr (hw _ (ow 215 rfl))) (by decide) (t := (.object "java/util/List")) (t' := (.object "java/util/List")) (by decide) (by decide)))
  have x10_F_a1_buckets := x9_F_a1_buckets.other W10 (Or.inr (slot_ne (Or.inr (hw _ (ow 213 rfl))) (Or.inr (hw _ (ow 215 rfl))) (by decide) (t := .int) (t' := (.object "java/util/List")) (by decide) (by decide)))
  have x10_F_a1_keys := x9_F_a1_keys.same W10
  have x10_F_a1_grouping := x9_F_a1_grouping.other W10 (Or.inr (slot_ne (Or.inr (hw _ (ow 217 rfl))) (Or.inr (hw _ (ow 215 rfl))) (by decide) (t := (.object "com/example/cairn/cairn/plan/Grouping")) (t' := (.object "java/util/List")) (by decide) (by decide)))
  have x10_E_a2 := x9_E_a2.wr W10
  have x10_E_a4 := x9_E_a4.wr W10
  have x10_E_ar := x9_E_ar.wr W10
  have x10_E_el := x9_E_el.wr W10
  have x10_E_r2 := x9_E_r2.wr W10
  have EX10 := own_ext_wr EX9 W10 (hn0 ▸ g_a1)
  have K10 := Keep.wr K9 W10 (Or.inl (List.mem_of_getElem? (i := 0) rfl))
  have N10 := Fr.snoc X10 N9 g_a1
  obtain ⟨T11, h11, X11, e11, W11, st11⟩ := putF X10 hx hZ hown (host := "") (Or.inl (hw _ (ow 216 rfl))) Via.refl e10 x10_F_a1_grouping x10_E_a1 (Or.inr ⟨(hw _ (ow 217 rfl)), rfl, hnm⟩) (hw _ (ow 111 rfl)) (ty := (.object "com/example/cairn/cairn/plan/Grouping")) (by decide) rfl rfl (g := (mkF m 302 #[.val (.ref a1), .val (.ref w_ROWS), .val (.ref r2), .val (.int (1 : Int32)), .val (.ref w_EL), .val .null, .val (.int (1 : Int32))] [.null, (.ref a1)])) rfl rfl (hb hby d_prog_108_method_1_302)
  have x11_E_a1 := x10_E_a1.wr W11
  have x11_F_a1_shape := x10_F_a1_shape.other W11 (Or.inr (slot_ne (Or.inr (hw _ (ow 209 rfl))) (Or.inr (hw _ (ow 217 rfl))) (by decide) (t := (.object "com/example/cairn/cairn/plan/Stage$Shape")) (t' := (.object "com/example/cairn/cairn/plan/Grouping")) (by decide) (by decide)))
  have x11_F_a1_slots := x10_F_a1_slots.other W11 (Or.inr (slot_ne (Or.inr (hw _ (ow 211 rfl))) (Or.inr (hw _ (ow 217 rfl))) (by decide) (t := (.object "java/util/List")) (t' := (.object "com/example/cairn/cairn/plan/Grouping")) (by decide) (by decide)))
  have x11_F_a1_buckets := x10_F_a1_buckets.other W11 (Or.inr (slot_ne (Or.inr (hw _ (ow 213 rfl))) (Or.inr (hw _ (ow 217 rfl))) (by decide) (t := .int) (t' := (.object "com/example/cairn/cairn/plan/Grouping")) (by decide) (by decide)))
  have x11_F_a1_keys := x10_F_a1_keys.other W11 (Or.inr (slot_ne (Or.inr (hw _ (ow 215 rfl))) (Or.inr (hw _ (ow 217 rfl))) (by decide) (t := (.object "java/util/List")) (t' := (.object "com/example/cairn/cairn/plan/Grouping")) (by decide) (by decide)))
  have x11_F_a1_grouping := x10_F_a1_grouping.same W11
  have x11_E_a2 := x10_E_a2.wr W11
  have x11_E_a4 := x10_E_a4.wr W11
  have x11_E_ar := x10_E_ar.wr W11
  have x11_E_el := x10_E_el.wr W11
  have x11_E_r2 := x10_E_r2.wr W11
  have EX11 := own_ext_wr EX10 W11 (hn0 ▸ g_a1)
  have K11 := Keep.wr K10 W11 (Or.inl (List.mem_of_getElem? (i := 0) rfl))
  have N11 := Fr.snoc X11 N10 g_a1
  have pre12 : ∀ t, Steps p.tables e below (T11.setTop (mkF m 305 #[.val (.ref a1), .val (.ref w_ROWS), .val (.ref r2), .val (.int (1 : Int32)), .val (.ref w_EL), .val .null, .val (.int (1 : Int32))] [])) t → Steps p.tables e below (s₁.setTop (entryFrame m #[(.ref a1), (.ref w_ROWS), (.ref a2), (.int (1 : Int32)), (.ref a4), .null] 7)) t := fun t k => pre0 t (by
    show Steps p.tables e below (s₁.setTop (mkF m 0 #[.val (.ref a1), .val (.ref w_ROWS), .val (.ref a2), .val (.int (1 : Int32)), .val (.ref a4), .val .null, .unset] [])) _
    refine XS.aloadN X0.here hx rfl (hb hby d_prog_108_method_1_0) rfl rfl ?_
    show Steps p.tables e below (s₁.setTop (mkF m 1 #[.val (.ref a1), .val (.ref w_ROWS), .val (.ref a2), .val (.int (1 : Int32)), .val (.ref a4), .val .null, .unset] [(.ref a1)])) _
    refine st1.trans ?_
    show Steps p.tables e below (T1.setTop (mkF m 4 #[.val (.ref a1), .val (.ref w_ROWS), .val (.ref a2), .val (.int (1 : Int32)), .val (.ref a4), .val .null, .unset] [])) _
    refine XS.aloadN X1.here hx rfl (hb hby d_prog_108_method_1_4) rfl rfl ?_
    show Steps p.tables e below (T1.setTop (mkF m 5 #[.val (.ref a1), .val (.ref w_ROWS), .val (.ref a2), .val (.int (1 : Int32)), .val (.ref a4), .val .null, .unset] [(.ref a2)])) _
    refine st2 _ ?_
    show Steps p.tables e below (T2.setTop (mkF m 8 #[.val (.ref a1), .val (.ref w_ROWS), .val (.ref a2), .val (.int (1 : Int32)), .val (.ref a4), .val .null, .unset] [(.ref r2)])) _
    refine XS.astoreN X2.here hx rfl (hb hby d_prog_108_method_1_8) rfl rfl (l' := #[.val (.ref a1), .val (.ref w_ROWS), .val (.ref r2), .val (.int (1 : Int32)), .val (.ref a4), .val .null, .unset]) rfl ?_
    show Steps p.tables e below (T2.setTop (mkF m 9 #[.val (.ref a1), .val (.ref w_ROWS), .val (.ref r2), .val (.int (1 : Int32)), .val (.ref a4), .val .null, .unset] [])) _
    refine XS.aload X2.here hx rfl (hb hby d_prog_108_method_1_9) rfl rfl ?_
    show Steps p.tables e below (T2.setTop (mkF m 11 #[.val (.ref a1), .val (.ref w_ROWS), .val (.ref r2), .val (.int (1 : Int32)), .val (.ref a4), .val .null, .unset] [(.ref a4)])) _
    refine st3 _ ?_
    show Steps p.tables e below (T3.setTop (mkF m 14 #[.val (.ref a1), .val (.ref w_ROWS), .val (.ref r2), .val (.int (1 : Int32)), .val (.ref a4), .val .null, .unset] [(.ref w_EL)])) _
    refine XS.astore X3.here hx rfl (hb hby d_prog_108_method_1_14) rfl rfl (l' := #[.val (.ref a1), .val (.ref w_ROWS), .val (.ref r2), .val (.int (1 : Int32)), .val (.ref w_EL), .val .null, .unset]) rfl ?_
    show Steps p.tables e below (T3.setTop (mkF m 16 #[.val (.ref a1), .val (.ref w_ROWS), .val (.ref r2), .val (.int (1 : Int32)), .val (.ref w_EL), .val .null, .unset] [])) _
    refine XS.aloadN X3.here hx rfl (hb hby d_prog_108_method_1_16) rfl rfl ?_
    show Steps p.tables e below (T3.setTop (mkF m 17 #[.val (.ref a1), .val (.ref w_ROWS), .val (.ref r2), .val (.int (1 : Int32)), .val (.ref w_EL), .val .null, .unset] [(.ref w_ROWS)])) _
    refine st4.trans ?_
    show Steps p.tables e below (T4.setTop (mkF m 20 #[.val (.ref a1), .val (.ref w_ROWS), .val (.ref r2), .val (.int (1 : Int32)), .val (.ref w_EL), .val .null, .unset] [(.int (0 : Int32))])) _
    refine XS.tswIn X4.here hx rfl (o := 42) (pc0 := 20) (pc' := 62) rfl (hb hby d_prog_108_method_1_20) rfl (by decide) (by decide) (by decide) (by decide) ?_
    show Steps p.tables e below (T4.setTop (mkF m 62 #[.val (.ref a1), .val (.ref w_ROWS), .val (.ref r2), .val (.int (1 : Int32)), .val (.ref w_EL), .val .null, .unset] [])) _
    refine XS.iloadN X4.here hx rfl (hb hby d_prog_108_method_1_62) rfl ?_
    show Steps p.tables e below (T4.setTop (mkF m 63 #[.val (.ref a1), .val (.ref w_ROWS), .val (.ref r2), .val (.int (1 : Int32)), .val (.ref w_EL), .val .null, .unset] [(.int (1 : Int32))])) _
    refine XS.ifNo X4.here hx rfl (hb hby d_prog_108_method_1_63) rfl ((if0 _ _).trans (tlt (by decide)).2.2.2) ?_
    show Steps p.tables e below (T4.setTop (mkF m 66 #[.val (.ref a1), .val (.ref w_ROWS), .val (.ref r2), .val (.int (1 : Int32)), .val (.ref w_EL), .val .null, .unset] [])) _
    refine XS.aloadN X4.here hx rfl (hb hby d_prog_108_method_1_66) rfl rfl ?_
    show Steps p.tables e below (T4.setTop (mkF m 67 #[.val (.ref a1), .val (.ref w_ROWS), .val (.ref r2), .val (.int (1 : Int32)), .val (.ref w_EL), .val .null, .unset] [(.ref r2)])) _
    refine st5.trans ?_
    show Steps p.tables e below (T5.setTop (mkF m 72 #[.val (.ref a1), .val (.ref w_ROWS), .val (.ref r2), .val (.int (1 : Int32)), .val (.ref w_EL), .val .null, .unset] [(.int (0 : Int32))])) _
    refine XS.ifNo X5.here hx rfl (hb hby d_prog_108_method_1_72) rfl ((if0 _ _).trans (teq (by decide)).2) ?_
    show Steps p.tables e below (T5.setTop (mkF m 75 #[.val (.ref a1), .val (.ref w_ROWS), .val (.ref r2), .val (.int (1 : Int32)), .val (.ref w_EL), .val .null, .unset] [])) _
    refine XS.iloadN X5.here hx rfl (hb hby d_prog_108_method_1_75) rfl ?_
    show Steps p.tables e below (T5.setTop (mkF m 76 #[.val (.ref a1), .val (.ref w_ROWS), .val (.ref r2), .val (.int (1 : Int32)), .val (.ref w_EL), .val .null, .unset] [(.int (1 : Int32))])) _
    refine XS.iconst X5.here hx rfl (hb hby d_prog_108_method_1_76) ?_
    show Steps p.tables e below (T5.setTop (mkF m 77 #[.val (.ref a1), .val (.ref w_ROWS), .val (.ref r2), .val (.int (1 : Int32)), .val (.ref w_EL), .val .null, .unset] [(.int (1 : Int32)), (.int (1 : Int32))])) _
    refine XS.icmpNo X5.here hx rfl (hb hby d_prog_108_method_1_77) rfl (teq (by decide)).2 ?_
    show Steps p.tables e below (T5.setTop (mkF m 80 #[.val (.ref a1), .val (.ref w_ROWS), .val (.ref r2), .val (.int (1 : Int32)), .val (.ref w_EL), .val .null, .unset] [])) _
    refine XS.aload X5.here hx rfl (hb hby d_prog_108_method_1_80) rfl rfl ?_
    show Steps p.tables e below (T5.setTop (mkF m 82 #[.val (.ref a1), .val (.ref w_ROWS), .val (.ref r2), .val (.int (1 : Int32)), .val (.ref w_EL), .val .null, .unset] [(.ref w_EL)])) _
    refine st6.trans ?_
    show Steps p.tables e below (T6.setTop (mkF m 87 #[.val (.ref a1), .val (.ref w_ROWS), .val (.ref r2), .val (.int (1 : Int32)), .val (.ref w_EL), .val .null, .unset] [(.int (1 : Int32))])) _
    refine XS.ifNo X6.here hx rfl (hb hby d_prog_108_method_1_87) rfl ((if0 _ _).trans (feq (by decide)).1) ?_
    show Steps p.tables e below (T6.setTop (mkF m 90 #[.val (.ref a1), .val (.ref w_ROWS), .val (.ref r2), .val (.int (1 : Int32)), .val (.ref w_EL), .val .null, .unset] [])) _
    refine XS.goto X6.here hx rfl (pc0 := 90) (pc' := 103) rfl (hb hby d_prog_108_method_1_90) (by decide) (by decide) ?_
    show Steps p.tables e below (T6.setTop (mkF m 103 #[.val (.ref a1), .val (.ref w_ROWS), .val (.ref r2), .val (.int (1 : Int32)), .val (.ref w_EL), .val .null, .unset] [])) _
    refine XS.aload X6.here hx rfl (hb hby d_prog_108_method_1_103) rfl rfl ?_
    show Steps p.tables e below (T6.setTop (mkF m 105 #[.val (.ref a1), .val (.ref w_ROWS), .val (.ref r2), .val (.int (1 : Int32)), .val (.ref w_EL), .val .null, .unset] [.null])) _
    refine XS.ifnonnullNo X6.here hx rfl (hb hby d_prog_108_method_1_105) rfl ?_
    show Steps p.tables e below (T6.setTop (mkF m 108 #[.val (.ref a1), .val (.ref w_ROWS), .val (.ref r2), .val (.int (1 : Int32)), .val (.ref w_EL), .val .null, .unset] [])) _
    refine XS.iconst X6.here hx rfl (hb hby d_prog_108_method_1_108) ?_
    show Steps p.tables e below (T6.setTop (mkF m 109 #[.val (.ref a1), .val (.ref w_ROWS), .val (.ref r2), .val (.int (1 : Int32)), .val (.ref w_EL), .val .null, .unset] [(.int (1 : Int32))])) _
    refine XS.goto X6.here hx rfl (pc0 := 109) (pc' := 221) rfl (hb hby d_prog_108_method_1_109) (by decide) (by decide) ?_
    show Steps p.tables e below (T6.setTop (mkF m 221 #[.val (.ref a1), .val (.ref w_ROWS), .val (.ref r2), .val (.int (1 : Int32)), .val (.ref w_EL), .val .null, .unset] [(.int (1 : Int32))])) _
    refine XS.istore X6.here hx rfl (hb hby d_prog_108_method_1_221) rfl (l' := #[.val (.ref a1), .val (.ref w_ROWS), .val (.ref r2), .val (.int (1 : Int32)), .val (.ref w_EL), .val .null, .val (.int (1 : Int32))]) rfl ?_
    show Steps p.tables e below (T6.setTop (mkF m 223 #[.val (.ref a1), .val (.ref w_ROWS), .val (.ref r2), .val (.int (1 : Int32)), .val (.ref w_EL), .val .null, .val (.int (1 : Int32))] [])) _
    refine XS.iload X6.here hx rfl (hb hby d_prog_108_method_1_223) rfl ?_
    show Steps p.tables e below (T6.setTop (mkF m 225 #[.val (.ref a1), .val (.ref w_ROWS), .val (.ref r2), .val (.int (1 : Int32)), .val (.ref w_EL), .val .null, .val (.int (1 : Int32))] [(.int (1 : Int32))])) _
    refine XS.ifYes X6.here hx rfl (pc0 := 225) (pc' := 278) rfl (hb hby d_prog_108_method_1_225) rfl ((if0 _ _).trans (feq (by decide)).2) (by decide) (by decide) ?_
    show Steps p.tables e below (T6.setTop (mkF m 278 #[.val (.ref a1), .val (.ref w_ROWS), .val (.ref r2), .val (.int (1 : Int32)), .val (.ref w_EL), .val .null, .val (.int (1 : Int32))] [])) _
    refine XS.aloadN X6.here hx rfl (hb hby d_prog_108_method_1_278) rfl rfl ?_
    show Steps p.tables e below (T6.setTop (mkF m 279 #[.val (.ref a1), .val (.ref w_ROWS), .val (.ref r2), .val (.int (1 : Int32)), .val (.ref w_EL), .val .null, .val (.int (1 : Int32))] [(.ref a1)])) _
    refine XS.aloadN X6.here hx rfl (hb hby d_prog_108_method_1_279) rfl rfl ?_
    show Steps p.tables e below (T6.setTop (mkF m 280 #[.val (.ref a1), .val (.ref w_ROWS), .val (.ref r2), .val (.int (1 : Int32)), .val (.ref w_EL), .val .null, .val (.int (1 : Int32))] [(.ref w_ROWS), (.ref a1)])) _
    refine st7 _ ?_
    show Steps p.tables e below (T7.setTop (mkF m 283 #[.val (.ref a1), .val (.ref w_ROWS), .val (.ref r2), .val (.int (1 : Int32)), .val (.ref w_EL), .val .null, .val (.int (1 : Int32))] [])) _
    refine XS.aloadN X7.here hx rfl (hb hby d_prog_108_method_1_283) rfl rfl ?_
    show Steps p.tables e below (T7.setTop (mkF m 284 #[.val (.ref a1), .val (.ref w_ROWS), .val (.ref r2), .val (.int (1 : Int32)), .val (.ref w_EL), .val .null, .val (.int (1 : Int32))] [(.ref a1)])) _
    refine XS.aloadN X7.here hx rfl (hb hby d_prog_108_method_1_284) rfl rfl ?_
    show Steps p.tables e below (T7.setTop (mkF m 285 #[.val (.ref a1), .val (.ref w_ROWS), .val (.ref r2), .val (.int (1 : Int32)), .val (.ref w_EL), .val .null, .val (.int (1 : Int32))] [(.ref r2), (.ref a1)])) _
    refine st8 _ ?_
    show Steps p.tables e below (T8.setTop (mkF m 288 #[.val (.ref a1), .val (.ref w_ROWS), .val (.ref r2), .val (.int (1 : Int32)), .val (.ref w_EL), .val .null, .val (.int (1 : Int32))] [])) _
    refine XS.aloadN X8.here hx rfl (hb hby d_prog_108_method_1_288) rfl rfl ?_
    show Steps p.tables e below (T8.setTop (mkF m 289 #[.val (.ref a1), .val (.ref w_ROWS), .val (.ref r2), .val (.int (1 : Int32)), .val (.ref w_EL), .val .null, .val (.int (1 : Int32))] [(.ref a1)])) _
    refine XS.iloadN X8.here hx rfl (hb hby d_prog_108_method_1_289) rfl ?_
    show Steps p.tables e below (T8.setTop (mkF m 290 #[.val (.ref a1), .val (.ref w_ROWS), .val (.ref r2), .val (.int (1 : Int32)), .val (.ref w_EL), .val .null, .val (.int (1 : Int32))] [(.int (1 : Int32)), (.ref a1)])) _
    refine st9 _ ?_
    show Steps p.tables e below (T9.setTop (mkF m 293 #[.val (.ref a1), .val (.ref w_ROWS), .val (.ref r2), .val (.int (1 : Int32)), .val (.ref w_EL), .val .null, .val (.int (1 : Int32))] [])) _
    refine XS.aloadN X9.here hx rfl (hb hby d_prog_108_method_1_293) rfl rfl ?_
    show Steps p.tables e below (T9.setTop (mkF m 294 #[.val (.ref a1), .val (.ref w_ROWS), .val (.ref r2), .val (.int (1 : Int32)), .val (.ref w_EL), .val .null, .val (.int (1 : Int32))] [(.ref a1)])) _
    refine XS.aload X9.here hx rfl (hb hby d_prog_108_method_1_294) rfl rfl ?_
    show Steps p.tables e below (T9.setTop (mkF m 296 #[.val (.ref a1), .val (.ref w_ROWS), .val (.ref r2), .val (.int (1 : Int32)), .val (.ref w_EL), .val .null, .val (.int (1 : Int32))] [(.ref w_EL), (.ref a1)])) _
    refine st10 _ ?_
    show Steps p.tables e below (T10.setTop (mkF m 299 #[.val (.ref a1), .val (.ref w_ROWS), .val (.ref r2), .val (.int (1 : Int32)), .val (.ref w_EL), .val .null, .val (.int (1 : Int32))] [])) _
    refine XS.aloadN X10.here hx rfl (hb hby d_prog_108_method_1_299) rfl rfl ?_
    show Steps p.tables e below (T10.setTop (mkF m 300 #[.val (.ref a1), .val (.ref w_ROWS), .val (.ref r2), .val (.int (1 : Int32)), .val (.ref w_EL), .val .null, .val (.int (1 : Int32))] [(.ref a1)])) _
    refine XS.aload X10.here hx rfl (hb hby d_prog_108_method_1_300) rfl rfl ?_
    show Steps p.tables e below (T10.setTop (mkF m 302 #[.val (.ref a1), .val (.ref w_ROWS), .val (.ref r2), .val (.int (1 : Int32)), .val (.ref w_EL), .val .null, .val (.int (1 : Int32))] [.null, (.ref a1)])) _
    refine st11 _ ?_
    exact k)
  obtain ⟨fs, hr, hrun, hended, hW, hsame⟩ := X11.leave (v := none) (fun _ => rfl)
  refine ⟨_, _, pre12 _ ?_, hrun, hended, _, _, rfl, ?_, ⟨_, rfl⟩, hW, hsame.mono (by decide) (by decide)⟩
  · show Steps p.tables e below (T11.setTop (mkF m 305 #[.val (.ref a1), .val (.ref w_ROWS), .val (.ref r2), .val (.int (1 : Int32)), .val (.ref w_EL), .val .null, .val (.int (1 : Int32))] [])) _
    exact X11.returnOut hx Bd.returns (hb hby d_prog_108_method_1_305) hr
  · exact ⟨rfl, N11, by rw [show (T11.setFrames fs).heap = _ from e11]; exact ⟨K11, x11_E_a1, x11_F_a1_buckets⟩⟩
def own_Q_oi1 (Z : State) (a1 : Addr) (a2 : Addr) (a4 : Addr) (w_ROWS w_RESULT w_PARTIAL_GROUPS w_MERGED_GROUPS w_D w_EL w_EE w_C w_EM w_M : Addr)  (h0 : Heap) (n0 : Nat) (v : Option Value) (h : Heap) (L : List Loc) : Prop := v = none ∧ Fr n0 L ∧ Keep h0 h [a1] ∧ Exa Z h a1 "com/example/cairn/cairn/plan/Stage$Output" ∧ Fld Z h a1 "com/example/cairn/cairn/plan/Stage$Output" "buckets" "I" (.int (0 : Int32))
theorem d_prog_108_method_1_188 : decode prog_108_method_1_code 188 = .ok (.iload_n 3, 1) := by decide +kernel
theorem d_prog_108_method_1_189 : decode prog_108_method_1_code 189 = .ok (.ifCond .ne 31, 3) := by decide +kernel
theorem d_prog_108_method_1_192 : decode prog_108_method_1_code 192 = .ok (.aload_n 2, 1) := by decide +kernel
theorem d_prog_108_method_1_193 : decode prog_108_method_1_code 193 = .ok (.invokeinterface 24 1, 5) := by decide +kernel
theorem d_prog_108_method_1_198 : decode prog_108_method_1_code 198 = .ok (.ifCond .eq 22, 3) := by decide +kernel
theorem d_prog_108_method_1_201 : decode prog_108_method_1_code 201 = .ok (.aload 4, 2) := by decide +kernel
theorem d_prog_108_method_1_203 : decode prog_108_method_1_code 203 = .ok (.invokeinterface 24 1, 5) := by decide +kernel
theorem d_prog_108_method_1_208 : decode prog_108_method_1_code 208 = .ok (.ifCond .eq 12, 3) := by decide +kernel
theorem d_prog_108_method_1_211 : decode prog_108_method_1_code 211 = .ok (.aload 5, 2) := by decide +kernel
theorem d_prog_108_method_1_213 : decode prog_108_method_1_code 213 = .ok (.ifnonnull 7, 3) := by decide +kernel
theorem d_prog_108_method_1_216 : decode prog_108_method_1_code 216 = .ok (.iconst 1, 1) := by decide +kernel
theorem d_prog_108_method_1_217 : decode prog_108_method_1_code 217 = .ok (.goto 4, 3) := by decide +kernel
theorem ef_oi1 (m : MethodId) (x0 : Addr) (x1 : Addr) (x2 : Addr) (x3 : Int32) (x4 : Addr) : entryFrame m #[(.ref x0), (.ref x1), (.ref x2), (.int x3), (.ref x4), .null] 7 = mkF m 0 #[.val (.ref x0), .val (.ref x1), .val (.ref x2), .val (.int x3), .val (.ref x4), .val .null, .unset] [] := by first | (simp [entryFrame, mkF, argsToLocals, Value.category]; done) | rfl
set_option maxRecDepth 65536 in
set_option maxHeartbeats 40000000 in
theorem rm_oi1 (l : Launch) (Z : State) (a0 : Array Value) (hw : ∀ d ∈ tables_1, d.before a0 Z = true) (ws : List Jvm.Cond) (a1 : Addr) (a2 : Addr) (a4 : Addr) (h0 : Heap) (n0 : Nat) (w_ROWS w_RESULT w_PARTIAL_GROUPS w_MERGED_GROUPS w_D w_EL w_EE w_C w_EM w_M : Addr) (hK : own_K Z Z.heap w_ROWS w_RESULT w_PARTIAL_GROUPS w_MERGED_GROUPS w_D w_EL w_EE w_C w_EM w_M) (hn0 : n0 = Z.heap.size) (EX0 : Ext Z.heap h0) (E_a1 : Exa Z h0 a1 "com/example/cairn/cairn/plan/Stage$Output") (g_a1 : n0 ≤ a1) (F_shape_a1 : Fld Z h0 a1 "com/example/cairn/cairn/plan/Stage$Output" "shape" "Lcom/example/cairn/cairn/plan/Stage$Shape;" .null) (F_slots_a1 : Fld Z h0 a1 "com/example/cairn/cairn/plan/Stage$Output" "slots" "Ljava/util/List;" .null) (F_buckets_a1 : Fld Z h0 a1 "com/example/cairn/cairn/plan/Stage$Output" "buckets" "I" (.int (0 : Int32))) (F_keys_a1 : Fld Z h0 a1 "com/example/cairn/cairn/plan/Stage$Output" "keys" "Ljava/util/List;" .null) (F_grouping_a1 : Fld Z h0 a1 "com/example/cairn/cairn/plan/Stage$Output" "grouping" "Lcom/example/cairn/cairn/plan/Grouping;" .null) (E_a2 : Exa Z h0 a2 "java/util/ArrayList") (g_a2 : n0 ≤ a2) (F_size_a2 : Fld Z h0 a2 "java/util/ArrayList" "size" "I" (.int (0 : Int32))) (E_a4 : Exa Z h0 a4 "java/util/ArrayList") (g_a4 : n0 ≤ a4) (F_size_a4 : Fld Z h0 a4 "java/util/ArrayList" "size" "I" (.int (0 : Int32))) :
    MetFree l (⟨"com/example/cairn/cairn/plan/Stage$Output", "<init>", "(Lcom/example/cairn/cairn/plan/Stage$Shape;Ljava/util/List;ILjava/util/List;Lcom/example/cairn/cairn/plan/Grouping;)V"⟩ : MethodName) (head1 (Jvm.Cond.code (⟨"com/example/cairn/cairn/plan/Stage$Output", "<init>", "(Lcom/example/cairn/cairn/plan/Stage$Shape;Ljava/util/List;ILjava/util/List;Lcom/example/cairn/cairn/plan/Grouping;)V"⟩ : MethodName) prog_108_method_1_code 7 none :: ws) ({ frames := 3, cells := 0, slots := 0, locals := 37 } : Room)) (fun a U => a = #[(.ref a1), (.ref w_RESULT), (.ref a2), (.int (0 : Int32)), (.ref a4), .null] ∧ Z.Warmed39 U.vm ∧ U.heap = h0) (fun _ _ _ _ _ => True) (fun _ U o U' => ∃ v L, o = .returned v ∧ own_Q_oi1 Z a1 a2 a4 w_ROWS w_RESULT w_PARTIAL_GROUPS w_MERGED_GROUPS w_D w_EL w_EE w_C w_EM w_M h0 n0 v U'.heap L ∧ FrameEnd U o U' L ({ frames := 3, cells := 0, slots := 0, locals := 37 } : Room).cells ({ frames := 3, cells := 0, slots := 0, locals := 37 } : Room).slots) := by
  refine MetFree.of_bodySF (plainFor_of_name pn_16) hisR ?_
  intro p e s m args below meth c s₁ Bd hml0 hP hK0
  obtain ⟨rfl, hZ, hh⟩ := hP
  have hx := Bd.exec
  have hby := Bd.bytes
  have hml : c.maxLocals = 7 := hml0
  have hown : s.vm.findClass "com/example/cairn/cairn/plan/Stage$Output" = some m.cls := findClass_of_methodNamed Bd.named
  have hnm := (name_of_methodNamed Bd.named Bd.method).1
  have X0 : Stand p l e ({ frames := 3, cells := 0, slots := 0, locals := 37 } : Room) s m #[(.ref a1), (.ref w_RESULT), (.ref a2), (.int (0 : Int32)), (.ref a4), .null] below meth c s₁ [] 0 0 := Stand.of_body Bd
  have e0 : s₁.heap = h0 := by rw [← hh, Bd.state]; rfl
  have N0 := Fr.nil n0
  have pre0 : ∀ t, Steps p.tables e below (s₁.setTop (mkF m 0 #[.val (.ref a1), .val (.ref w_RESULT), .val (.ref a2), .val (.int (0 : Int32)), .val (.ref a4), .val .null, .unset] [])) t → Steps p.tables e below (s₁.setTop (entryFrame m #[(.ref a1), (.ref w_RESULT), (.ref a2), (.int (0 : Int32)), (.ref a4), .null] 7)) t := fun t k => castTop (ef_oi1 m a1 w_RESULT a2 ((0 : Int32)) a4) k
  have hK' := hK
  obtain ⟨S_w_ROWS, E_w_ROWS, F_ordinal_w_ROWS, S_w_RESULT, E_w_RESULT, F_ordinal_w_RESULT, S_w_PARTIAL_GROUPS, E_w_PARTIAL_GROUPS, F_ordinal_w_PARTIAL_GROUPS, S_w_MERGED_GROUPS, E_w_MERGED_GROUPS, F_ordinal_w_MERGED_GROUPS, S_w_D, B_w_D, S_w_EL, E_w_EL, F_elements_w_EL, B_w_EE, F_allowNulls_w_EL, S_high, S_w_C, C_w_C, S_w_EM, M_w_M⟩ := hK'
  obtain ⟨cl_w_D, A_w_D, q_w_D⟩ := B_w_D
  obtain ⟨cl_w_EE, A_w_EE, q_w_EE⟩ := B_w_EE
  obtain ⟨v1, _, ⟨T1, L1, k1, n1⟩, -, X1, ⟨Lc1, hQ1, l1, y1, z1⟩, st1⟩ := X0.specialBack hx (y := (⟨"java/lang/Record", "<init>", "()V"⟩ : MethodName)) rfl hown (mvT hZ (hw _ (ow 116 rfl))) (mvT hZ (hw _ (ow 33 rfl))) (mvT hZ (hw _ (ow 36 rfl))) (by decide) (backOf (W := 0) (rm_recinit l Z a0 hw [] a1 h0 n0) hZ (hw _ (ow 36 rfl)) (hw _ (ow 35 rfl)) (by decide) (by decide)) (g := (mkF m 1 #[.val (.ref a1), .val (.ref w_RESULT), .val (.ref a2), .val (.int (0 : Int32)), .val (.ref a4), .val .null, .unset] [(.ref a1)])) rfl (by rw [hml]; rfl) (Steps.refl _) (a := a1) (argsL := []) (rest := []) (lenOf pd_0 rfl) rfl (Nat.le_of_eq rfl) (hb hby d_prog_108_method_1_1) (fun _ _ => ⟨rfl, e0, (by decide : 0 + 0 ≤ _), (by decide : 0 + 0 ≤ _)⟩)
  dsimp only [Pt.U, Pt.locs, Pt.cells, Pt.slots] at X1 l1 y1 z1 st1 hQ1
  subst y1 z1
  obtain ⟨hv1, Nq1, e1⟩ := hQ1
  obtain rfl : v1 = none := hv1
  have N1 : Fr n0 L1 := by rw [l1]; exact Fr.app N0 Nq1
  obtain ⟨v2, _, ⟨T2, L2, k2, n2⟩, -, X2, ⟨Lc2, hQ2, l2, y2, z2⟩, st2⟩ := Jvm.LawKit.callS X1 hx (y := (⟨"java/util/List", "copyOf", "(Ljava/util/Collection;)Ljava/util/List;"⟩ : MethodName)) hown (mvT hZ (hw _ (ow 117 rfl))) (mvT hZ (hw _ (ow 39 rfl))) (mvT hZ (hw _ (ow 40 rfl))) (mvT hZ (hw _ (ow 41 rfl))) (by decide) (backOf (W := 0) (rm_co0 l Z a0 hw [] a2 h0 n0 w_ROWS w_RESULT w_PARTIAL_GROUPS w_MERGED_GROUPS w_D w_EL w_EE w_C w_EM w_M hK hn0 EX0 E_a2 g_a2 F_size_a2) hZ (hw _ (ow 41 rfl)) (hw _ (ow 40 rfl)) (by decide) (by decide)) (g := (mkF m 5 #[.val (.ref a1), .val (.ref w_RESULT), .val (.ref a2), .val (.int (0 : Int32)), .val (.ref a4), .val .null, .unset] [(.ref a2)])) rfl (by rw [hml]; rfl) (argsL := [(.ref a2)]) (rest := []) (lenOf pd_3 rfl) rfl (Nat.le_of_eq rfl) (hb hby d_prog_108_method_1_5) (fun _ _ => ⟨rfl, e1, (by decide : 0 + 0 ≤ _), (by decide : 0 + 0 ≤ _)⟩)
  dsimp only [Pt.U, Pt.locs, Pt.cells, Pt.slots] at X2 l2 y2 z2 st2 hQ2
  subst y2 z2
  obtain ⟨hv2, Nq2, Kq2⟩ := hQ2
  obtain rfl : v2 = some (.ref w_EL) := hv2
  have N2 : Fr n0 L2 := by rw [l2]; exact Fr.app N1 Nq2
  have x2_E_a1 := E_a1.keep Kq2
  have x2_F_a1_shape := F_shape_a1.keep Kq2 nin0
  have x2_F_a1_slots := F_slots_a1.keep Kq2 nin0
  have x2_F_a1_buckets := F_buckets_a1.keep Kq2 nin0
  have x2_F_a1_keys := F_keys_a1.keep Kq2 nin0
  have x2_F_a1_grouping := F_grouping_a1.keep Kq2 nin0
  have x2_E_a2 := E_a2.keep Kq2
  have x2_F_a2_size := F_size_a2.keep Kq2 nin0
  have x2_E_a4 := E_a4.keep Kq2
  have x2_F_a4_size := F_size_a4.keep Kq2 nin0
  have EX2 := own_ext_keepL EX0 Kq2 all0
  have K2 := Keep.trans (Keep.refl h0 [a1]) Kq2 all0
  obtain ⟨v3, _, ⟨T3, L3, k3, n3⟩, -, X3, ⟨Lc3, hQ3, l3, y3, z3⟩, st3⟩ := Jvm.LawKit.callS X2 hx (y := (⟨"java/util/List", "copyOf", "(Ljava/util/Collection;)Ljava/util/List;"⟩ : MethodName)) hown (mvT hZ (hw _ (ow 117 rfl))) (mvT hZ (hw _ (ow 39 rfl))) (mvT hZ (hw _ (ow 40 rfl))) (mvT hZ (hw _ (ow 41 rfl))) (by decide) (backOf (W := 0) (rm_co0 l Z a0 hw [] a4 T2.heap n0 w_ROWS w_RESULT w_PARTIAL_GROUPS w_MERGED_GROUPS w_D w_EL w_EE w_C w_EM w_M hK hn0 EX2 x2_E_a4 g_a4 x2_F_a4_size) hZ (hw _ (ow 41 rfl)) (hw _ (ow 40 rfl)) (by decide) (by decide)) (g := (mkF m 11 #[.val (.ref a1), .val (.ref w_RESULT), .val (.ref w_EL), .val (.int (0 : Int32)), .val (.ref a4), .val .null, .unset] [(.ref a4)])) rfl (by rw [hml]; rfl) (argsL := [(.ref a4)]) (rest := []) (lenOf pd_3 rfl) rfl (Nat.le_of_eq rfl) (hb hby d_prog_108_method_1_11) (fun _ _ => ⟨rfl, (rfl : T2.heap = T2.heap), (by decide : 0 + 0 ≤ _), (by decide : 0 + 0 ≤ _)⟩)
  dsimp only [Pt.U, Pt.locs, Pt.cells, Pt.slots] at X3 l3 y3 z3 st3 hQ3
  subst y3 z3
  obtain ⟨hv3, Nq3, Kq3⟩ := hQ3
  obtain rfl : v3 = some (.ref w_EL) := hv3
  have N3 : Fr n0 L3 := by rw [l3]; exact Fr.app N2 Nq3
  have x3_E_a1 := x2_E_a1.keep Kq3
  have x3_F_a1_shape := x2_F_a1_shape.keep Kq3 nin0
  have x3_F_a1_slots := x2_F_a1_slots.keep Kq3 nin0
  have x3_F_a1_buckets := x2_F_a1_buckets.keep Kq3 nin0
  have x3_F_a1_keys := x2_F_a1_keys.keep Kq3 nin0
  have x3_F_a1_grouping := x2_F_a1_grouping.keep Kq3 nin0
  have x3_E_a2 := x2_E_a2.keep Kq3
  have x3_F_a2_size := x2_F_a2_size.keep Kq3 nin0
  have x3_E_a4 := x2_E_a4.keep Kq3
  have x3_F_a4_size := x2_F_a4_size.keep Kq3 nin0
  have EX3 := own_ext_keepL EX2 Kq3 all0
  have K3 := Keep.trans K2 Kq3 all0
  obtain ⟨cq4, kq4, q4a, q4b, q4c⟩ := isOf hZ (rfl : T3.heap = T3.heap) (E_w_RESULT.ext EX3)
  obtain ⟨v4, _, ⟨T4, L4, k4, n4⟩, -, X4, ⟨Lc4, hQ4, l4, y4, z4⟩, st4⟩ := X3.virtualBackUp hx (x := (⟨"com/example/cairn/cairn/plan/Stage$Shape", "ordinal", "()I"⟩ : MethodName)) (y := (⟨"java/lang/Enum", "ordinal", "()I"⟩ : MethodName)) (owner := "java/lang/Enum") hown (mvT hZ (hw _ (ow 181 rfl))) (mvT hZ (hw _ (ow 182 rfl))) (mvT hZ (hw _ (ow 183 rfl))) (by decide) (mvT hZ (hw _ (ow 185 rfl))) (mvT hZ (hw _ (ow 184 rfl))) (backOf (W := 0) (rm_ordinal l Z a0 hw [] w_RESULT (1 : Int32) T3.heap n0 (F_ordinal_w_RESULT.ext EX3)) hZ (hw _ (ow 187 rfl)) (hw _ (ow 186 rfl)) (by decide) (by decide)) q4a q4c (g := (mkF m 17 #[.val (.ref a1), .val (.ref w_RESULT), .val (.ref w_EL), .val (.int (0 : Int32)), .val (.ref w_EL), .val .null, .unset] [(.ref w_RESULT)])) rfl (by rw [hml]; rfl) (Steps.refl _) (argsL := []) (rest := []) (lenOf pd_14 rfl) rfl (Nat.le_of_eq rfl) (hb hby d_prog_108_method_1_17) (fun _ _ => ⟨rfl, (rfl : T3.heap = T3.heap), (by decide : 0 + 0 ≤ _), (by decide : 0 + 0 ≤ _)⟩)
  dsimp only [Pt.U, Pt.locs, Pt.cells, Pt.slots] at X4 l4 y4 z4 st4 hQ4
  subst y4 z4
  obtain ⟨hv4, Nq4, e4⟩ := hQ4
  obtain rfl : v4 = some (.int (1 : Int32)) := hv4
  have N4 : Fr n0 L4 := by rw [l4]; exact Fr.app N3 Nq4
  obtain ⟨cq5, kq5, q5a, q5b, q5c⟩ := isOf hZ e4 (E_w_EL.ext EX3)
  obtain ⟨v5, _, ⟨T5, L5, k5, n5⟩, -, X5, ⟨Lc5, hQ5, l5, y5, z5⟩, st5⟩ := X4.interfaceBack hx (xi := (⟨"java/util/List", "isEmpty", "()Z"⟩ : MethodName)) (y := (⟨"java/util/ImmutableCollections$ListN", "isEmpty", "()Z"⟩ : MethodName)) hown (mvT hZ (hw _ (ow 190 rfl))) (mvT hZ (hw _ (ow 191 rfl))) (mvT hZ (hw _ (ow 192 rfl))) (mvT hZ (hw _ (ow 199 rfl))) (mvT hZ (hw _ (ow 200 rfl))) (mvT hZ (hw _ (ow 201 rfl))) (mvT hZ (hw _ (ow 202 rfl))) (mvT hZ (hw _ (ow 203 rfl))) (by decide) (backOf (W := 0) (rm_lniE l Z a0 hw []  T3.heap n0 w_ROWS w_RESULT w_PARTIAL_GROUPS w_MERGED_GROUPS w_D w_EL w_EE w_C w_EM w_M (own_K_ext EX3 hK)) hZ (hw _ (ow 205 rfl)) (hw _ (ow 204 rfl)) (by decide) (by decide)) q5a q5b q5c (g := (mkF m 193 #[.val (.ref a1), .val (.ref w_RESULT), .val (.ref w_EL), .val (.int (0 : Int32)), .val (.ref w_EL), .val .null, .unset] [(.ref w_EL)])) rfl (by rw [hml]; rfl) (Steps.refl _) (argsL := []) (rest := []) (lenOf pd_1 rfl) rfl (Nat.le_of_eq rfl) (hb hby d_prog_108_method_1_193) (fun _ _ => ⟨rfl, e4, (by decide : 0 + 0 ≤ _), (by decide : 0 + 0 ≤ _)⟩)
  dsimp only [Pt.U, Pt.locs, Pt.cells, Pt.slots] at X5 l5 y5 z5 st5 hQ5
  subst y5 z5
  obtain ⟨hv5, Nq5, e5⟩ := hQ5
  obtain rfl : v5 = some (.int (1 : Int32)) := hv5
  have N5 : Fr n0 L5 := by rw [l5]; exact Fr.app N4 Nq5
  obtain ⟨cq6, kq6, q6a, q6b, q6c⟩ := isOf hZ e5 (E_w_EL.ext EX3)
  obtain ⟨v6, _, ⟨T6, L6, k6, n6⟩, -, X6, ⟨Lc6, hQ6, l6, y6, z6⟩, st6⟩ := X5.interfaceBack hx (xi := (⟨"java/util/List", "isEmpty", "()Z"⟩ : MethodName)) (y := (⟨"java/util/ImmutableCollections$ListN", "isEmpty", "()Z"⟩ : MethodName)) hown (mvT hZ (hw _ (ow 190 rfl))) (mvT hZ (hw _ (ow 191 rfl))) (mvT hZ (hw _ (ow 192 rfl))) (mvT hZ (hw _ (ow 199 rfl))) (mvT hZ (hw _ (ow 200 rfl))) (mvT hZ (hw _ (ow 201 rfl))) (mvT hZ (hw _ (ow 202 rfl))) (mvT hZ (hw _ (ow 203 rfl))) (by decide) (backOf (W := 0) (rm_lniE l Z a0 hw []  T3.heap n0 w_ROWS w_RESULT w_PARTIAL_GROUPS w_MERGED_GROUPS w_D w_EL w_EE w_C w_EM w_M (own_K_ext EX3 hK)) hZ (hw _ (ow 205 rfl)) (hw _ (ow 204 rfl)) (by decide) (by decide)) q6a q6b q6c (g := (mkF m 203 #[.val (.ref a1), .val (.ref w_RESULT), .val (.ref w_EL), .val (.int (0 : Int32)), .val (.ref w_EL), .val .null, .unset] [(.ref w_EL)])) rfl (by rw [hml]; rfl) (Steps.refl _) (argsL := []) (rest := []) (lenOf pd_1 rfl) rfl (Nat.le_of_eq rfl) (hb hby d_prog_108_method_1_203) (fun _ _ => ⟨rfl, e5, (by decide : 0 + 0 ≤ _), (by decide : 0 + 0 ≤ _)⟩)
  dsimp only [Pt.U, Pt.locs, Pt.cells, Pt.slots] at X6 l6 y6 z6 st6 hQ6
  subst y6 z6
  obtain ⟨hv6, Nq6, e6⟩ := hQ6
  obtain rfl : v6 = some (.int (1 : Int32)) := hv6
  have N6 : Fr n0 L6 := by rw [l6]; exact Fr.app N5 Nq6
  obtain ⟨T7, h7, X7, e7, W7, st7⟩ := putF X6 hx hZ hown (host := "") (Or.inl (hw _ (ow 208 rfl))) Via.refl e6 x3_F_a1_shape x3_E_a1 (Or.inr ⟨(hw _ (ow 209 rfl)), rfl, hnm⟩) (hw _ (ow 111 rfl)) (ty := (.object "com/example/cairn/cairn/plan/Stage$Shape")) (by decide) rfl rfl (g := (mkF m 280 #[.val (.ref a1), .val (.ref w_RESULT), .val (.ref w_EL), .val (.int (0 : Int32)), .val (.ref w_EL), .val .null, .val (.int (1 : Int32))] [(.ref w_RESULT), (.ref a1)])) rfl rfl (hb hby d_prog_108_method_1_280)
  have x7_E_a1 := x3_E_a1.wr W7
  have x7_F_a1_shape := x3_F_a1_shape.same W7
  have x7_F_a1_slots := x3_F_a1_slots.other W7 (Or.inr (slot_ne (Or.inr (hw _ (ow 211 rfl))) (Or.inr (hw _ (ow 209 rfl))) (by decide) (t := (.object "java/util/List")) (t' := (.object "com/example/cairn/cairn/plan/Stage$Shape")) (by decide) (by decide)))
  have x7_F_a1_buckets := x3_F_a1_buckets.other W7 (Or.inr (slot_ne (Or.inr (hw _ (ow 213 rfl))) (Or.inr (hw _ (ow 209 rfl))) (by decide) (t := .int) (t' := (.object "com/example/cairn/cairn/plan/Stage$Shape")) (by decide) (by decide)))
  have x7_F_a1_keys := x3_F_a1_keys.other W7 (Or.inr (slot_ne (Or.inr (hw _ (ow 215 rfl))) (Or.inr (hw _ (ow 209 rfl))) (by decide) (t := (.object "java/util/List")) (t' := (.object "com/example/cairn/cairn/plan/Stage$Shape")) (by decide) (by decide)))
  have x7_F_a1_grouping := x3_F_a1_grouping.other W7 (Or.inr (slot_ne (Or.inr (hw _ (ow 217 rfl))) (Or.inr (hw _ (ow 209 rfl))) (by decide) (t := (.object "com/example/cairn/cairn/plan/Grouping")) (t' := (.object "com/example/cairn/cairn/plan/Stage$Shape")) (by decide) (by decide)))
  have x7_E_a2 := x3_E_a2.wr W7
  have x7_E_a4 := x3_E_a4.wr W7
  have EX7 := own_ext_wr EX3 W7 (hn0 ▸ g_a1)
  have K7 := Keep.wr K3 W7 (Or.inl (List.mem_of_getElem? (i := 0) rfl))
  have N7 := Fr.snoc X7 N6 g_a1
  obtain ⟨T8, h8, X8, e8, W8, st8⟩ := putF X7 hx hZ hown (host := "") (Or.inl (hw _ (ow 210 rfl))) Via.refl e7 x7_F_a1_slots x7_E_a1 (Or.inr ⟨(hw _ (ow 211 rfl)), rfl, hnm⟩) (hw _ (ow 111 rfl)) (ty := (.object "java/util/List")) (by decide) rfl rfl (g := (mkF m 285 #[.val (.ref a1), .val (.ref w_RESULT), .val (.ref w_EL), .val (.int (0 : Int32)), .val (.ref w_EL), .val .null, .val (.int (1 : Int32))] [(.ref w_EL), (.ref a1)])) rfl rfl (hb hby d_prog_108_method_1_285)
  have x8_E_a1 := x7_E_a1.wr W8
  have x8_F_a1_shape := x7_F_a1_shape.other W8 (Or.inr (slot_ne (Or.inr (hw _ (ow 209 rfl))) (Or.inr (hw _ (ow 211 rfl))) (by decide) (t := (.object "com/example/cairn/cairn/plan/Stage$Shape")) (t' := (.object "java/util/List")) (by decide) (by decide)))
  have x8_F_a1_slots := x7_F_a1_slots.same W8
  have x8_F_a1_buckets := x7_F_a1_buckets.other W8 (Or.inr (slot_ne (Or.inr (hw _ (ow 213 rfl))) (Or.inr (hw _ (ow 211 rfl))) (by decide) (t := .int) (t' := (.object "java/util/List")) (by decide) (by decide)))
  have x8_F_a1_keys := x7_F_a1_keys.other W8 (Or.inr (slot_ne (Or.inr (hw _ (ow 215 rfl))) (Or.inr (hw _ (ow 211 rfl))) (by decide) (t := (.object "java/util/List")) (t' := (.object "java/util/List")) (by decide) (by decide)))
  have x8_F_a1_grouping := x7_F_a1_grouping.other W8 (Or.inr (slot_ne (Or.inr (hw _ (ow 217 rfl))) (Or.inr (hw _ (ow 211 rfl))) (by decide) (t := (.object "com/example/cairn/cairn/plan/Grouping")) (t' := (.object "java/util/List")) (by decide) (by decide)))
  have x8_E_a2 := x7_E_a2.wr W8
  have x8_E_a4 := x7_E_a4.wr W8
  have EX8 := own_ext_wr EX7 W8 (hn0 ▸ g_a1)
  have K8 := Keep.wr K7 W8 (Or.inl (List.mem_of_getElem? (i := 0) rfl))
  have N8 := Fr.snoc X8 N7 g_a1
  obtain ⟨T9, h9, X9, e9, W9, st9⟩ := putF X8 hx hZ hown (host := "") (Or.inl (hw _ (ow 212 rfl))) Via.refl e8 x8_F_a1_buckets x8_E_a1 (Or.inr ⟨(hw _ (ow 213 rfl)), rfl, hnm⟩) (hw _ (ow 111 rfl)) (ty := .int) (by decide) rfl rfl (g := (mkF m 290 #[.val (.ref a1), .val (.ref w_RESULT), .val (.ref w_EL), .val (.int (0 : Int32)), .val (.ref w_EL), .val .null, .val (.int (1 : Int32))] [(.int (0 : Int32)), (.ref a1)])) rfl rfl (hb hby d_prog_108_method_1_290)
  have x9_E_a1 := x8_E_a1.wr W9
  have x9_F_a1_shape := x8_F_a1_shape.other W9 (Or.inr (slot_ne (Or.inr (hw _ (ow 209 rfl))) (Or.inr (hw _ (ow 213 rfl))) (by decide) (t := (.object "com/example/cairn/cairn/plan/Stage$Shape")) (t' := .int) (by decide) (by decide)))
  have x9_F_a1_slots := x8_F_a1_slots.other W9 (Or.inr (slot_ne (Or.inr (hw _ (ow 211 rfl))) (Or.inr (hw _ (ow 213 rfl))) (by decide) (t := (.object "java/util/List")) (t' := .int) (by decide) (by decide)))
  have x9_F_a1_buckets := x8_F_a1_buckets.same W9
  have x9_F_a1_keys := x8_F_a1_keys.other W9 (Or.inr (slot_ne (Or.inr (hw _ (ow 215 rfl))) (Or.inr (hw _ (ow 213 rfl))) (by decide) (t := (.object "java/util/List")) (t' := .int) (by decide) (by decide)))
  have x9_F_a1_grouping := x8_F_a1_grouping.other W9 (Or.inr (slot_ne (Or.inr (hw _ (ow 217 rfl))) (Or.inr (hw _ (ow 213 rfl))) (by decide) (t := (.object "com/example/cairn/cairn/plan/Grouping")) (t' := .int) (by decide) (by decide)))
  have x9_E_a2 := x8_E_a2.wr W9
  have x9_E_a4 := x8_E_a4.wr W9
  have EX9 := own_ext_wr EX8 W9 (hn0 ▸ g_a1)
  have K9 := Keep.wr K8 W9 (Or.inl (List.mem_of_getElem? (i := 0) rfl))
  have N9 := Fr.snoc X9 N8 g_a1
  obtain ⟨T10, h10, X10, e10, W10, st10⟩ := putF X9 hx hZ hown (host := "") (Or.inl (hw _ (ow 214 rfl))) Via.refl e9 x9_F_a1_keys x9_E_a1 (Or.inr ⟨(hw _ (ow 215 rfl)), rfl, hnm⟩) (hw _ (ow 111 rfl)) (ty := (.object "java/util/List")) (by decide) rfl rfl (g := (mkF m 296 #[.val (.ref a1), .val (.ref w_RESULT), .val (.ref w_EL), .val (.int (0 : Int32)), .val (.ref w_EL), .val .null, .val (.int (1 : Int32))] [(.ref w_EL), (.ref a1)])) rfl rfl (hb hby d_prog_108_method_1_296)
  have x10_E_a1 := x9_E_a1.wr W10
  have x10_F_a1_shape := x9_F_a1_shape.other W10 (Or.inr (slot_ne (Or.inr (hw _ (ow 209 rfl))) (Or.inr (hw _ (ow 215 rfl))) (by decide) (t := (.object "com/example/cairn/cairn/plan/Stage$Shape")) (t' := (.object "java/util/List")) (by decide) (by decide)))
  have x10_F_a1_slots := x9_F_a1_slots.other W10 (Or.inr (slot_ne (Or.inr (hw _ (ow 211 rfl))) (Or.inr (hw _ (ow 215 rfl))) (by decide) (t := (.object "java/util/List")) (t' := (.object "java/util/List")) (by decide) (by decide)))
  have x10_F_a1_buckets := x9_F_a1_buckets.other W10 (Or.inr (slot_ne (Or.inr (hw _ (ow 213 rfl))) (Or.inr (hw _ (ow 215 rfl))) (by decide) (t := .int) (t' := (.object "java/util/List")) (by decide) (by decide)))
  have x10_F_a1_keys := x9_F_a1_keys.same W10
  have x10_F_a1_grouping := x9_F_a1_grouping.other W10 (Or.inr (slot_ne (Or.inr (hw _ (ow 217 rfl))) (Or.inr (hw _ (ow 215 rfl))) (by decide) (t := (.object "com/example/cairn/cairn/plan/Grouping")) (t' := (.object "java/util/List")) (by decide) (by decide)))
  have x10_E_a2 := x9_E_a2.wr W10
  have x10_E_a4 := x9_E_a4.wr W10
  have EX10 := own_ext_wr EX9 W10 (hn0 ▸ g_a1)
  have K10 := Keep.wr K9 W10 (Or.inl (List.mem_of_getElem? (i := 0) rfl))
  have N10 := Fr.snoc X10 N9 g_a1
  obtain ⟨T11, h11, X11, e11, W11, st11⟩ := putF X10 hx hZ hown (host := "") (Or.inl (hw _ (ow 216 rfl))) Via.refl e10 x10_F_a1_grouping x10_E_a1 (Or.inr ⟨(hw _ (ow 217 rfl)), rfl, hnm⟩) (hw _ (ow 111 rfl)) (ty := (.object "com/example/cairn/cairn/plan/Grouping")) (by decide) rfl rfl (g := (mkF m 302 #[.val (.ref a1), .val (.ref w_RESULT), .val (.ref w_EL), .val (.int (0 : Int32)), .val (.ref w_EL), .val .null, .val (.int (1 : Int32))] [.null, (.ref a1)])) rfl rfl (hb hby d_prog_108_method_1_302)
  have x11_E_a1 := x10_E_a1.wr W11
  have x11_F_a1_shape := x10_F_a1_shape.other W11 (Or.inr (slot_ne (Or.inr (hw _ (ow 209 rfl))) (Or.inr (hw _ (ow 217 rfl))) (by decide) (t := (.object "com/example/cairn/cairn/plan/Stage$Shape")) (t' := (.object "com/example/cairn/cairn/plan/Grouping")) (by decide) (by decide)))
  have x11_F_a1_slots := x10_F_a1_slots.other W11 (Or.inr (slot_ne (Or.inr (hw _ (ow 211 rfl))) (Or.inr (hw _ (ow 217 rfl))) (by decide) (t := (.object "java/util/List")) (t' := (.object "com/example/cairn/cairn/plan/Grouping")) (by decide) (by decide)))
  have x11_F_a1_buckets := x10_F_a1_buckets.other W11 (Or.inr (slot_ne (Or.inr (hw _ (ow 213 rfl))) (Or.inr (hw _ (ow 217 rfl))) (by decide) (t := .int) (t' := (.object "com/example/cairn/cairn/plan/Grouping")) (by decide) (by decide)))
  have x11_F_a1_keys := x10_F_a1_keys.other W11 (Or.inr (slot_ne (Or.inr (hw _ (ow 215 rfl))) (Or.inr (hw _ (ow 217 rfl))) (by decide) (t := (.object "java/util/List")) (t' := (.object "com/example/cairn/cairn/plan/Grouping")) (by decide) (by decide)))
  have x11_F_a1_grouping := x10_F_a1_grouping.same W11
  have x11_E_a2 := x10_E_a2.wr W11
  have x11_E_a4 := x10_E_a4.wr W11
  have EX11 := own_ext_wr EX10 W11 (hn0 ▸ g_a1)
  have K11 := Keep.wr K10 W11 (Or.inl (List.mem_of_getElem? (i := 0) rfl))
  have N11 := Fr.snoc X11 N10 g_a1
  have pre12 : ∀ t, Steps p.tables e below (T11.setTop (mkF m 305 #[.val (.ref a1), .val (.ref w_RESULT), .val (.ref w_EL), .val (.int (0 : Int32)), .val (.ref w_EL), .val .null, .val (.int (1 : Int32))] [])) t → Steps p.tables e below (s₁.setTop (entryFrame m #[(.ref a1), (.ref w_RESULT), (.ref a2), (.int (0 : Int32)), (.ref a4), .null] 7)) t := fun t k => pre0 t (by
    show Steps p.tables e below (s₁.setTop (mkF m 0 #[.val (.ref a1), .val (.ref w_RESULT), .val (.ref a2), .val (.int (0 : Int32)), .val (.ref a4), .val .null, .unset] [])) _
    refine XS.aloadN X0.here hx rfl (hb hby d_prog_108_method_1_0) rfl rfl ?_
    show Steps p.tables e below (s₁.setTop (mkF m 1 #[.val (.ref a1), .val (.ref w_RESULT), .val (.ref a2), .val (.int (0 : Int32)), .val (.ref a4), .val .null, .unset] [(.ref a1)])) _
    refine st1.trans ?_
    show Steps p.tables e below (T1.setTop (mkF m 4 #[.val (.ref a1), .val (.ref w_RESULT), .val (.ref a2), .val (.int (0 : Int32)), .val (.ref a4), .val .null, .unset] [])) _
    refine XS.aloadN X1.here hx rfl (hb hby d_prog_108_method_1_4) rfl rfl ?_
    show Steps p.tables e below (T1.setTop (mkF m 5 #[.val (.ref a1), .val (.ref w_RESULT), .val (.ref a2), .val (.int (0 : Int32)), .val (.ref a4), .val .null, .unset] [(.ref a2)])) _
    refine st2 _ ?_
    show Steps p.tables e below (T2.setTop (mkF m 8 #[.val (.ref a1), .val (.ref w_RESULT), .val (.ref a2), .val (.int (0 : Int32)), .val (.ref a4), .val .null, .unset] [(.ref w_EL)])) _
    refine XS.astoreN X2.here hx rfl (hb hby d_prog_108_method_1_8) rfl rfl (l' := #[.val (.ref a1), .val (.ref w_RESULT), .val (.ref w_EL), .val (.int (0 : Int32)), .val (.ref a4), .val .null, .unset]) rfl ?_
    show Steps p.tables e below (T2.setTop (mkF m 9 #[.val (.ref a1), .val (.ref w_RESULT), .val (.ref w_EL), .val (.int (0 : Int32)), .val (.ref a4), .val .null, .unset] [])) _
    refine XS.aload X2.here hx rfl (hb hby d_prog_108_method_1_9) rfl rfl ?_
    show Steps p.tables e below (T2.setTop (mkF m 11 #[.val (.ref a1), .val (.ref w_RESULT), .val (.ref w_EL), .val (.int (0 : Int32)), .val (.ref a4), .val .null, .unset] [(.ref a4)])) _
    refine st3 _ ?_
    show Steps p.tables e below (T3.setTop (mkF m 14 #[.val (.ref a1), .val (.ref w_RESULT), .val (.ref w_EL), .val (.int (0 : Int32)), .val (.ref a4), .val .null, .unset] [(.ref w_EL)])) _
    refine XS.astore X3.here hx rfl (hb hby d_prog_108_method_1_14) rfl rfl (l' := #[.val (.ref a1), .val (.ref w_RESULT), .val (.ref w_EL), .val (.int (0 : Int32)), .val (.ref w_EL), .val .null, .unset]) rfl ?_
    show Steps p.tables e below (T3.setTop (mkF m 16 #[.val (.ref a1), .val (.ref w_RESULT), .val (.ref w_EL), .val (.int (0 : Int32)), .val (.ref w_EL), .val .null, .unset] [])) _
    refine XS.aloadN X3.here hx rfl (hb hby d_prog_108_method_1_16) rfl rfl ?_
    show Steps p.tables e below (T3.setTop (mkF m 17 #[.val (.ref a1), .val (.ref w_RESULT), .val (.ref w_EL), .val (.int (0 : Int32)), .val (.ref w_EL), .val .null, .unset] [(.ref w_RESULT)])) _
    refine st4.trans ?_
    show Steps p.tables e below (T4.setTop (mkF m 20 #[.val (.ref a1), .val (.ref w_RESULT), .val (.ref w_EL), .val (.int (0 : Int32)), .val (.ref w_EL), .val .null, .unset] [(.int (1 : Int32))])) _
    refine XS.tswIn X4.here hx rfl (o := 168) (pc0 := 20) (pc' := 188) rfl (hb hby d_prog_108_method_1_20) rfl (by decide) (by decide) (by decide) (by decide) ?_
    show Steps p.tables e below (T4.setTop (mkF m 188 #[.val (.ref a1), .val (.ref w_RESULT), .val (.ref w_EL), .val (.int (0 : Int32)), .val (.ref w_EL), .val .null, .unset] [])) _
    refine XS.iloadN X4.here hx rfl (hb hby d_prog_108_method_1_188) rfl ?_
    show Steps p.tables e below (T4.setTop (mkF m 189 #[.val (.ref a1), .val (.ref w_RESULT), .val (.ref w_EL), .val (.int (0 : Int32)), .val (.ref w_EL), .val .null, .unset] [(.int (0 : Int32))])) _
    refine XS.ifNo X4.here hx rfl (hb hby d_prog_108_method_1_189) rfl ((if0 _ _).trans (teq (by decide)).2) ?_
    show Steps p.tables e below (T4.setTop (mkF m 192 #[.val (.ref a1), .val (.ref w_RESULT), .val (.ref w_EL), .val (.int (0 : Int32)), .val (.ref w_EL), .val .null, .unset] [])) _
    refine XS.aloadN X4.here hx rfl (hb hby d_prog_108_method_1_192) rfl rfl ?_
    show Steps p.tables e below (T4.setTop (mkF m 193 #[.val (.ref a1), .val (.ref w_RESULT), .val (.ref w_EL), .val (.int (0 : Int32)), .val (.ref w_EL), .val .null, .unset] [(.ref w_EL)])) _
    refine st5.trans ?_
    show Steps p.tables e below (T5.setTop (mkF m 198 #[.val (.ref a1), .val (.ref w_RESULT), .val (.ref w_EL), .val (.int (0 : Int32)), .val (.ref w_EL), .val .null, .unset] [(.int (1 : Int32))])) _
    refine XS.ifNo X5.here hx rfl (hb hby d_prog_108_method_1_198) rfl ((if0 _ _).trans (feq (by decide)).1) ?_
    show Steps p.tables e below (T5.setTop (mkF m 201 #[.val (.ref a1), .val (.ref w_RESULT), .val (.ref w_EL), .val (.int (0 : Int32)), .val (.ref w_EL), .val .null, .unset] [])) _
    refine XS.aload X5.here hx rfl (hb hby d_prog_108_method_1_201) rfl rfl ?_
    show Steps p.tables e below (T5.setTop (mkF m 203 #[.val (.ref a1), .val (.ref w_RESULT), .val (.ref w_EL), .val (.int (0 : Int32)), .val (.ref w_EL), .val .null, .unset] [(.ref w_EL)])) _
    refine st6.trans ?_
    show Steps p.tables e below (T6.setTop (mkF m 208 #[.val (.ref a1), .val (.ref w_RESULT), .val (.ref w_EL), .val (.int (0 : Int32)), .val (.ref w_EL), .val .null, .unset] [(.int (1 : Int32))])) _
    refine XS.ifNo X6.here hx rfl (hb hby d_prog_108_method_1_208) rfl ((if0 _ _).trans (feq (by decide)).1) ?_
    show Steps p.tables e below (T6.setTop (mkF m 211 #[.val (.ref a1), .val (.ref w_RESULT), .val (.ref w_EL), .val (.int (0 : Int32)), .val (.ref w_EL), .val .null, .unset] [])) _
    refine XS.aload X6.here hx rfl (hb hby d_prog_108_method_1_211) rfl rfl ?_
    show Steps p.tables e below (T6.setTop (mkF m 213 #[.val (.ref a1), .val (.ref w_RESULT), .val (.ref w_EL), .val (.int (0 : Int32)), .val (.ref w_EL), .val .null, .unset] [.null])) _
    refine XS.ifnonnullNo X6.here hx rfl (hb hby d_prog_108_method_1_213) rfl ?_
    show Steps p.tables e below (T6.setTop (mkF m 216 #[.val (.ref a1), .val (.ref w_RESULT), .val (.ref w_EL), .val (.int (0 : Int32)), .val (.ref w_EL), .val .null, .unset] [])) _
    refine XS.iconst X6.here hx rfl (hb hby d_prog_108_method_1_216) ?_
    show Steps p.tables e below (T6.setTop (mkF m 217 #[.val (.ref a1), .val (.ref w_RESULT), .val (.ref w_EL), .val (.int (0 : Int32)), .val (.ref w_EL), .val .null, .unset] [(.int (1 : Int32))])) _
    refine XS.goto X6.here hx rfl (pc0 := 217) (pc' := 221) rfl (hb hby d_prog_108_method_1_217) (by decide) (by decide) ?_
    show Steps p.tables e below (T6.setTop (mkF m 221 #[.val (.ref a1), .val (.ref w_RESULT), .val (.ref w_EL), .val (.int (0 : Int32)), .val (.ref w_EL), .val .null, .unset] [(.int (1 : Int32))])) _
    refine XS.istore X6.here hx rfl (hb hby d_prog_108_method_1_221) rfl (l' := #[.val (.ref a1), .val (.ref w_RESULT), .val (.ref w_EL), .val (.int (0 : Int32)), .val (.ref w_EL), .val .null, .val (.int (1 : Int32))]) rfl ?_
    show Steps p.tables e below (T6.setTop (mkF m 223 #[.val (.ref a1), .val (.ref w_RESULT), .val (.ref w_EL), .val (.int (0 : Int32)), .val (.ref w_EL), .val .null, .val (.int (1 : Int32))] [])) _
    refine XS.iload X6.here hx rfl (hb hby d_prog_108_method_1_223) rfl ?_
    show Steps p.tables e below (T6.setTop (mkF m 225 #[.val (.ref a1), .val (.ref w_RESULT), .val (.ref w_EL), .val (.int (0 : Int32)), .val (.ref w_EL), .val .null, .val (.int (1 : Int32))] [(.int (1 : Int32))])) _
    refine XS.ifYes X6.here hx rfl (pc0 := 225) (pc' := 278) rfl (hb hby d_prog_108_method_1_225) rfl ((if0 _ _).trans (feq (by decide)).2) (by decide) (by decide) ?_
    show Steps p.tables e below (T6.setTop (mkF m 278 #[.val (.ref a1), .val (.ref w_RESULT), .val (.ref w_EL), .val (.int (0 : Int32)), .val (.ref w_EL), .val .null, .val (.int (1 : Int32))] [])) _
    refine XS.aloadN X6.here hx rfl (hb hby d_prog_108_method_1_278) rfl rfl ?_
    show Steps p.tables e below (T6.setTop (mkF m 279 #[.val (.ref a1), .val (.ref w_RESULT), .val (.ref w_EL), .val (.int (0 : Int32)), .val (.ref w_EL), .val .null, .val (.int (1 : Int32))] [(.ref a1)])) _
    refine XS.aloadN X6.here hx rfl (hb hby d_prog_108_method_1_279) rfl rfl ?_
    show Steps p.tables e below (T6.setTop (mkF m 280 #[.val (.ref a1), .val (.ref w_RESULT), .val (.ref w_EL), .val (.int (0 : Int32)), .val (.ref w_EL), .val .null, .val (.int (1 : Int32))] [(.ref w_RESULT), (.ref a1)])) _
    refine st7 _ ?_
    show Steps p.tables e below (T7.setTop (mkF m 283 #[.val (.ref a1), .val (.ref w_RESULT), .val (.ref w_EL), .val (.int (0 : Int32)), .val (.ref w_EL), .val .null, .val (.int (1 : Int32))] [])) _
    refine XS.aloadN X7.here hx rfl (hb hby d_prog_108_method_1_283) rfl rfl ?_
    show Steps p.tables e below (T7.setTop (mkF m 284 #[.val (.ref a1), .val (.ref w_RESULT), .val (.ref w_EL), .val (.int (0 : Int32)), .val (.ref w_EL), .val .null, .val (.int (1 : Int32))] [(.ref a1)])) _
    refine XS.aloadN X7.here hx rfl (hb hby d_prog_108_method_1_284) rfl rfl ?_
    show Steps p.tables e below (T7.setTop (mkF m 285 #[.val (.ref a1), .val (.ref w_RESULT), .val (.ref w_EL), .val (.int (0 : Int32)), .val (.ref w_EL), .val .null, .val (.int (1 : Int32))] [(.ref w_EL), (.ref a1)])) _
    refine st8 _ ?_
    show Steps p.tables e below (T8.setTop (mkF m 288 #[.val (.ref a1), .val (.ref w_RESULT), .val (.ref w_EL), .val (.int (0 : Int32)), .val (.ref w_EL), .val .null, .val (.int (1 : Int32))] [])) _
    refine XS.aloadN X8.here hx rfl (hb hby d_prog_108_method_1_288) rfl rfl ?_
    show Steps p.tables e below (T8.setTop (mkF m 289 #[.val (.ref a1), .val (.ref w_RESULT), .val (.ref w_EL), .val (.int (0 : Int32)), .val (.ref w_EL), .val .null, .val (.int (1 : Int32))] [(.ref a1)])) _
    refine XS.iloadN X8.here hx rfl (hb hby d_prog_108_method_1_289) rfl ?_
    show Steps p.tables e below (T8.setTop (mkF m 290 #[.val (.ref a1), .val (.ref w_RESULT), .val (.ref w_EL), .val (.int (0 : Int32)), .val (.ref w_EL), .val .null, .val (.int (1 : Int32))] [(.int (0 : Int32)), (.ref a1)])) _
    refine st9 _ ?_
    show Steps p.tables e below (T9.setTop (mkF m 293 #[.val (.ref a1), .val (.ref w_RESULT), .val (.ref w_EL), .val (.int (0 : Int32)), .val (.ref w_EL), .val .null, .val (.int (1 : Int32))] [])) _
    refine XS.aloadN X9.here hx rfl (hb hby d_prog_108_method_1_293) rfl rfl ?_
    show Steps p.tables e below (T9.setTop (mkF m 294 #[.val (.ref a1), .val (.ref w_RESULT), .val (.ref w_EL), .val (.int (0 : Int32)), .val (.ref w_EL), .val .null, .val (.int (1 : Int32))] [(.ref a1)])) _
    refine XS.aload X9.here hx rfl (hb hby d_prog_108_method_1_294) rfl rfl ?_
    show Steps p.tables e below (T9.setTop (mkF m 296 #[.val (.ref a1), .val (.ref w_RESULT), .val (.ref w_EL), .val (.int (0 : Int32)), .val (.ref w_EL), .val .null, .val (.int (1 : Int32))] [(.ref w_EL), (.ref a1)])) _
    refine st10 _ ?_
    show Steps p.tables e below (T10.setTop (mkF m 299 #[.val (.ref a1), .val (.ref w_RESULT), .val (.ref w_EL), .val (.int (0 : Int32)), .val (.ref w_EL), .val .null, .val (.int (1 : Int32))] [])) _
    refine XS.aloadN X10.here hx rfl (hb hby d_prog_108_method_1_299) rfl rfl ?_
    show Steps p.tables e below (T10.setTop (mkF m 300 #[.val (.ref a1), .val (.ref w_RESULT), .val (.ref w_EL), .val (.int (0 : Int32)), .val (.ref w_EL), .val .null, .val (.int (1 : Int32))] [(.ref a1)])) _
    refine XS.aload X10.here hx rfl (hb hby d_prog_108_method_1_300) rfl rfl ?_
    show Steps p.tables e below (T10.setTop (mkF m 302 #[.val (.ref a1), .val (.ref w_RESULT), .val (.ref w_EL), .val (.int (0 : Int32)), .val (.ref w_EL), .val .null, .val (.int (1 : Int32))] [.null, (.ref a1)])) _
    refine st11 _ ?_
    exact k)
  obtain ⟨fs, hr, hrun, hended, hW, hsame⟩ := X11.leave (v := none) (fun _ => rfl)
  refine ⟨_, _, pre12 _ ?_, hrun, hended, _, _, rfl, ?_, ⟨_, rfl⟩, hW, hsame.mono (by decide) (by decide)⟩
  · show Steps p.tables e below (T11.setTop (mkF m 305 #[.val (.ref a1), .val (.ref w_RESULT), .val (.ref w_EL), .val (.int (0 : Int32)), .val (.ref w_EL), .val .null, .val (.int (1 : Int32))] [])) _
    exact X11.returnOut hx Bd.returns (hb hby d_prog_108_method_1_305) hr
  · exact ⟨rfl, N11, by rw [show (T11.setFrames fs).heap = _ from e11]; exact ⟨K11, x11_E_a1, x11_F_a1_buckets⟩⟩
def own_Q_oi2 (Z : State) (a1 : Addr) (a2 : Addr) (p3 : Int32) (a4 : Addr) (a5 : Addr) (w_ROWS w_RESULT w_PARTIAL_GROUPS w_MERGED_GROUPS w_D w_EL w_EE w_C w_EM w_M : Addr)  (h0 : Heap) (n0 : Nat) (v : Option Value) (h : Heap) (L : List Loc) : Prop := v = none ∧ Fr n0 L ∧ Keep h0 h [a1] ∧ Exa Z h a1 "com/example/cairn/cairn/plan/Stage$Output" ∧ Fld Z h a1 "com/example/cairn/cairn/plan/Stage$Output" "buckets" "I" (.int p3)
theorem d_prog_108_method_1_116 : decode prog_108_method_1_code 116 = .ok (.iload_n 3, 1) := by decide +kernel
theorem d_prog_108_method_1_117 : decode prog_108_method_1_code 117 = .ok (.ifCond .lt 31, 3) := by decide +kernel
theorem d_prog_108_method_1_120 : decode prog_108_method_1_code 120 = .ok (.aload_n 2, 1) := by decide +kernel
theorem d_prog_108_method_1_121 : decode prog_108_method_1_code 121 = .ok (.invokeinterface 24 1, 5) := by decide +kernel
theorem d_prog_108_method_1_126 : decode prog_108_method_1_code 126 = .ok (.ifCond .eq 22, 3) := by decide +kernel
theorem d_prog_108_method_1_129 : decode prog_108_method_1_code 129 = .ok (.aload 4, 2) := by decide +kernel
theorem d_prog_108_method_1_131 : decode prog_108_method_1_code 131 = .ok (.invokeinterface 24 1, 5) := by decide +kernel
theorem d_prog_108_method_1_136 : decode prog_108_method_1_code 136 = .ok (.ifCond .eq 12, 3) := by decide +kernel
theorem d_prog_108_method_1_139 : decode prog_108_method_1_code 139 = .ok (.aload 5, 2) := by decide +kernel
theorem d_prog_108_method_1_141 : decode prog_108_method_1_code 141 = .ok (.ifnull 7, 3) := by decide +kernel
theorem d_prog_108_method_1_144 : decode prog_108_method_1_code 144 = .ok (.iconst 1, 1) := by decide +kernel
theorem d_prog_108_method_1_145 : decode prog_108_method_1_code 145 = .ok (.goto 76, 3) := by decide +kernel
theorem ef_oi2 (m : MethodId) (x0 : Addr) (x1 : Addr) (x2 : Addr) (x3 : Int32) (x4 : Addr) (x5 : Addr) : entryFrame m #[(.ref x0), (.ref x1), (.ref x2), (.int x3), (.ref x4), (.ref x5)] 7 = mkF m 0 #[.val (.ref x0), .val (.ref x1), .val (.ref x2), .val (.int x3), .val (.ref x4), .val (.ref x5), .unset] [] := by first | (simp [entryFrame, mkF, argsToLocals, Value.category]; done) | rfl
set_option maxRecDepth 65536 in
set_option maxHeartbeats 40000000 in
theorem rm_oi2 (l : Launch) (Z : State) (a0 : Array Value) (hw : ∀ d ∈ tables_1, d.before a0 Z = true) (ws : List Jvm.Cond) (a1 : Addr) (a2 : Addr) (p3 : Int32) (a4 : Addr) (a5 : Addr) (h0 : Heap) (n0 : Nat) (w_ROWS w_RESULT w_PARTIAL_GROUPS w_MERGED_GROUPS w_D w_EL w_EE w_C w_EM w_M : Addr) (hK : own_K Z Z.heap w_ROWS w_RESULT w_PARTIAL_GROUPS w_MERGED_GROUPS w_D w_EL w_EE w_C w_EM w_M) (hn0 : n0 = Z.heap.size) (EX0 : Ext Z.heap h0) (E_a1 : Exa Z h0 a1 "com/example/cairn/cairn/plan/Stage$Output") (g_a1 : n0 ≤ a1) (F_shape_a1 : Fld Z h0 a1 "com/example/cairn/cairn/plan/Stage$Output" "shape" "Lcom/example/cairn/cairn/plan/Stage$Shape;" .null) (F_slots_a1 : Fld Z h0 a1 "com/example/cairn/cairn/plan/Stage$Output" "slots" "Ljava/util/List;" .null) (F_buckets_a1 : Fld Z h0 a1 "com/example/cairn/cairn/plan/Stage$Output" "buckets" "I" (.int (0 : Int32))) (F_keys_a1 : Fld Z h0 a1 "com/example/cairn/cairn/plan/Stage$Output" "keys" "Ljava/util/List;" .null) (F_grouping_a1 : Fld Z h0 a1 "com/example/cairn/cairn/plan/Stage$Output" "grouping" "Lcom/example/cairn/cairn/plan/Grouping;" .null) (E_a2 : Exa Z h0 a2 "java/util/ArrayList") (g_a2 : n0 ≤ a2) (F_size_a2 : Fld Z h0 a2 "java/util/ArrayList" "size" "I" (.int (0 : Int32))) (E_a4 : Exa Z h0 a4 "java/util/ArrayList") (g_a4 : n0 ≤ a4) (F_size_a4 : Fld Z h0 a4 "java/util/ArrayList" "size" "I" (.int (0 : Int32))) (hp3 : ¬ p3 < (0 : Int32)) :
    MetFree l (⟨"com/example/cairn/cairn/plan/Stage$Output", "<init>", "(Lcom/example/cairn/cairn/plan/Stage$Shape;Ljava/util/List;ILjava/util/List;Lcom/example/cairn/cairn/plan/Grouping;)V"⟩ : MethodName) (head1 (Jvm.Cond.code (⟨"com/example/cairn/cairn/plan/Stage$Output", "<init>", "(Lcom/example/cairn/cairn/plan/Stage$Shape;Ljava/util/List;ILjava/util/List;Lcom/example/cairn/cairn/plan/Grouping;)V"⟩ : MethodName) prog_108_method_1_code 7 none :: ws) ({ frames := 3, cells := 0, slots := 0, locals := 37 } : Room)) (fun a U => a = #[(.ref a1), (.ref w_PARTIAL_GROUPS), (.ref a2), (.int p3), (.ref a4), (.ref a5)] ∧ Z.Warmed39 U.vm ∧ U.heap = h0) (fun _ _ _ _ _ => True) (fun _ U o U' => ∃ v L, o = .returned v ∧ own_Q_oi2 Z a1 a2 p3 a4 a5 w_ROWS w_RESULT w_PARTIAL_GROUPS w_MERGED_GROUPS w_D w_EL w_EE w_C w_EM w_M h0 n0 v U'.heap L ∧ FrameEnd U o U' L ({ frames := 3, cells := 0, slots := 0, locals := 37 } : Room).cells ({ frames := 3, cells := 0, slots := 0, locals := 37 } : Room).slots) := by
  refine MetFree.of_bodySF (plainFor_of_name pn_16) hisR ?_
  intro p e s m args below meth c s₁ Bd hml0 hP hK0
  obtain ⟨rfl, hZ, hh⟩ := hP
  have hx := Bd.exec
  have hby := Bd.bytes
  have hml : c.maxLocals = 7 := hml0
  have hown : s.vm.findClass "com/example/cairn/cairn/plan/Stage$Output" = some m.cls := findClass_of_methodNamed Bd.named
  have hnm := (name_of_methodNamed Bd.named Bd.method).1
  have X0 : Stand p l e ({ frames := 3, cells := 0, slots := 0, locals := 37 } : Room) s m #[(.ref a1), (.ref w_PARTIAL_GROUPS), (.ref a2), (.int p3), (.ref a4), (.ref a5)] below meth c s₁ [] 0 0 := Stand.of_body Bd
  have e0 : s₁.heap = h0 := by rw [← hh, Bd.state]; rfl
  have N0 := Fr.nil n0
  have pre0 : ∀ t, Steps p.tables e below (s₁.setTop (mkF m 0 #[.val (.ref a1), .val (.ref w_PARTIAL_GROUPS), .val (.ref a2), .val (.int p3), .val (.ref a4), .val (.ref a5), .unset] [])) t → Steps p.tables e below (s₁.setTop (entryFrame m #[(.ref a1), (.ref w_PARTIAL_GROUPS), (.ref a2), (.int p3), (.ref a4), (.ref a5)] 7)) t := fun t k => castTop (ef_oi2 m a1 w_PARTIAL_GROUPS a2 p3 a4 a5) k
  have hK' := hK
  obtain ⟨S_w_ROWS, E_w_ROWS, F_ordinal_w_ROWS, S_w_RESULT, E_w_RESULT, F_ordinal_w_RESULT, S_w_PARTIAL_GROUPS, E_w_PARTIAL_GROUPS, F_ordinal_w_PARTIAL_GROUPS, S_w_MERGED_GROUPS, E_w_MERGED_GROUPS, F_ordinal_w_MERGED_GROUPS, S_w_D, B_w_D, S_w_EL, E_w_EL, F_elements_w_EL, B_w_EE, F_allowNulls_w_EL, S_high, S_w_C, C_w_C, S_w_EM, M_w_M⟩ := hK'
  obtain ⟨cl_w_D, A_w_D, q_w_D⟩ := B_w_D
  obtain ⟨cl_w_EE, A_w_EE, q_w_EE⟩ := B_w_EE
  obtain ⟨v1, _, ⟨T1, L1, k1, n1⟩, -, X1, ⟨Lc1, hQ1, l1, y1, z1⟩, st1⟩ := X0.specialBack hx (y := (⟨"java/lang/Record", "<init>", "()V"⟩ : MethodName)) rfl hown (mvT hZ (hw _ (ow 116 rfl))) (mvT hZ (hw _ (ow 33 rfl))) (mvT hZ (hw _ (ow 36 rfl))) (by decide) (backOf (W := 0) (rm_recinit l Z a0 hw [] a1 h0 n0) hZ (hw _ (ow 36 rfl)) (hw _ (ow 35 rfl)) (by decide) (by decide)) (g := (mkF m 1 #[.val (.ref a1), .val (.ref w_PARTIAL_GROUPS), .val (.ref a2), .val (.int p3), .val (.ref a4), .val (.ref a5), .unset] [(.ref a1)])) rfl (by rw [hml]; rfl) (Steps.refl _) (a := a1) (argsL := []) (rest := []) (lenOf pd_0 rfl) rfl (Nat.le_of_eq rfl) (hb hby d_prog_108_method_1_1) (fun _ _ => ⟨rfl, e0, (by decide : 0 + 0 ≤ _), (by decide : 0 + 0 ≤ _)⟩)
  dsimp only [Pt.U, Pt.locs, Pt.cells, Pt.slots] at X1 l1 y1 z1 st1 hQ1
  subst y1 z1
  obtain ⟨hv1, Nq1, e1⟩ := hQ1
  obtain rfl : v1 = none := hv1
  have N1 : Fr n0 L1 := by rw [l1]; exact Fr.app N0 Nq1
  obtain ⟨v2, _, ⟨T2, L2, k2, n2⟩, -, X2, ⟨Lc2, hQ2, l2, y2, z2⟩, st2⟩ := Jvm.LawKit.callS X1 hx (y := (⟨"java/util/List", "copyOf", "(Ljava/util/Collection;)Ljava/util/List;"⟩ : MethodName)) hown (mvT hZ (hw _ (ow 117 rfl))) (mvT hZ (hw _ (ow 39 rfl))) (mvT hZ (hw _ (ow 40 rfl))) (mvT hZ (hw _ (ow 41 rfl))) (by decide) (backOf (W := 0) (rm_co0 l Z a0 hw [] a2 h0 n0 w_ROWS w_RESULT w_PARTIAL_GROUPS w_MERGED_GROUPS w_D w_EL w_EE w_C w_EM w_M hK hn0 EX0 E_a2 g_a2 F_size_a2) hZ (hw _ (ow 41 rfl)) (hw _ (ow 40 rfl)) (by decide) (by decide)) (g := (mkF m 5 #[.val (.ref a1), .val (.ref w_PARTIAL_GROUPS), .val (.ref a2), .val (.int p3), .val (.ref a4), .val (.ref a5), .unset] [(.ref a2)])) rfl (by rw [hml]; rfl) (argsL := [(.ref a2)]) (rest := []) (lenOf pd_3 rfl) rfl (Nat.le_of_eq rfl) (hb hby d_prog_108_method_1_5) (fun _ _ => ⟨rfl, e1, (by decide : 0 + 0 ≤ _), (by decide : 0 + 0 ≤ _)⟩)
  dsimp only [Pt.U, Pt.locs, Pt.cells, Pt.slots] at X2 l2 y2 z2 st2 hQ2
  subst y2 z2
  obtain ⟨hv2, Nq2, Kq2⟩ := hQ2
  obtain rfl : v2 = some (.ref w_EL) := hv2
  have N2 : Fr n0 L2 := by rw [l2]; exact Fr.app N1 Nq2
  have x2_E_a1 := E_a1.keep Kq2
  have x2_F_a1_shape := F_shape_a1.keep Kq2 nin0
  have x2_F_a1_slots := F_slots_a1.keep Kq2 nin0
  have x2_F_a1_buckets := F_buckets_a1.keep Kq2 nin0
  have x2_F_a1_keys := F_keys_a1.keep Kq2 nin0
  have x2_F_a1_grouping := F_grouping_a1.keep Kq2 nin0
  have x2_E_a2 := E_a2.keep Kq2
  have x2_F_a2_size := F_size_a2.keep Kq2 nin0
  have x2_E_a4 := E_a4.keep Kq2
  have x2_F_a4_size := F_size_a4.keep Kq2 nin0
  have EX2 := own_ext_keepL EX0 Kq2 all0
  have K2 := Keep.trans (Keep.refl h0 [a1]) Kq2 all0
  obtain ⟨v3, _, ⟨T3, L3, k3, n3⟩, -, X3, ⟨Lc3, hQ3, l3, y3, z3⟩, st3⟩ := Jvm.LawKit.callS X2 hx (y := (⟨"java/util/List", "copyOf", "(Ljava/util/Collection;)Ljava/util/List;"⟩ : MethodName)) hown (mvT hZ (hw _ (ow 117 rfl))) (mvT hZ (hw _ (ow 39 rfl))) (mvT hZ (hw _ (ow 40 rfl))) (mvT hZ (hw _ (ow 41 rfl))) (by decide) (backOf (W := 0) (rm_co0 l Z a0 hw [] a4 T2.heap n0 w_ROWS w_RESULT w_PARTIAL_GROUPS w_MERGED_GROUPS w_D w_EL w_EE w_C w_EM w_M hK hn0 EX2 x2_E_a4 g_a4 x2_F_a4_size) hZ (hw _ (ow 41 rfl)) (hw _ (ow 40 rfl)) (by decide) (by decide)) (g := (mkF m 11 #[.val (.ref a1), .val (.ref w_PARTIAL_GROUPS), .val (.ref w_EL), .val (.int p3), .val (.ref a4), .val (.ref a5), .unset] [(.ref a4)])) rfl (by rw [hml]; rfl) (argsL := [(.ref a4)]) (rest := []) (lenOf pd_3 rfl) rfl (Nat.le_of_eq rfl) (hb hby d_prog_108_method_1_11) (fun _ _ => ⟨rfl, (rfl : T2.heap = T2.heap), (by decide : 0 + 0 ≤ _), (by decide : 0 + 0 ≤ _)⟩)
  dsimp only [Pt.U, Pt.locs, Pt.cells, Pt.slots] at X3 l3 y3 z3 st3 hQ3
  subst y3 z3
  obtain ⟨hv3, Nq3, Kq3⟩ := hQ3
  obtain rfl : v3 = some (.ref w_EL) := hv3
  have N3 : Fr n0 L3 := by rw [l3]; exact Fr.app N2 Nq3
  have x3_E_a1 := x2_E_a1.keep Kq3
  have x3_F_a1_shape := x2_F_a1_shape.keep Kq3 nin0
  have x3_F_a1_slots := x2_F_a1_slots.keep Kq3 nin0
  have x3_F_a1_buckets := x2_F_a1_buckets.keep Kq3 nin0
  have x3_F_a1_keys := x2_F_a1_keys.keep Kq3 nin0
  have x3_F_a1_grouping := x2_F_a1_grouping.keep Kq3 nin0
  have x3_E_a2 := x2_E_a2.keep Kq3
  have x3_F_a2_size := x2_F_a2_size.keep Kq3 nin0
  have x3_E_a4 := x2_E_a4.keep Kq3
  have x3_F_a4_size := x2_F_a4_size.keep Kq3 nin0
  have EX3 := own_ext_keepL EX2 Kq3 all0
  have K3 := Keep.trans K2 Kq3 all0
  obtain ⟨cq4, kq4, q4a, q4b, q4c⟩ := isOf hZ (rfl : T3.heap = T3.heap) (E_w_PARTIAL_GROUPS.ext EX3)
  obtain ⟨v4, _, ⟨T4, L4, k4, n4⟩, -, X4, ⟨Lc4, hQ4, l4, y4, z4⟩, st4⟩ := X3.virtualBackUp hx (x := (⟨"com/example/cairn/cairn/plan/Stage$Shape", "ordinal", "()I"⟩ : MethodName)) (y := (⟨"java/lang/Enum", "ordinal", "()I"⟩ : MethodName)) (owner := "java/lang/Enum") hown (mvT hZ (hw _ (ow 181 rfl))) (mvT hZ (hw _ (ow 182 rfl))) (mvT hZ (hw _ (ow 183 rfl))) (by decide) (mvT hZ (hw _ (ow 185 rfl))) (mvT hZ (hw _ (ow 184 rfl))) (backOf (W := 0) (rm_ordinal l Z a0 hw [] w_PARTIAL_GROUPS (2 : Int32) T3.heap n0 (F_ordinal_w_PARTIAL_GROUPS.ext EX3)) hZ (hw _ (ow 187 rfl)) (hw _ (ow 186 rfl)) (by decide) (by decide)) q4a q4c (g := (mkF m 17 #[.val (.ref a1), .val (.ref w_PARTIAL_GROUPS), .val (.ref w_EL), .val (.int p3), .val (.ref w_EL), .val (.ref a5), .unset] [(.ref w_PARTIAL_GROUPS)])) rfl (by rw [hml]; rfl) (Steps.refl _) (argsL := []) (rest := []) (lenOf pd_14 rfl) rfl (Nat.le_of_eq rfl) (hb hby d_prog_108_method_1_17) (fun _ _ => ⟨rfl, (rfl : T3.heap = T3.heap), (by decide : 0 + 0 ≤ _), (by decide : 0 + 0 ≤ _)⟩)
  dsimp only [Pt.U, Pt.locs, Pt.cells, Pt.slots] at X4 l4 y4 z4 st4 hQ4
  subst y4 z4
  obtain ⟨hv4, Nq4, e4⟩ := hQ4
  obtain rfl : v4 = some (.int (2 : Int32)) := hv4
  have N4 : Fr n0 L4 := by rw [l4]; exact Fr.app N3 Nq4
  obtain ⟨cq5, kq5, q5a, q5b, q5c⟩ := isOf hZ e4 (E_w_EL.ext EX3)
  obtain ⟨v5, _, ⟨T5, L5, k5, n5⟩, -, X5, ⟨Lc5, hQ5, l5, y5, z5⟩, st5⟩ := X4.interfaceBack hx (xi := (⟨"java/util/List", "isEmpty", "()Z"⟩ : MethodName)) (y := (⟨"java/util/ImmutableCollections$ListN", "isEmpty", "()Z"⟩ : MethodName)) hown (mvT hZ (hw _ (ow 190 rfl))) (mvT hZ (hw _ (ow 191 rfl))) (mvT hZ (hw _ (ow 192 rfl))) (mvT hZ (hw _ (ow 199 rfl))) (mvT hZ (hw _ (ow 200 rfl))) (mvT hZ (hw _ (ow 201 rfl))) (mvT hZ (hw _ (ow 202 rfl))) (mvT hZ (hw _ (ow 203 rfl))) (by decide) (backOf (W := 0) (rm_lniE l Z a0 hw []  T3.heap n0 w_ROWS w_RESULT w_PARTIAL_GROUPS w_MERGED_GROUPS w_D w_EL w_EE w_C w_EM w_M (own_K_ext EX3 hK)) hZ (hw _ (ow 205 rfl)) (hw _ (ow 204 rfl)) (by decide) (by decide)) q5a q5b q5c (g := (mkF m 121 #[.val (.ref a1), .val (.ref w_PARTIAL_GROUPS), .val (.ref w_EL), .val (.int p3), .val (.ref w_EL), .val (.ref a5), .unset] [(.ref w_EL)])) rfl (by rw [hml]; rfl) (Steps.refl _) (argsL := []) (rest := []) (lenOf pd_1 rfl) rfl (Nat.le_of_eq rfl) (hb hby d_prog_108_method_1_121) (fun _ _ => ⟨rfl, e4, (by decide : 0 + 0 ≤ _), (by decide : 0 + 0 ≤ _)⟩)
  dsimp only [Pt.U, Pt.locs, Pt.cells, Pt.slots] at X5 l5 y5 z5 st5 hQ5
  subst y5 z5
  obtain ⟨hv5, Nq5, e5⟩ := hQ5
  obtain rfl : v5 = some (.int (1 : Int32)) := hv5
  have N5 : Fr n0 L5 := by rw [l5]; exact Fr.app N4 Nq5
  obtain ⟨cq6, kq6, q6a, q6b, q6c⟩ := isOf hZ e5 (E_w_EL.ext EX3)
  obtain ⟨v6, _, ⟨T6, L6, k6, n6⟩, -, X6, ⟨Lc6, hQ6, l6, y6, z6⟩, st6⟩ := X5.interfaceBack hx (xi := (⟨"java/util/List", "isEmpty", "()Z"⟩ : MethodName)) (y := (⟨"java/util/ImmutableCollections$ListN", "isEmpty", "()Z"⟩ : MethodName)) hown (mvT hZ (hw _ (ow 190 rfl))) (mvT hZ (hw _ (ow 191 rfl))) (mvT hZ (hw _ (ow 192 rfl))) (mvT hZ (hw _ (ow 199 rfl))) (mvT hZ (hw _ (ow 200 rfl))) (mvT hZ (hw _ (ow 201 rfl))) (mvT hZ (hw _ (ow 202 rfl))) (mvT hZ (hw _ (ow 203 rfl))) (by decide) (backOf (W := 0) (rm_lniE l Z a0 hw []  T3.heap n0 w_ROWS w_RESULT w_PARTIAL_GROUPS w_MERGED_GROUPS w_D w_EL w_EE w_C w_EM w_M (own_K_ext EX3 hK)) hZ (hw _ (ow 205 rfl)) (hw _ (ow 204 rfl)) (by decide) (by decide)) q6a q6b q6c (g := (mkF m 131 #[.val (.ref a1), .val (.ref w_PARTIAL_GROUPS), .val (.ref w_EL), .val (.int p3), .val (.ref w_EL), .val (.ref a5), .unset] [(.ref w_EL)])) rfl (by rw [hml]; rfl) (Steps.refl _) (argsL := []) (rest := []) (lenOf pd_1 rfl) rfl (Nat.le_of_eq rfl) (hb hby d_prog_108_method_1_131) (fun _ _ => ⟨rfl, e5, (by decide : 0 + 0 ≤ _), (by decide : 0 + 0 ≤ _)⟩)
  dsimp only [Pt.U, Pt.locs, Pt.cells, Pt.slots] at X6 l6 y6 z6 st6 hQ6
  subst y6 z6
  obtain ⟨hv6, Nq6, e6⟩ := hQ6
  obtain rfl : v6 = some (.int (1 : Int32)) := hv6
  have N6 : Fr n0 L6 := by rw [l6]; exact Fr.app N5 Nq6
  obtain ⟨T7, h7, X7, e7, W7, st7⟩ := putF X6 hx hZ hown (host := "") (Or.inl (hw _ (ow 208 rfl))) Via.refl e6 x3_F_a1_shape x3_E_a1 (Or.inr ⟨(hw _ (ow 209 rfl)), rfl, hnm⟩) (hw _ (ow 111 rfl)) (ty := (.object "com/example/cairn/cairn/plan/Stage$Shape")) (by decide) rfl rfl (g := (mkF m 280 #[.val (.ref a1), .val (.ref w_PARTIAL_GROUPS), .val (.ref w_EL), .val (.int p3), .val (.ref w_EL), .val (.ref a5), .val (.int (1 : Int32))] [(.ref w_PARTIAL_GROUPS), (.ref a1)])) rfl rfl (hb hby d_prog_108_method_1_280)
  have x7_E_a1 := x3_E_a1.wr W7
  have x7_F_a1_shape := x3_F_a1_shape.same W7
  have x7_F_a1_slots := x3_F_a1_slots.other W7 (Or.inr (slot_ne (Or.inr (hw _ (ow 211 rfl))) (Or.inr (hw _ (ow 209 rfl))) (by decide) (t := (.object "java/util/List")) (t' := (.object "com/example/cairn/cairn/plan/Stage$Shape")) (by decide) (by decide)))
  have x7_F_a1_buckets := x3_F_a1_buckets.other W7 (Or.inr (slot_ne (Or.inr (hw _ (ow 213 rfl))) (Or.inr (hw _ (ow 209 rfl))) (by decide) (t := .int) (t' := (.object "com/example/cairn/cairn/plan/Stage$Shape")) (by decide) (by decide)))
  have x7_F_a1_keys := x3_F_a1_keys.other W7 (Or.inr (slot_ne (Or.inr (hw _ (ow 215 rfl))) (Or.inr (hw _ (ow 209 rfl))) (by decide) (t := (.object "java/util/List")) (t' := (.object "com/example/cairn/cairn/plan/Stage$Shape")) (by decide) (by decide)))
  have x7_F_a1_grouping := x3_F_a1_grouping.other W7 (Or.inr (slot_ne (Or.inr (hw _ (ow 217 rfl))) (Or.inr (hw _ (ow 209 rfl))) (by decide) (t := (.object "com/example/cairn/cairn/plan/Grouping")) (t' := (.object "com/example/cairn/cairn/plan/Stage$Shape")) (by decide) (by decide)))
  have x7_E_a2 := x3_E_a2.wr W7
  have x7_E_a4 := x3_E_a4.wr W7
  have EX7 := own_ext_wr EX3 W7 (hn0 ▸ g_a1)
  have K7 := Keep.wr K3 W7 (Or.inl (List.mem_of_getElem? (i := 0) rfl))
  have N7 := Fr.snoc X7 N6 g_a1
  obtain ⟨T8, h8, X8, e8, W8, st8⟩ := putF X7 hx hZ hown (host := "") (Or.inl (hw _ (ow 210 rfl))) Via.refl e7 x7_F_a1_slots x7_E_a1 (Or.inr ⟨(hw _ (ow 211 rfl)), rfl, hnm⟩) (hw _ (ow 111 rfl)) (ty := (.object "java/util/List")) (by decide) rfl rfl (g := (mkF m 285 #[.val (.ref a1), .val (.ref w_PARTIAL_GROUPS), .val (.ref w_EL), .val (.int p3), .val (.ref w_EL), .val (.ref a5), .val (.int (1 : Int32))] [(.ref w_EL), (.ref a1)])) rfl rfl (hb hby d_prog_108_method_1_285)
  have x8_E_a1 := x7_E_a1.wr W8
  have x8_F_a1_shape := x7_F_a1_shape.other W8 (Or.inr (slot_ne (Or.inr (hw _ (ow 209 rfl))) (Or.inr (hw _ (ow 211 rfl))) (by decide) (t := (.object "com/example/cairn/cairn/plan/Stage$Shape")) (t' := (.object "java/util/List")) (by decide) (by decide)))
  have x8_F_a1_slots := x7_F_a1_slots.same W8
  have x8_F_a1_buckets := x7_F_a1_buckets.other W8 (Or.inr (slot_ne (Or.inr (hw _ (ow 213 rfl))) (Or.inr (hw _ (ow 211 rfl))) (by decide) (t := .int) (t' := (.object "java/util/List")) (by decide) (by decide)))
  have x8_F_a1_keys := x7_F_a1_keys.other W8 (Or.inr (slot_ne (Or.inr (hw _ (ow 215 rfl))) (Or.inr (hw _ (ow 211 rfl))) (by decide) (t := (.object "java/util/List")) (t' := (.object "java/util/List")) (by decide) (by decide)))
  have x8_F_a1_grouping := x7_F_a1_grouping.other W8 (Or.inr (slot_ne (Or.inr (hw _ (ow 217 rfl))) (Or.inr (hw _ (ow 211 rfl))) (by decide) (t := (.object "com/example/cairn/cairn/plan/Grouping")) (t' := (.object "java/util/List")) (by decide) (by decide)))
  have x8_E_a2 := x7_E_a2.wr W8
  have x8_E_a4 := x7_E_a4.wr W8
  have EX8 := own_ext_wr EX7 W8 (hn0 ▸ g_a1)
  have K8 := Keep.wr K7 W8 (Or.inl (List.mem_of_getElem? (i := 0) rfl))
  have N8 := Fr.snoc X8 N7 g_a1
  obtain ⟨T9, h9, X9, e9, W9, st9⟩ := putF X8 hx hZ hown (host := "") (Or.inl (hw _ (ow 212 rfl))) Via.refl e8 x8_F_a1_buckets x8_E_a1 (Or.inr ⟨(hw _ (ow 213 rfl)), rfl, hnm⟩) (hw _ (ow 111 rfl)) (ty := .int) (by decide) rfl rfl (g := (mkF m 290 #[.val (.ref a1), .val (.ref w_PARTIAL_GROUPS), .val (.ref w_EL), .val (.int p3), .val (.ref w_EL), .val (.ref a5), .val (.int (1 : Int32))] [(.int p3), (.ref a1)])) rfl rfl (hb hby d_prog_108_method_1_290)
  have x9_E_a1 := x8_E_a1.wr W9
  have x9_F_a1_shape := x8_F_a1_shape.other W9 (Or.inr (slot_ne (Or.inr (hw _ (ow 209 rfl))) (Or.inr (hw _ (ow 213 rfl))) (by decide) (t := (.object "com/example/cairn/cairn/plan/Stage$Shape")) (t' := .int) (by decide) (by decide)))
  have x9_F_a1_slots := x8_F_a1_slots.other W9 (Or.inr (slot_ne (Or.inr (hw _ (ow 211 rfl))) (Or.inr (hw _ (ow 213 rfl))) (by decide) (t := (.object "java/util/List")) (t' := .int) (by decide) (by decide)))
  have x9_F_a1_buckets := x8_F_a1_buckets.same W9
  have x9_F_a1_keys := x8_F_a1_keys.other W9 (Or.inr (slot_ne (Or.inr (hw _ (ow 215 rfl))) (Or.inr (hw _ (ow 213 rfl))) (by decide) (t := (.object "java/util/List")) (t' := .int) (by decide) (by decide)))
  have x9_F_a1_grouping := x8_F_a1_grouping.other W9 (Or.inr (slot_ne (Or.inr (hw _ (ow 217 rfl))) (Or.inr (hw _ (ow 213 rfl))) (by decide) (t := (.object "com/example/cairn/cairn/plan/Grouping")) (t' := .int) (by decide) (by decide)))
  have x9_E_a2 := x8_E_a2.wr W9
  have x9_E_a4 := x8_E_a4.wr W9
  have EX9 := own_ext_wr EX8 W9 (hn0 ▸ g_a1)
  have K9 := Keep.wr K8 W9 (Or.inl (List.mem_of_getElem? (i := 0) rfl))
  have N9 := Fr.snoc X9 N8 g_a1
  obtain ⟨T10, h10, X10, e10, W10, st10⟩ := putF X9 hx hZ hown (host := "") (Or.inl (hw _ (ow 214 rfl))) Via.refl e9 x9_F_a1_keys x9_E_a1 (Or.inr ⟨(hw _ (ow 215 rfl)), rfl, hnm⟩) (hw _ (ow 111 rfl)) (ty := (.object "java/util/List")) (by decide) rfl rfl (g := (mkF m 296 #[.val (.ref a1), .val (.ref w_PARTIAL_GROUPS), .val (.ref w_EL), .val (.int p3), .val (.ref w_EL), .val (.ref a5), .val (.int (1 : Int32))] [(.ref w_EL), (.ref a1)])) rfl rfl (hb hby d_prog_108_method_1_296)
  have x10_E_a1 := x9_E_a1.wr W10
  have x10_F_a1_shape := x9_F_a1_shape.other W10 (Or.inr (slot_ne (Or.inr (hw _ (ow 209 rfl))) (Or.inr (hw _ (ow 215 rfl))) (by decide) (t := (.object "com/example/cairn/cairn/plan/Stage$Shape")) (t' := (.object "java/util/List")) (by decide) (by decide)))
  have x10_F_a1_slots := x9_F_a1_slots.other W10 (Or.inr (slot_ne (Or.inr (hw _ (ow 211 rfl))) (Or.inr (hw _ (ow 215 rfl))) (by decide) (t := (.object "java/util/List")) (t' := (.object "java/util/List")) (by decide) (by decide)))
  have x10_F_a1_buckets := x9_F_a1_buckets.other W10 (Or.inr (slot_ne (Or.inr (hw _ (ow 213 rfl))) (Or.inr (hw _ (ow 215 rfl))) (by decide) (t := .int) (t' := (.object "java/util/List")) (by decide) (by decide)))
  have x10_F_a1_keys := x9_F_a1_keys.same W10
  have x10_F_a1_grouping := x9_F_a1_grouping.other W10 (Or.inr (slot_ne (Or.inr (hw _ (ow 217 rfl))) (Or.inr (hw _ (ow 215 rfl))) (by decide) (t := (.object "com/example/cairn/cairn/plan/Grouping")) (t' := (.object "java/util/List")) (by decide) (by decide)))
  have x10_E_a2 := x9_E_a2.wr W10
  have x10_E_a4 := x9_E_a4.wr W10
  have EX10 := own_ext_wr EX9 W10 (hn0 ▸ g_a1)
  have K10 := Keep.wr K9 W10 (Or.inl (List.mem_of_getElem? (i := 0) rfl))
  have N10 := Fr.snoc X10 N9 g_a1
  obtain ⟨T11, h11, X11, e11, W11, st11⟩ := putF X10 hx hZ hown (host := "") (Or.inl (hw _ (ow 216 rfl))) Via.refl e10 x10_F_a1_grouping x10_E_a1 (Or.inr ⟨(hw _ (ow 217 rfl)), rfl, hnm⟩) (hw _ (ow 111 rfl)) (ty := (.object "com/example/cairn/cairn/plan/Grouping")) (by decide) rfl rfl (g := (mkF m 302 #[.val (.ref a1), .val (.ref w_PARTIAL_GROUPS), .val (.ref w_EL), .val (.int p3), .val (.ref w_EL), .val (.ref a5), .val (.int (1 : Int32))] [(.ref a5), (.ref a1)])) rfl rfl (hb hby d_prog_108_method_1_302)
  have x11_E_a1 := x10_E_a1.wr W11
  have x11_F_a1_shape := x10_F_a1_shape.other W11 (Or.inr (slot_ne (Or.inr (hw _ (ow 209 rfl))) (Or.inr (hw _ (ow 217 rfl))) (by decide) (t := (.object "com/example/cairn/cairn/plan/Stage$Shape")) (t' := (.object "com/example/cairn/cairn/plan/Grouping")) (by decide) (by decide)))
  have x11_F_a1_slots := x10_F_a1_slots.other W11 (Or.inr (slot_ne (Or.inr (hw _ (ow 211 rfl))) (Or.inr (hw _ (ow 217 rfl))) (by decide) (t := (.object "java/util/List")) (t' := (.object "com/example/cairn/cairn/plan/Grouping")) (by decide) (by decide)))
  have x11_F_a1_buckets := x10_F_a1_buckets.other W11 (Or.inr (slot_ne (Or.inr (hw _ (ow 213 rfl))) (Or.inr (hw _ (ow 217 rfl))) (by decide) (t := .int) (t' := (.object "com/example/cairn/cairn/plan/Grouping")) (by decide) (by decide)))
  have x11_F_a1_keys := x10_F_a1_keys.other W11 (Or.inr (slot_ne (Or.inr (hw _ (ow 215 rfl))) (Or.inr (hw _ (ow 217 rfl))) (by decide) (t := (.object "java/util/List")) (t' := (.object "com/example/cairn/cairn/plan/Grouping")) (by decide) (by decide)))
  have x11_F_a1_grouping := x10_F_a1_grouping.same W11
  have x11_E_a2 := x10_E_a2.wr W11
  have x11_E_a4 := x10_E_a4.wr W11
  have EX11 := own_ext_wr EX10 W11 (hn0 ▸ g_a1)
  have K11 := Keep.wr K10 W11 (Or.inl (List.mem_of_getElem? (i := 0) rfl))
  have N11 := Fr.snoc X11 N10 g_a1
  have pre12 : ∀ t, Steps p.tables e below (T11.setTop (mkF m 305 #[.val (.ref a1), .val (.ref w_PARTIAL_GROUPS), .val (.ref w_EL), .val (.int p3), .val (.ref w_EL), .val (.ref a5), .val (.int (1 : Int32))] [])) t → Steps p.tables e below (s₁.setTop (entryFrame m #[(.ref a1), (.ref w_PARTIAL_GROUPS), (.ref a2), (.int p3), (.ref a4), (.ref a5)] 7)) t := fun t k => pre0 t (by
    show Steps p.tables e below (s₁.setTop (mkF m 0 #[.val (.ref a1), .val (.ref w_PARTIAL_GROUPS), .val (.ref a2), .val (.int p3), .val (.ref a4), .val (.ref a5), .unset] [])) _
    refine XS.aloadN X0.here hx rfl (hb hby d_prog_108_method_1_0) rfl rfl ?_
    show Steps p.tables e below (s₁.setTop (mkF m 1 #[.val (.ref a1), .val (.ref w_PARTIAL_GROUPS), .val (.ref a2), .val (.int p3), .val (.ref a4), .val (.ref a5), .unset] [(.ref a1)])) _
    refine st1.trans ?_
    show Steps p.tables e below (T1.setTop (mkF m 4 #[.val (.ref a1), .val (.ref w_PARTIAL_GROUPS), .val (.ref a2), .val (.int p3), .val (.ref a4), .val (.ref a5), .unset] [])) _
    refine XS.aloadN X1.here hx rfl (hb hby d_prog_108_method_1_4) rfl rfl ?_
    show Steps p.tables e below (T1.setTop (mkF m 5 #[.val (.ref a1), .val (.ref w_PARTIAL_GROUPS), .val (.ref a2), .val (.int p3), .val (.ref a4), .val (.ref a5), .unset] [(.ref a2)])) _
    refine st2 _ ?_
    show Steps p.tables e below (T2.setTop (mkF m 8 #[.val (.ref a1), .val (.ref w_PARTIAL_GROUPS), .val (.ref a2), .val (.int p3), .val (.ref a4), .val (.ref a5), .unset] [(.ref w_EL)])) _
    refine XS.astoreN X2.here hx rfl (hb hby d_prog_108_method_1_8) rfl rfl (l' := #[.val (.ref a1), .val (.ref w_PARTIAL_GROUPS), .val (.ref w_EL), .val (.int p3), .val (.ref a4), .val (.ref a5), .unset]) rfl ?_
    show Steps p.tables e below (T2.setTop (mkF m 9 #[.val (.ref a1), .val (.ref w_PARTIAL_GROUPS), .val (.ref w_EL), .val (.int p3), .val (.ref a4), .val (.ref a5), .unset] [])) _
    refine XS.aload X2.here hx rfl (hb hby d_prog_108_method_1_9) rfl rfl ?_
    show Steps p.tables e below (T2.setTop (mkF m 11 #[.val (.ref a1), .val (.ref w_PARTIAL_GROUPS), .val (.ref w_EL), .val (.int p3), .val (.ref a4), .val (.ref a5), .unset] [(.ref a4)])) _
    refine st3 _ ?_
    show Steps p.tables e below (T3.setTop (mkF m 14 #[.val (.ref a1), .val (.ref w_PARTIAL_GROUPS), .val (.ref w_EL), .val (.int p3), .val (.ref a4), .val (.ref a5), .unset] [(.ref w_EL)])) _
    refine XS.astore X3.here hx rfl (hb hby d_prog_108_method_1_14) rfl rfl (l' := #[.val (.ref a1), .val (.ref w_PARTIAL_GROUPS), .val (.ref w_EL), .val (.int p3), .val (.ref w_EL), .val (.ref a5), .unset]) rfl ?_
    show Steps p.tables e below (T3.setTop (mkF m 16 #[.val (.ref a1), .val (.ref w_PARTIAL_GROUPS), .val (.ref w_EL), .val (.int p3), .val (.ref w_EL), .val (.ref a5), .unset] [])) _
    refine XS.aloadN X3.here hx rfl (hb hby d_prog_108_method_1_16) rfl rfl ?_
    show Steps p.tables e below (T3.setTop (mkF m 17 #[.val (.ref a1), .val (.ref w_PARTIAL_GROUPS), .val (.ref w_EL), .val (.int p3), .val (.ref w_EL), .val (.ref a5), .unset] [(.ref w_PARTIAL_GROUPS)])) _
    refine st4.trans ?_
    show Steps p.tables e below (T4.setTop (mkF m 20 #[.val (.ref a1), .val (.ref w_PARTIAL_GROUPS), .val (.ref w_EL), .val (.int p3), .val (.ref w_EL), .val (.ref a5), .unset] [(.int (2 : Int32))])) _
    refine XS.tswIn X4.here hx rfl (o := 96) (pc0 := 20) (pc' := 116) rfl (hb hby d_prog_108_method_1_20) rfl (by decide) (by decide) (by decide) (by decide) ?_
    show Steps p.tables e below (T4.setTop (mkF m 116 #[.val (.ref a1), .val (.ref w_PARTIAL_GROUPS), .val (.ref w_EL), .val (.int p3), .val (.ref w_EL), .val (.ref a5), .unset] [])) _
    refine XS.iloadN X4.here hx rfl (hb hby d_prog_108_method_1_116) rfl ?_
    show Steps p.tables e below (T4.setTop (mkF m 117 #[.val (.ref a1), .val (.ref w_PARTIAL_GROUPS), .val (.ref w_EL), .val (.int p3), .val (.ref w_EL), .val (.ref a5), .unset] [(.int p3)])) _
    refine XS.ifNo X4.here hx rfl (hb hby d_prog_108_method_1_117) rfl ((if0 _ _).trans (flt hp3).1) ?_
    show Steps p.tables e below (T4.setTop (mkF m 120 #[.val (.ref a1), .val (.ref w_PARTIAL_GROUPS), .val (.ref w_EL), .val (.int p3), .val (.ref w_EL), .val (.ref a5), .unset] [])) _
    refine XS.aloadN X4.here hx rfl (hb hby d_prog_108_method_1_120) rfl rfl ?_
    show Steps p.tables e below (T4.setTop (mkF m 121 #[.val (.ref a1), .val (.ref w_PARTIAL_GROUPS), .val (.ref w_EL), .val (.int p3), .val (.ref w_EL), .val (.ref a5), .unset] [(.ref w_EL)])) _
    refine st5.trans ?_
    show Steps p.tables e below (T5.setTop (mkF m 126 #[.val (.ref a1), .val (.ref w_PARTIAL_GROUPS), .val (.ref w_EL), .val (.int p3), .val (.ref w_EL), .val (.ref a5), .unset] [(.int (1 : Int32))])) _
    refine XS.ifNo X5.here hx rfl (hb hby d_prog_108_method_1_126) rfl ((if0 _ _).trans (feq (by decide)).1) ?_
    show Steps p.tables e below (T5.setTop (mkF m 129 #[.val (.ref a1), .val (.ref w_PARTIAL_GROUPS), .val (.ref w_EL), .val (.int p3), .val (.ref w_EL), .val (.ref a5), .unset] [])) _
    refine XS.aload X5.here hx rfl (hb hby d_prog_108_method_1_129) rfl rfl ?_
    show Steps p.tables e below (T5.setTop (mkF m 131 #[.val (.ref a1), .val (.ref w_PARTIAL_GROUPS), .val (.ref w_EL), .val (.int p3), .val (.ref w_EL), .val (.ref a5), .unset] [(.ref w_EL)])) _
    refine st6.trans ?_
    show Steps p.tables e below (T6.setTop (mkF m 136 #[.val (.ref a1), .val (.ref w_PARTIAL_GROUPS), .val (.ref w_EL), .val (.int p3), .val (.ref w_EL), .val (.ref a5), .unset] [(.int (1 : Int32))])) _
    refine XS.ifNo X6.here hx rfl (hb hby d_prog_108_method_1_136) rfl ((if0 _ _).trans (feq (by decide)).1) ?_
    show Steps p.tables e below (T6.setTop (mkF m 139 #[.val (.ref a1), .val (.ref w_PARTIAL_GROUPS), .val (.ref w_EL), .val (.int p3), .val (.ref w_EL), .val (.ref a5), .unset] [])) _
    refine XS.aload X6.here hx rfl (hb hby d_prog_108_method_1_139) rfl rfl ?_
    show Steps p.tables e below (T6.setTop (mkF m 141 #[.val (.ref a1), .val (.ref w_PARTIAL_GROUPS), .val (.ref w_EL), .val (.int p3), .val (.ref w_EL), .val (.ref a5), .unset] [(.ref a5)])) _
    refine XS.ifnullNo X6.here hx rfl (hb hby d_prog_108_method_1_141) rfl ?_
    show Steps p.tables e below (T6.setTop (mkF m 144 #[.val (.ref a1), .val (.ref w_PARTIAL_GROUPS), .val (.ref w_EL), .val (.int p3), .val (.ref w_EL), .val (.ref a5), .unset] [])) _
    refine XS.iconst X6.here hx rfl (hb hby d_prog_108_method_1_144) ?_
    show Steps p.tables e below (T6.setTop (mkF m 145 #[.val (.ref a1), .val (.ref w_PARTIAL_GROUPS), .val (.ref w_EL), .val (.int p3), .val (.ref w_EL), .val (.ref a5), .unset] [(.int (1 : Int32))])) _
    refine XS.goto X6.here hx rfl (pc0 := 145) (pc' := 221) rfl (hb hby d_prog_108_method_1_145) (by decide) (by decide) ?_
    show Steps p.tables e below (T6.setTop (mkF m 221 #[.val (.ref a1), .val (.ref w_PARTIAL_GROUPS), .val (.ref w_EL), .val (.int p3), .val (.ref w_EL), .val (.ref a5), .unset] [(.int (1 : Int32))])) _
    refine XS.istore X6.here hx rfl (hb hby d_prog_108_method_1_221) rfl (l' := #[.val (.ref a1), .val (.ref w_PARTIAL_GROUPS), .val (.ref w_EL), .val (.int p3), .val (.ref w_EL), .val (.ref a5), .val (.int (1 : Int32))]) rfl ?_
    show Steps p.tables e below (T6.setTop (mkF m 223 #[.val (.ref a1), .val (.ref w_PARTIAL_GROUPS), .val (.ref w_EL), .val (.int p3), .val (.ref w_EL), .val (.ref a5), .val (.int (1 : Int32))] [])) _
    refine XS.iload X6.here hx rfl (hb hby d_prog_108_method_1_223) rfl ?_
    show Steps p.tables e below (T6.setTop (mkF m 225 #[.val (.ref a1), .val (.ref w_PARTIAL_GROUPS), .val (.ref w_EL), .val (.int p3), .val (.ref w_EL), .val (.ref a5), .val (.int (1 : Int32))] [(.int (1 : Int32))])) _
    refine XS.ifYes X6.here hx rfl (pc0 := 225) (pc' := 278) rfl (hb hby d_prog_108_method_1_225) rfl ((if0 _ _).trans (feq (by decide)).2) (by decide) (by decide) ?_
    show Steps p.tables e below (T6.setTop (mkF m 278 #[.val (.ref a1), .val (.ref w_PARTIAL_GROUPS), .val (.ref w_EL), .val (.int p3), .val (.ref w_EL), .val (.ref a5), .val (.int (1 : Int32))] [])) _
    refine XS.aloadN X6.here hx rfl (hb hby d_prog_108_method_1_278) rfl rfl ?_
    show Steps p.tables e below (T6.setTop (mkF m 279 #[.val (.ref a1), .val (.ref w_PARTIAL_GROUPS), .val (.ref w_EL), .val (.int p3), .val (.ref w_EL), .val (.ref a5), .val (.int (1 : Int32))] [(.ref a1)])) _
    refine XS.aloadN X6.here hx rfl (hb hby d_prog_108_method_1_279) rfl rfl ?_
    show Steps p.tables e below (T6.setTop (mkF m 280 #[.val (.ref a1), .val (.ref w_PARTIAL_GROUPS), .val (.ref w_EL), .val (.int p3), .val (.ref w_EL), .val (.ref a5), .val (.int (1 : Int32))] [(.ref w_PARTIAL_GROUPS), (.ref a1)])) _
    refine st7 _ ?_
    show Steps p.tables e below (T7.setTop (mkF m 283 #[.val (.ref a1), .val (.ref w_PARTIAL_GROUPS), .val (.ref w_EL), .val (.int p3), .val (.ref w_EL), .val (.ref a5), .val (.int (1 : Int32))] [])) _
    refine XS.aloadN X7.here hx rfl (hb hby d_prog_108_method_1_283) rfl rfl ?_
    show Steps p.tables e below (T7.setTop (mkF m 284 #[.val (.ref a1), .val (.ref w_PARTIAL_GROUPS), .val (.ref w_EL), .val (.int p3), .val (.ref w_EL), .val (.ref a5), .val (.int (1 : Int32))] [(.ref a1)])) _
    refine XS.aloadN X7.here hx rfl (hb hby d_prog_108_method_1_284) rfl rfl ?_
    show Steps p.tables e below (T7.setTop (mkF m 285 #[.val (.ref a1), .val (.ref w_PARTIAL_GROUPS), .val (.ref w_EL), .val (.int p3), .val (.ref w_EL), .val (.ref a5), .val (.int (1 : Int32))] [(.ref w_EL), (.ref a1)])) _
    refine st8 _ ?_
    show Steps p.tables e below (T8.setTop (mkF m 288 #[.val (.ref a1), .val (.ref w_PARTIAL_GROUPS), .val (.ref w_EL), .val (.int p3), .val (.ref w_EL), .val (.ref a5), .val (.int (1 : Int32))] [])) _
    refine XS.aloadN X8.here hx rfl (hb hby d_prog_108_method_1_288) rfl rfl ?_
    show Steps p.tables e below (T8.setTop (mkF m 289 #[.val (.ref a1), .val (.ref w_PARTIAL_GROUPS), .val (.ref w_EL), .val (.int p3), .val (.ref w_EL), .val (.ref a5), .val (.int (1 : Int32))] [(.ref a1)])) _
    refine XS.iloadN X8.here hx rfl (hb hby d_prog_108_method_1_289) rfl ?_
    show Steps p.tables e below (T8.setTop (mkF m 290 #[.val (.ref a1), .val (.ref w_PARTIAL_GROUPS), .val (.ref w_EL), .val (.int p3), .val (.ref w_EL), .val (.ref a5), .val (.int (1 : Int32))] [(.int p3), (.ref a1)])) _
    refine st9 _ ?_
    show Steps p.tables e below (T9.setTop (mkF m 293 #[.val (.ref a1), .val (.ref w_PARTIAL_GROUPS), .val (.ref w_EL), .val (.int p3), .val (.ref w_EL), .val (.ref a5), .val (.int (1 : Int32))] [])) _
    refine XS.aloadN X9.here hx rfl (hb hby d_prog_108_method_1_293) rfl rfl ?_
    show Steps p.tables e below (T9.setTop (mkF m 294 #[.val (.ref a1), .val (.ref w_PARTIAL_GROUPS), .val (.ref w_EL), .val (.int p3), .val (.ref w_EL), .val (.ref a5), .val (.int (1 : Int32))] [(.ref a1)])) _
    refine XS.aload X9.here hx rfl (hb hby d_prog_108_method_1_294) rfl rfl ?_
    show Steps p.tables e below (T9.setTop (mkF m 296 #[.val (.ref a1), .val (.ref w_PARTIAL_GROUPS), .val (.ref w_EL), .val (.int p3), .val (.ref w_EL), .val (.ref a5), .val (.int (1 : Int32))] [(.ref w_EL), (.ref a1)])) _
    refine st10 _ ?_
    show Steps p.tables e below (T10.setTop (mkF m 299 #[.val (.ref a1), .val (.ref w_PARTIAL_GROUPS), .val (.ref w_EL), .val (.int p3), .val (.ref w_EL), .val (.ref a5), .val (.int (1 : Int32))] [])) _
    refine XS.aloadN X10.here hx rfl (hb hby d_prog_108_method_1_299) rfl rfl ?_
    show Steps p.tables e below (T10.setTop (mkF m 300 #[.val (.ref a1), .val (.ref w_PARTIAL_GROUPS), .val (.ref w_EL), .val (.int p3), .val (.ref w_EL), .val (.ref a5), .val (.int (1 : Int32))] [(.ref a1)])) _
    refine XS.aload X10.here hx rfl (hb hby d_prog_108_method_1_300) rfl rfl ?_
    show Steps p.tables e below (T10.setTop (mkF m 302 #[.val (.ref a1), .val (.ref w_PARTIAL_GROUPS), .val (.ref w_EL), .val (.int p3), .val (.ref w_EL), .val (.ref a5), .val (.int (1 : Int32))] [(.ref a5), (.ref a1)])) _
    refine st11 _ ?_
    exact k)
  obtain ⟨fs, hr, hrun, hended, hW, hsame⟩ := X11.leave (v := none) (fun _ => rfl)
  refine ⟨_, _, pre12 _ ?_, hrun, hended, _, _, rfl, ?_, ⟨_, rfl⟩, hW, hsame.mono (by decide) (by decide)⟩
  · show Steps p.tables e below (T11.setTop (mkF m 305 #[.val (.ref a1), .val (.ref w_PARTIAL_GROUPS), .val (.ref w_EL), .val (.int p3), .val (.ref w_EL), .val (.ref a5), .val (.int (1 : Int32))] [])) _
    exact X11.returnOut hx Bd.returns (hb hby d_prog_108_method_1_305) hr
  · exact ⟨rfl, N11, by rw [show (T11.setFrames fs).heap = _ from e11]; exact ⟨K11, x11_E_a1, x11_F_a1_buckets⟩⟩
def own_Q_oi3 (Z : State) (a1 : Addr) (a2 : Addr) (a4 : Addr) (a5 : Addr) (w_ROWS w_RESULT w_PARTIAL_GROUPS w_MERGED_GROUPS w_D w_EL w_EE w_C w_EM w_M : Addr)  (h0 : Heap) (n0 : Nat) (v : Option Value) (h : Heap) (L : List Loc) : Prop := v = none ∧ Fr n0 L ∧ Keep h0 h [a1] ∧ Exa Z h a1 "com/example/cairn/cairn/plan/Stage$Output" ∧ Fld Z h a1 "com/example/cairn/cairn/plan/Stage$Output" "buckets" "I" (.int (0 : Int32))
theorem d_prog_108_method_1_152 : decode prog_108_method_1_code 152 = .ok (.iload_n 3, 1) := by decide +kernel
theorem d_prog_108_method_1_153 : decode prog_108_method_1_code 153 = .ok (.ifCond .ne 31, 3) := by decide +kernel
theorem d_prog_108_method_1_156 : decode prog_108_method_1_code 156 = .ok (.aload_n 2, 1) := by decide +kernel
theorem d_prog_108_method_1_157 : decode prog_108_method_1_code 157 = .ok (.invokeinterface 24 1, 5) := by decide +kernel
theorem d_prog_108_method_1_162 : decode prog_108_method_1_code 162 = .ok (.ifCond .eq 22, 3) := by decide +kernel
theorem d_prog_108_method_1_165 : decode prog_108_method_1_code 165 = .ok (.aload 4, 2) := by decide +kernel
theorem d_prog_108_method_1_167 : decode prog_108_method_1_code 167 = .ok (.invokeinterface 24 1, 5) := by decide +kernel
theorem d_prog_108_method_1_172 : decode prog_108_method_1_code 172 = .ok (.ifCond .eq 12, 3) := by decide +kernel
theorem d_prog_108_method_1_175 : decode prog_108_method_1_code 175 = .ok (.aload 5, 2) := by decide +kernel
theorem d_prog_108_method_1_177 : decode prog_108_method_1_code 177 = .ok (.ifnull 7, 3) := by decide +kernel
theorem d_prog_108_method_1_180 : decode prog_108_method_1_code 180 = .ok (.iconst 1, 1) := by decide +kernel
theorem d_prog_108_method_1_181 : decode prog_108_method_1_code 181 = .ok (.goto 40, 3) := by decide +kernel
theorem ef_oi3 (m : MethodId) (x0 : Addr) (x1 : Addr) (x2 : Addr) (x3 : Int32) (x4 : Addr) (x5 : Addr) : entryFrame m #[(.ref x0), (.ref x1), (.ref x2), (.int x3), (.ref x4), (.ref x5)] 7 = mkF m 0 #[.val (.ref x0), .val (.ref x1), .val (.ref x2), .val (.int x3), .val (.ref x4), .val (.ref x5), .unset] [] := by first | (simp [entryFrame, mkF, argsToLocals, Value.category]; done) | rfl
set_option maxRecDepth 65536 in
set_option maxHeartbeats 40000000 in
theorem rm_oi3 (l : Launch) (Z : State) (a0 : Array Value) (hw : ∀ d ∈ tables_1, d.before a0 Z = true) (ws : List Jvm.Cond) (a1 : Addr) (a2 : Addr) (a4 : Addr) (a5 : Addr) (h0 : Heap) (n0 : Nat) (w_ROWS w_RESULT w_PARTIAL_GROUPS w_MERGED_GROUPS w_D w_EL w_EE w_C w_EM w_M : Addr) (hK : own_K Z Z.heap w_ROWS w_RESULT w_PARTIAL_GROUPS w_MERGED_GROUPS w_D w_EL w_EE w_C w_EM w_M) (hn0 : n0 = Z.heap.size) (EX0 : Ext Z.heap h0) (E_a1 : Exa Z h0 a1 "com/example/cairn/cairn/plan/Stage$Output") (g_a1 : n0 ≤ a1) (F_shape_a1 : Fld Z h0 a1 "com/example/cairn/cairn/plan/Stage$Output" "shape" "Lcom/example/cairn/cairn/plan/Stage$Shape;" .null) (F_slots_a1 : Fld Z h0 a1 "com/example/cairn/cairn/plan/Stage$Output" "slots" "Ljava/util/List;" .null) (F_buckets_a1 : Fld Z h0 a1 "com/example/cairn/cairn/plan/Stage$Output" "buckets" "I" (.int (0 : Int32))) (F_keys_a1 : Fld Z h0 a1 "com/example/cairn/cairn/plan/Stage$Output" "keys" "Ljava/util/List;" .null) (F_grouping_a1 : Fld Z h0 a1 "com/example/cairn/cairn/plan/Stage$Output" "grouping" "Lcom/example/cairn/cairn/plan/Grouping;" .null) (E_a2 : Exa Z h0 a2 "java/util/ArrayList") (g_a2 : n0 ≤ a2) (F_size_a2 : Fld Z h0 a2 "java/util/ArrayList" "size" "I" (.int (0 : Int32))) (E_a4 : Exa Z h0 a4 "java/util/ArrayList") (g_a4 : n0 ≤ a4) (F_size_a4 : Fld Z h0 a4 "java/util/ArrayList" "size" "I" (.int (0 : Int32))) :
    MetFree l (⟨"com/example/cairn/cairn/plan/Stage$Output", "<init>", "(Lcom/example/cairn/cairn/plan/Stage$Shape;Ljava/util/List;ILjava/util/List;Lcom/example/cairn/cairn/plan/Grouping;)V"⟩ : MethodName) (head1 (Jvm.Cond.code (⟨"com/example/cairn/cairn/plan/Stage$Output", "<init>", "(Lcom/example/cairn/cairn/plan/Stage$Shape;Ljava/util/List;ILjava/util/List;Lcom/example/cairn/cairn/plan/Grouping;)V"⟩ : MethodName) prog_108_method_1_code 7 none :: ws) ({ frames := 3, cells := 0, slots := 0, locals := 37 } : Room)) (fun a U => a = #[(.ref a1), (.ref w_MERGED_GROUPS), (.ref a2), (.int (0 : Int32)), (.ref a4), (.ref a5)] ∧ Z.Warmed39 U.vm ∧ U.heap = h0) (fun _ _ _ _ _ => True) (fun _ U o U' => ∃ v L, o = .returned v ∧ own_Q_oi3 Z a1 a2 a4 a5 w_ROWS w_RESULT w_PARTIAL_GROUPS w_MERGED_GROUPS w_D w_EL w_EE w_C w_EM w_M h0 n0 v U'.heap L ∧ FrameEnd U o U' L ({ frames := 3, cells := 0, slots := 0, locals := 37 } : Room).cells ({ frames := 3, cells := 0, slots := 0, locals := 37 } : Room).slots) := by
  refine MetFree.of_bodySF (plainFor_of_name pn_16) hisR ?_
  intro p e s m args below meth c s₁ Bd hml0 hP hK0
  obtain ⟨rfl, hZ, hh⟩ := hP
  have hx := Bd.exec
  have hby := Bd.bytes
  have hml : c.maxLocals = 7 := hml0
  have hown : s.vm.findClass "com/example/cairn/cairn/plan/Stage$Output" = some m.cls := findClass_of_methodNamed Bd.named
  have hnm := (name_of_methodNamed Bd.named Bd.method).1
  have X0 : Stand p l e ({ frames := 3, cells := 0, slots := 0, locals := 37 } : Room) s m #[(.ref a1), (.ref w_MERGED_GROUPS), (.ref a2), (.int (0 : Int32)), (.ref a4), (.ref a5)] below meth c s₁ [] 0 0 := Stand.of_body Bd
  have e0 : s₁.heap = h0 := by rw [← hh, Bd.state]; rfl
  have N0 := Fr.nil n0
  have pre0 : ∀ t, Steps p.tables e below (s₁.setTop (mkF m 0 #[.val (.ref a1), .val (.ref w_MERGED_GROUPS), .val (.ref a2), .val (.int (0 : Int32)), .val (.ref a4), .val (.ref a5), .unset] [])) t → Steps p.tables e below (s₁.setTop (entryFrame m #[(.ref a1), (.ref w_MERGED_GROUPS), (.ref a2), (.int (0 : Int32)), (.ref a4), (.ref a5)] 7)) t := fun t k => castTop (ef_oi3 m a1 w_MERGED_GROUPS a2 ((0 : Int32)) a4 a5) k
  have hK' := hK
  obtain ⟨S_w_ROWS, E_w_ROWS, F_ordinal_w_ROWS, S_w_RESULT, E_w_RESULT, F_ordinal_w_RESULT, S_w_PARTIAL_GROUPS, E_w_PARTIAL_GROUPS, F_ordinal_w_PARTIAL_GROUPS, S_w_MERGED_GROUPS, E_w_MERGED_GROUPS, F_ordinal_w_MERGED_GROUPS, S_w_D, B_w_D, S_w_EL, E_w_EL, F_elements_w_EL, B_w_EE, F_allowNulls_w_EL, S_high, S_w_C, C_w_C, S_w_EM, M_w_M⟩ := hK'
  obtain ⟨cl_w_D, A_w_D, q_w_D⟩ := B_w_D
  obtain ⟨cl_w_EE, A_w_EE, q_w_EE⟩ := B_w_EE
  obtain ⟨v1, _, ⟨T1, L1, k1, n1⟩, -, X1, ⟨Lc1, hQ1, l1, y1, z1⟩, st1⟩ := X0.specialBack hx (y := (⟨"java/lang/Record", "<init>", "()V"⟩ : MethodName)) rfl hown (mvT hZ (hw _ (ow 116 rfl))) (mvT hZ (hw _ (ow 33 rfl))) (mvT hZ (hw _ (ow 36 rfl))) (by decide) (backOf (W := 0) (rm_recinit l Z a0 hw [] a1 h0 n0) hZ (hw _ (ow 36 rfl)) (hw _ (ow 35 rfl)) (by decide) (by decide)) (g := (mkF m 1 #[.val (.ref a1), .val (.ref w_MERGED_GROUPS), .val (.ref a2), .val (.int (0 : Int32)), .val (.ref a4), .val (.ref a5), .unset] [(.ref a1)])) rfl (by rw [hml]; rfl) (Steps.refl _) (a := a1) (argsL := []) (rest := []) (lenOf pd_0 rfl) rfl (Nat.le_of_eq rfl) (hb hby d_prog_108_method_1_1) (fun _ _ => ⟨rfl, e0, (by decide : 0 + 0 ≤ _), (by decide : 0 + 0 ≤ _)⟩)
  dsimp only [Pt.U, Pt.locs, Pt.cells, Pt.slots] at X1 l1 y1 z1 st1 hQ1
  subst y1 z1
  obtain ⟨hv1, Nq1, e1⟩ := hQ1
  obtain rfl : v1 = none := hv1
  have N1 : Fr n0 L1 := by rw [l1]; exact Fr.app N0 Nq1
  obtain ⟨v2, _, ⟨T2, L2, k2, n2⟩, -, X2, ⟨Lc2, hQ2, l2, y2, z2⟩, st2⟩ := Jvm.LawKit.callS X1 hx (y := (⟨"java/util/List", "copyOf", "(Ljava/util/Collection;)Ljava/util/List;"⟩ : MethodName)) hown (mvT hZ (hw _ (ow 117 rfl))) (mvT hZ (hw _ (ow 39 rfl))) (mvT hZ (hw _ (ow 40 rfl))) (mvT hZ (hw _ (ow 41 rfl))) (by decide) (backOf (W := 0) (rm_co0 l Z a0 hw [] a2 h0 n0 w_ROWS w_RESULT w_PARTIAL_GROUPS w_MERGED_GROUPS w_D w_EL w_EE w_C w_EM w_M hK hn0 EX0 E_a2 g_a2 F_size_a2) hZ (hw _ (ow 41 rfl)) (hw _ (ow 40 rfl)) (by decide) (by decide)) (g := (mkF m 5 #[.val (.ref a1), .val (.ref w_MERGED_GROUPS), .val (.ref a2), .val (.int (0 : Int32)), .val (.ref a4), .val (.ref a5), .unset] [(.ref a2)])) rfl (by rw [hml]; rfl) (argsL := [(.ref a2)]) (rest := []) (lenOf pd_3 rfl) rfl (Nat.le_of_eq rfl) (hb hby d_prog_108_method_1_5) (fun _ _ => ⟨rfl, e1, (by decide : 0 + 0 ≤ _), (by decide : 0 + 0 ≤ _)⟩)
  dsimp only [Pt.U, Pt.locs, Pt.cells, Pt.slots] at X2 l2 y2 z2 st2 hQ2
  subst y2 z2
  obtain ⟨hv2, Nq2, Kq2⟩ := hQ2
  obtain rfl : v2 = some (.ref w_EL) := hv2
  have N2 : Fr n0 L2 := by rw [l2]; exact Fr.app N1 Nq2
  have x2_E_a1 := E_a1.keep Kq2
  have x2_F_a1_shape := F_shape_a1.keep Kq2 nin0
  have x2_F_a1_slots := F_slots_a1.keep Kq2 nin0
  have x2_F_a1_buckets := F_buckets_a1.keep Kq2 nin0
  have x2_F_a1_keys := F_keys_a1.keep Kq2 nin0
  have x2_F_a1_grouping := F_grouping_a1.keep Kq2 nin0
  have x2_E_a2 := E_a2.keep Kq2
  have x2_F_a2_size := F_size_a2.keep Kq2 nin0
  have x2_E_a4 := E_a4.keep Kq2
  have x2_F_a4_size := F_size_a4.keep Kq2 nin0
  have EX2 := own_ext_keepL EX0 Kq2 all0
  have K2 := Keep.trans (Keep.refl h0 [a1]) Kq2 all0
  obtain ⟨v3, _, ⟨T3, L3, k3, n3⟩, -, X3, ⟨Lc3, hQ3, l3, y3, z3⟩, st3⟩ := Jvm.LawKit.callS X2 hx (y := (⟨"java/util/List", "copyOf", "(Ljava/util/Collection;)Ljava/util/List;"⟩ : MethodName)) hown (mvT hZ (hw _ (ow 117 rfl))) (mvT hZ (hw _ (ow 39 rfl))) (mvT hZ (hw _ (ow 40 rfl))) (mvT hZ (hw _ (ow 41 rfl))) (by decide) (backOf (W := 0) (rm_co0 l Z a0 hw [] a4 T2.heap n0 w_ROWS w_RESULT w_PARTIAL_GROUPS w_MERGED_GROUPS w_D w_EL w_EE w_C w_EM w_M hK hn0 EX2 x2_E_a4 g_a4 x2_F_a4_size) hZ (hw _ (ow 41 rfl)) (hw _ (ow 40 rfl)) (by decide) (by decide)) (g := (mkF m 11 #[.val (.ref a1), .val (.ref w_MERGED_GROUPS), .val (.ref w_EL), .val (.int (0 : Int32)), .val (.ref a4), .val (.ref a5), .unset] [(.ref a4)])) rfl (by rw [hml]; rfl) (argsL := [(.ref a4)]) (rest := []) (lenOf pd_3 rfl) rfl (Nat.le_of_eq rfl) (hb hby d_prog_108_method_1_11) (fun _ _ => ⟨rfl, (rfl : T2.heap = T2.heap), (by decide : 0 + 0 ≤ _), (by decide : 0 + 0 ≤ _)⟩)
  dsimp only [Pt.U, Pt.locs, Pt.cells, Pt.slots] at X3 l3 y3 z3 st3 hQ3
  subst y3 z3
  obtain ⟨hv3, Nq3, Kq3⟩ := hQ3
  obtain rfl : v3 = some (.ref w_EL) := hv3
  have N3 : Fr n0 L3 := by rw [l3]; exact Fr.app N2 Nq3
  have x3_E_a1 := x2_E_a1.keep Kq3
  have x3_F_a1_shape := x2_F_a1_shape.keep Kq3 nin0
  have x3_F_a1_slots := x2_F_a1_slots.keep Kq3 nin0
  have x3_F_a1_buckets := x2_F_a1_buckets.keep Kq3 nin0
  have x3_F_a1_keys := x2_F_a1_keys.keep Kq3 nin0
  have x3_F_a1_grouping := x2_F_a1_grouping.keep Kq3 nin0
  have x3_E_a2 := x2_E_a2.keep Kq3
  have x3_F_a2_size := x2_F_a2_size.keep Kq3 nin0
  have x3_E_a4 := x2_E_a4.keep Kq3
  have x3_F_a4_size := x2_F_a4_size.keep Kq3 nin0
  have EX3 := own_ext_keepL EX2 Kq3 all0
  have K3 := Keep.trans K2 Kq3 all0
  obtain ⟨cq4, kq4, q4a, q4b, q4c⟩ := isOf hZ (rfl : T3.heap = T3.heap) (E_w_MERGED_GROUPS.ext EX3)
  obtain ⟨v4, _, ⟨T4, L4, k4, n4⟩, -, X4, ⟨Lc4, hQ4, l4, y4, z4⟩, st4⟩ := X3.virtualBackUp hx (x := (⟨"com/example/cairn/cairn/plan/Stage$Shape", "ordinal", "()I"⟩ : MethodName)) (y := (⟨"java/lang/Enum", "ordinal", "()I"⟩ : MethodName)) (owner := "java/lang/Enum") hown (mvT hZ (hw _ (ow 181 rfl))) (mvT hZ (hw _ (ow 182 rfl))) (mvT hZ (hw _ (ow 183 rfl))) (by decide) (mvT hZ (hw _ (ow 185 rfl))) (mvT hZ (hw _ (ow 184 rfl))) (backOf (W := 0) (rm_ordinal l Z a0 hw [] w_MERGED_GROUPS (3 : Int32) T3.heap n0 (F_ordinal_w_MERGED_GROUPS.ext EX3)) hZ (hw _ (ow 187 rfl)) (hw _ (ow 186 rfl)) (by decide) (by decide)) q4a q4c (g := (mkF m 17 #[.val (.ref a1), .val (.ref w_MERGED_GROUPS), .val (.ref w_EL), .val (.int (0 : Int32)), .val (.ref w_EL), .val (.ref a5), .unset] [(.ref w_MERGED_GROUPS)])) rfl (by rw [hml]; rfl) (Steps.refl _) (argsL := []) (rest := []) (lenOf pd_14 rfl) rfl (Nat.le_of_eq rfl) (hb hby d_prog_108_method_1_17) (fun _ _ => ⟨rfl, (rfl : T3.heap = T3.heap), (by decide : 0 + 0 ≤ _), (by decide : 0 + 0 ≤ _)⟩)
  dsimp only [Pt.U, Pt.locs, Pt.cells, Pt.slots] at X4 l4 y4 z4 st4 hQ4
  subst y4 z4
  obtain ⟨hv4, Nq4, e4⟩ := hQ4
  obtain rfl : v4 = some (.int (3 : Int32)) := hv4
  have N4 : Fr n0 L4 := by rw [l4]; exact Fr.app N3 Nq4
  obtain ⟨cq5, kq5, q5a, q5b, q5c⟩ := isOf hZ e4 (E_w_EL.ext EX3)
  obtain ⟨v5, _, ⟨T5, L5, k5, n5⟩, -, X5, ⟨Lc5, hQ5, l5, y5, z5⟩, st5⟩ := X4.interfaceBack hx (xi := (⟨"java/util/List", "isEmpty", "()Z"⟩ : MethodName)) (y := (⟨"java/util/ImmutableCollections$ListN", "isEmpty", "()Z"⟩ : MethodName)) hown (mvT hZ (hw _ (ow 190 rfl))) (mvT hZ (hw _ (ow 191 rfl))) (mvT hZ (hw _ (ow 192 rfl))) (mvT hZ (hw _ (ow 199 rfl))) (mvT hZ (hw _ (ow 200 rfl))) (mvT hZ (hw _ (ow 201 rfl))) (mvT hZ (hw _ (ow 202 rfl))) (mvT hZ (hw _ (ow 203 rfl))) (by decide) (backOf (W := 0) (rm_lniE l Z a0 hw []  T3.heap n0 w_ROWS w_RESULT w_PARTIAL_GROUPS w_MERGED_GROUPS w_D w_EL w_EE w_C w_EM w_M (own_K_ext EX3 hK)) hZ (hw _ (ow 205 rfl)) (hw _ (ow 204 rfl)) (by decide) (by decide)) q5a q5b q5c (g := (mkF m 157 #[.val (.ref a1), .val (.ref w_MERGED_GROUPS), .val (.ref w_EL), .val (.int (0 : Int32)), .val (.ref w_EL), .val (.ref a5), .unset] [(.ref w_EL)])) rfl (by rw [hml]; rfl) (Steps.refl _) (argsL := []) (rest := []) (lenOf pd_1 rfl) rfl (Nat.le_of_eq rfl) (hb hby d_prog_108_method_1_157) (fun _ _ => ⟨rfl, e4, (by decide : 0 + 0 ≤ _), (by decide : 0 + 0 ≤ _)⟩)
  dsimp only [Pt.U, Pt.locs, Pt.cells, Pt.slots] at X5 l5 y5 z5 st5 hQ5
  subst y5 z5
  obtain ⟨hv5, Nq5, e5⟩ := hQ5
  obtain rfl : v5 = some (.int (1 : Int32)) := hv5
  have N5 : Fr n0 L5 := by rw [l5]; exact Fr.app N4 Nq5
  obtain ⟨cq6, kq6, q6a, q6b, q6c⟩ := isOf hZ e5 (E_w_EL.ext EX3)
  obtain ⟨v6, _, ⟨T6, L6, k6, n6⟩, -, X6, ⟨Lc6, hQ6, l6, y6, z6⟩, st6⟩ := X5.interfaceBack hx (xi := (⟨"java/util/List", "isEmpty", "()Z"⟩ : MethodName)) (y := (⟨"java/util/ImmutableCollections$ListN", "isEmpty", "()Z"⟩ : MethodName)) hown (mvT hZ (hw _ (ow 190 rfl))) (mvT hZ (hw _ (ow 191 rfl))) (mvT hZ (hw _ (ow 192 rfl))) (mvT hZ (hw _ (ow 199 rfl))) (mvT hZ (hw _ (ow 200 rfl))) (mvT hZ (hw _ (ow 201 rfl))) (mvT hZ (hw _ (ow 202 rfl))) (mvT hZ (hw _ (ow 203 rfl))) (by decide) (backOf (W := 0) (rm_lniE l Z a0 hw []  T3.heap n0 w_ROWS w_RESULT w_PARTIAL_GROUPS w_MERGED_GROUPS w_D w_EL w_EE w_C w_EM w_M (own_K_ext EX3 hK)) hZ (hw _ (ow 205 rfl)) (hw _ (ow 204 rfl)) (by decide) (by decide)) q6a q6b q6c (g := (mkF m 167 #[.val (.ref a1), .val (.ref w_MERGED_GROUPS), .val (.ref w_EL), .val (.int (0 : Int32)), .val (.ref w_EL), .val (.ref a5), .unset] [(.ref w_EL)])) rfl (by rw [hml]; rfl) (Steps.refl _) (argsL := []) (rest := []) (lenOf pd_1 rfl) rfl (Nat.le_of_eq rfl) (hb hby d_prog_108_method_1_167) (fun _ _ => ⟨rfl, e5, (by decide : 0 + 0 ≤ _), (by decide : 0 + 0 ≤ _)⟩)
  dsimp only [Pt.U, Pt.locs, Pt.cells, Pt.slots] at X6 l6 y6 z6 st6 hQ6
  subst y6 z6
  obtain ⟨hv6, Nq6, e6⟩ := hQ6
  obtain rfl : v6 = some (.int (1 : Int32)) := hv6
  have N6 : Fr n0 L6 := by rw [l6]; exact Fr.app N5 Nq6
  obtain ⟨T7, h7, X7, e7, W7, st7⟩ := putF X6 hx hZ hown (host := "") (Or.inl (hw _ (ow 208 rfl))) Via.refl e6 x3_F_a1_shape x3_E_a1 (Or.inr ⟨(hw _ (ow 209 rfl)), rfl, hnm⟩) (hw _ (ow 111 rfl)) (ty := (.object "com/example/cairn/cairn/plan/Stage$Shape")) (by decide) rfl rfl (g := (mkF m 280 #[.val (.ref a1), .val (.ref w_MERGED_GROUPS), .val (.ref w_EL), .val (.int (0 : Int32)), .val (.ref w_EL), .val (.ref a5), .val (.int (1 : Int32))] [(.ref w_MERGED_GROUPS), (.ref a1)])) rfl rfl (hb hby d_prog_108_method_1_280)
  have x7_E_a1 := x3_E_a1.wr W7
  have x7_F_a1_shape := x3_F_a1_shape.same W7
  have x7_F_a1_slots := x3_F_a1_slots.other W7 (Or.inr (slot_ne (Or.inr (hw _ (ow 211 rfl))) (Or.inr (hw _ (ow 209 rfl))) (by decide) (t := (.object "java/util/List")) (t' := (.object "com/example/cairn/cairn/plan/Stage$Shape")) (by decide) (by decide)))
  have x7_F_a1_buckets := x3_F_a1_buckets.other W7 (Or.inr (slot_ne (Or.inr (hw _ (ow 213 rfl))) (Or.inr (hw _ (ow 209 rfl))) (by decide) (t := .int) (t' := (.object "com/example/cairn/cairn/plan/Stage$Shape")) (by decide) (by decide)))
  have x7_F_a1_keys := x3_F_a1_keys.other W7 (Or.inr (slot_ne (Or.inr (hw _ (ow 215 rfl))) (Or.inr (hw _ (ow 209 rfl))) (by decide) (t := (.object "java/util/List")) (t' := (.object "com/example/cairn/cairn/plan/Stage$Shape")) (by decide) (by decide)))
  have x7_F_a1_grouping := x3_F_a1_grouping.other W7 (Or.inr (slot_ne (Or.inr (hw _ (ow 217 rfl))) (Or.inr (hw _ (ow 209 rfl))) (by decide) (t := (.object "com/example/cairn/cairn/plan/Grouping")) (t' := (.object "com/example/cairn/cairn/plan/Stage$Shape")) (by decide) (by decide)))
  have x7_E_a2 := x3_E_a2.wr W7
  have x7_E_a4 := x3_E_a4.wr W7
  have EX7 := own_ext_wr EX3 W7 (hn0 ▸ g_a1)
  have K7 := Keep.wr K3 W7 (Or.inl (List.mem_of_getElem? (i := 0) rfl))
  have N7 := Fr.snoc X7 N6 g_a1
  obtain ⟨T8, h8, X8, e8, W8, st8⟩ := putF X7 hx hZ hown (host := "") (Or.inl (hw _ (ow 210 rfl))) Via.refl e7 x7_F_a1_slots x7_E_a1 (Or.inr ⟨(hw _ (ow 211 rfl)), rfl, hnm⟩) (hw _ (ow 111 rfl)) (ty := (.object "java/util/List")) (by decide) rfl rfl (g := (mkF m 285 #[.val (.ref a1), .val (.ref w_MERGED_GROUPS), .val (.ref w_EL), .val (.int (0 : Int32)), .val (.ref w_EL), .val (.ref a5), .val (.int (1 : Int32))] [(.ref w_EL), (.ref a1)])) rfl rfl (hb hby d_prog_108_method_1_285)
  have x8_E_a1 := x7_E_a1.wr W8
  have x8_F_a1_shape := x7_F_a1_shape.other W8 (Or.inr (slot_ne (Or.inr (hw _ (ow 209 rfl))) (Or.inr (hw _ (ow 211 rfl))) (by decide) (t := (.object "com/example/cairn/cairn/plan/Stage$Shape")) (t' := (.object "java/util/List")) (by decide) (by decide)))
  have x8_F_a1_slots := x7_F_a1_slots.same W8
  have x8_F_a1_buckets := x7_F_a1_buckets.other W8 (Or.inr (slot_ne (Or.inr (hw _ (ow 213 rfl))) (Or.inr (hw _ (ow 211 rfl))) (by decide) (t := .int) (t' := (.object "java/util/List")) (by decide) (by decide)))
  have x8_F_a1_keys := x7_F_a1_keys.other W8 (Or.inr (slot_ne (Or.inr (hw _ (ow 215 rfl))) (Or.inr (hw _ (ow 211 rfl))) (by decide) (t := (.object "java/util/List")) (t' := (.object "java/util/List")) (by decide) (by decide)))
  have x8_F_a1_grouping := x7_F_a1_grouping.other W8 (Or.inr (slot_ne (Or.inr (hw _ (ow 217 rfl))) (Or.inr (hw _ (ow 211 rfl))) (by decide) (t := (.object "com/example/cairn/cairn/plan/Grouping")) (t' := (.object "java/util/List")) (by decide) (by decide)))
  have x8_E_a2 := x7_E_a2.wr W8
  have x8_E_a4 := x7_E_a4.wr W8
  have EX8 := own_ext_wr EX7 W8 (hn0 ▸ g_a1)
  have K8 := Keep.wr K7 W8 (Or.inl (List.mem_of_getElem? (i := 0) rfl))
  have N8 := Fr.snoc X8 N7 g_a1
  obtain ⟨T9, h9, X9, e9, W9, st9⟩ := putF X8 hx hZ hown (host := "") (Or.inl (hw _ (ow 212 rfl))) Via.refl e8 x8_F_a1_buckets x8_E_a1 (Or.inr ⟨(hw _ (ow 213 rfl)), rfl, hnm⟩) (hw _ (ow 111 rfl)) (ty := .int) (by decide) rfl rfl (g := (mkF m 290 #[.val (.ref a1), .val (.ref w_MERGED_GROUPS), .val (.ref w_EL), .val (.int (0 : Int32)), .val (.ref w_EL), .val (.ref a5), .val (.int (1 : Int32))] [(.int (0 : Int32)), (.ref a1)])) rfl rfl (hb hby d_prog_108_method_1_290)
  have x9_E_a1 := x8_E_a1.wr W9
  have x9_F_a1_shape := x8_F_a1_shape.other W9 (Or.inr (slot_ne (Or.inr (hw _ (ow 209 rfl))) (Or.inr (hw _ (ow 213 rfl))) (by decide) (t := (.object "com/example/cairn/cairn/plan/Stage$Shape")) (t' := .int) (by decide) (by decide)))
  have x9_F_a1_slots := x8_F_a1_slots.other W9 (Or.inr (slot_ne (Or.inr (hw _ (ow 211 rfl))) (Or.inr (hw _ (ow 213 rfl))) (by decide) (t := (.object "java/util/List")) (t' := .int) (by decide) (by decide)))
  have x9_F_a1_buckets := x8_F_a1_buckets.same W9
  have x9_F_a1_keys := x8_F_a1_keys.other W9 (Or.inr (slot_ne (Or.inr (hw _ (ow 215 rfl))) (Or.inr (hw _ (ow 213 rfl))) (by decide) (t := (.object "java/util/List")) (t' := .int) (by decide) (by decide)))
  have x9_F_a1_grouping := x8_F_a1_grouping.other W9 (Or.inr (slot_ne (Or.inr (hw _ (ow 217 rfl))) (Or.inr (hw _ (ow 213 rfl))) (by decide) (t := (.object "com/example/cairn/cairn/plan/Grouping")) (t' := .int) (by decide) (by decide)))
  have x9_E_a2 := x8_E_a2.wr W9
  have x9_E_a4 := x8_E_a4.wr W9
  have EX9 := own_ext_wr EX8 W9 (hn0 ▸ g_a1)
  have K9 := Keep.wr K8 W9 (Or.inl (List.mem_of_getElem? (i := 0) rfl))
  have N9 := Fr.snoc X9 N8 g_a1
  obtain ⟨T10, h10, X10, e10, W10, st10⟩ := putF X9 hx hZ hown (host := "") (Or.inl (hw _ (ow 214 rfl))) Via.refl e9 x9_F_a1_keys x9_E_a1 (Or.inr ⟨(hw _ (ow 215 rfl)), rfl, hnm⟩) (hw _ (ow 111 rfl)) (ty := (.object "java/util/List")) (by decide) rfl rfl (g := (mkF m 296 #[.val (.ref a1), .val (.ref w_MERGED_GROUPS), .val (.ref w_EL), .val (.int (0 : Int32)), .val (.ref w_EL), .val (.ref a5), .val (.int (1 : Int32))] [(.ref w_EL), (.ref a1)])) rfl rfl (hb hby d_prog_108_method_1_296)
  have x10_E_a1 := x9_E_a1.wr W10
  have x10_F_a1_shape := x9_F_a1_shape.other W10 (Or.inr (slot_ne (Or.inr (hw _ (ow 209 rfl))) (Or.inr (hw _ (ow 215 rfl))) (by decide) (t := (.object "com/example/cairn/cairn/plan/Stage$Shape")) (t' := (.object "java/util/List")) (by decide) (by decide)))
  have x10_F_a1_slots := x9_F_a1_slots.other W10 (Or.inr (slot_ne (Or.inr (hw _ (ow 211 rfl))) (Or.inr (hw _ (ow 215 rfl))) (by decide) (t := (.object "java/util/List")) (t' := (.object "java/util/List")) (by decide) (by decide)))
  have x10_F_a1_buckets := x9_F_a1_buckets.other W10 (Or.inr (slot_ne (Or.inr (hw _ (ow 213 rfl))) (Or.inr (hw _ (ow 215 rfl))) (by decide) (t := .int) (t' := (.object "java/util/List")) (by decide) (by decide)))
  have x10_F_a1_keys := x9_F_a1_keys.same W10
  have x10_F_a1_grouping := x9_F_a1_grouping.other W10 (Or.inr (slot_ne (Or.inr (hw _ (ow 217 rfl))) (Or.inr (hw _ (ow 215 rfl))) (by decide) (t := (.object "com/example/cairn/cairn/plan/Grouping")) (t' := (.object "java/util/List")) (by decide) (by decide)))
  have x10_E_a2 := x9_E_a2.wr W10
  have x10_E_a4 := x9_E_a4.wr W10
  have EX10 := own_ext_wr EX9 W10 (hn0 ▸ g_a1)
  have K10 := Keep.wr K9 W10 (Or.inl (List.mem_of_getElem? (i := 0) rfl))
  have N10 := Fr.snoc X10 N9 g_a1
  obtain ⟨T11, h11, X11, e11, W11, st11⟩ := putF X10 hx hZ hown (host := "") (Or.inl (hw _ (ow 216 rfl))) Via.refl e10 x10_F_a1_grouping x10_E_a1 (Or.inr ⟨(hw _ (ow 217 rfl)), rfl, hnm⟩) (hw _ (ow 111 rfl)) (ty := (.object "com/example/cairn/cairn/plan/Grouping")) (by decide) rfl rfl (g := (mkF m 302 #[.val (.ref a1), .val (.ref w_MERGED_GROUPS), .val (.ref w_EL), .val (.int (0 : Int32)), .val (.ref w_EL), .val (.ref a5), .val (.int (1 : Int32))] [(.ref a5), (.ref a1)])) rfl rfl (hb hby d_prog_108_method_1_302)
  have x11_E_a1 := x10_E_a1.wr W11
  have x11_F_a1_shape := x10_F_a1_shape.other W11 (Or.inr (slot_ne (Or.inr (hw _ (ow 209 rfl))) (Or.inr (hw _ (ow 217 rfl))) (by decide) (t := (.object "com/example/cairn/cairn/plan/Stage$Shape")) (t' := (.object "com/example/cairn/cairn/plan/Grouping")) (by decide) (by decide)))
  have x11_F_a1_slots := x10_F_a1_slots.other W11 (Or.inr (slot_ne (Or.inr (hw _ (ow 211 rfl))) (Or.inr (hw _ (ow 217 rfl))) (by decide) (t := (.object "java/util/List")) (t' := (.object "com/example/cairn/cairn/plan/Grouping")) (by decide) (by decide)))
  have x11_F_a1_buckets := x10_F_a1_buckets.other W11 (Or.inr (slot_ne (Or.inr (hw _ (ow 213 rfl))) (Or.inr (hw _ (ow 217 rfl))) (by decide) (t := .int) (t' := (.object "com/example/cairn/cairn/plan/Grouping")) (by decide) (by decide)))
  have x11_F_a1_keys := x10_F_a1_keys.other W11 (Or.inr (slot_ne (Or.inr (hw _ (ow 215 rfl))) (Or.inr (hw _ (ow 217 rfl))) (by decide) (t := (.object "java/util/List")) (t' := (.object "com/example/cairn/cairn/plan/Grouping")) (by decide) (by decide)))
  have x11_F_a1_grouping := x10_F_a1_grouping.same W11
  have x11_E_a2 := x10_E_a2.wr W11
  have x11_E_a4 := x10_E_a4.wr W11
  have EX11 := own_ext_wr EX10 W11 (hn0 ▸ g_a1)
  have K11 := Keep.wr K10 W11 (Or.inl (List.mem_of_getElem? (i := 0) rfl))
  have N11 := Fr.snoc X11 N10 g_a1
  have pre12 : ∀ t, Steps p.tables e below (T11.setTop (mkF m 305 #[.val (.ref a1), .val (.ref w_MERGED_GROUPS), .val (.ref w_EL), .val (.int (0 : Int32)), .val (.ref w_EL), .val (.ref a5), .val (.int (1 : Int32))] [])) t → Steps p.tables e below (s₁.setTop (entryFrame m #[(.ref a1), (.ref w_MERGED_GROUPS), (.ref a2), (.int (0 : Int32)), (.ref a4), (.ref a5)] 7)) t := fun t k => pre0 t (by
    show Steps p.tables e below (s₁.setTop (mkF m 0 #[.val (.ref a1), .val (.ref w_MERGED_GROUPS), .val (.ref a2), .val (.int (0 : Int32)), .val (.ref a4), .val (.ref a5), .unset] [])) _
    refine XS.aloadN X0.here hx rfl (hb hby d_prog_108_method_1_0) rfl rfl ?_
    show Steps p.tables e below (s₁.setTop (mkF m 1 #[.val (.ref a1), .val (.ref w_MERGED_GROUPS), .val (.ref a2), .val (.int (0 : Int32)), .val (.ref a4), .val (.ref a5), .unset] [(.ref a1)])) _
    refine st1.trans ?_
    show Steps p.tables e below (T1.setTop (mkF m 4 #[.val (.ref a1), .val (.ref w_MERGED_GROUPS), .val (.ref a2), .val (.int (0 : Int32)), .val (.ref a4), .val (.ref a5), .unset] [])) _
    refine XS.aloadN X1.here hx rfl (hb hby d_prog_108_method_1_4) rfl rfl ?_
    show Steps p.tables e below (T1.setTop (mkF m 5 #[.val (.ref a1), .val (.ref w_MERGED_GROUPS), .val (.ref a2), .val (.int (0 : Int32)), .val (.ref a4), .val (.ref a5), .unset] [(.ref a2)])) _
    refine st2 _ ?_
    show Steps p.tables e below (T2.setTop (mkF m 8 #[.val (.ref a1), .val (.ref w_MERGED_GROUPS), .val (.ref a2), .val (.int (0 : Int32)), .val (.ref a4), .val (.ref a5), .unset] [(.ref w_EL)])) _
    refine XS.astoreN X2.here hx rfl (hb hby d_prog_108_method_1_8) rfl rfl (l' := #[.val (.ref a1), .val (.ref w_MERGED_GROUPS), .val (.ref w_EL), .val (.int (0 : Int32)), .val (.ref a4), .val (.ref a5), .unset]) rfl ?_
    show Steps p.tables e below (T2.setTop (mkF m 9 #[.val (.ref a1), .val (.ref w_MERGED_GROUPS), .val (.ref w_EL), .val (.int (0 : Int32)), .val (.ref a4), .val (.ref a5), .unset] [])) _
    refine XS.aload X2.here hx rfl (hb hby d_prog_108_method_1_9) rfl rfl ?_
    show Steps p.tables e below (T2.setTop (mkF m 11 #[.val (.ref a1), .val (.ref w_MERGED_GROUPS), .val (.ref w_EL), .val (.int (0 : Int32)), .val (.ref a4), .val (.ref a5), .unset] [(.ref a4)])) _
    refine st3 _ ?_
    show Steps p.tables e below (T3.setTop (mkF m 14 #[.val (.ref a1), .val (.ref w_MERGED_GROUPS), .val (.ref w_EL), .val (.int (0 : Int32)), .val (.ref a4), .val (.ref a5), .unset] [(.ref w_EL)])) _
    refine XS.astore X3.here hx rfl (hb hby d_prog_108_method_1_14) rfl rfl (l' := #[.val (.ref a1), .val (.ref w_MERGED_GROUPS), .val (.ref w_EL), .val (.int (0 : Int32)), .val (.ref w_EL), .val (.ref a5), .unset]) rfl ?_
    show Steps p.tables e below (T3.setTop (mkF m 16 #[.val (.ref a1), .val (.ref w_MERGED_GROUPS), .val (.ref w_EL), .val (.int (0 : Int32)), .val (.ref w_EL), .val (.ref a5), .unset] [])) _
    refine XS.aloadN X3.here hx rfl (hb hby d_prog_108_method_1_16) rfl rfl ?_
    show Steps p.tables e below (T3.setTop (mkF m 17 #[.val (.ref a1), .val (.ref w_MERGED_GROUPS), .val (.ref w_EL), .val (.int (0 : Int32)), .val (.ref w_EL), .val (.ref a5), .unset] [(.ref w_MERGED_GROUPS)])) _
    refine st4.trans ?_
    show Steps p.tables e below (T4.setTop (mkF m 20 #[.val (.ref a1), .val (.ref w_MERGED_GROUPS), .val (.ref w_EL), .val (.int (0 : Int32)), .val (.ref w_EL), .val (.ref a5), .unset] [(.int (3 : Int32))])) _
    refine XS.tswIn X4.here hx rfl (o := 132) (pc0 := 20) (pc' := 152) rfl (hb hby d_prog_108_method_1_20) rfl (by decide) (by decide) (by decide) (by decide) ?_
    show Steps p.tables e below (T4.setTop (mkF m 152 #[.val (.ref a1), .val (.ref w_MERGED_GROUPS), .val (.ref w_EL), .val (.int (0 : Int32)), .val (.ref w_EL), .val (.ref a5), .unset] [])) _
    refine XS.iloadN X4.here hx rfl (hb hby d_prog_108_method_1_152) rfl ?_
    show Steps p.tables e below (T4.setTop (mkF m 153 #[.val (.ref a1), .val (.ref w_MERGED_GROUPS), .val (.ref w_EL), .val (.int (0 : Int32)), .val (.ref w_EL), .val (.ref a5), .unset] [(.int (0 : Int32))])) _
    refine XS.ifNo X4.here hx rfl (hb hby d_prog_108_method_1_153) rfl ((if0 _ _).trans (teq (by decide)).2) ?_
    show Steps p.tables e below (T4.setTop (mkF m 156 #[.val (.ref a1), .val (.ref w_MERGED_GROUPS), .val (.ref w_EL), .val (.int (0 : Int32)), .val (.ref w_EL), .val (.ref a5), .unset] [])) _
    refine XS.aloadN X4.here hx rfl (hb hby d_prog_108_method_1_156) rfl rfl ?_
    show Steps p.tables e below (T4.setTop (mkF m 157 #[.val (.ref a1), .val (.ref w_MERGED_GROUPS), .val (.ref w_EL), .val (.int (0 : Int32)), .val (.ref w_EL), .val (.ref a5), .unset] [(.ref w_EL)])) _
    refine st5.trans ?_
    show Steps p.tables e below (T5.setTop (mkF m 162 #[.val (.ref a1), .val (.ref w_MERGED_GROUPS), .val (.ref w_EL), .val (.int (0 : Int32)), .val (.ref w_EL), .val (.ref a5), .unset] [(.int (1 : Int32))])) _
    refine XS.ifNo X5.here hx rfl (hb hby d_prog_108_method_1_162) rfl ((if0 _ _).trans (feq (by decide)).1) ?_
    show Steps p.tables e below (T5.setTop (mkF m 165 #[.val (.ref a1), .val (.ref w_MERGED_GROUPS), .val (.ref w_EL), .val (.int (0 : Int32)), .val (.ref w_EL), .val (.ref a5), .unset] [])) _
    refine XS.aload X5.here hx rfl (hb hby d_prog_108_method_1_165) rfl rfl ?_
    show Steps p.tables e below (T5.setTop (mkF m 167 #[.val (.ref a1), .val (.ref w_MERGED_GROUPS), .val (.ref w_EL), .val (.int (0 : Int32)), .val (.ref w_EL), .val (.ref a5), .unset] [(.ref w_EL)])) _
    refine st6.trans ?_
    show Steps p.tables e below (T6.setTop (mkF m 172 #[.val (.ref a1), .val (.ref w_MERGED_GROUPS), .val (.ref w_EL), .val (.int (0 : Int32)), .val (.ref w_EL), .val (.ref a5), .unset] [(.int (1 : Int32))])) _
    refine XS.ifNo X6.here hx rfl (hb hby d_prog_108_method_1_172) rfl ((if0 _ _).trans (feq (by decide)).1) ?_
    show Steps p.tables e below (T6.setTop (mkF m 175 #[.val (.ref a1), .val (.ref w_MERGED_GROUPS), .val (.ref w_EL), .val (.int (0 : Int32)), .val (.ref w_EL), .val (.ref a5), .unset] [])) _
    refine XS.aload X6.here hx rfl (hb hby d_prog_108_method_1_175) rfl rfl ?_
    show Steps p.tables e below (T6.setTop (mkF m 177 #[.val (.ref a1), .val (.ref w_MERGED_GROUPS), .val (.ref w_EL), .val (.int (0 : Int32)), .val (.ref w_EL), .val (.ref a5), .unset] [(.ref a5)])) _
    refine XS.ifnullNo X6.here hx rfl (hb hby d_prog_108_method_1_177) rfl ?_
    show Steps p.tables e below (T6.setTop (mkF m 180 #[.val (.ref a1), .val (.ref w_MERGED_GROUPS), .val (.ref w_EL), .val (.int (0 : Int32)), .val (.ref w_EL), .val (.ref a5), .unset] [])) _
    refine XS.iconst X6.here hx rfl (hb hby d_prog_108_method_1_180) ?_
    show Steps p.tables e below (T6.setTop (mkF m 181 #[.val (.ref a1), .val (.ref w_MERGED_GROUPS), .val (.ref w_EL), .val (.int (0 : Int32)), .val (.ref w_EL), .val (.ref a5), .unset] [(.int (1 : Int32))])) _
    refine XS.goto X6.here hx rfl (pc0 := 181) (pc' := 221) rfl (hb hby d_prog_108_method_1_181) (by decide) (by decide) ?_
    show Steps p.tables e below (T6.setTop (mkF m 221 #[.val (.ref a1), .val (.ref w_MERGED_GROUPS), .val (.ref w_EL), .val (.int (0 : Int32)), .val (.ref w_EL), .val (.ref a5), .unset] [(.int (1 : Int32))])) _
    refine XS.istore X6.here hx rfl (hb hby d_prog_108_method_1_221) rfl (l' := #[.val (.ref a1), .val (.ref w_MERGED_GROUPS), .val (.ref w_EL), .val (.int (0 : Int32)), .val (.ref w_EL), .val (.ref a5), .val (.int (1 : Int32))]) rfl ?_
    show Steps p.tables e below (T6.setTop (mkF m 223 #[.val (.ref a1), .val (.ref w_MERGED_GROUPS), .val (.ref w_EL), .val (.int (0 : Int32)), .val (.ref w_EL), .val (.ref a5), .val (.int (1 : Int32))] [])) _
    refine XS.iload X6.here hx rfl (hb hby d_prog_108_method_1_223) rfl ?_
    show Steps p.tables e below (T6.setTop (mkF m 225 #[.val (.ref a1), .val (.ref w_MERGED_GROUPS), .val (.ref w_EL), .val (.int (0 : Int32)), .val (.ref w_EL), .val (.ref a5), .val (.int (1 : Int32))] [(.int (1 : Int32))])) _
    refine XS.ifYes X6.here hx rfl (pc0 := 225) (pc' := 278) rfl (hb hby d_prog_108_method_1_225) rfl ((if0 _ _).trans (feq (by decide)).2) (by decide) (by decide) ?_
    show Steps p.tables e below (T6.setTop (mkF m 278 #[.val (.ref a1), .val (.ref w_MERGED_GROUPS), .val (.ref w_EL), .val (.int (0 : Int32)), .val (.ref w_EL), .val (.ref a5), .val (.int (1 : Int32))] [])) _
    refine XS.aloadN X6.here hx rfl (hb hby d_prog_108_method_1_278) rfl rfl ?_
    show Steps p.tables e below (T6.setTop (mkF m 279 #[.val (.ref a1), .val (.ref w_MERGED_GROUPS), .val (.ref w_EL), .val (.int (0 : Int32)), .val (.ref w_EL), .val (.ref a5), .val (.int (1 : Int32))] [(.ref a1)])) _
    refine XS.aloadN X6.here hx rfl (hb hby d_prog_108_method_1_279) rfl rfl ?_
    show Steps p.tables e below (T6.setTop (mkF m 280 #[.val (.ref a1), .val (.ref w_MERGED_GROUPS), .val (.ref w_EL), .val (.int (0 : Int32)), .val (.ref w_EL), .val (.ref a5), .val (.int (1 : Int32))] [(.ref w_MERGED_GROUPS), (.ref a1)])) _
    refine st7 _ ?_
    show Steps p.tables e below (T7.setTop (mkF m 283 #[.val (.ref a1), .val (.ref w_MERGED_GROUPS), .val (.ref w_EL), .val (.int (0 : Int32)), .val (.ref w_EL), .val (.ref a5), .val (.int (1 : Int32))] [])) _
    refine XS.aloadN X7.here hx rfl (hb hby d_prog_108_method_1_283) rfl rfl ?_
    show Steps p.tables e below (T7.setTop (mkF m 284 #[.val (.ref a1), .val (.ref w_MERGED_GROUPS), .val (.ref w_EL), .val (.int (0 : Int32)), .val (.ref w_EL), .val (.ref a5), .val (.int (1 : Int32))] [(.ref a1)])) _
    refine XS.aloadN X7.here hx rfl (hb hby d_prog_108_method_1_284) rfl rfl ?_
    show Steps p.tables e below (T7.setTop (mkF m 285 #[.val (.ref a1), .val (.ref w_MERGED_GROUPS), .val (.ref w_EL), .val (.int (0 : Int32)), .val (.ref w_EL), .val (.ref a5), .val (.int (1 : Int32))] [(.ref w_EL), (.ref a1)])) _
    refine st8 _ ?_
    show Steps p.tables e below (T8.setTop (mkF m 288 #[.val (.ref a1), .val (.ref w_MERGED_GROUPS), .val (.ref w_EL), .val (.int (0 : Int32)), .val (.ref w_EL), .val (.ref a5), .val (.int (1 : Int32))] [])) _
    refine XS.aloadN X8.here hx rfl (hb hby d_prog_108_method_1_288) rfl rfl ?_
    show Steps p.tables e below (T8.setTop (mkF m 289 #[.val (.ref a1), .val (.ref w_MERGED_GROUPS), .val (.ref w_EL), .val (.int (0 : Int32)), .val (.ref w_EL), .val (.ref a5), .val (.int (1 : Int32))] [(.ref a1)])) _
    refine XS.iloadN X8.here hx rfl (hb hby d_prog_108_method_1_289) rfl ?_
    show Steps p.tables e below (T8.setTop (mkF m 290 #[.val (.ref a1), .val (.ref w_MERGED_GROUPS), .val (.ref w_EL), .val (.int (0 : Int32)), .val (.ref w_EL), .val (.ref a5), .val (.int (1 : Int32))] [(.int (0 : Int32)), (.ref a1)])) _
    refine st9 _ ?_
    show Steps p.tables e below (T9.setTop (mkF m 293 #[.val (.ref a1), .val (.ref w_MERGED_GROUPS), .val (.ref w_EL), .val (.int (0 : Int32)), .val (.ref w_EL), .val (.ref a5), .val (.int (1 : Int32))] [])) _
    refine XS.aloadN X9.here hx rfl (hb hby d_prog_108_method_1_293) rfl rfl ?_
    show Steps p.tables e below (T9.setTop (mkF m 294 #[.val (.ref a1), .val (.ref w_MERGED_GROUPS), .val (.ref w_EL), .val (.int (0 : Int32)), .val (.ref w_EL), .val (.ref a5), .val (.int (1 : Int32))] [(.ref a1)])) _
    refine XS.aload X9.here hx rfl (hb hby d_prog_108_method_1_294) rfl rfl ?_
    show Steps p.tables e below (T9.setTop (mkF m 296 #[.val (.ref a1), .val (.ref w_MERGED_GROUPS), .val (.ref w_EL), .val (.int (0 : Int32)), .val (.ref w_EL), .val (.ref a5), .val (.int (1 : Int32))] [(.ref w_EL), (.ref a1)])) _
    refine st10 _ ?_
    show Steps p.tables e below (T10.setTop (mkF m 299 #[.val (.ref a1), .val (.ref w_MERGED_GROUPS), .val (.ref w_EL), .val (.int (0 : Int32)), .val (.ref w_EL), .val (.ref a5), .val (.int (1 : Int32))] [])) _
    refine XS.aloadN X10.here hx rfl (hb hby d_prog_108_method_1_299) rfl rfl ?_
    show Steps p.tables e below (T10.setTop (mkF m 300 #[.val (.ref a1), .val (.ref w_MERGED_GROUPS), .val (.ref w_EL), .val (.int (0 : Int32)), .val (.ref w_EL), .val (.ref a5), .val (.int (1 : Int32))] [(.ref a1)])) _
    refine XS.aload X10.here hx rfl (hb hby d_prog_108_method_1_300) rfl rfl ?_
    show Steps p.tables e below (T10.setTop (mkF m 302 #[.val (.ref a1), .val (.ref w_MERGED_GROUPS), .val (.ref w_EL), .val (.int (0 : Int32)), .val (.ref w_EL), .val (.ref a5), .val (.int (1 : Int32))] [(.ref a5), (.ref a1)])) _
    refine st11 _ ?_
    exact k)
  obtain ⟨fs, hr, hrun, hended, hW, hsame⟩ := X11.leave (v := none) (fun _ => rfl)
  refine ⟨_, _, pre12 _ ?_, hrun, hended, _, _, rfl, ?_, ⟨_, rfl⟩, hW, hsame.mono (by decide) (by decide)⟩
  · show Steps p.tables e below (T11.setTop (mkF m 305 #[.val (.ref a1), .val (.ref w_MERGED_GROUPS), .val (.ref w_EL), .val (.int (0 : Int32)), .val (.ref w_EL), .val (.ref a5), .val (.int (1 : Int32))] [])) _
    exact X11.returnOut hx Bd.returns (hb hby d_prog_108_method_1_305) hr
  · exact ⟨rfl, N11, by rw [show (T11.setFrames fs).heap = _ from e11]; exact ⟨K11, x11_E_a1, x11_F_a1_buckets⟩⟩
def own_Q_oiN1 (Z : State) (a1 : Addr) (w_ROWS w_RESULT w_PARTIAL_GROUPS w_MERGED_GROUPS w_D w_EL w_EE w_C w_EM w_M : Addr)  (h0 : Heap) (n0 : Nat) (v : Option Value) (h : Heap) (L : List Loc) : Prop := v = none ∧ Fr n0 L ∧ Keep h0 h [a1] ∧ Exa Z h a1 "com/example/cairn/cairn/plan/Stage$Output" ∧ Fld Z h a1 "com/example/cairn/cairn/plan/Stage$Output" "buckets" "I" (.int (0 : Int32))
theorem ef_oiN1 (m : MethodId) (x0 : Addr) (x1 : Addr) (x2 : Addr) (x3 : Int32) (x4 : Addr) : entryFrame m #[(.ref x0), (.ref x1), (.ref x2), (.int x3), (.ref x4), .null] 7 = mkF m 0 #[.val (.ref x0), .val (.ref x1), .val (.ref x2), .val (.int x3), .val (.ref x4), .val .null, .unset] [] := by first | (simp [entryFrame, mkF, argsToLocals, Value.category]; done) | rfl
set_option maxRecDepth 65536 in
set_option maxHeartbeats 40000000 in
theorem rm_oiN1 (l : Launch) (Z : State) (a0 : Array Value) (hw : ∀ d ∈ tables_1, d.before a0 Z = true) (ws : List Jvm.Cond) (a1 : Addr) (h0 : Heap) (n0 : Nat) (w_ROWS w_RESULT w_PARTIAL_GROUPS w_MERGED_GROUPS w_D w_EL w_EE w_C w_EM w_M : Addr) (hK : own_K Z Z.heap w_ROWS w_RESULT w_PARTIAL_GROUPS w_MERGED_GROUPS w_D w_EL w_EE w_C w_EM w_M) (hn0 : n0 = Z.heap.size) (EX0 : Ext Z.heap h0) (E_a1 : Exa Z h0 a1 "com/example/cairn/cairn/plan/Stage$Output") (g_a1 : n0 ≤ a1) (F_shape_a1 : Fld Z h0 a1 "com/example/cairn/cairn/plan/Stage$Output" "shape" "Lcom/example/cairn/cairn/plan/Stage$Shape;" .null) (F_slots_a1 : Fld Z h0 a1 "com/example/cairn/cairn/plan/Stage$Output" "slots" "Ljava/util/List;" .null) (F_buckets_a1 : Fld Z h0 a1 "com/example/cairn/cairn/plan/Stage$Output" "buckets" "I" (.int (0 : Int32))) (F_keys_a1 : Fld Z h0 a1 "com/example/cairn/cairn/plan/Stage$Output" "keys" "Ljava/util/List;" .null) (F_grouping_a1 : Fld Z h0 a1 "com/example/cairn/cairn/plan/Stage$Output" "grouping" "Lcom/example/cairn/cairn/plan/Grouping;" .null) :
    MetFree l (⟨"com/example/cairn/cairn/plan/Stage$Output", "<init>", "(Lcom/example/cairn/cairn/plan/Stage$Shape;Ljava/util/List;ILjava/util/List;Lcom/example/cairn/cairn/plan/Grouping;)V"⟩ : MethodName) (head1 (Jvm.Cond.code (⟨"com/example/cairn/cairn/plan/Stage$Output", "<init>", "(Lcom/example/cairn/cairn/plan/Stage$Shape;Ljava/util/List;ILjava/util/List;Lcom/example/cairn/cairn/plan/Grouping;)V"⟩ : MethodName) prog_108_method_1_code 7 none :: ws) ({ frames := 2, cells := 0, slots := 0, locals := 25 } : Room)) (fun a U => a = #[(.ref a1), (.ref w_RESULT), (.ref w_EL), (.int (0 : Int32)), (.ref w_EL), .null] ∧ Z.Warmed39 U.vm ∧ U.heap = h0) (fun _ _ _ _ _ => True) (fun _ U o U' => ∃ v L, o = .returned v ∧ own_Q_oiN1 Z a1 w_ROWS w_RESULT w_PARTIAL_GROUPS w_MERGED_GROUPS w_D w_EL w_EE w_C w_EM w_M h0 n0 v U'.heap L ∧ FrameEnd U o U' L ({ frames := 2, cells := 0, slots := 0, locals := 25 } : Room).cells ({ frames := 2, cells := 0, slots := 0, locals := 25 } : Room).slots) := by
  refine MetFree.of_bodySF (plainFor_of_name pn_16) hisR ?_
  intro p e s m args below meth c s₁ Bd hml0 hP hK0
  obtain ⟨rfl, hZ, hh⟩ := hP
  have hx := Bd.exec
  have hby := Bd.bytes
  have hml : c.maxLocals = 7 := hml0
  have hown : s.vm.findClass "com/example/cairn/cairn/plan/Stage$Output" = some m.cls := findClass_of_methodNamed Bd.named
  have hnm := (name_of_methodNamed Bd.named Bd.method).1
  have X0 : Stand p l e ({ frames := 2, cells := 0, slots := 0, locals := 25 } : Room) s m #[(.ref a1), (.ref w_RESULT), (.ref w_EL), (.int (0 : Int32)), (.ref w_EL), .null] below meth c s₁ [] 0 0 := Stand.of_body Bd
  have e0 : s₁.heap = h0 := by rw [← hh, Bd.state]; rfl
  have N0 := Fr.nil n0
  have pre0 : ∀ t, Steps p.tables e below (s₁.setTop (mkF m 0 #[.val (.ref a1), .val (.ref w_RESULT), .val (.ref w_EL), .val (.int (0 : Int32)), .val (.ref w_EL), .val .null, .unset] [])) t → Steps p.tables e below (s₁.setTop (entryFrame m #[(.ref a1), (.ref w_RESULT), (.ref w_EL), (.int (0 : Int32)), (.ref w_EL), .null] 7)) t := fun t k => castTop (ef_oiN1 m a1 w_RESULT w_EL ((0 : Int32)) w_EL) k
  have hK' := hK
  obtain ⟨S_w_ROWS, E_w_ROWS, F_ordinal_w_ROWS, S_w_RESULT, E_w_RESULT, F_ordinal_w_RESULT, S_w_PARTIAL_GROUPS, E_w_PARTIAL_GROUPS, F_ordinal_w_PARTIAL_GROUPS, S_w_MERGED_GROUPS, E_w_MERGED_GROUPS, F_ordinal_w_MERGED_GROUPS, S_w_D, B_w_D, S_w_EL, E_w_EL, F_elements_w_EL, B_w_EE, F_allowNulls_w_EL, S_high, S_w_C, C_w_C, S_w_EM, M_w_M⟩ := hK'
  obtain ⟨cl_w_D, A_w_D, q_w_D⟩ := B_w_D
  obtain ⟨cl_w_EE, A_w_EE, q_w_EE⟩ := B_w_EE
  obtain ⟨v1, _, ⟨T1, L1, k1, n1⟩, -, X1, ⟨Lc1, hQ1, l1, y1, z1⟩, st1⟩ := X0.specialBack hx (y := (⟨"java/lang/Record", "<init>", "()V"⟩ : MethodName)) rfl hown (mvT hZ (hw _ (ow 116 rfl))) (mvT hZ (hw _ (ow 33 rfl))) (mvT hZ (hw _ (ow 36 rfl))) (by decide) (backOf (W := 0) (rm_recinit l Z a0 hw [] a1 h0 n0) hZ (hw _ (ow 36 rfl)) (hw _ (ow 35 rfl)) (by decide) (by decide)) (g := (mkF m 1 #[.val (.ref a1), .val (.ref w_RESULT), .val (.ref w_EL), .val (.int (0 : Int32)), .val (.ref w_EL), .val .null, .unset] [(.ref a1)])) rfl (by rw [hml]; rfl) (Steps.refl _) (a := a1) (argsL := []) (rest := []) (lenOf pd_0 rfl) rfl (Nat.le_of_eq rfl) (hb hby d_prog_108_method_1_1) (fun _ _ => ⟨rfl, e0, (by decide : 0 + 0 ≤ _), (by decide : 0 + 0 ≤ _)⟩)
  dsimp only [Pt.U, Pt.locs, Pt.cells, Pt.slots] at X1 l1 y1 z1 st1 hQ1
  subst y1 z1
  obtain ⟨hv1, Nq1, e1⟩ := hQ1
  obtain rfl : v1 = none := hv1
  have N1 : Fr n0 L1 := by rw [l1]; exact Fr.app N0 Nq1
  obtain ⟨v2, _, ⟨T2, L2, k2, n2⟩, -, X2, ⟨Lc2, hQ2, l2, y2, z2⟩, st2⟩ := Jvm.LawKit.callS X1 hx (y := (⟨"java/util/List", "copyOf", "(Ljava/util/Collection;)Ljava/util/List;"⟩ : MethodName)) hown (mvT hZ (hw _ (ow 117 rfl))) (mvT hZ (hw _ (ow 39 rfl))) (mvT hZ (hw _ (ow 40 rfl))) (mvT hZ (hw _ (ow 41 rfl))) (by decide) (backOf (W := 0) (rm_coN l Z a0 hw []  h0 n0 w_ROWS w_RESULT w_PARTIAL_GROUPS w_MERGED_GROUPS w_D w_EL w_EE w_C w_EM w_M hK hn0 EX0) hZ (hw _ (ow 41 rfl)) (hw _ (ow 40 rfl)) (by decide) (by decide)) (g := (mkF m 5 #[.val (.ref a1), .val (.ref w_RESULT), .val (.ref w_EL), .val (.int (0 : Int32)), .val (.ref w_EL), .val .null, .unset] [(.ref w_EL)])) rfl (by rw [hml]; rfl) (argsL := [(.ref w_EL)]) (rest := []) (lenOf pd_3 rfl) rfl (Nat.le_of_eq rfl) (hb hby d_prog_108_method_1_5) (fun _ _ => ⟨rfl, e1, (by decide : 0 + 0 ≤ _), (by decide : 0 + 0 ≤ _)⟩)
  dsimp only [Pt.U, Pt.locs, Pt.cells, Pt.slots] at X2 l2 y2 z2 st2 hQ2
  subst y2 z2
  obtain ⟨hv2, Nq2, Kq2⟩ := hQ2
  obtain rfl : v2 = some (.ref w_EL) := hv2
  have N2 : Fr n0 L2 := by rw [l2]; exact Fr.app N1 Nq2
  have x2_E_a1 := E_a1.keep Kq2
  have x2_F_a1_shape := F_shape_a1.keep Kq2 nin0
  have x2_F_a1_slots := F_slots_a1.keep Kq2 nin0
  have x2_F_a1_buckets := F_buckets_a1.keep Kq2 nin0
  have x2_F_a1_keys := F_keys_a1.keep Kq2 nin0
  have x2_F_a1_grouping := F_grouping_a1.keep Kq2 nin0
  have EX2 := own_ext_keepL EX0 Kq2 all0
  have K2 := Keep.trans (Keep.refl h0 [a1]) Kq2 all0
  obtain ⟨v3, _, ⟨T3, L3, k3, n3⟩, -, X3, ⟨Lc3, hQ3, l3, y3, z3⟩, st3⟩ := Jvm.LawKit.callS X2 hx (y := (⟨"java/util/List", "copyOf", "(Ljava/util/Collection;)Ljava/util/List;"⟩ : MethodName)) hown (mvT hZ (hw _ (ow 117 rfl))) (mvT hZ (hw _ (ow 39 rfl))) (mvT hZ (hw _ (ow 40 rfl))) (mvT hZ (hw _ (ow 41 rfl))) (by decide) (backOf (W := 0) (rm_coN l Z a0 hw []  T2.heap n0 w_ROWS w_RESULT w_PARTIAL_GROUPS w_MERGED_GROUPS w_D w_EL w_EE w_C w_EM w_M hK hn0 EX2) hZ (hw _ (ow 41 rfl)) (hw _ (ow 40 rfl)) (by decide) (by decide)) (g := (mkF m 11 #[.val (.ref a1), .val (.ref w_RESULT), .val (.ref w_EL), .val (.int (0 : Int32)), .val (.ref w_EL), .val .null, .unset] [(.ref w_EL)])) rfl (by rw [hml]; rfl) (argsL := [(.ref w_EL)]) (rest := []) (lenOf pd_3 rfl) rfl (Nat.le_of_eq rfl) (hb hby d_prog_108_method_1_11) (fun _ _ => ⟨rfl, (rfl : T2.heap = T2.heap), (by decide : 0 + 0 ≤ _), (by decide : 0 + 0 ≤ _)⟩)
  dsimp only [Pt.U, Pt.locs, Pt.cells, Pt.slots] at X3 l3 y3 z3 st3 hQ3
  subst y3 z3
  obtain ⟨hv3, Nq3, Kq3⟩ := hQ3
  obtain rfl : v3 = some (.ref w_EL) := hv3
  have N3 : Fr n0 L3 := by rw [l3]; exact Fr.app N2 Nq3
  have x3_E_a1 := x2_E_a1.keep Kq3
  have x3_F_a1_shape := x2_F_a1_shape.keep Kq3 nin0
  have x3_F_a1_slots := x2_F_a1_slots.keep Kq3 nin0
  have x3_F_a1_buckets := x2_F_a1_buckets.keep Kq3 nin0
  have x3_F_a1_keys := x2_F_a1_keys.keep Kq3 nin0
  have x3_F_a1_grouping := x2_F_a1_grouping.keep Kq3 nin0
  have EX3 := own_ext_keepL EX2 Kq3 all0
  have K3 := Keep.trans K2 Kq3 all0
  obtain ⟨cq4, kq4, q4a, q4b, q4c⟩ := isOf hZ (rfl : T3.heap = T3.heap) (E_w_RESULT.ext EX3)
  obtain ⟨v4, _, ⟨T4, L4, k4, n4⟩, -, X4, ⟨Lc4, hQ4, l4, y4, z4⟩, st4⟩ := X3.virtualBackUp hx (x := (⟨"com/example/cairn/cairn/plan/Stage$Shape", "ordinal", "()I"⟩ : MethodName)) (y := (⟨"java/lang/Enum", "ordinal", "()I"⟩ : MethodName)) (owner := "java/lang/Enum") hown (mvT hZ (hw _ (ow 181 rfl))) (mvT hZ (hw _ (ow 182 rfl))) (mvT hZ (hw _ (ow 183 rfl))) (by decide) (mvT hZ (hw _ (ow 185 rfl))) (mvT hZ (hw _ (ow 184 rfl))) (backOf (W := 0) (rm_ordinal l Z a0 hw [] w_RESULT (1 : Int32) T3.heap n0 (F_ordinal_w_RESULT.ext EX3)) hZ (hw _ (ow 187 rfl)) (hw _ (ow 186 rfl)) (by decide) (by decide)) q4a q4c (g := (mkF m 17 #[.val (.ref a1), .val (.ref w_RESULT), .val (.ref w_EL), .val (.int (0 : Int32)), .val (.ref w_EL), .val .null, .unset] [(.ref w_RESULT)])) rfl (by rw [hml]; rfl) (Steps.refl _) (argsL := []) (rest := []) (lenOf pd_14 rfl) rfl (Nat.le_of_eq rfl) (hb hby d_prog_108_method_1_17) (fun _ _ => ⟨rfl, (rfl : T3.heap = T3.heap), (by decide : 0 + 0 ≤ _), (by decide : 0 + 0 ≤ _)⟩)
  dsimp only [Pt.U, Pt.locs, Pt.cells, Pt.slots] at X4 l4 y4 z4 st4 hQ4
  subst y4 z4
  obtain ⟨hv4, Nq4, e4⟩ := hQ4
  obtain rfl : v4 = some (.int (1 : Int32)) := hv4
  have N4 : Fr n0 L4 := by rw [l4]; exact Fr.app N3 Nq4
  obtain ⟨cq5, kq5, q5a, q5b, q5c⟩ := isOf hZ e4 (E_w_EL.ext EX3)
  obtain ⟨v5, _, ⟨T5, L5, k5, n5⟩, -, X5, ⟨Lc5, hQ5, l5, y5, z5⟩, st5⟩ := X4.interfaceBack hx (xi := (⟨"java/util/List", "isEmpty", "()Z"⟩ : MethodName)) (y := (⟨"java/util/ImmutableCollections$ListN", "isEmpty", "()Z"⟩ : MethodName)) hown (mvT hZ (hw _ (ow 190 rfl))) (mvT hZ (hw _ (ow 191 rfl))) (mvT hZ (hw _ (ow 192 rfl))) (mvT hZ (hw _ (ow 199 rfl))) (mvT hZ (hw _ (ow 200 rfl))) (mvT hZ (hw _ (ow 201 rfl))) (mvT hZ (hw _ (ow 202 rfl))) (mvT hZ (hw _ (ow 203 rfl))) (by decide) (backOf (W := 0) (rm_lniE l Z a0 hw []  T3.heap n0 w_ROWS w_RESULT w_PARTIAL_GROUPS w_MERGED_GROUPS w_D w_EL w_EE w_C w_EM w_M (own_K_ext EX3 hK)) hZ (hw _ (ow 205 rfl)) (hw _ (ow 204 rfl)) (by decide) (by decide)) q5a q5b q5c (g := (mkF m 193 #[.val (.ref a1), .val (.ref w_RESULT), .val (.ref w_EL), .val (.int (0 : Int32)), .val (.ref w_EL), .val .null, .unset] [(.ref w_EL)])) rfl (by rw [hml]; rfl) (Steps.refl _) (argsL := []) (rest := []) (lenOf pd_1 rfl) rfl (Nat.le_of_eq rfl) (hb hby d_prog_108_method_1_193) (fun _ _ => ⟨rfl, e4, (by decide : 0 + 0 ≤ _), (by decide : 0 + 0 ≤ _)⟩)
  dsimp only [Pt.U, Pt.locs, Pt.cells, Pt.slots] at X5 l5 y5 z5 st5 hQ5
  subst y5 z5
  obtain ⟨hv5, Nq5, e5⟩ := hQ5
  obtain rfl : v5 = some (.int (1 : Int32)) := hv5
  have N5 : Fr n0 L5 := by rw [l5]; exact Fr.app N4 Nq5
  obtain ⟨cq6, kq6, q6a, q6b, q6c⟩ := isOf hZ e5 (E_w_EL.ext EX3)
  obtain ⟨v6, _, ⟨T6, L6, k6, n6⟩, -, X6, ⟨Lc6, hQ6, l6, y6, z6⟩, st6⟩ := X5.interfaceBack hx (xi := (⟨"java/util/List", "isEmpty", "()Z"⟩ : MethodName)) (y := (⟨"java/util/ImmutableCollections$ListN", "isEmpty", "()Z"⟩ : MethodName)) hown (mvT hZ (hw _ (ow 190 rfl))) (mvT hZ (hw _ (ow 191 rfl))) (mvT hZ (hw _ (ow 192 rfl))) (mvT hZ (hw _ (ow 199 rfl))) (mvT hZ (hw _ (ow 200 rfl))) (mvT hZ (hw _ (ow 201 rfl))) (mvT hZ (hw _ (ow 202 rfl))) (mvT hZ (hw _ (ow 203 rfl))) (by decide) (backOf (W := 0) (rm_lniE l Z a0 hw []  T3.heap n0 w_ROWS w_RESULT w_PARTIAL_GROUPS w_MERGED_GROUPS w_D w_EL w_EE w_C w_EM w_M (own_K_ext EX3 hK)) hZ (hw _ (ow 205 rfl)) (hw _ (ow 204 rfl)) (by decide) (by decide)) q6a q6b q6c (g := (mkF m 203 #[.val (.ref a1), .val (.ref w_RESULT), .val (.ref w_EL), .val (.int (0 : Int32)), .val (.ref w_EL), .val .null, .unset] [(.ref w_EL)])) rfl (by rw [hml]; rfl) (Steps.refl _) (argsL := []) (rest := []) (lenOf pd_1 rfl) rfl (Nat.le_of_eq rfl) (hb hby d_prog_108_method_1_203) (fun _ _ => ⟨rfl, e5, (by decide : 0 + 0 ≤ _), (by decide : 0 + 0 ≤ _)⟩)
  dsimp only [Pt.U, Pt.locs, Pt.cells, Pt.slots] at X6 l6 y6 z6 st6 hQ6
  subst y6 z6
  obtain ⟨hv6, Nq6, e6⟩ := hQ6
  obtain rfl : v6 = some (.int (1 : Int32)) := hv6
  have N6 : Fr n0 L6 := by rw [l6]; exact Fr.app N5 Nq6
  obtain ⟨T7, h7, X7, e7, W7, st7⟩ := putF X6 hx hZ hown (host := "") (Or.inl (hw _ (ow 208 rfl))) Via.refl e6 x3_F_a1_shape x3_E_a1 (Or.inr ⟨(hw _ (ow 209 rfl)), rfl, hnm⟩) (hw _ (ow 111 rfl)) (ty := (.object "com/example/cairn/cairn/plan/Stage$Shape")) (by decide) rfl rfl (g := (mkF m 280 #[.val (.ref a1), .val (.ref w_RESULT), .val (.ref w_EL), .val (.int (0 : Int32)), .val (.ref w_EL), .val .null, .val (.int (1 : Int32))] [(.ref w_RESULT), (.ref a1)])) rfl rfl (hb hby d_prog_108_method_1_280)
  have x7_E_a1 := x3_E_a1.wr W7
  have x7_F_a1_shape := x3_F_a1_shape.same W7
  have x7_F_a1_slots := x3_F_a1_slots.other W7 (Or.inr (slot_ne (Or.inr (hw _ (ow 211 rfl))) (Or.inr (hw _ (ow 209 rfl))) (by decide) (t := (.object "java/util/List")) (t' := (.object "com/example/cairn/cairn/plan/Stage$Shape")) (by decide) (by decide)))
  have x7_F_a1_buckets := x3_F_a1_buckets.other W7 (Or.inr (slot_ne (Or.inr (hw _ (ow 213 rfl))) (Or.inr (hw _ (ow 209 rfl))) (by decide) (t := .int) (t' := (.object "com/example/cairn/cairn/plan/Stage$Shape")) (by decide) (by decide)))
  have x7_F_a1_keys := x3_F_a1_keys.other W7 (Or.inr (slot_ne (Or.inr (hw _ (ow 215 rfl))) (Or.inr (hw _ (ow 209 rfl))) (by decide) (t := (.object "java/util/List")) (t' := (.object "com/example/cairn/cairn/plan/Stage$Shape")) (by decide) (by decide)))
  have x7_F_a1_grouping := x3_F_a1_grouping.other W7 (Or.inr (slot_ne (Or.inr (hw _ (ow 217 rfl))) (Or.inr (hw _ (ow 209 rfl))) (by decide) (t := (.object "com/example/cairn/cairn/plan/Grouping")) (t' := (.object "com/example/cairn/cairn/plan/Stage$Shape")) (by decide) (by decide)))
  have EX7 := own_ext_wr EX3 W7 (hn0 ▸ g_a1)
  have K7 := Keep.wr K3 W7 (Or.inl (List.mem_of_getElem? (i := 0) rfl))
  have N7 := Fr.snoc X7 N6 g_a1
  obtain ⟨T8, h8, X8, e8, W8, st8⟩ := putF X7 hx hZ hown (host := "") (Or.inl (hw _ (ow 210 rfl))) Via.refl e7 x7_F_a1_slots x7_E_a1 (Or.inr ⟨(hw _ (ow 211 rfl)), rfl, hnm⟩) (hw _ (ow 111 rfl)) (ty := (.object "java/util/List")) (by decide) rfl rfl (g := (mkF m 285 #[.val (.ref a1), .val (.ref w_RESULT), .val (.ref w_EL), .val (.int (0 : Int32)), .val (.ref w_EL), .val .null, .val (.int (1 : Int32))] [(.ref w_EL), (.ref a1)])) rfl rfl (hb hby d_prog_108_method_1_285)
  have x8_E_a1 := x7_E_a1.wr W8
  have x8_F_a1_shape := x7_F_a1_shape.other W8 (Or.inr (slot_ne (Or.inr (hw _ (ow 209 rfl))) (Or.inr (hw _ (ow 211 rfl))) (by decide) (t := (.object "com/example/cairn/cairn/plan/Stage$Shape")) (t' := (.object "java/util/List")) (by decide) (by decide)))
  have x8_F_a1_slots := x7_F_a1_slots.same W8
  have x8_F_a1_buckets := x7_F_a1_buckets.other W8 (Or.inr (slot_ne (Or.inr (hw _ (ow 213 rfl))) (Or.inr (hw _ (ow 211 rfl))) (by decide) (t := .int) (t' := (.object "java/util/List")) (by decide) (by decide)))
  have x8_F_a1_keys := x7_F_a1_keys.other W8 (Or.inr (slot_ne (Or.inr (hw _ (ow 215 rfl))) (Or.inr (hw _ (ow 211 rfl))) (by decide) (t := (.object "java/util/List")) (t' := (.object "java/util/List")) (by decide) (by decide)))
  have x8_F_a1_grouping := x7_F_a1_grouping.other W8 (Or.inr (slot_ne (Or.inr (hw _ (ow 217 rfl))) (Or.inr (hw _ (ow 211 rfl))) (by decide) (t := (.object "com/example/cairn/cairn/plan/Grouping")) (t' := (.object "java/util/List")) (by decide) (by decide)))
  have EX8 := own_ext_wr EX7 W8 (hn0 ▸ g_a1)
  have K8 := Keep.wr K7 W8 (Or.inl (List.mem_of_getElem? (i := 0) rfl))
  have N8 := Fr.snoc X8 N7 g_a1
  obtain ⟨T9, h9, X9, e9, W9, st9⟩ := putF X8 hx hZ hown (host := "") (Or.inl (hw _ (ow 212 rfl))) Via.refl e8 x8_F_a1_buckets x8_E_a1 (Or.inr ⟨(hw _ (ow 213 rfl)), rfl, hnm⟩) (hw _ (ow 111 rfl)) (ty := .int) (by decide) rfl rfl (g := (mkF m 290 #[.val (.ref a1), .val (.ref w_RESULT), .val (.ref w_EL), .val (.int (0 : Int32)), .val (.ref w_EL), .val .null, .val (.int (1 : Int32))] [(.int (0 : Int32)), (.ref a1)])) rfl rfl (hb hby d_prog_108_method_1_290)
  have x9_E_a1 := x8_E_a1.wr W9
  have x9_F_a1_shape := x8_F_a1_shape.other W9 (Or.inr (slot_ne (Or.inr (hw _ (ow 209 rfl))) (Or.inr (hw _ (ow 213 rfl))) (by decide) (t := (.object "com/example/cairn/cairn/plan/Stage$Shape")) (t' := .int) (by decide) (by decide)))
  have x9_F_a1_slots := x8_F_a1_slots.other W9 (Or.inr (slot_ne (Or.inr (hw _ (ow 211 rfl))) (Or.inr (hw _ (ow 213 rfl))) (by decide) (t := (.object "java/util/List")) (t' := .int) (by decide) (by decide)))
  have x9_F_a1_buckets := x8_F_a1_buckets.same W9
  have x9_F_a1_keys := x8_F_a1_keys.other W9 (Or.inr (slot_ne (Or.inr (hw _ (ow 215 rfl))) (Or.inr (hw _ (ow 213 rfl))) (by decide) (t := (.object "java/util/List")) (t' := .int) (by decide) (by decide)))
  have x9_F_a1_grouping := x8_F_a1_grouping.other W9 (Or.inr (slot_ne (Or.inr (hw _ (ow 217 rfl))) (Or.inr (hw _ (ow 213 rfl))) (by decide) (t := (.object "com/example/cairn/cairn/plan/Grouping")) (t' := .int) (by decide) (by decide)))
  have EX9 := own_ext_wr EX8 W9 (hn0 ▸ g_a1)
  have K9 := Keep.wr K8 W9 (Or.inl (List.mem_of_getElem? (i := 0) rfl))
  have N9 := Fr.snoc X9 N8 g_a1
  obtain ⟨T10, h10, X10, e10, W10, st10⟩ := putF X9 hx hZ hown (host := "") (Or.inl (hw _ (ow 214 rfl))) Via.refl e9 x9_F_a1_keys x9_E_a1 (Or.inr ⟨(hw _ (ow 215 rfl)), rfl, hnm⟩) (hw _ (ow 111 rfl)) (ty := (.object "java/util/List")) (by decide) rfl rfl (g := (mkF m 296 #[.val (.ref a1), .val (.ref w_RESULT), .val (.ref w_EL), .val (.int (0 : Int32)), .val (.ref w_EL), .val .null, .val (.int (1 : Int32))] [(.ref w_EL), (.ref a1)])) rfl rfl (hb hby d_prog_108_method_1_296)
  have x10_E_a1 := x9_E_a1.wr W10
  have x10_F_a1_shape := x9_F_a1_shape.other W10 (Or.inr (slot_ne (Or.inr (hw _ (ow 209 rfl))) (Or.inr (hw _ (ow 215 rfl))) (by decide) (t := (.object "com/example/cairn/cairn/plan/Stage$Shape")) (t' := (.object "java/util/List")) (by decide) (by decide)))
  have x10_F_a1_slots := x9_F_a1_slots.other W10 (Or.inr (slot_ne (Or.inr (hw _ (ow 211 rfl))) (Or.inr (hw _ (ow 215 rfl))) (by decide) (t := (.object "java/util/List")) (t' := (.object "java/util/List")) (by decide) (by decide)))
  have x10_F_a1_buckets := x9_F_a1_buckets.other W10 (Or.inr (slot_ne (Or.inr (hw _ (ow 213 rfl))) (Or.inr (hw _ (ow 215 rfl))) (by decide) (t := .int) (t' := (.object "java/util/List")) (by decide) (by decide)))
  have x10_F_a1_keys := x9_F_a1_keys.same W10
  have x10_F_a1_grouping := x9_F_a1_grouping.other W10 (Or.inr (slot_ne (Or.inr (hw _ (ow 217 rfl))) (Or.inr (hw _ (ow 215 rfl))) (by decide) (t := (.object "com/example/cairn/cairn/plan/Grouping")) (t' := (.object "java/util/List")) (by decide) (by decide)))
  have EX10 := own_ext_wr EX9 W10 (hn0 ▸ g_a1)
  have K10 := Keep.wr K9 W10 (Or.inl (List.mem_of_getElem? (i := 0) rfl))
  have N10 := Fr.snoc X10 N9 g_a1
  obtain ⟨T11, h11, X11, e11, W11, st11⟩ := putF X10 hx hZ hown (host := "") (Or.inl (hw _ (ow 216 rfl))) Via.refl e10 x10_F_a1_grouping x10_E_a1 (Or.inr ⟨(hw _ (ow 217 rfl)), rfl, hnm⟩) (hw _ (ow 111 rfl)) (ty := (.object "com/example/cairn/cairn/plan/Grouping")) (by decide) rfl rfl (g := (mkF m 302 #[.val (.ref a1), .val (.ref w_RESULT), .val (.ref w_EL), .val (.int (0 : Int32)), .val (.ref w_EL), .val .null, .val (.int (1 : Int32))] [.null, (.ref a1)])) rfl rfl (hb hby d_prog_108_method_1_302)
  have x11_E_a1 := x10_E_a1.wr W11
  have x11_F_a1_shape := x10_F_a1_shape.other W11 (Or.inr (slot_ne (Or.inr (hw _ (ow 209 rfl))) (Or.inr (hw _ (ow 217 rfl))) (by decide) (t := (.object "com/example/cairn/cairn/plan/Stage$Shape")) (t' := (.object "com/example/cairn/cairn/plan/Grouping")) (by decide) (by decide)))
  have x11_F_a1_slots := x10_F_a1_slots.other W11 (Or.inr (slot_ne (Or.inr (hw _ (ow 211 rfl))) (Or.inr (hw _ (ow 217 rfl))) (by decide) (t := (.object "java/util/List")) (t' := (.object "com/example/cairn/cairn/plan/Grouping")) (by decide) (by decide)))
  have x11_F_a1_buckets := x10_F_a1_buckets.other W11 (Or.inr (slot_ne (Or.inr (hw _ (ow 213 rfl))) (Or.inr (hw _ (ow 217 rfl))) (by decide) (t := .int) (t' := (.object "com/example/cairn/cairn/plan/Grouping")) (by decide) (by decide)))
  have x11_F_a1_keys := x10_F_a1_keys.other W11 (Or.inr (slot_ne (Or.inr (hw _ (ow 215 rfl))) (Or.inr (hw _ (ow 217 rfl))) (by decide) (t := (.object "java/util/List")) (t' := (.object "com/example/cairn/cairn/plan/Grouping")) (by decide) (by decide)))
  have x11_F_a1_grouping := x10_F_a1_grouping.same W11
  have EX11 := own_ext_wr EX10 W11 (hn0 ▸ g_a1)
  have K11 := Keep.wr K10 W11 (Or.inl (List.mem_of_getElem? (i := 0) rfl))
  have N11 := Fr.snoc X11 N10 g_a1
  have pre12 : ∀ t, Steps p.tables e below (T11.setTop (mkF m 305 #[.val (.ref a1), .val (.ref w_RESULT), .val (.ref w_EL), .val (.int (0 : Int32)), .val (.ref w_EL), .val .null, .val (.int (1 : Int32))] [])) t → Steps p.tables e below (s₁.setTop (entryFrame m #[(.ref a1), (.ref w_RESULT), (.ref w_EL), (.int (0 : Int32)), (.ref w_EL), .null] 7)) t := fun t k => pre0 t (by
    show Steps p.tables e below (s₁.setTop (mkF m 0 #[.val (.ref a1), .val (.ref w_RESULT), .val (.ref w_EL), .val (.int (0 : Int32)), .val (.ref w_EL), .val .null, .unset] [])) _
    refine XS.aloadN X0.here hx rfl (hb hby d_prog_108_method_1_0) rfl rfl ?_
    show Steps p.tables e below (s₁.setTop (mkF m 1 #[.val (.ref a1), .val (.ref w_RESULT), .val (.ref w_EL), .val (.int (0 : Int32)), .val (.ref w_EL), .val .null, .unset] [(.ref a1)])) _
    refine st1.trans ?_
    show Steps p.tables e below (T1.setTop (mkF m 4 #[.val (.ref a1), .val (.ref w_RESULT), .val (.ref w_EL), .val (.int (0 : Int32)), .val (.ref w_EL), .val .null, .unset] [])) _
    refine XS.aloadN X1.here hx rfl (hb hby d_prog_108_method_1_4) rfl rfl ?_
    show Steps p.tables e below (T1.setTop (mkF m 5 #[.val (.ref a1), .val (.ref w_RESULT), .val (.ref w_EL), .val (.int (0 : Int32)), .val (.ref w_EL), .val .null, .unset] [(.ref w_EL)])) _
    refine st2 _ ?_
    show Steps p.tables e below (T2.setTop (mkF m 8 #[.val (.ref a1), .val (.ref w_RESULT), .val (.ref w_EL), .val (.int (0 : Int32)), .val (.ref w_EL), .val .null, .unset] [(.ref w_EL)])) _
    refine XS.astoreN X2.here hx rfl (hb hby d_prog_108_method_1_8) rfl rfl (l' := #[.val (.ref a1), .val (.ref w_RESULT), .val (.ref w_EL), .val (.int (0 : Int32)), .val (.ref w_EL), .val .null, .unset]) rfl ?_
    show Steps p.tables e below (T2.setTop (mkF m 9 #[.val (.ref a1), .val (.ref w_RESULT), .val (.ref w_EL), .val (.int (0 : Int32)), .val (.ref w_EL), .val .null, .unset] [])) _
    refine XS.aload X2.here hx rfl (hb hby d_prog_108_method_1_9) rfl rfl ?_
    show Steps p.tables e below (T2.setTop (mkF m 11 #[.val (.ref a1), .val (.ref w_RESULT), .val (.ref w_EL), .val (.int (0 : Int32)), .val (.ref w_EL), .val .null, .unset] [(.ref w_EL)])) _
    refine st3 _ ?_
    show Steps p.tables e below (T3.setTop (mkF m 14 #[.val (.ref a1), .val (.ref w_RESULT), .val (.ref w_EL), .val (.int (0 : Int32)), .val (.ref w_EL), .val .null, .unset] [(.ref w_EL)])) _
    refine XS.astore X3.here hx rfl (hb hby d_prog_108_method_1_14) rfl rfl (l' := #[.val (.ref a1), .val (.ref w_RESULT), .val (.ref w_EL), .val (.int (0 : Int32)), .val (.ref w_EL), .val .null, .unset]) rfl ?_
    show Steps p.tables e below (T3.setTop (mkF m 16 #[.val (.ref a1), .val (.ref w_RESULT), .val (.ref w_EL), .val (.int (0 : Int32)), .val (.ref w_EL), .val .null, .unset] [])) _
    refine XS.aloadN X3.here hx rfl (hb hby d_prog_108_method_1_16) rfl rfl ?_
    show Steps p.tables e below (T3.setTop (mkF m 17 #[.val (.ref a1), .val (.ref w_RESULT), .val (.ref w_EL), .val (.int (0 : Int32)), .val (.ref w_EL), .val .null, .unset] [(.ref w_RESULT)])) _
    refine st4.trans ?_
    show Steps p.tables e below (T4.setTop (mkF m 20 #[.val (.ref a1), .val (.ref w_RESULT), .val (.ref w_EL), .val (.int (0 : Int32)), .val (.ref w_EL), .val .null, .unset] [(.int (1 : Int32))])) _
    refine XS.tswIn X4.here hx rfl (o := 168) (pc0 := 20) (pc' := 188) rfl (hb hby d_prog_108_method_1_20) rfl (by decide) (by decide) (by decide) (by decide) ?_
    show Steps p.tables e below (T4.setTop (mkF m 188 #[.val (.ref a1), .val (.ref w_RESULT), .val (.ref w_EL), .val (.int (0 : Int32)), .val (.ref w_EL), .val .null, .unset] [])) _
    refine XS.iloadN X4.here hx rfl (hb hby d_prog_108_method_1_188) rfl ?_
    show Steps p.tables e below (T4.setTop (mkF m 189 #[.val (.ref a1), .val (.ref w_RESULT), .val (.ref w_EL), .val (.int (0 : Int32)), .val (.ref w_EL), .val .null, .unset] [(.int (0 : Int32))])) _
    refine XS.ifNo X4.here hx rfl (hb hby d_prog_108_method_1_189) rfl ((if0 _ _).trans (teq (by decide)).2) ?_
    show Steps p.tables e below (T4.setTop (mkF m 192 #[.val (.ref a1), .val (.ref w_RESULT), .val (.ref w_EL), .val (.int (0 : Int32)), .val (.ref w_EL), .val .null, .unset] [])) _
    refine XS.aloadN X4.here hx rfl (hb hby d_prog_108_method_1_192) rfl rfl ?_
    show Steps p.tables e below (T4.setTop (mkF m 193 #[.val (.ref a1), .val (.ref w_RESULT), .val (.ref w_EL), .val (.int (0 : Int32)), .val (.ref w_EL), .val .null, .unset] [(.ref w_EL)])) _
    refine st5.trans ?_
    show Steps p.tables e below (T5.setTop (mkF m 198 #[.val (.ref a1), .val (.ref w_RESULT), .val (.ref w_EL), .val (.int (0 : Int32)), .val (.ref w_EL), .val .null, .unset] [(.int (1 : Int32))])) _
    refine XS.ifNo X5.here hx rfl (hb hby d_prog_108_method_1_198) rfl ((if0 _ _).trans (feq (by decide)).1) ?_
    show Steps p.tables e below (T5.setTop (mkF m 201 #[.val (.ref a1), .val (.ref w_RESULT), .val (.ref w_EL), .val (.int (0 : Int32)), .val (.ref w_EL), .val .null, .unset] [])) _
    refine XS.aload X5.here hx rfl (hb hby d_prog_108_method_1_201) rfl rfl ?_
    show Steps p.tables e below (T5.setTop (mkF m 203 #[.val (.ref a1), .val (.ref w_RESULT), .val (.ref w_EL), .val (.int (0 : Int32)), .val (.ref w_EL), .val .null, .unset] [(.ref w_EL)])) _
    refine st6.trans ?_
    show Steps p.tables e below (T6.setTop (mkF m 208 #[.val (.ref a1), .val (.ref w_RESULT), .val (.ref w_EL), .val (.int (0 : Int32)), .val (.ref w_EL), .val .null, .unset] [(.int (1 : Int32))])) _
    refine XS.ifNo X6.here hx rfl (hb hby d_prog_108_method_1_208) rfl ((if0 _ _).trans (feq (by decide)).1) ?_
    show Steps p.tables e below (T6.setTop (mkF m 211 #[.val (.ref a1), .val (.ref w_RESULT), .val (.ref w_EL), .val (.int (0 : Int32)), .val (.ref w_EL), .val .null, .unset] [])) _
    refine XS.aload X6.here hx rfl (hb hby d_prog_108_method_1_211) rfl rfl ?_
    show Steps p.tables e below (T6.setTop (mkF m 213 #[.val (.ref a1), .val (.ref w_RESULT), .val (.ref w_EL), .val (.int (0 : Int32)), .val (.ref w_EL), .val .null, .unset] [.null])) _
    refine XS.ifnonnullNo X6.here hx rfl (hb hby d_prog_108_method_1_213) rfl ?_
    show Steps p.tables e below (T6.setTop (mkF m 216 #[.val (.ref a1), .val (.ref w_RESULT), .val (.ref w_EL), .val (.int (0 : Int32)), .val (.ref w_EL), .val .null, .unset] [])) _
    refine XS.iconst X6.here hx rfl (hb hby d_prog_108_method_1_216) ?_
    show Steps p.tables e below (T6.setTop (mkF m 217 #[.val (.ref a1), .val (.ref w_RESULT), .val (.ref w_EL), .val (.int (0 : Int32)), .val (.ref w_EL), .val .null, .unset] [(.int (1 : Int32))])) _
    refine XS.goto X6.here hx rfl (pc0 := 217) (pc' := 221) rfl (hb hby d_prog_108_method_1_217) (by decide) (by decide) ?_
    show Steps p.tables e below (T6.setTop (mkF m 221 #[.val (.ref a1), .val (.ref w_RESULT), .val (.ref w_EL), .val (.int (0 : Int32)), .val (.ref w_EL), .val .null, .unset] [(.int (1 : Int32))])) _
    refine XS.istore X6.here hx rfl (hb hby d_prog_108_method_1_221) rfl (l' := #[.val (.ref a1), .val (.ref w_RESULT), .val (.ref w_EL), .val (.int (0 : Int32)), .val (.ref w_EL), .val .null, .val (.int (1 : Int32))]) rfl ?_
    show Steps p.tables e below (T6.setTop (mkF m 223 #[.val (.ref a1), .val (.ref w_RESULT), .val (.ref w_EL), .val (.int (0 : Int32)), .val (.ref w_EL), .val .null, .val (.int (1 : Int32))] [])) _
    refine XS.iload X6.here hx rfl (hb hby d_prog_108_method_1_223) rfl ?_
    show Steps p.tables e below (T6.setTop (mkF m 225 #[.val (.ref a1), .val (.ref w_RESULT), .val (.ref w_EL), .val (.int (0 : Int32)), .val (.ref w_EL), .val .null, .val (.int (1 : Int32))] [(.int (1 : Int32))])) _
    refine XS.ifYes X6.here hx rfl (pc0 := 225) (pc' := 278) rfl (hb hby d_prog_108_method_1_225) rfl ((if0 _ _).trans (feq (by decide)).2) (by decide) (by decide) ?_
    show Steps p.tables e below (T6.setTop (mkF m 278 #[.val (.ref a1), .val (.ref w_RESULT), .val (.ref w_EL), .val (.int (0 : Int32)), .val (.ref w_EL), .val .null, .val (.int (1 : Int32))] [])) _
    refine XS.aloadN X6.here hx rfl (hb hby d_prog_108_method_1_278) rfl rfl ?_
    show Steps p.tables e below (T6.setTop (mkF m 279 #[.val (.ref a1), .val (.ref w_RESULT), .val (.ref w_EL), .val (.int (0 : Int32)), .val (.ref w_EL), .val .null, .val (.int (1 : Int32))] [(.ref a1)])) _
    refine XS.aloadN X6.here hx rfl (hb hby d_prog_108_method_1_279) rfl rfl ?_
    show Steps p.tables e below (T6.setTop (mkF m 280 #[.val (.ref a1), .val (.ref w_RESULT), .val (.ref w_EL), .val (.int (0 : Int32)), .val (.ref w_EL), .val .null, .val (.int (1 : Int32))] [(.ref w_RESULT), (.ref a1)])) _
    refine st7 _ ?_
    show Steps p.tables e below (T7.setTop (mkF m 283 #[.val (.ref a1), .val (.ref w_RESULT), .val (.ref w_EL), .val (.int (0 : Int32)), .val (.ref w_EL), .val .null, .val (.int (1 : Int32))] [])) _
    refine XS.aloadN X7.here hx rfl (hb hby d_prog_108_method_1_283) rfl rfl ?_
    show Steps p.tables e below (T7.setTop (mkF m 284 #[.val (.ref a1), .val (.ref w_RESULT), .val (.ref w_EL), .val (.int (0 : Int32)), .val (.ref w_EL), .val .null, .val (.int (1 : Int32))] [(.ref a1)])) _
    refine XS.aloadN X7.here hx rfl (hb hby d_prog_108_method_1_284) rfl rfl ?_
    show Steps p.tables e below (T7.setTop (mkF m 285 #[.val (.ref a1), .val (.ref w_RESULT), .val (.ref w_EL), .val (.int (0 : Int32)), .val (.ref w_EL), .val .null, .val (.int (1 : Int32))] [(.ref w_EL), (.ref a1)])) _
    refine st8 _ ?_
    show Steps p.tables e below (T8.setTop (mkF m 288 #[.val (.ref a1), .val (.ref w_RESULT), .val (.ref w_EL), .val (.int (0 : Int32)), .val (.ref w_EL), .val .null, .val (.int (1 : Int32))] [])) _
    refine XS.aloadN X8.here hx rfl (hb hby d_prog_108_method_1_288) rfl rfl ?_
    show Steps p.tables e below (T8.setTop (mkF m 289 #[.val (.ref a1), .val (.ref w_RESULT), .val (.ref w_EL), .val (.int (0 : Int32)), .val (.ref w_EL), .val .null, .val (.int (1 : Int32))] [(.ref a1)])) _
    refine XS.iloadN X8.here hx rfl (hb hby d_prog_108_method_1_289) rfl ?_
    show Steps p.tables e below (T8.setTop (mkF m 290 #[.val (.ref a1), .val (.ref w_RESULT), .val (.ref w_EL), .val (.int (0 : Int32)), .val (.ref w_EL), .val .null, .val (.int (1 : Int32))] [(.int (0 : Int32)), (.ref a1)])) _
    refine st9 _ ?_
    show Steps p.tables e below (T9.setTop (mkF m 293 #[.val (.ref a1), .val (.ref w_RESULT), .val (.ref w_EL), .val (.int (0 : Int32)), .val (.ref w_EL), .val .null, .val (.int (1 : Int32))] [])) _
    refine XS.aloadN X9.here hx rfl (hb hby d_prog_108_method_1_293) rfl rfl ?_
    show Steps p.tables e below (T9.setTop (mkF m 294 #[.val (.ref a1), .val (.ref w_RESULT), .val (.ref w_EL), .val (.int (0 : Int32)), .val (.ref w_EL), .val .null, .val (.int (1 : Int32))] [(.ref a1)])) _
    refine XS.aload X9.here hx rfl (hb hby d_prog_108_method_1_294) rfl rfl ?_
    show Steps p.tables e below (T9.setTop (mkF m 296 #[.val (.ref a1), .val (.ref w_RESULT), .val (.ref w_EL), .val (.int (0 : Int32)), .val (.ref w_EL), .val .null, .val (.int (1 : Int32))] [(.ref w_EL), (.ref a1)])) _
    refine st10 _ ?_
    show Steps p.tables e below (T10.setTop (mkF m 299 #[.val (.ref a1), .val (.ref w_RESULT), .val (.ref w_EL), .val (.int (0 : Int32)), .val (.ref w_EL), .val .null, .val (.int (1 : Int32))] [])) _
    refine XS.aloadN X10.here hx rfl (hb hby d_prog_108_method_1_299) rfl rfl ?_
    show Steps p.tables e below (T10.setTop (mkF m 300 #[.val (.ref a1), .val (.ref w_RESULT), .val (.ref w_EL), .val (.int (0 : Int32)), .val (.ref w_EL), .val .null, .val (.int (1 : Int32))] [(.ref a1)])) _
    refine XS.aload X10.here hx rfl (hb hby d_prog_108_method_1_300) rfl rfl ?_
    show Steps p.tables e below (T10.setTop (mkF m 302 #[.val (.ref a1), .val (.ref w_RESULT), .val (.ref w_EL), .val (.int (0 : Int32)), .val (.ref w_EL), .val .null, .val (.int (1 : Int32))] [.null, (.ref a1)])) _
    refine st11 _ ?_
    exact k)
  obtain ⟨fs, hr, hrun, hended, hW, hsame⟩ := X11.leave (v := none) (fun _ => rfl)
  refine ⟨_, _, pre12 _ ?_, hrun, hended, _, _, rfl, ?_, ⟨_, rfl⟩, hW, hsame.mono (by decide) (by decide)⟩
  · show Steps p.tables e below (T11.setTop (mkF m 305 #[.val (.ref a1), .val (.ref w_RESULT), .val (.ref w_EL), .val (.int (0 : Int32)), .val (.ref w_EL), .val .null, .val (.int (1 : Int32))] [])) _
    exact X11.returnOut hx Bd.returns (hb hby d_prog_108_method_1_305) hr
  · exact ⟨rfl, N11, by rw [show (T11.setFrames fs).heap = _ from e11]; exact ⟨K11, x11_E_a1, x11_F_a1_buckets⟩⟩
def own_Q_oiN2 (Z : State) (a1 : Addr) (a5 : Addr) (w_ROWS w_RESULT w_PARTIAL_GROUPS w_MERGED_GROUPS w_D w_EL w_EE w_C w_EM w_M : Addr)  (h0 : Heap) (n0 : Nat) (v : Option Value) (h : Heap) (L : List Loc) : Prop := v = none ∧ Fr n0 L ∧ Keep h0 h [a1] ∧ Exa Z h a1 "com/example/cairn/cairn/plan/Stage$Output" ∧ Fld Z h a1 "com/example/cairn/cairn/plan/Stage$Output" "buckets" "I" (.int (0 : Int32))
theorem ef_oiN2 (m : MethodId) (x0 : Addr) (x1 : Addr) (x2 : Addr) (x3 : Int32) (x4 : Addr) (x5 : Addr) : entryFrame m #[(.ref x0), (.ref x1), (.ref x2), (.int x3), (.ref x4), (.ref x5)] 7 = mkF m 0 #[.val (.ref x0), .val (.ref x1), .val (.ref x2), .val (.int x3), .val (.ref x4), .val (.ref x5), .unset] [] := by first | (simp [entryFrame, mkF, argsToLocals, Value.category]; done) | rfl
set_option maxRecDepth 65536 in
set_option maxHeartbeats 40000000 in
theorem rm_oiN2 (l : Launch) (Z : State) (a0 : Array Value) (hw : ∀ d ∈ tables_1, d.before a0 Z = true) (ws : List Jvm.Cond) (a1 : Addr) (a5 : Addr) (h0 : Heap) (n0 : Nat) (w_ROWS w_RESULT w_PARTIAL_GROUPS w_MERGED_GROUPS w_D w_EL w_EE w_C w_EM w_M : Addr) (hK : own_K Z Z.heap w_ROWS w_RESULT w_PARTIAL_GROUPS w_MERGED_GROUPS w_D w_EL w_EE w_C w_EM w_M) (hn0 : n0 = Z.heap.size) (EX0 : Ext Z.heap h0) (E_a1 : Exa Z h0 a1 "com/example/cairn/cairn/plan/Stage$Output") (g_a1 : n0 ≤ a1) (F_shape_a1 : Fld Z h0 a1 "com/example/cairn/cairn/plan/Stage$Output" "shape" "Lcom/example/cairn/cairn/plan/Stage$Shape;" .null) (F_slots_a1 : Fld Z h0 a1 "com/example/cairn/cairn/plan/Stage$Output" "slots" "Ljava/util/List;" .null) (F_buckets_a1 : Fld Z h0 a1 "com/example/cairn/cairn/plan/Stage$Output" "buckets" "I" (.int (0 : Int32))) (F_keys_a1 : Fld Z h0 a1 "com/example/cairn/cairn/plan/Stage$Output" "keys" "Ljava/util/List;" .null) (F_grouping_a1 : Fld Z h0 a1 "com/example/cairn/cairn/plan/Stage$Output" "grouping" "Lcom/example/cairn/cairn/plan/Grouping;" .null) :
    MetFree l (⟨"com/example/cairn/cairn/plan/Stage$Output", "<init>", "(Lcom/example/cairn/cairn/plan/Stage$Shape;Ljava/util/List;ILjava/util/List;Lcom/example/cairn/cairn/plan/Grouping;)V"⟩ : MethodName) (head1 (Jvm.Cond.code (⟨"com/example/cairn/cairn/plan/Stage$Output", "<init>", "(Lcom/example/cairn/cairn/plan/Stage$Shape;Ljava/util/List;ILjava/util/List;Lcom/example/cairn/cairn/plan/Grouping;)V"⟩ : MethodName) prog_108_method_1_code 7 none :: ws) ({ frames := 2, cells := 0, slots := 0, locals := 25 } : Room)) (fun a U => a = #[(.ref a1), (.ref w_PARTIAL_GROUPS), (.ref w_EL), (.int (0 : Int32)), (.ref w_EL), (.ref a5)] ∧ Z.Warmed39 U.vm ∧ U.heap = h0) (fun _ _ _ _ _ => True) (fun _ U o U' => ∃ v L, o = .returned v ∧ own_Q_oiN2 Z a1 a5 w_ROWS w_RESULT w_PARTIAL_GROUPS w_MERGED_GROUPS w_D w_EL w_EE w_C w_EM w_M h0 n0 v U'.heap L ∧ FrameEnd U o U' L ({ frames := 2, cells := 0, slots := 0, locals := 25 } : Room).cells ({ frames := 2, cells := 0, slots := 0, locals := 25 } : Room).slots) := by
  refine MetFree.of_bodySF (plainFor_of_name pn_16) hisR ?_
  intro p e s m args below meth c s₁ Bd hml0 hP hK0
  obtain ⟨rfl, hZ, hh⟩ := hP
  have hx := Bd.exec
  have hby := Bd.bytes
  have hml : c.maxLocals = 7 := hml0
  have hown : s.vm.findClass "com/example/cairn/cairn/plan/Stage$Output" = some m.cls := findClass_of_methodNamed Bd.named
  have hnm := (name_of_methodNamed Bd.named Bd.method).1
  have X0 : Stand p l e ({ frames := 2, cells := 0, slots := 0, locals := 25 } : Room) s m #[(.ref a1), (.ref w_PARTIAL_GROUPS), (.ref w_EL), (.int (0 : Int32)), (.ref w_EL), (.ref a5)] below meth c s₁ [] 0 0 := Stand.of_body Bd
  have e0 : s₁.heap = h0 := by rw [← hh, Bd.state]; rfl
  have N0 := Fr.nil n0
  have pre0 : ∀ t, Steps p.tables e below (s₁.setTop (mkF m 0 #[.val (.ref a1), .val (.ref w_PARTIAL_GROUPS), .val (.ref w_EL), .val (.int (0 : Int32)), .val (.ref w_EL), .val (.ref a5), .unset] [])) t → Steps p.tables e below (s₁.setTop (entryFrame m #[(.ref a1), (.ref w_PARTIAL_GROUPS), (.ref w_EL), (.int (0 : Int32)), (.ref w_EL), (.ref a5)] 7)) t := fun t k => castTop (ef_oiN2 m a1 w_PARTIAL_GROUPS w_EL ((0 : Int32)) w_EL a5) k
  have hK' := hK
  obtain ⟨S_w_ROWS, E_w_ROWS, F_ordinal_w_ROWS, S_w_RESULT, E_w_RESULT, F_ordinal_w_RESULT, S_w_PARTIAL_GROUPS, E_w_PARTIAL_GROUPS, F_ordinal_w_PARTIAL_GROUPS, S_w_MERGED_GROUPS, E_w_MERGED_GROUPS, F_ordinal_w_MERGED_GROUPS, S_w_D, B_w_D, S_w_EL, E_w_EL, F_elements_w_EL, B_w_EE, F_allowNulls_w_EL, S_high, S_w_C, C_w_C, S_w_EM, M_w_M⟩ := hK'
  obtain ⟨cl_w_D, A_w_D, q_w_D⟩ := B_w_D
  obtain ⟨cl_w_EE, A_w_EE, q_w_EE⟩ := B_w_EE
  obtain ⟨v1, _, ⟨T1, L1, k1, n1⟩, -, X1, ⟨Lc1, hQ1, l1, y1, z1⟩, st1⟩ := X0.specialBack hx (y := (⟨"java/lang/Record", "<init>", "()V"⟩ : MethodName)) rfl hown (mvT hZ (hw _ (ow 116 rfl))) (mvT hZ (hw _ (ow 33 rfl))) (mvT hZ (hw _ (ow 36 rfl))) (by decide) (backOf (W := 0) (rm_recinit l Z a0 hw [] a1 h0 n0) hZ (hw _ (ow 36 rfl)) (hw _ (ow 35 rfl)) (by decide) (by decide)) (g := (mkF m 1 #[.val (.ref a1), .val (.ref w_PARTIAL_GROUPS), .val (.ref w_EL), .val (.int (0 : Int32)), .val (.ref w_EL), .val (.ref a5), .unset] [(.ref a1)])) rfl (by rw [hml]; rfl) (Steps.refl _) (a := a1) (argsL := []) (rest := []) (lenOf pd_0 rfl) rfl (Nat.le_of_eq rfl) (hb hby d_prog_108_method_1_1) (fun _ _ => ⟨rfl, e0, (by decide : 0 + 0 ≤ _), (by decide : 0 + 0 ≤ _)⟩)
  dsimp only [Pt.U, Pt.locs, Pt.cells, Pt.slots] at X1 l1 y1 z1 st1 hQ1
  subst y1 z1
  obtain ⟨hv1, Nq1, e1⟩ := hQ1
  obtain rfl : v1 = none := hv1
  have N1 : Fr n0 L1 := by rw [l1]; exact Fr.app N0 Nq1
  obtain ⟨v2, _, ⟨T2, L2, k2, n2⟩, -, X2, ⟨Lc2, hQ2, l2, y2, z2⟩, st2⟩ := Jvm.LawKit.callS X1 hx (y := (⟨"java/util/List", "copyOf", "(Ljava/util/Collection;)Ljava/util/List;"⟩ : MethodName)) hown (mvT hZ (hw _ (ow 117 rfl))) (mvT hZ (hw _ (ow 39 rfl))) (mvT hZ (hw _ (ow 40 rfl))) (mvT hZ (hw _ (ow 41 rfl))) (by decide) (backOf (W := 0) (rm_coN l Z a0 hw []  h0 n0 w_ROWS w_RESULT w_PARTIAL_GROUPS w_MERGED_GROUPS w_D w_EL w_EE w_C w_EM w_M hK hn0 EX0) hZ (hw _ (ow 41 rfl)) (hw _ (ow 40 rfl)) (by decide) (by decide)) (g := (mkF m 5 #[.val (.ref a1), .val (.ref w_PARTIAL_GROUPS), .val (.ref w_EL), .val (.int (0 : Int32)), .val (.ref w_EL), .val (.ref a5), .unset] [(.ref w_EL)])) rfl (by rw [hml]; rfl) (argsL := [(.ref w_EL)]) (rest := []) (lenOf pd_3 rfl) rfl (Nat.le_of_eq rfl) (hb hby d_prog_108_method_1_5) (fun _ _ => ⟨rfl, e1, (by decide : 0 + 0 ≤ _), (by decide : 0 + 0 ≤ _)⟩)
  dsimp only [Pt.U, Pt.locs, Pt.cells, Pt.slots] at X2 l2 y2 z2 st2 hQ2
  subst y2 z2
  obtain ⟨hv2, Nq2, Kq2⟩ := hQ2
  obtain rfl : v2 = some (.ref w_EL) := hv2
  have N2 : Fr n0 L2 := by rw [l2]; exact Fr.app N1 Nq2
  have x2_E_a1 := E_a1.keep Kq2
  have x2_F_a1_shape := F_shape_a1.keep Kq2 nin0
  have x2_F_a1_slots := F_slots_a1.keep Kq2 nin0
  have x2_F_a1_buckets := F_buckets_a1.keep Kq2 nin0
  have x2_F_a1_keys := F_keys_a1.keep Kq2 nin0
  have x2_F_a1_grouping := F_grouping_a1.keep Kq2 nin0
  have EX2 := own_ext_keepL EX0 Kq2 all0
  have K2 := Keep.trans (Keep.refl h0 [a1]) Kq2 all0
  obtain ⟨v3, _, ⟨T3, L3, k3, n3⟩, -, X3, ⟨Lc3, hQ3, l3, y3, z3⟩, st3⟩ := Jvm.LawKit.callS X2 hx (y := (⟨"java/util/List", "copyOf", "(Ljava/util/Collection;)Ljava/util/List;"⟩ : MethodName)) hown (mvT hZ (hw _ (ow 117 rfl))) (mvT hZ (hw _ (ow 39 rfl))) (mvT hZ (hw _ (ow 40 rfl))) (mvT hZ (hw _ (ow 41 rfl))) (by decide) (backOf (W := 0) (rm_coN l Z a0 hw []  T2.heap n0 w_ROWS w_RESULT w_PARTIAL_GROUPS w_MERGED_GROUPS w_D w_EL w_EE w_C w_EM w_M hK hn0 EX2) hZ (hw _ (ow 41 rfl)) (hw _ (ow 40 rfl)) (by decide) (by decide)) (g := (mkF m 11 #[.val (.ref a1), .val (.ref w_PARTIAL_GROUPS), .val (.ref w_EL), .val (.int (0 : Int32)), .val (.ref w_EL), .val (.ref a5), .unset] [(.ref w_EL)])) rfl (by rw [hml]; rfl) (argsL := [(.ref w_EL)]) (rest := []) (lenOf pd_3 rfl) rfl (Nat.le_of_eq rfl) (hb hby d_prog_108_method_1_11) (fun _ _ => ⟨rfl, (rfl : T2.heap = T2.heap), (by decide : 0 + 0 ≤ _), (by decide : 0 + 0 ≤ _)⟩)
  dsimp only [Pt.U, Pt.locs, Pt.cells, Pt.slots] at X3 l3 y3 z3 st3 hQ3
  subst y3 z3
  obtain ⟨hv3, Nq3, Kq3⟩ := hQ3
  obtain rfl : v3 = some (.ref w_EL) := hv3
  have N3 : Fr n0 L3 := by rw [l3]; exact Fr.app N2 Nq3
  have x3_E_a1 := x2_E_a1.keep Kq3
  have x3_F_a1_shape := x2_F_a1_shape.keep Kq3 nin0
  have x3_F_a1_slots := x2_F_a1_slots.keep Kq3 nin0
  have x3_F_a1_buckets := x2_F_a1_buckets.keep Kq3 nin0
  have x3_F_a1_keys := x2_F_a1_keys.keep Kq3 nin0
  have x3_F_a1_grouping := x2_F_a1_grouping.keep Kq3 nin0
  have EX3 := own_ext_keepL EX2 Kq3 all0
  have K3 := Keep.trans K2 Kq3 all0
  obtain ⟨cq4, kq4, q4a, q4b, q4c⟩ := isOf hZ (rfl : T3.heap = T3.heap) (E_w_PARTIAL_GROUPS.ext EX3)
  obtain ⟨v4, _, ⟨T4, L4, k4, n4⟩, -, X4, ⟨Lc4, hQ4, l4, y4, z4⟩, st4⟩ := X3.virtualBackUp hx (x := (⟨"com/example/cairn/cairn/plan/Stage$Shape", "ordinal", "()I"⟩ : MethodName)) (y := (⟨"java/lang/Enum", "ordinal", "()I"⟩ : MethodName)) (owner := "java/lang/Enum") hown (mvT hZ (hw _ (ow 181 rfl))) (mvT hZ (hw _ (ow 182 rfl))) (mvT hZ (hw _ (ow 183 rfl))) (by decide) (mvT hZ (hw _ (ow 185 rfl))) (mvT hZ (hw _ (ow 184 rfl))) (backOf (W := 0) (rm_ordinal l Z a0 hw [] w_PARTIAL_GROUPS (2 : Int32) T3.heap n0 (F_ordinal_w_PARTIAL_GROUPS.ext EX3)) hZ (hw _ (ow 187 rfl)) (hw _ (ow 186 rfl)) (by decide) (by decide)) q4a q4c (g := (mkF m 17 #[.val (.ref a1), .val (.ref w_PARTIAL_GROUPS), .val (.ref w_EL), .val (.int (0 : Int32)), .val (.ref w_EL), .val (.ref a5), .unset] [(.ref w_PARTIAL_GROUPS)])) rfl (by rw [hml]; rfl) (Steps.refl _) (argsL := []) (rest := []) (lenOf pd_14 rfl) rfl (Nat.le_of_eq rfl) (hb hby d_prog_108_method_1_17) (fun _ _ => ⟨rfl, (rfl : T3.heap = T3.heap), (by decide : 0 + 0 ≤ _), (by decide : 0 + 0 ≤ _)⟩)
  dsimp only [Pt.U, Pt.locs, Pt.cells, Pt.slots] at X4 l4 y4 z4 st4 hQ4
  subst y4 z4
  obtain ⟨hv4, Nq4, e4⟩ := hQ4
  obtain rfl : v4 = some (.int (2 : Int32)) := hv4
  have N4 : Fr n0 L4 := by rw [l4]; exact Fr.app N3 Nq4
  obtain ⟨cq5, kq5, q5a, q5b, q5c⟩ := isOf hZ e4 (E_w_EL.ext EX3)
  obtain ⟨v5, _, ⟨T5, L5, k5, n5⟩, -, X5, ⟨Lc5, hQ5, l5, y5, z5⟩, st5⟩ := X4.interfaceBack hx (xi := (⟨"java/util/List", "isEmpty", "()Z"⟩ : MethodName)) (y := (⟨"java/util/ImmutableCollections$ListN", "isEmpty", "()Z"⟩ : MethodName)) hown (mvT hZ (hw _ (ow 190 rfl))) (mvT hZ (hw _ (ow 191 rfl))) (mvT hZ (hw _ (ow 192 rfl))) (mvT hZ (hw _ (ow 199 rfl))) (mvT hZ (hw _ (ow 200 rfl))) (mvT hZ (hw _ (ow 201 rfl))) (mvT hZ (hw _ (ow 202 rfl))) (mvT hZ (hw _ (ow 203 rfl))) (by decide) (backOf (W := 0) (rm_lniE l Z a0 hw []  T3.heap n0 w_ROWS w_RESULT w_PARTIAL_GROUPS w_MERGED_GROUPS w_D w_EL w_EE w_C w_EM w_M (own_K_ext EX3 hK)) hZ (hw _ (ow 205 rfl)) (hw _ (ow 204 rfl)) (by decide) (by decide)) q5a q5b q5c (g := (mkF m 121 #[.val (.ref a1), .val (.ref w_PARTIAL_GROUPS), .val (.ref w_EL), .val (.int (0 : Int32)), .val (.ref w_EL), .val (.ref a5), .unset] [(.ref w_EL)])) rfl (by rw [hml]; rfl) (Steps.refl _) (argsL := []) (rest := []) (lenOf pd_1 rfl) rfl (Nat.le_of_eq rfl) (hb hby d_prog_108_method_1_121) (fun _ _ => ⟨rfl, e4, (by decide : 0 + 0 ≤ _), (by decide : 0 + 0 ≤ _)⟩)
  dsimp only [Pt.U, Pt.locs, Pt.cells, Pt.slots] at X5 l5 y5 z5 st5 hQ5
  subst y5 z5
  obtain ⟨hv5, Nq5, e5⟩ := hQ5
  obtain rfl : v5 = some (.int (1 : Int32)) := hv5
  have N5 : Fr n0 L5 := by rw [l5]; exact Fr.app N4 Nq5
  obtain ⟨cq6, kq6, q6a, q6b, q6c⟩ := isOf hZ e5 (E_w_EL.ext EX3)
  obtain ⟨v6, _, ⟨T6, L6, k6, n6⟩, -, X6, ⟨Lc6, hQ6, l6, y6, z6⟩, st6⟩ := X5.interfaceBack hx (xi := (⟨"java/util/List", "isEmpty", "()Z"⟩ : MethodName)) (y := (⟨"java/util/ImmutableCollections$ListN", "isEmpty", "()Z"⟩ : MethodName)) hown (mvT hZ (hw _ (ow 190 rfl))) (mvT hZ (hw _ (ow 191 rfl))) (mvT hZ (hw _ (ow 192 rfl))) (mvT hZ (hw _ (ow 199 rfl))) (mvT hZ (hw _ (ow 200 rfl))) (mvT hZ (hw _ (ow 201 rfl))) (mvT hZ (hw _ (ow 202 rfl))) (mvT hZ (hw _ (ow 203 rfl))) (by decide) (backOf (W := 0) (rm_lniE l Z a0 hw []  T3.heap n0 w_ROWS w_RESULT w_PARTIAL_GROUPS w_MERGED_GROUPS w_D w_EL w_EE w_C w_EM w_M (own_K_ext EX3 hK)) hZ (hw _ (ow 205 rfl)) (hw _ (ow 204 rfl)) (by decide) (by decide)) q6a q6b q6c (g := (mkF m 131 #[.val (.ref a1), .val (.ref w_PARTIAL_GROUPS), .val (.ref w_EL), .val (.int (0 : Int32)), .val (.ref w_EL), .val (.ref a5), .unset] [(.ref w_EL)])) rfl (by rw [hml]; rfl) (Steps.refl _) (argsL := []) (rest := []) (lenOf pd_1 rfl) rfl (Nat.le_of_eq rfl) (hb hby d_prog_108_method_1_131) (fun _ _ => ⟨rfl, e5, (by decide : 0 + 0 ≤ _), (by decide : 0 + 0 ≤ _)⟩)
  dsimp only [Pt.U, Pt.locs, Pt.cells, Pt.slots] at X6 l6 y6 z6 st6 hQ6
  subst y6 z6
  obtain ⟨hv6, Nq6, e6⟩ := hQ6
  obtain rfl : v6 = some (.int (1 : Int32)) := hv6
  have N6 : Fr n0 L6 := by rw [l6]; exact Fr.app N5 Nq6
  obtain ⟨T7, h7, X7, e7, W7, st7⟩ := putF X6 hx hZ hown (host := "") (Or.inl (hw _ (ow 208 rfl))) Via.refl e6 x3_F_a1_shape x3_E_a1 (Or.inr ⟨(hw _ (ow 209 rfl)), rfl, hnm⟩) (hw _ (ow 111 rfl)) (ty := (.object "com/example/cairn/cairn/plan/Stage$Shape")) (by decide) rfl rfl (g := (mkF m 280 #[.val (.ref a1), .val (.ref w_PARTIAL_GROUPS), .val (.ref w_EL), .val (.int (0 : Int32)), .val (.ref w_EL), .val (.ref a5), .val (.int (1 : Int32))] [(.ref w_PARTIAL_GROUPS), (.ref a1)])) rfl rfl (hb hby d_prog_108_method_1_280)
  have x7_E_a1 := x3_E_a1.wr W7
  have x7_F_a1_shape := x3_F_a1_shape.same W7
  have x7_F_a1_slots := x3_F_a1_slots.other W7 (Or.inr (slot_ne (Or.inr (hw _ (ow 211 rfl))) (Or.inr (hw _ (ow 209 rfl))) (by decide) (t := (.object "java/util/List")) (t' := (.object "com/example/cairn/cairn/plan/Stage$Shape")) (by decide) (by decide)))
  have x7_F_a1_buckets := x3_F_a1_buckets.other W7 (Or.inr (slot_ne (Or.inr (hw _ (ow 213 rfl))) (Or.inr (hw _ (ow 209 rfl))) (by decide) (t := .int) (t' := (.object "com/example/cairn/cairn/plan/Stage$Shape")) (by decide) (by decide)))
  have x7_F_a1_keys := x3_F_a1_keys.other W7 (Or.inr (slot_ne (Or.inr (hw _ (ow 215 rfl))) (Or.inr (hw _ (ow 209 rfl))) (by decide) (t := (.object "java/util/List")) (t' := (.object "com/example/cairn/cairn/plan/Stage$Shape")) (by decide) (by decide)))
  have x7_F_a1_grouping := x3_F_a1_grouping.other W7 (Or.inr (slot_ne (Or.inr (hw _ (ow 217 rfl))) (Or.inr (hw _ (ow 209 rfl))) (by decide) (t := (.object "com/example/cairn/cairn/plan/Grouping")) (t' := (.object "com/example/cairn/cairn/plan/Stage$Shape")) (by decide) (by decide)))
  have EX7 := own_ext_wr EX3 W7 (hn0 ▸ g_a1)
  have K7 := Keep.wr K3 W7 (Or.inl (List.mem_of_getElem? (i := 0) rfl))
  have N7 := Fr.snoc X7 N6 g_a1
  obtain ⟨T8, h8, X8, e8, W8, st8⟩ := putF X7 hx hZ hown (host := "") (Or.inl (hw _ (ow 210 rfl))) Via.refl e7 x7_F_a1_slots x7_E_a1 (Or.inr ⟨(hw _ (ow 211 rfl)), rfl, hnm⟩) (hw _ (ow 111 rfl)) (ty := (.object "java/util/List")) (by decide) rfl rfl (g := (mkF m 285 #[.val (.ref a1), .val (.ref w_PARTIAL_GROUPS), .val (.ref w_EL), .val (.int (0 : Int32)), .val (.ref w_EL), .val (.ref a5), .val (.int (1 : Int32))] [(.ref w_EL), (.ref a1)])) rfl rfl (hb hby d_prog_108_method_1_285)
  have x8_E_a1 := x7_E_a1.wr W8
  have x8_F_a1_shape := x7_F_a1_shape.other W8 (Or.inr (slot_ne (Or.inr (hw _ (ow 209 rfl))) (Or.inr (hw _ (ow 211 rfl))) (by decide) (t := (.object "com/example/cairn/cairn/plan/Stage$Shape")) (t' := (.object "java/util/List")) (by decide) (by decide)))
  have x8_F_a1_slots := x7_F_a1_slots.same W8
  have x8_F_a1_buckets := x7_F_a1_buckets.other W8 (Or.inr (slot_ne (Or.inr (hw _ (ow 213 rfl))) (Or.inr (hw _ (ow 211 rfl))) (by decide) (t := .int) (t' := (.object "java/util/List")) (by decide) (by decide)))
  have x8_F_a1_keys := x7_F_a1_keys.other W8 (Or.inr (slot_ne (Or.inr (hw _ (ow 215 rfl))) (Or.inr (hw _ (ow 211 rfl))) (by decide) (t := (.object "java/util/List")) (t' := (.object "java/util/List")) (by decide) (by decide)))
  have x8_F_a1_grouping := x7_F_a1_grouping.other W8 (Or.inr (slot_ne (Or.inr (hw _ (ow 217 rfl))) (Or.inr (hw _ (ow 211 rfl))) (by decide) (t := (.object "com/example/cairn/cairn/plan/Grouping")) (t' := (.object "java/util/List")) (by decide) (by decide)))
  have EX8 := own_ext_wr EX7 W8 (hn0 ▸ g_a1)
  have K8 := Keep.wr K7 W8 (Or.inl (List.mem_of_getElem? (i := 0) rfl))
  have N8 := Fr.snoc X8 N7 g_a1
  obtain ⟨T9, h9, X9, e9, W9, st9⟩ := putF X8 hx hZ hown (host := "") (Or.inl (hw _ (ow 212 rfl))) Via.refl e8 x8_F_a1_buckets x8_E_a1 (Or.inr ⟨(hw _ (ow 213 rfl)), rfl, hnm⟩) (hw _ (ow 111 rfl)) (ty := .int) (by decide) rfl rfl (g := (mkF m 290 #[.val (.ref a1), .val (.ref w_PARTIAL_GROUPS), .val (.ref w_EL), .val (.int (0 : Int32)), .val (.ref w_EL), .val (.ref a5), .val (.int (1 : Int32))] [(.int (0 : Int32)), (.ref a1)])) rfl rfl (hb hby d_prog_108_method_1_290)
  have x9_E_a1 := x8_E_a1.wr W9
  have x9_F_a1_shape := x8_F_a1_shape.other W9 (Or.inr (slot_ne (Or.inr (hw _ (ow 209 rfl))) (Or.inr (hw _ (ow 213 rfl))) (by decide) (t := (.object "com/example/cairn/cairn/plan/Stage$Shape")) (t' := .int) (by decide) (by decide)))
  have x9_F_a1_slots := x8_F_a1_slots.other W9 (Or.inr (slot_ne (Or.inr (hw _ (ow 211 rfl))) (Or.inr (hw _ (ow 213 rfl))) (by decide) (t := (.object "java/util/List")) (t' := .int) (by decide) (by decide)))
  have x9_F_a1_buckets := x8_F_a1_buckets.same W9
  have x9_F_a1_keys := x8_F_a1_keys.other W9 (Or.inr (slot_ne (Or.inr (hw _ (ow 215 rfl))) (Or.inr (hw _ (ow 213 rfl))) (by decide) (t := (.object "java/util/List")) (t' := .int) (by decide) (by decide)))
  have x9_F_a1_grouping := x8_F_a1_grouping.other W9 (Or.inr (slot_ne (Or.inr (hw _ (ow 217 rfl))) (Or.inr (hw _ (ow 213 rfl))) (by decide) (t := (.object "com/example/cairn/cairn/plan/Grouping")) (t' := .int) (by decide) (by decide)))
  have EX9 := own_ext_wr EX8 W9 (hn0 ▸ g_a1)
  have K9 := Keep.wr K8 W9 (Or.inl (List.mem_of_getElem? (i := 0) rfl))
  have N9 := Fr.snoc X9 N8 g_a1
  obtain ⟨T10, h10, X10, e10, W10, st10⟩ := putF X9 hx hZ hown (host := "") (Or.inl (hw _ (ow 214 rfl))) Via.refl e9 x9_F_a1_keys x9_E_a1 (Or.inr ⟨(hw _ (ow 215 rfl)), rfl, hnm⟩) (hw _ (ow 111 rfl)) (ty := (.object "java/util/List")) (by decide) rfl rfl (g := (mkF m 296 #[.val (.ref a1), .val (.ref w_PARTIAL_GROUPS), .val (.ref w_EL), .val (.int (0 : Int32)), .val (.ref w_EL), .val (.ref a5), .val (.int (1 : Int32))] [(.ref w_EL), (.ref a1)])) rfl rfl (hb hby d_prog_108_method_1_296)
  have x10_E_a1 := x9_E_a1.wr W10
  have x10_F_a1_shape := x9_F_a1_shape.other W10 (Or.inr (slot_ne (Or.inr (hw _ (ow 209 rfl))) (Or.inr (hw _ (ow 215 rfl))) (by decide) (t := (.object "com/example/cairn/cairn/plan/Stage$Shape")) (t' := (.object "java/util/List")) (by decide) (by decide)))
  have x10_F_a1_slots := x9_F_a1_slots.other W10 (Or.inr (slot_ne (Or.inr (hw _ (ow 211 rfl))) (Or.inr (hw _ (ow 215 rfl))) (by decide) (t := (.object "java/util/List")) (t' := (.object "java/util/List")) (by decide) (by decide)))
  have x10_F_a1_buckets := x9_F_a1_buckets.other W10 (Or.inr (slot_ne (Or.inr (hw _ (ow 213 rfl))) (Or.inr (hw _ (ow 215 rfl))) (by decide) (t := .int) (t' := (.object "java/util/List")) (by decide) (by decide)))
  have x10_F_a1_keys := x9_F_a1_keys.same W10
  have x10_F_a1_grouping := x9_F_a1_grouping.other W10 (Or.inr (slot_ne (Or.inr (hw _ (ow 217 rfl))) (Or.inr (hw _ (ow 215 rfl))) (by decide) (t := (.object "com/example/cairn/cairn/plan/Grouping")) (t' := (.object "java/util/List")) (by decide) (by decide)))
  have EX10 := own_ext_wr EX9 W10 (hn0 ▸ g_a1)
  have K10 := Keep.wr K9 W10 (Or.inl (List.mem_of_getElem? (i := 0) rfl))
  have N10 := Fr.snoc X10 N9 g_a1
  obtain ⟨T11, h11, X11, e11, W11, st11⟩ := putF X10 hx hZ hown (host := "") (Or.inl (hw _ (ow 216 rfl))) Via.refl e10 x10_F_a1_grouping x10_E_a1 (Or.inr ⟨(hw _ (ow 217 rfl)), rfl, hnm⟩) (hw _ (ow 111 rfl)) (ty := (.object "com/example/cairn/cairn/plan/Grouping")) (by decide) rfl rfl (g := (mkF m 302 #[.val (.ref a1), .val (.ref w_PARTIAL_GROUPS), .val (.ref w_EL), .val (.int (0 : Int32)), .val (.ref w_EL), .val (.ref a5), .val (.int (1 : Int32))] [(.ref a5), (.ref a1)])) rfl rfl (hb hby d_prog_108_method_1_302)
  have x11_E_a1 := x10_E_a1.wr W11
  have x11_F_a1_shape := x10_F_a1_shape.other W11 (Or.inr (slot_ne (Or.inr (hw _ (ow 209 rfl))) (Or.inr (hw _ (ow 217 rfl))) (by decide) (t := (.object "com/example/cairn/cairn/plan/Stage$Shape")) (t' := (.object "com/example/cairn/cairn/plan/Grouping")) (by decide) (by decide)))
  have x11_F_a1_slots := x10_F_a1_slots.other W11 (Or.inr (slot_ne (Or.inr (hw _ (ow 211 rfl))) (Or.inr (hw _ (ow 217 rfl))) (by decide) (t := (.object "java/util/List")) (t' := (.object "com/example/cairn/cairn/plan/Grouping")) (by decide) (by decide)))
  have x11_F_a1_buckets := x10_F_a1_buckets.other W11 (Or.inr (slot_ne (Or.inr (hw _ (ow 213 rfl))) (Or.inr (hw _ (ow 217 rfl))) (by decide) (t := .int) (t' := (.object "com/example/cairn/cairn/plan/Grouping")) (by decide) (by decide)))
  have x11_F_a1_keys := x10_F_a1_keys.other W11 (Or.inr (slot_ne (Or.inr (hw _ (ow 215 rfl))) (Or.inr (hw _ (ow 217 rfl))) (by decide) (t := (.object "java/util/List")) (t' := (.object "com/example/cairn/cairn/plan/Grouping")) (by decide) (by decide)))
  have x11_F_a1_grouping := x10_F_a1_grouping.same W11
  have EX11 := own_ext_wr EX10 W11 (hn0 ▸ g_a1)
  have K11 := Keep.wr K10 W11 (Or.inl (List.mem_of_getElem? (i := 0) rfl))
  have N11 := Fr.snoc X11 N10 g_a1
  have pre12 : ∀ t, Steps p.tables e below (T11.setTop (mkF m 305 #[.val (.ref a1), .val (.ref w_PARTIAL_GROUPS), .val (.ref w_EL), .val (.int (0 : Int32)), .val (.ref w_EL), .val (.ref a5), .val (.int (1 : Int32))] [])) t → Steps p.tables e below (s₁.setTop (entryFrame m #[(.ref a1), (.ref w_PARTIAL_GROUPS), (.ref w_EL), (.int (0 : Int32)), (.ref w_EL), (.ref a5)] 7)) t := fun t k => pre0 t (by
    show Steps p.tables e below (s₁.setTop (mkF m 0 #[.val (.ref a1), .val (.ref w_PARTIAL_GROUPS), .val (.ref w_EL), .val (.int (0 : Int32)), .val (.ref w_EL), .val (.ref a5), .unset] [])) _
    refine XS.aloadN X0.here hx rfl (hb hby d_prog_108_method_1_0) rfl rfl ?_
    show Steps p.tables e below (s₁.setTop (mkF m 1 #[.val (.ref a1), .val (.ref w_PARTIAL_GROUPS), .val (.ref w_EL), .val (.int (0 : Int32)), .val (.ref w_EL), .val (.ref a5), .unset] [(.ref a1)])) _
    refine st1.trans ?_
    show Steps p.tables e below (T1.setTop (mkF m 4 #[.val (.ref a1), .val (.ref w_PARTIAL_GROUPS), .val (.ref w_EL), .val (.int (0 : Int32)), .val (.ref w_EL), .val (.ref a5), .unset] [])) _
    refine XS.aloadN X1.here hx rfl (hb hby d_prog_108_method_1_4) rfl rfl ?_
    show Steps p.tables e below (T1.setTop (mkF m 5 #[.val (.ref a1), .val (.ref w_PARTIAL_GROUPS), .val (.ref w_EL), .val (.int (0 : Int32)), .val (.ref w_EL), .val (.ref a5), .unset] [(.ref w_EL)])) _
    refine st2 _ ?_
    show Steps p.tables e below (T2.setTop (mkF m 8 #[.val (.ref a1), .val (.ref w_PARTIAL_GROUPS), .val (.ref w_EL), .val (.int (0 : Int32)), .val (.ref w_EL), .val (.ref a5), .unset] [(.ref w_EL)])) _
    refine XS.astoreN X2.here hx rfl (hb hby d_prog_108_method_1_8) rfl rfl (l' := #[.val (.ref a1), .val (.ref w_PARTIAL_GROUPS), .val (.ref w_EL), .val (.int (0 : Int32)), .val (.ref w_EL), .val (.ref a5), .unset]) rfl ?_
    show Steps p.tables e below (T2.setTop (mkF m 9 #[.val (.ref a1), .val (.ref w_PARTIAL_GROUPS), .val (.ref w_EL), .val (.int (0 : Int32)), .val (.ref w_EL), .val (.ref a5), .unset] [])) _
    refine XS.aload X2.here hx rfl (hb hby d_prog_108_method_1_9) rfl rfl ?_
    show Steps p.tables e below (T2.setTop (mkF m 11 #[.val (.ref a1), .val (.ref w_PARTIAL_GROUPS), .val (.ref w_EL), .val (.int (0 : Int32)), .val (.ref w_EL), .val (.ref a5), .unset] [(.ref w_EL)])) _
    refine st3 _ ?_
    show Steps p.tables e below (T3.setTop (mkF m 14 #[.val (.ref a1), .val (.ref w_PARTIAL_GROUPS), .val (.ref w_EL), .val (.int (0 : Int32)), .val (.ref w_EL), .val (.ref a5), .unset] [(.ref w_EL)])) _
    refine XS.astore X3.here hx rfl (hb hby d_prog_108_method_1_14) rfl rfl (l' := #[.val (.ref a1), .val (.ref w_PARTIAL_GROUPS), .val (.ref w_EL), .val (.int (0 : Int32)), .val (.ref w_EL), .val (.ref a5), .unset]) rfl ?_
    show Steps p.tables e below (T3.setTop (mkF m 16 #[.val (.ref a1), .val (.ref w_PARTIAL_GROUPS), .val (.ref w_EL), .val (.int (0 : Int32)), .val (.ref w_EL), .val (.ref a5), .unset] [])) _
    refine XS.aloadN X3.here hx rfl (hb hby d_prog_108_method_1_16) rfl rfl ?_
    show Steps p.tables e below (T3.setTop (mkF m 17 #[.val (.ref a1), .val (.ref w_PARTIAL_GROUPS), .val (.ref w_EL), .val (.int (0 : Int32)), .val (.ref w_EL), .val (.ref a5), .unset] [(.ref w_PARTIAL_GROUPS)])) _
    refine st4.trans ?_
    show Steps p.tables e below (T4.setTop (mkF m 20 #[.val (.ref a1), .val (.ref w_PARTIAL_GROUPS), .val (.ref w_EL), .val (.int (0 : Int32)), .val (.ref w_EL), .val (.ref a5), .unset] [(.int (2 : Int32))])) _
    refine XS.tswIn X4.here hx rfl (o := 96) (pc0 := 20) (pc' := 116) rfl (hb hby d_prog_108_method_1_20) rfl (by decide) (by decide) (by decide) (by decide) ?_
    show Steps p.tables e below (T4.setTop (mkF m 116 #[.val (.ref a1), .val (.ref w_PARTIAL_GROUPS), .val (.ref w_EL), .val (.int (0 : Int32)), .val (.ref w_EL), .val (.ref a5), .unset] [])) _
    refine XS.iloadN X4.here hx rfl (hb hby d_prog_108_method_1_116) rfl ?_
    show Steps p.tables e below (T4.setTop (mkF m 117 #[.val (.ref a1), .val (.ref w_PARTIAL_GROUPS), .val (.ref w_EL), .val (.int (0 : Int32)), .val (.ref w_EL), .val (.ref a5), .unset] [(.int (0 : Int32))])) _
    refine XS.ifNo X4.here hx rfl (hb hby d_prog_108_method_1_117) rfl ((if0 _ _).trans (flt (by decide)).1) ?_
    show Steps p.tables e below (T4.setTop (mkF m 120 #[.val (.ref a1), .val (.ref w_PARTIAL_GROUPS), .val (.ref w_EL), .val (.int (0 : Int32)), .val (.ref w_EL), .val (.ref a5), .unset] [])) _
    refine XS.aloadN X4.here hx rfl (hb hby d_prog_108_method_1_120) rfl rfl ?_
    show Steps p.tables e below (T4.setTop (mkF m 121 #[.val (.ref a1), .val (.ref w_PARTIAL_GROUPS), .val (.ref w_EL), .val (.int (0 : Int32)), .val (.ref w_EL), .val (.ref a5), .unset] [(.ref w_EL)])) _
    refine st5.trans ?_
    show Steps p.tables e below (T5.setTop (mkF m 126 #[.val (.ref a1), .val (.ref w_PARTIAL_GROUPS), .val (.ref w_EL), .val (.int (0 : Int32)), .val (.ref w_EL), .val (.ref a5), .unset] [(.int (1 : Int32))])) _
    refine XS.ifNo X5.here hx rfl (hb hby d_prog_108_method_1_126) rfl ((if0 _ _).trans (feq (by decide)).1) ?_
    show Steps p.tables e below (T5.setTop (mkF m 129 #[.val (.ref a1), .val (.ref w_PARTIAL_GROUPS), .val (.ref w_EL), .val (.int (0 : Int32)), .val (.ref w_EL), .val (.ref a5), .unset] [])) _
    refine XS.aload X5.here hx rfl (hb hby d_prog_108_method_1_129) rfl rfl ?_
    show Steps p.tables e below (T5.setTop (mkF m 131 #[.val (.ref a1), .val (.ref w_PARTIAL_GROUPS), .val (.ref w_EL), .val (.int (0 : Int32)), .val (.ref w_EL), .val (.ref a5), .unset] [(.ref w_EL)])) _
    refine st6.trans ?_
    show Steps p.tables e below (T6.setTop (mkF m 136 #[.val (.ref a1), .val (.ref w_PARTIAL_GROUPS), .val (.ref w_EL), .val (.int (0 : Int32)), .val (.ref w_EL), .val (.ref a5), .unset] [(.int (1 : Int32))])) _
    refine XS.ifNo X6.here hx rfl (hb hby d_prog_108_method_1_136) rfl ((if0 _ _).trans (feq (by decide)).1) ?_
    show Steps p.tables e below (T6.setTop (mkF m 139 #[.val (.ref a1), .val (.ref w_PARTIAL_GROUPS), .val (.ref w_EL), .val (.int (0 : Int32)), .val (.ref w_EL), .val (.ref a5), .unset] [])) _
    refine XS.aload X6.here hx rfl (hb hby d_prog_108_method_1_139) rfl rfl ?_
    show Steps p.tables e below (T6.setTop (mkF m 141 #[.val (.ref a1), .val (.ref w_PARTIAL_GROUPS), .val (.ref w_EL), .val (.int (0 : Int32)), .val (.ref w_EL), .val (.ref a5), .unset] [(.ref a5)])) _
    refine XS.ifnullNo X6.here hx rfl (hb hby d_prog_108_method_1_141) rfl ?_
    show Steps p.tables e below (T6.setTop (mkF m 144 #[.val (.ref a1), .val (.ref w_PARTIAL_GROUPS), .val (.ref w_EL), .val (.int (0 : Int32)), .val (.ref w_EL), .val (.ref a5), .unset] [])) _
    refine XS.iconst X6.here hx rfl (hb hby d_prog_108_method_1_144) ?_
    show Steps p.tables e below (T6.setTop (mkF m 145 #[.val (.ref a1), .val (.ref w_PARTIAL_GROUPS), .val (.ref w_EL), .val (.int (0 : Int32)), .val (.ref w_EL), .val (.ref a5), .unset] [(.int (1 : Int32))])) _
    refine XS.goto X6.here hx rfl (pc0 := 145) (pc' := 221) rfl (hb hby d_prog_108_method_1_145) (by decide) (by decide) ?_
    show Steps p.tables e below (T6.setTop (mkF m 221 #[.val (.ref a1), .val (.ref w_PARTIAL_GROUPS), .val (.ref w_EL), .val (.int (0 : Int32)), .val (.ref w_EL), .val (.ref a5), .unset] [(.int (1 : Int32))])) _
    refine XS.istore X6.here hx rfl (hb hby d_prog_108_method_1_221) rfl (l' := #[.val (.ref a1), .val (.ref w_PARTIAL_GROUPS), .val (.ref w_EL), .val (.int (0 : Int32)), .val (.ref w_EL), .val (.ref a5), .val (.int (1 : Int32))]) rfl ?_
    show Steps p.tables e below (T6.setTop (mkF m 223 #[.val (.ref a1), .val (.ref w_PARTIAL_GROUPS), .val (.ref w_EL), .val (.int (0 : Int32)), .val (.ref w_EL), .val (.ref a5), .val (.int (1 : Int32))] [])) _
    refine XS.iload X6.here hx rfl (hb hby d_prog_108_method_1_223) rfl ?_
    show Steps p.tables e below (T6.setTop (mkF m 225 #[.val (.ref a1), .val (.ref w_PARTIAL_GROUPS), .val (.ref w_EL), .val (.int (0 : Int32)), .val (.ref w_EL), .val (.ref a5), .val (.int (1 : Int32))] [(.int (1 : Int32))])) _
    refine XS.ifYes X6.here hx rfl (pc0 := 225) (pc' := 278) rfl (hb hby d_prog_108_method_1_225) rfl ((if0 _ _).trans (feq (by decide)).2) (by decide) (by decide) ?_
    show Steps p.tables e below (T6.setTop (mkF m 278 #[.val (.ref a1), .val (.ref w_PARTIAL_GROUPS), .val (.ref w_EL), .val (.int (0 : Int32)), .val (.ref w_EL), .val (.ref a5), .val (.int (1 : Int32))] [])) _
    refine XS.aloadN X6.here hx rfl (hb hby d_prog_108_method_1_278) rfl rfl ?_
    show Steps p.tables e below (T6.setTop (mkF m 279 #[.val (.ref a1), .val (.ref w_PARTIAL_GROUPS), .val (.ref w_EL), .val (.int (0 : Int32)), .val (.ref w_EL), .val (.ref a5), .val (.int (1 : Int32))] [(.ref a1)])) _
    refine XS.aloadN X6.here hx rfl (hb hby d_prog_108_method_1_279) rfl rfl ?_
    show Steps p.tables e below (T6.setTop (mkF m 280 #[.val (.ref a1), .val (.ref w_PARTIAL_GROUPS), .val (.ref w_EL), .val (.int (0 : Int32)), .val (.ref w_EL), .val (.ref a5), .val (.int (1 : Int32))] [(.ref w_PARTIAL_GROUPS), (.ref a1)])) _
    refine st7 _ ?_
    show Steps p.tables e below (T7.setTop (mkF m 283 #[.val (.ref a1), .val (.ref w_PARTIAL_GROUPS), .val (.ref w_EL), .val (.int (0 : Int32)), .val (.ref w_EL), .val (.ref a5), .val (.int (1 : Int32))] [])) _
    refine XS.aloadN X7.here hx rfl (hb hby d_prog_108_method_1_283) rfl rfl ?_
    show Steps p.tables e below (T7.setTop (mkF m 284 #[.val (.ref a1), .val (.ref w_PARTIAL_GROUPS), .val (.ref w_EL), .val (.int (0 : Int32)), .val (.ref w_EL), .val (.ref a5), .val (.int (1 : Int32))] [(.ref a1)])) _
    refine XS.aloadN X7.here hx rfl (hb hby d_prog_108_method_1_284) rfl rfl ?_
    show Steps p.tables e below (T7.setTop (mkF m 285 #[.val (.ref a1), .val (.ref w_PARTIAL_GROUPS), .val (.ref w_EL), .val (.int (0 : Int32)), .val (.ref w_EL), .val (.ref a5), .val (.int (1 : Int32))] [(.ref w_EL), (.ref a1)])) _
    refine st8 _ ?_
    show Steps p.tables e below (T8.setTop (mkF m 288 #[.val (.ref a1), .val (.ref w_PARTIAL_GROUPS), .val (.ref w_EL), .val (.int (0 : Int32)), .val (.ref w_EL), .val (.ref a5), .val (.int (1 : Int32))] [])) _
    refine XS.aloadN X8.here hx rfl (hb hby d_prog_108_method_1_288) rfl rfl ?_
    show Steps p.tables e below (T8.setTop (mkF m 289 #[.val (.ref a1), .val (.ref w_PARTIAL_GROUPS), .val (.ref w_EL), .val (.int (0 : Int32)), .val (.ref w_EL), .val (.ref a5), .val (.int (1 : Int32))] [(.ref a1)])) _
    refine XS.iloadN X8.here hx rfl (hb hby d_prog_108_method_1_289) rfl ?_
    show Steps p.tables e below (T8.setTop (mkF m 290 #[.val (.ref a1), .val (.ref w_PARTIAL_GROUPS), .val (.ref w_EL), .val (.int (0 : Int32)), .val (.ref w_EL), .val (.ref a5), .val (.int (1 : Int32))] [(.int (0 : Int32)), (.ref a1)])) _
    refine st9 _ ?_
    show Steps p.tables e below (T9.setTop (mkF m 293 #[.val (.ref a1), .val (.ref w_PARTIAL_GROUPS), .val (.ref w_EL), .val (.int (0 : Int32)), .val (.ref w_EL), .val (.ref a5), .val (.int (1 : Int32))] [])) _
    refine XS.aloadN X9.here hx rfl (hb hby d_prog_108_method_1_293) rfl rfl ?_
    show Steps p.tables e below (T9.setTop (mkF m 294 #[.val (.ref a1), .val (.ref w_PARTIAL_GROUPS), .val (.ref w_EL), .val (.int (0 : Int32)), .val (.ref w_EL), .val (.ref a5), .val (.int (1 : Int32))] [(.ref a1)])) _
    refine XS.aload X9.here hx rfl (hb hby d_prog_108_method_1_294) rfl rfl ?_
    show Steps p.tables e below (T9.setTop (mkF m 296 #[.val (.ref a1), .val (.ref w_PARTIAL_GROUPS), .val (.ref w_EL), .val (.int (0 : Int32)), .val (.ref w_EL), .val (.ref a5), .val (.int (1 : Int32))] [(.ref w_EL), (.ref a1)])) _
    refine st10 _ ?_
    show Steps p.tables e below (T10.setTop (mkF m 299 #[.val (.ref a1), .val (.ref w_PARTIAL_GROUPS), .val (.ref w_EL), .val (.int (0 : Int32)), .val (.ref w_EL), .val (.ref a5), .val (.int (1 : Int32))] [])) _
    refine XS.aloadN X10.here hx rfl (hb hby d_prog_108_method_1_299) rfl rfl ?_
    show Steps p.tables e below (T10.setTop (mkF m 300 #[.val (.ref a1), .val (.ref w_PARTIAL_GROUPS), .val (.ref w_EL), .val (.int (0 : Int32)), .val (.ref w_EL), .val (.ref a5), .val (.int (1 : Int32))] [(.ref a1)])) _
    refine XS.aload X10.here hx rfl (hb hby d_prog_108_method_1_300) rfl rfl ?_
    show Steps p.tables e below (T10.setTop (mkF m 302 #[.val (.ref a1), .val (.ref w_PARTIAL_GROUPS), .val (.ref w_EL), .val (.int (0 : Int32)), .val (.ref w_EL), .val (.ref a5), .val (.int (1 : Int32))] [(.ref a5), (.ref a1)])) _
    refine st11 _ ?_
    exact k)
  obtain ⟨fs, hr, hrun, hended, hW, hsame⟩ := X11.leave (v := none) (fun _ => rfl)
  refine ⟨_, _, pre12 _ ?_, hrun, hended, _, _, rfl, ?_, ⟨_, rfl⟩, hW, hsame.mono (by decide) (by decide)⟩
  · show Steps p.tables e below (T11.setTop (mkF m 305 #[.val (.ref a1), .val (.ref w_PARTIAL_GROUPS), .val (.ref w_EL), .val (.int (0 : Int32)), .val (.ref w_EL), .val (.ref a5), .val (.int (1 : Int32))] [])) _
    exact X11.returnOut hx Bd.returns (hb hby d_prog_108_method_1_305) hr
  · exact ⟨rfl, N11, by rw [show (T11.setFrames fs).heap = _ from e11]; exact ⟨K11, x11_E_a1, x11_F_a1_buckets⟩⟩
def own_Q_oiN3 (Z : State) (a1 : Addr) (a5 : Addr) (w_ROWS w_RESULT w_PARTIAL_GROUPS w_MERGED_GROUPS w_D w_EL w_EE w_C w_EM w_M : Addr)  (h0 : Heap) (n0 : Nat) (v : Option Value) (h : Heap) (L : List Loc) : Prop := v = none ∧ Fr n0 L ∧ Keep h0 h [a1] ∧ Exa Z h a1 "com/example/cairn/cairn/plan/Stage$Output" ∧ Fld Z h a1 "com/example/cairn/cairn/plan/Stage$Output" "buckets" "I" (.int (0 : Int32))
theorem ef_oiN3 (m : MethodId) (x0 : Addr) (x1 : Addr) (x2 : Addr) (x3 : Int32) (x4 : Addr) (x5 : Addr) : entryFrame m #[(.ref x0), (.ref x1), (.ref x2), (.int x3), (.ref x4), (.ref x5)] 7 = mkF m 0 #[.val (.ref x0), .val (.ref x1), .val (.ref x2), .val (.int x3), .val (.ref x4), .val (.ref x5), .unset] [] := by first | (simp [entryFrame, mkF, argsToLocals, Value.category]; done) | rfl
set_option maxRecDepth 65536 in
set_option maxHeartbeats 40000000 in
theorem rm_oiN3 (l : Launch) (Z : State) (a0 : Array Value) (hw : ∀ d ∈ tables_1, d.before a0 Z = true) (ws : List Jvm.Cond) (a1 : Addr) (a5 : Addr) (h0 : Heap) (n0 : Nat) (w_ROWS w_RESULT w_PARTIAL_GROUPS w_MERGED_GROUPS w_D w_EL w_EE w_C w_EM w_M : Addr) (hK : own_K Z Z.heap w_ROWS w_RESULT w_PARTIAL_GROUPS w_MERGED_GROUPS w_D w_EL w_EE w_C w_EM w_M) (hn0 : n0 = Z.heap.size) (EX0 : Ext Z.heap h0) (E_a1 : Exa Z h0 a1 "com/example/cairn/cairn/plan/Stage$Output") (g_a1 : n0 ≤ a1) (F_shape_a1 : Fld Z h0 a1 "com/example/cairn/cairn/plan/Stage$Output" "shape" "Lcom/example/cairn/cairn/plan/Stage$Shape;" .null) (F_slots_a1 : Fld Z h0 a1 "com/example/cairn/cairn/plan/Stage$Output" "slots" "Ljava/util/List;" .null) (F_buckets_a1 : Fld Z h0 a1 "com/example/cairn/cairn/plan/Stage$Output" "buckets" "I" (.int (0 : Int32))) (F_keys_a1 : Fld Z h0 a1 "com/example/cairn/cairn/plan/Stage$Output" "keys" "Ljava/util/List;" .null) (F_grouping_a1 : Fld Z h0 a1 "com/example/cairn/cairn/plan/Stage$Output" "grouping" "Lcom/example/cairn/cairn/plan/Grouping;" .null) :
    MetFree l (⟨"com/example/cairn/cairn/plan/Stage$Output", "<init>", "(Lcom/example/cairn/cairn/plan/Stage$Shape;Ljava/util/List;ILjava/util/List;Lcom/example/cairn/cairn/plan/Grouping;)V"⟩ : MethodName) (head1 (Jvm.Cond.code (⟨"com/example/cairn/cairn/plan/Stage$Output", "<init>", "(Lcom/example/cairn/cairn/plan/Stage$Shape;Ljava/util/List;ILjava/util/List;Lcom/example/cairn/cairn/plan/Grouping;)V"⟩ : MethodName) prog_108_method_1_code 7 none :: ws) ({ frames := 2, cells := 0, slots := 0, locals := 25 } : Room)) (fun a U => a = #[(.ref a1), (.ref w_MERGED_GROUPS), (.ref w_EL), (.int (0 : Int32)), (.ref w_EL), (.ref a5)] ∧ Z.Warmed39 U.vm ∧ U.heap = h0) (fun _ _ _ _ _ => True) (fun _ U o U' => ∃ v L, o = .returned v ∧ own_Q_oiN3 Z a1 a5 w_ROWS w_RESULT w_PARTIAL_GROUPS w_MERGED_GROUPS w_D w_EL w_EE w_C w_EM w_M h0 n0 v U'.heap L ∧ FrameEnd U o U' L ({ frames := 2, cells := 0, slots := 0, locals := 25 } : Room).cells ({ frames := 2, cells := 0, slots := 0, locals := 25 } : Room).slots) := by
  refine MetFree.of_bodySF (plainFor_of_name pn_16) hisR ?_
  intro p e s m args below meth c s₁ Bd hml0 hP hK0
  obtain ⟨rfl, hZ, hh⟩ := hP
  have hx := Bd.exec
  have hby := Bd.bytes
  have hml : c.maxLocals = 7 := hml0
  have hown : s.vm.findClass "com/example/cairn/cairn/plan/Stage$Output" = some m.cls := findClass_of_methodNamed Bd.named
  have hnm := (name_of_methodNamed Bd.named Bd.method).1
  have X0 : Stand p l e ({ frames := 2, cells := 0, slots := 0, locals := 25 } : Room) s m #[(.ref a1), (.ref w_MERGED_GROUPS), (.ref w_EL), (.int (0 : Int32)), (.ref w_EL), (.ref a5)] below meth c s₁ [] 0 0 := Stand.of_body Bd
  have e0 : s₁.heap = h0 := by rw [← hh, Bd.state]; rfl
  have N0 := Fr.nil n0
  have pre0 : ∀ t, Steps p.tables e below (s₁.setTop (mkF m 0 #[.val (.ref a1), .val (.ref w_MERGED_GROUPS), .val (.ref w_EL), .val (.int (0 : Int32)), .val (.ref w_EL), .val (.ref a5), .unset] [])) t → Steps p.tables e below (s₁.setTop (entryFrame m #[(.ref a1), (.ref w_MERGED_GROUPS), (.ref w_EL), (.int (0 : Int32)), (.ref w_EL), (.ref a5)] 7)) t := fun t k => castTop (ef_oiN3 m a1 w_MERGED_GROUPS w_EL ((0 : Int32)) w_EL a5) k
  have hK' := hK
  obtain ⟨S_w_ROWS, E_w_ROWS, F_ordinal_w_ROWS, S_w_RESULT, E_w_RESULT, F_ordinal_w_RESULT, S_w_PARTIAL_GROUPS, E_w_PARTIAL_GROUPS, F_ordinal_w_PARTIAL_GROUPS, S_w_MERGED_GROUPS, E_w_MERGED_GROUPS, F_ordinal_w_MERGED_GROUPS, S_w_D, B_w_D, S_w_EL, E_w_EL, F_elements_w_EL, B_w_EE, F_allowNulls_w_EL, S_high, S_w_C, C_w_C, S_w_EM, M_w_M⟩ := hK'
  obtain ⟨cl_w_D, A_w_D, q_w_D⟩ := B_w_D
  obtain ⟨cl_w_EE, A_w_EE, q_w_EE⟩ := B_w_EE
  obtain ⟨v1, _, ⟨T1, L1, k1, n1⟩, -, X1, ⟨Lc1, hQ1, l1, y1, z1⟩, st1⟩ := X0.specialBack hx (y := (⟨"java/lang/Record", "<init>", "()V"⟩ : MethodName)) rfl hown (mvT hZ (hw _ (ow 116 rfl))) (mvT hZ (hw _ (ow 33 rfl))) (mvT hZ (hw _ (ow 36 rfl))) (by decide) (backOf (W := 0) (rm_recinit l Z a0 hw [] a1 h0 n0) hZ (hw _ (ow 36 rfl)) (hw _ (ow 35 rfl)) (by decide) (by decide)) (g := (mkF m 1 #[.val (.ref a1), .val (.ref w_MERGED_GROUPS), .val (.ref w_EL), .val (.int (0 : Int32)), .val (.ref w_EL), .val (.ref a5), .unset] [(.ref a1)])) rfl (by rw [hml]; rfl) (Steps.refl _) (a := a1) (argsL := []) (rest := []) (lenOf pd_0 rfl) rfl (Nat.le_of_eq rfl) (hb hby d_prog_108_method_1_1) (fun _ _ => ⟨rfl, e0, (by decide : 0 + 0 ≤ _), (by decide : 0 + 0 ≤ _)⟩)
  dsimp only [Pt.U, Pt.locs, Pt.cells, Pt.slots] at X1 l1 y1 z1 st1 hQ1
  subst y1 z1
  obtain ⟨hv1, Nq1, e1⟩ := hQ1
  obtain rfl : v1 = none := hv1
  have N1 : Fr n0 L1 := by rw [l1]; exact Fr.app N0 Nq1
  obtain ⟨v2, _, ⟨T2, L2, k2, n2⟩, -, X2, ⟨Lc2, hQ2, l2, y2, z2⟩, st2⟩ := Jvm.LawKit.callS X1 hx (y := (⟨"java/util/List", "copyOf", "(Ljava/util/Collection;)Ljava/util/List;"⟩ : MethodName)) hown (mvT hZ (hw _ (ow 117 rfl))) (mvT hZ (hw _ (ow 39 rfl))) (mvT hZ (hw _ (ow 40 rfl))) (mvT hZ (hw _ (ow 41 rfl))) (by decide) (backOf (W := 0) (rm_coN l Z a0 hw []  h0 n0 w_ROWS w_RESULT w_PARTIAL_GROUPS w_MERGED_GROUPS w_D w_EL w_EE w_C w_EM w_M hK hn0 EX0) hZ (hw _ (ow 41 rfl)) (hw _ (ow 40 rfl)) (by decide) (by decide)) (g := (mkF m 5 #[.val (.ref a1), .val (.ref w_MERGED_GROUPS), .val (.ref w_EL), .val (.int (0 : Int32)), .val (.ref w_EL), .val (.ref a5), .unset] [(.ref w_EL)])) rfl (by rw [hml]; rfl) (argsL := [(.ref w_EL)]) (rest := []) (lenOf pd_3 rfl) rfl (Nat.le_of_eq rfl) (hb hby d_prog_108_method_1_5) (fun _ _ => ⟨rfl, e1, (by decide : 0 + 0 ≤ _), (by decide : 0 + 0 ≤ _)⟩)
  dsimp only [Pt.U, Pt.locs, Pt.cells, Pt.slots] at X2 l2 y2 z2 st2 hQ2
  subst y2 z2
  obtain ⟨hv2, Nq2, Kq2⟩ := hQ2
  obtain rfl : v2 = some (.ref w_EL) := hv2
  have N2 : Fr n0 L2 := by rw [l2]; exact Fr.app N1 Nq2
  have x2_E_a1 := E_a1.keep Kq2
  have x2_F_a1_shape := F_shape_a1.keep Kq2 nin0
  have x2_F_a1_slots := F_slots_a1.keep Kq2 nin0
  have x2_F_a1_buckets := F_buckets_a1.keep Kq2 nin0
  have x2_F_a1_keys := F_keys_a1.keep Kq2 nin0
  have x2_F_a1_grouping := F_grouping_a1.keep Kq2 nin0
  have EX2 := own_ext_keepL EX0 Kq2 all0
  have K2 := Keep.trans (Keep.refl h0 [a1]) Kq2 all0
  obtain ⟨v3, _, ⟨T3, L3, k3, n3⟩, -, X3, ⟨Lc3, hQ3, l3, y3, z3⟩, st3⟩ := Jvm.LawKit.callS X2 hx (y := (⟨"java/util/List", "copyOf", "(Ljava/util/Collection;)Ljava/util/List;"⟩ : MethodName)) hown (mvT hZ (hw _ (ow 117 rfl))) (mvT hZ (hw _ (ow 39 rfl))) (mvT hZ (hw _ (ow 40 rfl))) (mvT hZ (hw _ (ow 41 rfl))) (by decide) (backOf (W := 0) (rm_coN l Z a0 hw []  T2.heap n0 w_ROWS w_RESULT w_PARTIAL_GROUPS w_MERGED_GROUPS w_D w_EL w_EE w_C w_EM w_M hK hn0 EX2) hZ (hw _ (ow 41 rfl)) (hw _ (ow 40 rfl)) (by decide) (by decide)) (g := (mkF m 11 #[.val (.ref a1), .val (.ref w_MERGED_GROUPS), .val (.ref w_EL), .val (.int (0 : Int32)), .val (.ref w_EL), .val (.ref a5), .unset] [(.ref w_EL)])) rfl (by rw [hml]; rfl) (argsL := [(.ref w_EL)]) (rest := []) (lenOf pd_3 rfl) rfl (Nat.le_of_eq rfl) (hb hby d_prog_108_method_1_11) (fun _ _ => ⟨rfl, (rfl : T2.heap = T2.heap), (by decide : 0 + 0 ≤ _), (by decide : 0 + 0 ≤ _)⟩)
  dsimp only [Pt.U, Pt.locs, Pt.cells, Pt.slots] at X3 l3 y3 z3 st3 hQ3
  subst y3 z3
  obtain ⟨hv3, Nq3, Kq3⟩ := hQ3
  obtain rfl : v3 = some (.ref w_EL) := hv3
  have N3 : Fr n0 L3 := by rw [l3]; exact Fr.app N2 Nq3
  have x3_E_a1 := x2_E_a1.keep Kq3
  have x3_F_a1_shape := x2_F_a1_shape.keep Kq3 nin0
  have x3_F_a1_slots := x2_F_a1_slots.keep Kq3 nin0
  have x3_F_a1_buckets := x2_F_a1_buckets.keep Kq3 nin0
  have x3_F_a1_keys := x2_F_a1_keys.keep Kq3 nin0
  have x3_F_a1_grouping := x2_F_a1_grouping.keep Kq3 nin0
  have EX3 := own_ext_keepL EX2 Kq3 all0
  have K3 := Keep.trans K2 Kq3 all0
  obtain ⟨cq4, kq4, q4a, q4b, q4c⟩ := isOf hZ (rfl : T3.heap = T3.heap) (E_w_MERGED_GROUPS.ext EX3)
  obtain ⟨v4, _, ⟨T4, L4, k4, n4⟩, -, X4, ⟨Lc4, hQ4, l4, y4, z4⟩, st4⟩ := X3.virtualBackUp hx (x := (⟨"com/example/cairn/cairn/plan/Stage$Shape", "ordinal", "()I"⟩ : MethodName)) (y := (⟨"java/lang/Enum", "ordinal", "()I"⟩ : MethodName)) (owner := "java/lang/Enum") hown (mvT hZ (hw _ (ow 181 rfl))) (mvT hZ (hw _ (ow 182 rfl))) (mvT hZ (hw _ (ow 183 rfl))) (by decide) (mvT hZ (hw _ (ow 185 rfl))) (mvT hZ (hw _ (ow 184 rfl))) (backOf (W := 0) (rm_ordinal l Z a0 hw [] w_MERGED_GROUPS (3 : Int32) T3.heap n0 (F_ordinal_w_MERGED_GROUPS.ext EX3)) hZ (hw _ (ow 187 rfl)) (hw _ (ow 186 rfl)) (by decide) (by decide)) q4a q4c (g := (mkF m 17 #[.val (.ref a1), .val (.ref w_MERGED_GROUPS), .val (.ref w_EL), .val (.int (0 : Int32)), .val (.ref w_EL), .val (.ref a5), .unset] [(.ref w_MERGED_GROUPS)])) rfl (by rw [hml]; rfl) (Steps.refl _) (argsL := []) (rest := []) (lenOf pd_14 rfl) rfl (Nat.le_of_eq rfl) (hb hby d_prog_108_method_1_17) (fun _ _ => ⟨rfl, (rfl : T3.heap = T3.heap), (by decide : 0 + 0 ≤ _), (by decide : 0 + 0 ≤ _)⟩)
  dsimp only [Pt.U, Pt.locs, Pt.cells, Pt.slots] at X4 l4 y4 z4 st4 hQ4
  subst y4 z4
  obtain ⟨hv4, Nq4, e4⟩ := hQ4
  obtain rfl : v4 = some (.int (3 : Int32)) := hv4
  have N4 : Fr n0 L4 := by rw [l4]; exact Fr.app N3 Nq4
  obtain ⟨cq5, kq5, q5a, q5b, q5c⟩ := isOf hZ e4 (E_w_EL.ext EX3)
  obtain ⟨v5, _, ⟨T5, L5, k5, n5⟩, -, X5, ⟨Lc5, hQ5, l5, y5, z5⟩, st5⟩ := X4.interfaceBack hx (xi := (⟨"java/util/List", "isEmpty", "()Z"⟩ : MethodName)) (y := (⟨"java/util/ImmutableCollections$ListN", "isEmpty", "()Z"⟩ : MethodName)) hown (mvT hZ (hw _ (ow 190 rfl))) (mvT hZ (hw _ (ow 191 rfl))) (mvT hZ (hw _ (ow 192 rfl))) (mvT hZ (hw _ (ow 199 rfl))) (mvT hZ (hw _ (ow 200 rfl))) (mvT hZ (hw _ (ow 201 rfl))) (mvT hZ (hw _ (ow 202 rfl))) (mvT hZ (hw _ (ow 203 rfl))) (by decide) (backOf (W := 0) (rm_lniE l Z a0 hw []  T3.heap n0 w_ROWS w_RESULT w_PARTIAL_GROUPS w_MERGED_GROUPS w_D w_EL w_EE w_C w_EM w_M (own_K_ext EX3 hK)) hZ (hw _ (ow 205 rfl)) (hw _ (ow 204 rfl)) (by decide) (by decide)) q5a q5b q5c (g := (mkF m 157 #[.val (.ref a1), .val (.ref w_MERGED_GROUPS), .val (.ref w_EL), .val (.int (0 : Int32)), .val (.ref w_EL), .val (.ref a5), .unset] [(.ref w_EL)])) rfl (by rw [hml]; rfl) (Steps.refl _) (argsL := []) (rest := []) (lenOf pd_1 rfl) rfl (Nat.le_of_eq rfl) (hb hby d_prog_108_method_1_157) (fun _ _ => ⟨rfl, e4, (by decide : 0 + 0 ≤ _), (by decide : 0 + 0 ≤ _)⟩)
  dsimp only [Pt.U, Pt.locs, Pt.cells, Pt.slots] at X5 l5 y5 z5 st5 hQ5
  subst y5 z5
  obtain ⟨hv5, Nq5, e5⟩ := hQ5
  obtain rfl : v5 = some (.int (1 : Int32)) := hv5
  have N5 : Fr n0 L5 := by rw [l5]; exact Fr.app N4 Nq5
  obtain ⟨cq6, kq6, q6a, q6b, q6c⟩ := isOf hZ e5 (E_w_EL.ext EX3)
  obtain ⟨v6, _, ⟨T6, L6, k6, n6⟩, -, X6, ⟨Lc6, hQ6, l6, y6, z6⟩, st6⟩ := X5.interfaceBack hx (xi := (⟨"java/util/List", "isEmpty", "()Z"⟩ : MethodName)) (y := (⟨"java/util/ImmutableCollections$ListN", "isEmpty", "()Z"⟩ : MethodName)) hown (mvT hZ (hw _ (ow 190 rfl))) (mvT hZ (hw _ (ow 191 rfl))) (mvT hZ (hw _ (ow 192 rfl))) (mvT hZ (hw _ (ow 199 rfl))) (mvT hZ (hw _ (ow 200 rfl))) (mvT hZ (hw _ (ow 201 rfl))) (mvT hZ (hw _ (ow 202 rfl))) (mvT hZ (hw _ (ow 203 rfl))) (by decide) (backOf (W := 0) (rm_lniE l Z a0 hw []  T3.heap n0 w_ROWS w_RESULT w_PARTIAL_GROUPS w_MERGED_GROUPS w_D w_EL w_EE w_C w_EM w_M (own_K_ext EX3 hK)) hZ (hw _ (ow 205 rfl)) (hw _ (ow 204 rfl)) (by decide) (by decide)) q6a q6b q6c (g := (mkF m 167 #[.val (.ref a1), .val (.ref w_MERGED_GROUPS), .val (.ref w_EL), .val (.int (0 : Int32)), .val (.ref w_EL), .val (.ref a5), .unset] [(.ref w_EL)])) rfl (by rw [hml]; rfl) (Steps.refl _) (argsL := []) (rest := []) (lenOf pd_1 rfl) rfl (Nat.le_of_eq rfl) (hb hby d_prog_108_method_1_167) (fun _ _ => ⟨rfl, e5, (by decide : 0 + 0 ≤ _), (by decide : 0 + 0 ≤ _)⟩)
  dsimp only [Pt.U, Pt.locs, Pt.cells, Pt.slots] at X6 l6 y6 z6 st6 hQ6
  subst y6 z6
  obtain ⟨hv6, Nq6, e6⟩ := hQ6
  obtain rfl : v6 = some (.int (1 : Int32)) := hv6
  have N6 : Fr n0 L6 := by rw [l6]; exact Fr.app N5 Nq6
  obtain ⟨T7, h7, X7, e7, W7, st7⟩ := putF X6 hx hZ hown (host := "") (Or.inl (hw _ (ow 208 rfl))) Via.refl e6 x3_F_a1_shape x3_E_a1 (Or.inr ⟨(hw _ (ow 209 rfl)), rfl, hnm⟩) (hw _ (ow 111 rfl)) (ty := (.object "com/example/cairn/cairn/plan/Stage$Shape")) (by decide) rfl rfl (g := (mkF m 280 #[.val (.ref a1), .val (.ref w_MERGED_GROUPS), .val (.ref w_EL), .val (.int (0 : Int32)), .val (.ref w_EL), .val (.ref a5), .val (.int (1 : Int32))] [(.ref w_MERGED_GROUPS), (.ref a1)])) rfl rfl (hb hby d_prog_108_method_1_280)
  have x7_E_a1 := x3_E_a1.wr W7
  have x7_F_a1_shape := x3_F_a1_shape.same W7
  have x7_F_a1_slots := x3_F_a1_slots.other W7 (Or.inr (slot_ne (Or.inr (hw _ (ow 211 rfl))) (Or.inr (hw _ (ow 209 rfl))) (by decide) (t := (.object "java/util/List")) (t' := (.object "com/example/cairn/cairn/plan/Stage$Shape")) (by decide) (by decide)))
  have x7_F_a1_buckets := x3_F_a1_buckets.other W7 (Or.inr (slot_ne (Or.inr (hw _ (ow 213 rfl))) (Or.inr (hw _ (ow 209 rfl))) (by decide) (t := .int) (t' := (.object "com/example/cairn/cairn/plan/Stage$Shape")) (by decide) (by decide)))
  have x7_F_a1_keys := x3_F_a1_keys.other W7 (Or.inr (slot_ne (Or.inr (hw _ (ow 215 rfl))) (Or.inr (hw _ (ow 209 rfl))) (by decide) (t := (.object "java/util/List")) (t' := (.object "com/example/cairn/cairn/plan/Stage$Shape")) (by decide) (by decide)))
  have x7_F_a1_grouping := x3_F_a1_grouping.other W7 (Or.inr (slot_ne (Or.inr (hw _ (ow 217 rfl))) (Or.inr (hw _ (ow 209 rfl))) (by decide) (t := (.object "com/example/cairn/cairn/plan/Grouping")) (t' := (.object "com/example/cairn/cairn/plan/Stage$Shape")) (by decide) (by decide)))
  have EX7 := own_ext_wr EX3 W7 (hn0 ▸ g_a1)
  have K7 := Keep.wr K3 W7 (Or.inl (List.mem_of_getElem? (i := 0) rfl))
  have N7 := Fr.snoc X7 N6 g_a1
  obtain ⟨T8, h8, X8, e8, W8, st8⟩ := putF X7 hx hZ hown (host := "") (Or.inl (hw _ (ow 210 rfl))) Via.refl e7 x7_F_a1_slots x7_E_a1 (Or.inr ⟨(hw _ (ow 211 rfl)), rfl, hnm⟩) (hw _ (ow 111 rfl)) (ty := (.object "java/util/List")) (by decide) rfl rfl (g := (mkF m 285 #[.val (.ref a1), .val (.ref w_MERGED_GROUPS), .val (.ref w_EL), .val (.int (0 : Int32)), .val (.ref w_EL), .val (.ref a5), .val (.int (1 : Int32))] [(.ref w_EL), (.ref a1)])) rfl rfl (hb hby d_prog_108_method_1_285)
  have x8_E_a1 := x7_E_a1.wr W8
  have x8_F_a1_shape := x7_F_a1_shape.other W8 (Or.inr (slot_ne (Or.inr (hw _ (ow 209 rfl))) (Or.inr (hw _ (ow 211 rfl))) (by decide) (t := (.object "com/example/cairn/cairn/plan/Stage$Shape")) (t' := (.object "java/util/List")) (by decide) (by decide)))
  have x8_F_a1_slots := x7_F_a1_slots.same W8
  have x8_F_a1_buckets := x7_F_a1_buckets.other W8 (Or.inr (slot_ne (Or.inr (hw _ (ow 213 rfl))) (Or.inr (hw _ (ow 211 rfl))) (by decide) (t := .int) (t' := (.object "java/util/List")) (by decide) (by decide)))
  have x8_F_a1_keys := x7_F_a1_keys.other W8 (Or.inr (slot_ne (Or.inr (hw _ (ow 215 rfl))) (Or.inr (hw _ (ow 211 rfl))) (by decide) (t := (.object "java/util/List")) (t' := (.object "java/util/List")) (by decide) (by decide)))
  have x8_F_a1_grouping := x7_F_a1_grouping.other W8 (Or.inr (slot_ne (Or.inr (hw _ (ow 217 rfl))) (Or.inr (hw _ (ow 211 rfl))) (by decide) (t := (.object "com/example/cairn/cairn/plan/Grouping")) (t' := (.object "java/util/List")) (by decide) (by decide)))
  have EX8 := own_ext_wr EX7 W8 (hn0 ▸ g_a1)
  have K8 := Keep.wr K7 W8 (Or.inl (List.mem_of_getElem? (i := 0) rfl))
  have N8 := Fr.snoc X8 N7 g_a1
  obtain ⟨T9, h9, X9, e9, W9, st9⟩ := putF X8 hx hZ hown (host := "") (Or.inl (hw _ (ow 212 rfl))) Via.refl e8 x8_F_a1_buckets x8_E_a1 (Or.inr ⟨(hw _ (ow 213 rfl)), rfl, hnm⟩) (hw _ (ow 111 rfl)) (ty := .int) (by decide) rfl rfl (g := (mkF m 290 #[.val (.ref a1), .val (.ref w_MERGED_GROUPS), .val (.ref w_EL), .val (.int (0 : Int32)), .val (.ref w_EL), .val (.ref a5), .val (.int (1 : Int32))] [(.int (0 : Int32)), (.ref a1)])) rfl rfl (hb hby d_prog_108_method_1_290)
  have x9_E_a1 := x8_E_a1.wr W9
  have x9_F_a1_shape := x8_F_a1_shape.other W9 (Or.inr (slot_ne (Or.inr (hw _ (ow 209 rfl))) (Or.inr (hw _ (ow 213 rfl))) (by decide) (t := (.object "com/example/cairn/cairn/plan/Stage$Shape")) (t' := .int) (by decide) (by decide)))
  have x9_F_a1_slots := x8_F_a1_slots.other W9 (Or.inr (slot_ne (Or.inr (hw _ (ow 211 rfl))) (Or.inr (hw _ (ow 213 rfl))) (by decide) (t := (.object "java/util/List")) (t' := .int) (by decide) (by decide)))
  have x9_F_a1_buckets := x8_F_a1_buckets.same W9
  have x9_F_a1_keys := x8_F_a1_keys.other W9 (Or.inr (slot_ne (Or.inr (hw _ (ow 215 rfl))) (Or.inr (hw _ (ow 213 rfl))) (by decide) (t := (.object "java/util/List")) (t' := .int) (by decide) (by decide)))
  have x9_F_a1_grouping := x8_F_a1_grouping.other W9 (Or.inr (slot_ne (Or.inr (hw _ (ow 217 rfl))) (Or.inr (hw _ (ow 213 rfl))) (by decide) (t := (.object "com/example/cairn/cairn/plan/Grouping")) (t' := .int) (by decide) (by decide)))
  have EX9 := own_ext_wr EX8 W9 (hn0 ▸ g_a1)
  have K9 := Keep.wr K8 W9 (Or.inl (List.mem_of_getElem? (i := 0) rfl))
  have N9 := Fr.snoc X9 N8 g_a1
  obtain ⟨T10, h10, X10, e10, W10, st10⟩ := putF X9 hx hZ hown (host := "") (Or.inl (hw _ (ow 214 rfl))) Via.refl e9 x9_F_a1_keys x9_E_a1 (Or.inr ⟨(hw _ (ow 215 rfl)), rfl, hnm⟩) (hw _ (ow 111 rfl)) (ty := (.object "java/util/List")) (by decide) rfl rfl (g := (mkF m 296 #[.val (.ref a1), .val (.ref w_MERGED_GROUPS), .val (.ref w_EL), .val (.int (0 : Int32)), .val (.ref w_EL), .val (.ref a5), .val (.int (1 : Int32))] [(.ref w_EL), (.ref a1)])) rfl rfl (hb hby d_prog_108_method_1_296)
  have x10_E_a1 := x9_E_a1.wr W10
  have x10_F_a1_shape := x9_F_a1_shape.other W10 (Or.inr (slot_ne (Or.inr (hw _ (ow 209 rfl))) (Or.inr (hw _ (ow 215 rfl))) (by decide) (t := (.object "com/example/cairn/cairn/plan/Stage$Shape")) (t' := (.object "java/util/List")) (by decide) (by decide)))
  have x10_F_a1_slots := x9_F_a1_slots.other W10 (Or.inr (slot_ne (Or.inr (hw _ (ow 211 rfl))) (Or.inr (hw _ (ow 215 rfl))) (by decide) (t := (.object "java/util/List")) (t' := (.object "java/util/List")) (by decide) (by decide)))
  have x10_F_a1_buckets := x9_F_a1_buckets.other W10 (Or.inr (slot_ne (Or.inr (hw _ (ow 213 rfl))) (Or.inr (hw _ (ow 215 rfl))) (by decide) (t := .int) (t' := (.object "java/util/List")) (by decide) (by decide)))
  have x10_F_a1_keys := x9_F_a1_keys.same W10
  have x10_F_a1_grouping := x9_F_a1_grouping.other W10 (Or.inr (slot_ne (Or.inr (hw _ (ow 217 rfl))) (Or.inr (hw _ (ow 215 rfl))) (by decide) (t := (.object "com/example/cairn/cairn/plan/Grouping")) (t' := (.object "java/util/List")) (by decide) (by decide)))
  have EX10 := own_ext_wr EX9 W10 (hn0 ▸ g_a1)
  have K10 := Keep.wr K9 W10 (Or.inl (List.mem_of_getElem? (i := 0) rfl))
  have N10 := Fr.snoc X10 N9 g_a1
  obtain ⟨T11, h11, X11, e11, W11, st11⟩ := putF X10 hx hZ hown (host := "") (Or.inl (hw _ (ow 216 rfl))) Via.refl e10 x10_F_a1_grouping x10_E_a1 (Or.inr ⟨(hw _ (ow 217 rfl)), rfl, hnm⟩) (hw _ (ow 111 rfl)) (ty := (.object "com/example/cairn/cairn/plan/Grouping")) (by decide) rfl rfl (g := (mkF m 302 #[.val (.ref a1), .val (.ref w_MERGED_GROUPS), .val (.ref w_EL), .val (.int (0 : Int32)), .val (.ref w_EL), .val (.ref a5), .val (.int (1 : Int32))] [(.ref a5), (.ref a1)])) rfl rfl (hb hby d_prog_108_method_1_302)
  have x11_E_a1 := x10_E_a1.wr W11
  have x11_F_a1_shape := x10_F_a1_shape.other W11 (Or.inr (slot_ne (Or.inr (hw _ (ow 209 rfl))) (Or.inr (hw _ (ow 217 rfl))) (by decide) (t := (.object "com/example/cairn/cairn/plan/Stage$Shape")) (t' := (.object "com/example/cairn/cairn/plan/Grouping")) (by decide) (by decide)))
  have x11_F_a1_slots := x10_F_a1_slots.other W11 (Or.inr (slot_ne (Or.inr (hw _ (ow 211 rfl))) (Or.inr (hw _ (ow 217 rfl))) (by decide) (t := (.object "java/util/List")) (t' := (.object "com/example/cairn/cairn/plan/Grouping")) (by decide) (by decide)))
  have x11_F_a1_buckets := x10_F_a1_buckets.other W11 (Or.inr (slot_ne (Or.inr (hw _ (ow 213 rfl))) (Or.inr (hw _ (ow 217 rfl))) (by decide) (t := .int) (t' := (.object "com/example/cairn/cairn/plan/Grouping")) (by decide) (by decide)))
  have x11_F_a1_keys := x10_F_a1_keys.other W11 (Or.inr (slot_ne (Or.inr (hw _ (ow 215 rfl))) (Or.inr (hw _ (ow 217 rfl))) (by decide) (t := (.object "java/util/List")) (t' := (.object "com/example/cairn/cairn/plan/Grouping")) (by decide) (by decide)))
  have x11_F_a1_grouping := x10_F_a1_grouping.same W11
  have EX11 := own_ext_wr EX10 W11 (hn0 ▸ g_a1)
  have K11 := Keep.wr K10 W11 (Or.inl (List.mem_of_getElem? (i := 0) rfl))
  have N11 := Fr.snoc X11 N10 g_a1
  have pre12 : ∀ t, Steps p.tables e below (T11.setTop (mkF m 305 #[.val (.ref a1), .val (.ref w_MERGED_GROUPS), .val (.ref w_EL), .val (.int (0 : Int32)), .val (.ref w_EL), .val (.ref a5), .val (.int (1 : Int32))] [])) t → Steps p.tables e below (s₁.setTop (entryFrame m #[(.ref a1), (.ref w_MERGED_GROUPS), (.ref w_EL), (.int (0 : Int32)), (.ref w_EL), (.ref a5)] 7)) t := fun t k => pre0 t (by
    show Steps p.tables e below (s₁.setTop (mkF m 0 #[.val (.ref a1), .val (.ref w_MERGED_GROUPS), .val (.ref w_EL), .val (.int (0 : Int32)), .val (.ref w_EL), .val (.ref a5), .unset] [])) _
    refine XS.aloadN X0.here hx rfl (hb hby d_prog_108_method_1_0) rfl rfl ?_
    show Steps p.tables e below (s₁.setTop (mkF m 1 #[.val (.ref a1), .val (.ref w_MERGED_GROUPS), .val (.ref w_EL), .val (.int (0 : Int32)), .val (.ref w_EL), .val (.ref a5), .unset] [(.ref a1)])) _
    refine st1.trans ?_
    show Steps p.tables e below (T1.setTop (mkF m 4 #[.val (.ref a1), .val (.ref w_MERGED_GROUPS), .val (.ref w_EL), .val (.int (0 : Int32)), .val (.ref w_EL), .val (.ref a5), .unset] [])) _
    refine XS.aloadN X1.here hx rfl (hb hby d_prog_108_method_1_4) rfl rfl ?_
    show Steps p.tables e below (T1.setTop (mkF m 5 #[.val (.ref a1), .val (.ref w_MERGED_GROUPS), .val (.ref w_EL), .val (.int (0 : Int32)), .val (.ref w_EL), .val (.ref a5), .unset] [(.ref w_EL)])) _
    refine st2 _ ?_
    show Steps p.tables e below (T2.setTop (mkF m 8 #[.val (.ref a1), .val (.ref w_MERGED_GROUPS), .val (.ref w_EL), .val (.int (0 : Int32)), .val (.ref w_EL), .val (.ref a5), .unset] [(.ref w_EL)])) _
    refine XS.astoreN X2.here hx rfl (hb hby d_prog_108_method_1_8) rfl rfl (l' := #[.val (.ref a1), .val (.ref w_MERGED_GROUPS), .val (.ref w_EL), .val (.int (0 : Int32)), .val (.ref w_EL), .val (.ref a5), .unset]) rfl ?_
    show Steps p.tables e below (T2.setTop (mkF m 9 #[.val (.ref a1), .val (.ref w_MERGED_GROUPS), .val (.ref w_EL), .val (.int (0 : Int32)), .val (.ref w_EL), .val (.ref a5), .unset] [])) _
    refine XS.aload X2.here hx rfl (hb hby d_prog_108_method_1_9) rfl rfl ?_
    show Steps p.tables e below (T2.setTop (mkF m 11 #[.val (.ref a1), .val (.ref w_MERGED_GROUPS), .val (.ref w_EL), .val (.int (0 : Int32)), .val (.ref w_EL), .val (.ref a5), .unset] [(.ref w_EL)])) _
    refine st3 _ ?_
    show Steps p.tables e below (T3.setTop (mkF m 14 #[.val (.ref a1), .val (.ref w_MERGED_GROUPS), .val (.ref w_EL), .val (.int (0 : Int32)), .val (.ref w_EL), .val (.ref a5), .unset] [(.ref w_EL)])) _
    refine XS.astore X3.here hx rfl (hb hby d_prog_108_method_1_14) rfl rfl (l' := #[.val (.ref a1), .val (.ref w_MERGED_GROUPS), .val (.ref w_EL), .val (.int (0 : Int32)), .val (.ref w_EL), .val (.ref a5), .unset]) rfl ?_
    show Steps p.tables e below (T3.setTop (mkF m 16 #[.val (.ref a1), .val (.ref w_MERGED_GROUPS), .val (.ref w_EL), .val (.int (0 : Int32)), .val (.ref w_EL), .val (.ref a5), .unset] [])) _
    refine XS.aloadN X3.here hx rfl (hb hby d_prog_108_method_1_16) rfl rfl ?_
    show Steps p.tables e below (T3.setTop (mkF m 17 #[.val (.ref a1), .val (.ref w_MERGED_GROUPS), .val (.ref w_EL), .val (.int (0 : Int32)), .val (.ref w_EL), .val (.ref a5), .unset] [(.ref w_MERGED_GROUPS)])) _
    refine st4.trans ?_
    show Steps p.tables e below (T4.setTop (mkF m 20 #[.val (.ref a1), .val (.ref w_MERGED_GROUPS), .val (.ref w_EL), .val (.int (0 : Int32)), .val (.ref w_EL), .val (.ref a5), .unset] [(.int (3 : Int32))])) _
    refine XS.tswIn X4.here hx rfl (o := 132) (pc0 := 20) (pc' := 152) rfl (hb hby d_prog_108_method_1_20) rfl (by decide) (by decide) (by decide) (by decide) ?_
    show Steps p.tables e below (T4.setTop (mkF m 152 #[.val (.ref a1), .val (.ref w_MERGED_GROUPS), .val (.ref w_EL), .val (.int (0 : Int32)), .val (.ref w_EL), .val (.ref a5), .unset] [])) _
    refine XS.iloadN X4.here hx rfl (hb hby d_prog_108_method_1_152) rfl ?_
    show Steps p.tables e below (T4.setTop (mkF m 153 #[.val (.ref a1), .val (.ref w_MERGED_GROUPS), .val (.ref w_EL), .val (.int (0 : Int32)), .val (.ref w_EL), .val (.ref a5), .unset] [(.int (0 : Int32))])) _
    refine XS.ifNo X4.here hx rfl (hb hby d_prog_108_method_1_153) rfl ((if0 _ _).trans (teq (by decide)).2) ?_
    show Steps p.tables e below (T4.setTop (mkF m 156 #[.val (.ref a1), .val (.ref w_MERGED_GROUPS), .val (.ref w_EL), .val (.int (0 : Int32)), .val (.ref w_EL), .val (.ref a5), .unset] [])) _
    refine XS.aloadN X4.here hx rfl (hb hby d_prog_108_method_1_156) rfl rfl ?_
    show Steps p.tables e below (T4.setTop (mkF m 157 #[.val (.ref a1), .val (.ref w_MERGED_GROUPS), .val (.ref w_EL), .val (.int (0 : Int32)), .val (.ref w_EL), .val (.ref a5), .unset] [(.ref w_EL)])) _
    refine st5.trans ?_
    show Steps p.tables e below (T5.setTop (mkF m 162 #[.val (.ref a1), .val (.ref w_MERGED_GROUPS), .val (.ref w_EL), .val (.int (0 : Int32)), .val (.ref w_EL), .val (.ref a5), .unset] [(.int (1 : Int32))])) _
    refine XS.ifNo X5.here hx rfl (hb hby d_prog_108_method_1_162) rfl ((if0 _ _).trans (feq (by decide)).1) ?_
    show Steps p.tables e below (T5.setTop (mkF m 165 #[.val (.ref a1), .val (.ref w_MERGED_GROUPS), .val (.ref w_EL), .val (.int (0 : Int32)), .val (.ref w_EL), .val (.ref a5), .unset] [])) _
    refine XS.aload X5.here hx rfl (hb hby d_prog_108_method_1_165) rfl rfl ?_
    show Steps p.tables e below (T5.setTop (mkF m 167 #[.val (.ref a1), .val (.ref w_MERGED_GROUPS), .val (.ref w_EL), .val (.int (0 : Int32)), .val (.ref w_EL), .val (.ref a5), .unset] [(.ref w_EL)])) _
    refine st6.trans ?_
    show Steps p.tables e below (T6.setTop (mkF m 172 #[.val (.ref a1), .val (.ref w_MERGED_GROUPS), .val (.ref w_EL), .val (.int (0 : Int32)), .val (.ref w_EL), .val (.ref a5), .unset] [(.int (1 : Int32))])) _
    refine XS.ifNo X6.here hx rfl (hb hby d_prog_108_method_1_172) rfl ((if0 _ _).trans (feq (by decide)).1) ?_
    show Steps p.tables e below (T6.setTop (mkF m 175 #[.val (.ref a1), .val (.ref w_MERGED_GROUPS), .val (.ref w_EL), .val (.int (0 : Int32)), .val (.ref w_EL), .val (.ref a5), .unset] [])) _
    refine XS.aload X6.here hx rfl (hb hby d_prog_108_method_1_175) rfl rfl ?_
    show Steps p.tables e below (T6.setTop (mkF m 177 #[.val (.ref a1), .val (.ref w_MERGED_GROUPS), .val (.ref w_EL), .val (.int (0 : Int32)), .val (.ref w_EL), .val (.ref a5), .unset] [(.ref a5)])) _
    refine XS.ifnullNo X6.here hx rfl (hb hby d_prog_108_method_1_177) rfl ?_
    show Steps p.tables e below (T6.setTop (mkF m 180 #[.val (.ref a1), .val (.ref w_MERGED_GROUPS), .val (.ref w_EL), .val (.int (0 : Int32)), .val (.ref w_EL), .val (.ref a5), .unset] [])) _
    refine XS.iconst X6.here hx rfl (hb hby d_prog_108_method_1_180) ?_
    show Steps p.tables e below (T6.setTop (mkF m 181 #[.val (.ref a1), .val (.ref w_MERGED_GROUPS), .val (.ref w_EL), .val (.int (0 : Int32)), .val (.ref w_EL), .val (.ref a5), .unset] [(.int (1 : Int32))])) _
    refine XS.goto X6.here hx rfl (pc0 := 181) (pc' := 221) rfl (hb hby d_prog_108_method_1_181) (by decide) (by decide) ?_
    show Steps p.tables e below (T6.setTop (mkF m 221 #[.val (.ref a1), .val (.ref w_MERGED_GROUPS), .val (.ref w_EL), .val (.int (0 : Int32)), .val (.ref w_EL), .val (.ref a5), .unset] [(.int (1 : Int32))])) _
    refine XS.istore X6.here hx rfl (hb hby d_prog_108_method_1_221) rfl (l' := #[.val (.ref a1), .val (.ref w_MERGED_GROUPS), .val (.ref w_EL), .val (.int (0 : Int32)), .val (.ref w_EL), .val (.ref a5), .val (.int (1 : Int32))]) rfl ?_
    show Steps p.tables e below (T6.setTop (mkF m 223 #[.val (.ref a1), .val (.ref w_MERGED_GROUPS), .val (.ref w_EL), .val (.int (0 : Int32)), .val (.ref w_EL), .val (.ref a5), .val (.int (1 : Int32))] [])) _
    refine XS.iload X6.here hx rfl (hb hby d_prog_108_method_1_223) rfl ?_
    show Steps p.tables e below (T6.setTop (mkF m 225 #[.val (.ref a1), .val (.ref w_MERGED_GROUPS), .val (.ref w_EL), .val (.int (0 : Int32)), .val (.ref w_EL), .val (.ref a5), .val (.int (1 : Int32))] [(.int (1 : Int32))])) _
    refine XS.ifYes X6.here hx rfl (pc0 := 225) (pc' := 278) rfl (hb hby d_prog_108_method_1_225) rfl ((if0 _ _).trans (feq (by decide)).2) (by decide) (by decide) ?_
    show Steps p.tables e below (T6.setTop (mkF m 278 #[.val (.ref a1), .val (.ref w_MERGED_GROUPS), .val (.ref w_EL), .val (.int (0 : Int32)), .val (.ref w_EL), .val (.ref a5), .val (.int (1 : Int32))] [])) _
    refine XS.aloadN X6.here hx rfl (hb hby d_prog_108_method_1_278) rfl rfl ?_
    show Steps p.tables e below (T6.setTop (mkF m 279 #[.val (.ref a1), .val (.ref w_MERGED_GROUPS), .val (.ref w_EL), .val (.int (0 : Int32)), .val (.ref w_EL), .val (.ref a5), .val (.int (1 : Int32))] [(.ref a1)])) _
    refine XS.aloadN X6.here hx rfl (hb hby d_prog_108_method_1_279) rfl rfl ?_
    show Steps p.tables e below (T6.setTop (mkF m 280 #[.val (.ref a1), .val (.ref w_MERGED_GROUPS), .val (.ref w_EL), .val (.int (0 : Int32)), .val (.ref w_EL), .val (.ref a5), .val (.int (1 : Int32))] [(.ref w_MERGED_GROUPS), (.ref a1)])) _
    refine st7 _ ?_
    show Steps p.tables e below (T7.setTop (mkF m 283 #[.val (.ref a1), .val (.ref w_MERGED_GROUPS), .val (.ref w_EL), .val (.int (0 : Int32)), .val (.ref w_EL), .val (.ref a5), .val (.int (1 : Int32))] [])) _
    refine XS.aloadN X7.here hx rfl (hb hby d_prog_108_method_1_283) rfl rfl ?_
    show Steps p.tables e below (T7.setTop (mkF m 284 #[.val (.ref a1), .val (.ref w_MERGED_GROUPS), .val (.ref w_EL), .val (.int (0 : Int32)), .val (.ref w_EL), .val (.ref a5), .val (.int (1 : Int32))] [(.ref a1)])) _
    refine XS.aloadN X7.here hx rfl (hb hby d_prog_108_method_1_284) rfl rfl ?_
    show Steps p.tables e below (T7.setTop (mkF m 285 #[.val (.ref a1), .val (.ref w_MERGED_GROUPS), .val (.ref w_EL), .val (.int (0 : Int32)), .val (.ref w_EL), .val (.ref a5), .val (.int (1 : Int32))] [(.ref w_EL), (.ref a1)])) _
    refine st8 _ ?_
    show Steps p.tables e below (T8.setTop (mkF m 288 #[.val (.ref a1), .val (.ref w_MERGED_GROUPS), .val (.ref w_EL), .val (.int (0 : Int32)), .val (.ref w_EL), .val (.ref a5), .val (.int (1 : Int32))] [])) _
    refine XS.aloadN X8.here hx rfl (hb hby d_prog_108_method_1_288) rfl rfl ?_
    show Steps p.tables e below (T8.setTop (mkF m 289 #[.val (.ref a1), .val (.ref w_MERGED_GROUPS), .val (.ref w_EL), .val (.int (0 : Int32)), .val (.ref w_EL), .val (.ref a5), .val (.int (1 : Int32))] [(.ref a1)])) _
    refine XS.iloadN X8.here hx rfl (hb hby d_prog_108_method_1_289) rfl ?_
    show Steps p.tables e below (T8.setTop (mkF m 290 #[.val (.ref a1), .val (.ref w_MERGED_GROUPS), .val (.ref w_EL), .val (.int (0 : Int32)), .val (.ref w_EL), .val (.ref a5), .val (.int (1 : Int32))] [(.int (0 : Int32)), (.ref a1)])) _
    refine st9 _ ?_
    show Steps p.tables e below (T9.setTop (mkF m 293 #[.val (.ref a1), .val (.ref w_MERGED_GROUPS), .val (.ref w_EL), .val (.int (0 : Int32)), .val (.ref w_EL), .val (.ref a5), .val (.int (1 : Int32))] [])) _
    refine XS.aloadN X9.here hx rfl (hb hby d_prog_108_method_1_293) rfl rfl ?_
    show Steps p.tables e below (T9.setTop (mkF m 294 #[.val (.ref a1), .val (.ref w_MERGED_GROUPS), .val (.ref w_EL), .val (.int (0 : Int32)), .val (.ref w_EL), .val (.ref a5), .val (.int (1 : Int32))] [(.ref a1)])) _
    refine XS.aload X9.here hx rfl (hb hby d_prog_108_method_1_294) rfl rfl ?_
    show Steps p.tables e below (T9.setTop (mkF m 296 #[.val (.ref a1), .val (.ref w_MERGED_GROUPS), .val (.ref w_EL), .val (.int (0 : Int32)), .val (.ref w_EL), .val (.ref a5), .val (.int (1 : Int32))] [(.ref w_EL), (.ref a1)])) _
    refine st10 _ ?_
    show Steps p.tables e below (T10.setTop (mkF m 299 #[.val (.ref a1), .val (.ref w_MERGED_GROUPS), .val (.ref w_EL), .val (.int (0 : Int32)), .val (.ref w_EL), .val (.ref a5), .val (.int (1 : Int32))] [])) _
    refine XS.aloadN X10.here hx rfl (hb hby d_prog_108_method_1_299) rfl rfl ?_
    show Steps p.tables e below (T10.setTop (mkF m 300 #[.val (.ref a1), .val (.ref w_MERGED_GROUPS), .val (.ref w_EL), .val (.int (0 : Int32)), .val (.ref w_EL), .val (.ref a5), .val (.int (1 : Int32))] [(.ref a1)])) _
    refine XS.aload X10.here hx rfl (hb hby d_prog_108_method_1_300) rfl rfl ?_
    show Steps p.tables e below (T10.setTop (mkF m 302 #[.val (.ref a1), .val (.ref w_MERGED_GROUPS), .val (.ref w_EL), .val (.int (0 : Int32)), .val (.ref w_EL), .val (.ref a5), .val (.int (1 : Int32))] [(.ref a5), (.ref a1)])) _
    refine st11 _ ?_
    exact k)
  obtain ⟨fs, hr, hrun, hended, hW, hsame⟩ := X11.leave (v := none) (fun _ => rfl)
  refine ⟨_, _, pre12 _ ?_, hrun, hended, _, _, rfl, ?_, ⟨_, rfl⟩, hW, hsame.mono (by decide) (by decide)⟩
  · show Steps p.tables e below (T11.setTop (mkF m 305 #[.val (.ref a1), .val (.ref w_MERGED_GROUPS), .val (.ref w_EL), .val (.int (0 : Int32)), .val (.ref w_EL), .val (.ref a5), .val (.int (1 : Int32))] [])) _
    exact X11.returnOut hx Bd.returns (hb hby d_prog_108_method_1_305) hr
  · exact ⟨rfl, N11, by rw [show (T11.setFrames fs).heap = _ from e11]; exact ⟨K11, x11_E_a1, x11_F_a1_buckets⟩⟩
theorem d_prog_108_method_3_0 : decode prog_108_method_3_code 0 = .ok (.aload_n 0, 1) := by decide +kernel
theorem d_prog_108_method_3_1 : decode prog_108_method_3_code 1 = .ok (.getfield 64, 3) := by decide +kernel
theorem d_prog_108_method_3_4 : decode prog_108_method_3_code 4 = .ok (.ifCond .ne 7, 3) := by decide +kernel
theorem d_prog_108_method_3_7 : decode prog_108_method_3_code 7 = .ok (.iconst 1, 1) := by decide +kernel
theorem d_prog_108_method_3_8 : decode prog_108_method_3_code 8 = .ok (.goto 4, 3) := by decide +kernel
theorem d_prog_108_method_3_12 : decode prog_108_method_3_code 12 = .ok (.ireturn, 1) := by decide +kernel
theorem d_prog_108_method_3_11 : decode prog_108_method_3_code 11 = .ok (.iconst 0, 1) := by decide +kernel
theorem ef_goes (m : MethodId) (x0 : Addr) : entryFrame m #[(.ref x0)] 1 = mkF m 0 #[.val (.ref x0)] [] := by first | (simp [entryFrame, mkF, argsToLocals, Value.category]; done) | rfl
set_option maxRecDepth 65536 in
set_option maxHeartbeats 40000000 in
theorem rm_goes (l : Launch) (Z : State) (a0 : Array Value) (hw : ∀ d ∈ tables_1, d.before a0 Z = true) (ws : List Jvm.Cond) (a1 : Addr) (f_buckets : Int32) (h0 : Heap) (n0 : Nat) (F_buckets : Fld Z h0 a1 "com/example/cairn/cairn/plan/Stage$Output" "buckets" "I" (.int f_buckets)) :
    MetFree l (⟨"com/example/cairn/cairn/plan/Stage$Output", "goesToCoordinator", "()Z"⟩ : MethodName) (head1 (Jvm.Cond.code (⟨"com/example/cairn/cairn/plan/Stage$Output", "goesToCoordinator", "()Z"⟩ : MethodName) prog_108_method_3_code 1 (some .boolean) :: ws) ({ frames := 0, cells := 0, slots := 0, locals := 0 } : Room)) (fun a U => a = #[(.ref a1)] ∧ Z.Warmed39 U.vm ∧ U.heap = h0) (fun _ _ _ _ _ => True) (fun _ U o U' => ∃ v L, o = .returned v ∧ own_Q (some (.int (if f_buckets = (0 : Int32) then (1 : Int32) else (0 : Int32)))) h0 n0 v U'.heap L ∧ FrameEnd U o U' L ({ frames := 0, cells := 0, slots := 0, locals := 0 } : Room).cells ({ frames := 0, cells := 0, slots := 0, locals := 0 } : Room).slots) := by
  refine MetFree.of_bodySF (plainFor_of_name pn_16) hisR ?_
  intro p e s m args below meth c s₁ Bd hml0 hP hK0
  obtain ⟨rfl, hZ, hh⟩ := hP
  have hx := Bd.exec
  have hby := Bd.bytes
  have hml : c.maxLocals = 1 := hml0
  have hown : s.vm.findClass "com/example/cairn/cairn/plan/Stage$Output" = some m.cls := findClass_of_methodNamed Bd.named
  have hnm := (name_of_methodNamed Bd.named Bd.method).1
  have X0 : Stand p l e ({ frames := 0, cells := 0, slots := 0, locals := 0 } : Room) s m #[(.ref a1)] below meth c s₁ [] 0 0 := Stand.of_body Bd
  have e0 : s₁.heap = h0 := by rw [← hh, Bd.state]; rfl
  have N0 := Fr.nil n0
  have pre0 : ∀ t, Steps p.tables e below (s₁.setTop (mkF m 0 #[.val (.ref a1)] [])) t → Steps p.tables e below (s₁.setTop (entryFrame m #[(.ref a1)] 1)) t := fun t k => castTop (ef_goes m a1) k
  obtain ⟨T1, X1, e1, st1⟩ := getF X0 hx hZ hown (host := "") (Or.inl (hw _ (ow 212 rfl))) Via.refl e0 F_buckets (g := (mkF m 1 #[.val (.ref a1)] [(.ref a1)])) rfl rfl (hb hby d_prog_108_method_3_1)
  have pre3 : ∀ t, Steps p.tables e below (T1.setTop (mkF m 4 #[.val (.ref a1)] [(.int f_buckets)])) t → Steps p.tables e below (s₁.setTop (entryFrame m #[(.ref a1)] 1)) t := fun t k => pre0 t (by
    show Steps p.tables e below (s₁.setTop (mkF m 0 #[.val (.ref a1)] [])) _
    refine XS.aloadN X0.here hx rfl (hb hby d_prog_108_method_3_0) rfl rfl ?_
    show Steps p.tables e below (s₁.setTop (mkF m 1 #[.val (.ref a1)] [(.ref a1)])) _
    refine st1 _ ?_
    exact k)
  by_cases hc4_2 : f_buckets = (0 : Int32)
  · have pre4 : ∀ t, Steps p.tables e below (T1.setTop (mkF m 12 #[.val (.ref a1)] [(.int (1 : Int32))])) t → Steps p.tables e below (s₁.setTop (entryFrame m #[(.ref a1)] 1)) t := fun t k => pre3 t (by
      show Steps p.tables e below (T1.setTop (mkF m 4 #[.val (.ref a1)] [(.int f_buckets)])) _
      refine XS.ifNo X1.here hx rfl (hb hby d_prog_108_method_3_4) rfl ((if0 _ _).trans (teq hc4_2).2) ?_
      show Steps p.tables e below (T1.setTop (mkF m 7 #[.val (.ref a1)] [])) _
      refine XS.iconst X1.here hx rfl (hb hby d_prog_108_method_3_7) ?_
      show Steps p.tables e below (T1.setTop (mkF m 8 #[.val (.ref a1)] [(.int (1 : Int32))])) _
      refine XS.goto X1.here hx rfl (pc0 := 8) (pc' := 12) rfl (hb hby d_prog_108_method_3_8) (by decide) (by decide) ?_
      exact k)
    obtain ⟨fs, hr, hrun, hended, hW, hsame⟩ := X1.leave (v := some (.int (1 : Int32))) (fun h => by rw [Bd.returns] at h; cases h)
    refine ⟨_, _, pre4 _ ?_, hrun, hended, _, _, rfl, ?_, ⟨_, rfl⟩, hW, hsame.mono (by decide) (by decide)⟩
    · show Steps p.tables e below (T1.setTop (mkF m 12 #[.val (.ref a1)] [(.int (1 : Int32))])) _
      exact retN X1 hx (t := .boolean) Bd.returns (by simp) (hb hby d_prog_108_method_3_12) hr
    · exact ⟨congrArg (fun z => some (Value.int z)) (Eq.symm (if_pos hc4_2)), N0, e1⟩
  · have pre5 : ∀ t, Steps p.tables e below (T1.setTop (mkF m 12 #[.val (.ref a1)] [(.int (0 : Int32))])) t → Steps p.tables e below (s₁.setTop (entryFrame m #[(.ref a1)] 1)) t := fun t k => pre3 t (by
      show Steps p.tables e below (T1.setTop (mkF m 4 #[.val (.ref a1)] [(.int f_buckets)])) _
      refine XS.ifYes X1.here hx rfl (pc0 := 4) (pc' := 11) rfl (hb hby d_prog_108_method_3_4) rfl ((if0 _ _).trans (feq hc4_2).2) (by decide) (by decide) ?_
      show Steps p.tables e below (T1.setTop (mkF m 11 #[.val (.ref a1)] [])) _
      refine XS.iconst X1.here hx rfl (hb hby d_prog_108_method_3_11) ?_
      exact k)
    obtain ⟨fs, hr, hrun, hended, hW, hsame⟩ := X1.leave (v := some (.int (0 : Int32))) (fun h => by rw [Bd.returns] at h; cases h)
    refine ⟨_, _, pre5 _ ?_, hrun, hended, _, _, rfl, ?_, ⟨_, rfl⟩, hW, hsame.mono (by decide) (by decide)⟩
    · show Steps p.tables e below (T1.setTop (mkF m 12 #[.val (.ref a1)] [(.int (0 : Int32))])) _
      exact retN X1 hx (t := .boolean) Bd.returns (by simp) (hb hby d_prog_108_method_3_12) hr
    · exact ⟨congrArg (fun z => some (Value.int z)) (Eq.symm (if_neg hc4_2)), N0, e1⟩
def own_Q_toC_RESULT (Z : State)  (w_ROWS w_RESULT w_PARTIAL_GROUPS w_MERGED_GROUPS w_D w_EL w_EE w_C w_EM w_M : Addr)  (h0 : Heap) (n0 : Nat) (v : Option Value) (h : Heap) (L : List Loc) : Prop := ∃ r : Addr, v = some (.ref r) ∧ h0.size ≤ r ∧ Fr n0 L ∧ Keep h0 h [] ∧ Exa Z h r "com/example/cairn/cairn/plan/Stage$Output" ∧ Fld Z h r "com/example/cairn/cairn/plan/Stage$Output" "buckets" "I" (.int (0 : Int32))
theorem d_prog_108_method_2_0 : decode prog_108_method_2_code 0 = .ok (.new 55, 3) := by decide +kernel
theorem d_prog_108_method_2_3 : decode prog_108_method_2_code 3 = .ok (.dup, 1) := by decide +kernel
theorem d_prog_108_method_2_4 : decode prog_108_method_2_code 4 = .ok (.aload_n 0, 1) := by decide +kernel
theorem d_prog_108_method_2_5 : decode prog_108_method_2_code 5 = .ok (.invokestatic 74, 3) := by decide +kernel
theorem d_prog_108_method_2_8 : decode prog_108_method_2_code 8 = .ok (.iconst 0, 1) := by decide +kernel
theorem d_prog_108_method_2_9 : decode prog_108_method_2_code 9 = .ok (.invokestatic 74, 3) := by decide +kernel
theorem d_prog_108_method_2_12 : decode prog_108_method_2_code 12 = .ok (.aload_n 1, 1) := by decide +kernel
theorem d_prog_108_method_2_13 : decode prog_108_method_2_code 13 = .ok (.invokespecial 77, 3) := by decide +kernel
theorem pd_15 : parseMethodDescriptor "(Lcom/example/cairn/cairn/plan/Stage$Shape;Ljava/util/List;ILjava/util/List;Lcom/example/cairn/cairn/plan/Grouping;)V" = some ⟨[(.object "com/example/cairn/cairn/plan/Stage$Shape"), (.object "java/util/List"), .int, (.object "java/util/List"), (.object "com/example/cairn/cairn/plan/Grouping")], none⟩ := by decide +kernel
theorem d_prog_108_method_2_16 : decode prog_108_method_2_code 16 = .ok (.areturn, 1) := by decide +kernel
theorem ef_toC_RESULT (m : MethodId) (x0 : Addr) : entryFrame m #[(.ref x0), .null] 2 = mkF m 0 #[.val (.ref x0), .val .null] [] := by first | (simp [entryFrame, mkF, argsToLocals, Value.category]; done) | rfl
set_option maxRecDepth 65536 in
set_option maxHeartbeats 40000000 in
theorem rm_toC_RESULT (l : Launch) (Z : State) (a0 : Array Value) (hw : ∀ d ∈ tables_1, d.before a0 Z = true) (ws : List Jvm.Cond)  (h0 : Heap) (n0 : Nat) (w_ROWS w_RESULT w_PARTIAL_GROUPS w_MERGED_GROUPS w_D w_EL w_EE w_C w_EM w_M : Addr) (hK : own_K Z Z.heap w_ROWS w_RESULT w_PARTIAL_GROUPS w_MERGED_GROUPS w_D w_EL w_EE w_C w_EM w_M) (hn0 : n0 = Z.heap.size) (EX0 : Ext Z.heap h0) :
    MetFree l (⟨"com/example/cairn/cairn/plan/Stage$Output", "toCoordinator", "(Lcom/example/cairn/cairn/plan/Stage$Shape;Lcom/example/cairn/cairn/plan/Grouping;)Lcom/example/cairn/cairn/plan/Stage$Output;"⟩ : MethodName) (head1 (Jvm.Cond.code (⟨"com/example/cairn/cairn/plan/Stage$Output", "toCoordinator", "(Lcom/example/cairn/cairn/plan/Stage$Shape;Lcom/example/cairn/cairn/plan/Grouping;)Lcom/example/cairn/cairn/plan/Stage$Output;"⟩ : MethodName) prog_108_method_2_code 2 (some (.object "com/example/cairn/cairn/plan/Stage$Output")) :: ws) ({ frames := 3, cells := 1, slots := 5, locals := 44 } : Room)) (fun a U => a = #[(.ref w_RESULT), .null] ∧ Z.Warmed39 U.vm ∧ U.heap = h0) (fun _ _ _ _ _ => True) (fun _ U o U' => ∃ v L, o = .returned v ∧ own_Q_toC_RESULT Z w_ROWS w_RESULT w_PARTIAL_GROUPS w_MERGED_GROUPS w_D w_EL w_EE w_C w_EM w_M h0 n0 v U'.heap L ∧ FrameEnd U o U' L ({ frames := 3, cells := 1, slots := 5, locals := 44 } : Room).cells ({ frames := 3, cells := 1, slots := 5, locals := 44 } : Room).slots) := by
  refine MetFree.of_bodySF (plainFor_of_name pn_16) hisR ?_
  intro p e s m args below meth c s₁ Bd hml0 hP hK0
  obtain ⟨rfl, hZ, hh⟩ := hP
  have hx := Bd.exec
  have hby := Bd.bytes
  have hml : c.maxLocals = 2 := hml0
  have hown : s.vm.findClass "com/example/cairn/cairn/plan/Stage$Output" = some m.cls := findClass_of_methodNamed Bd.named
  have hnm := (name_of_methodNamed Bd.named Bd.method).1
  have X0 : Stand p l e ({ frames := 3, cells := 1, slots := 5, locals := 44 } : Room) s m #[(.ref w_RESULT), .null] below meth c s₁ [] 0 0 := Stand.of_body Bd
  have e0 : s₁.heap = h0 := by rw [← hh, Bd.state]; rfl
  have N0 := Fr.nil n0
  have pre0 : ∀ t, Steps p.tables e below (s₁.setTop (mkF m 0 #[.val (.ref w_RESULT), .val .null] [])) t → Steps p.tables e below (s₁.setTop (entryFrame m #[(.ref w_RESULT), .null] 2)) t := fun t k => castTop (ef_toC_RESULT m w_RESULT) k
  have hK' := hK
  obtain ⟨S_w_ROWS, E_w_ROWS, F_ordinal_w_ROWS, S_w_RESULT, E_w_RESULT, F_ordinal_w_RESULT, S_w_PARTIAL_GROUPS, E_w_PARTIAL_GROUPS, F_ordinal_w_PARTIAL_GROUPS, S_w_MERGED_GROUPS, E_w_MERGED_GROUPS, F_ordinal_w_MERGED_GROUPS, S_w_D, B_w_D, S_w_EL, E_w_EL, F_elements_w_EL, B_w_EE, F_allowNulls_w_EL, S_high, S_w_C, C_w_C, S_w_EM, M_w_M⟩ := hK'
  obtain ⟨cl_w_D, A_w_D, q_w_D⟩ := B_w_D
  obtain ⟨cl_w_EE, A_w_EE, q_w_EE⟩ := B_w_EE
  obtain ⟨T1, h1, X1, e1, Eq1, A1, D1, -, st1⟩ := newO X0 hx hZ hown (hw _ (ow 228 rfl)) (hw _ (ow 111 rfl)) (hw _ (ow 112 rfl)) e0 (g := (mkF m 0 #[.val (.ref w_RESULT), .val .null] [])) rfl (hb hby d_prog_108_method_2_0) (by decide) (by decide)
  obtain ⟨b1, gb1⟩ : ∃ z, z = h0.size := ⟨_, rfl⟩
  rw [← gb1] at A1 D1 st1
  have sz_b1 : h0.size ≤ b1 := Nat.le_trans (Keep.refl h0 []).1 (Nat.le_of_eq gb1.symm)
  have g_b1 : n0 ≤ b1 := hn0 ▸ Nat.le_trans EX0.1 (Nat.le_of_eq gb1.symm)
  have EX1 := own_ext_trans EX0 Eq1
  have K1 := Keep.ext (Keep.refl h0 []) Eq1
  have F1_shape : Fld Z h1 b1 "com/example/cairn/cairn/plan/Stage$Output" "shape" "Lcom/example/cairn/cairn/plan/Stage$Shape;" .null := D1 (Or.inr (hw _ (ow 209 rfl))) (ty := (.object "com/example/cairn/cairn/plan/Stage$Shape")) (by decide)
  have F1_slots : Fld Z h1 b1 "com/example/cairn/cairn/plan/Stage$Output" "slots" "Ljava/util/List;" .null := D1 (Or.inr (hw _ (ow 211 rfl))) (ty := (.object "java/util/List")) (by decide)
  have F1_buckets : Fld Z h1 b1 "com/example/cairn/cairn/plan/Stage$Output" "buckets" "I" (.int (0 : Int32)) := D1 (Or.inr (hw _ (ow 213 rfl))) (ty := .int) (by decide)
  have F1_keys : Fld Z h1 b1 "com/example/cairn/cairn/plan/Stage$Output" "keys" "Ljava/util/List;" .null := D1 (Or.inr (hw _ (ow 215 rfl))) (ty := (.object "java/util/List")) (by decide)
  have F1_grouping : Fld Z h1 b1 "com/example/cairn/cairn/plan/Stage$Output" "grouping" "Lcom/example/cairn/cairn/plan/Grouping;" .null := D1 (Or.inr (hw _ (ow 217 rfl))) (ty := (.object "com/example/cairn/cairn/plan/Grouping")) (by decide)
  obtain ⟨v2, _, ⟨T2, L2, k2, n2⟩, -, X2, ⟨Lc2, hQ2, l2, y2, z2⟩, st2⟩ := Jvm.LawKit.callS X1 hx (y := (⟨"java/util/List", "of", "()Ljava/util/List;"⟩ : MethodName)) hown (mvT hZ (hw _ (ow 229 rfl))) (mvT hZ (hw _ (ow 64 rfl))) (mvT hZ (hw _ (ow 40 rfl))) (mvT hZ (hw _ (ow 65 rfl))) (by decide) (backOf (W := 3) (rm_of0 l Z a0 hw []  h1 n0 w_ROWS w_RESULT w_PARTIAL_GROUPS w_MERGED_GROUPS w_D w_EL w_EE w_C w_EM w_M (own_K_ext EX1 hK)) hZ (hw _ (ow 65 rfl)) (hw _ (ow 40 rfl)) (by decide) (by decide)) (g := (mkF m 5 #[.val (.ref w_RESULT), .val .null] [(.ref w_RESULT), (.ref b1), (.ref b1)])) rfl (by rw [hml]; rfl) (argsL := []) (rest := [(.ref w_RESULT), (.ref b1), (.ref b1)]) (lenOf pd_2 rfl) rfl (Nat.le_of_eq rfl) (hb hby d_prog_108_method_2_5) (fun _ _ => ⟨rfl, e1, (by decide : 1 + 0 ≤ _), (by decide : 5 + 0 ≤ _)⟩)
  dsimp only [Pt.U, Pt.locs, Pt.cells, Pt.slots] at X2 l2 y2 z2 st2 hQ2
  subst y2 z2
  obtain ⟨hv2, Nq2, e2⟩ := hQ2
  obtain rfl : v2 = some (.ref w_EL) := hv2
  have N2 : Fr n0 L2 := by rw [l2]; exact Fr.app N0 Nq2
  obtain ⟨v3, _, ⟨T3, L3, k3, n3⟩, -, X3, ⟨Lc3, hQ3, l3, y3, z3⟩, st3⟩ := Jvm.LawKit.callS X2 hx (y := (⟨"java/util/List", "of", "()Ljava/util/List;"⟩ : MethodName)) hown (mvT hZ (hw _ (ow 229 rfl))) (mvT hZ (hw _ (ow 64 rfl))) (mvT hZ (hw _ (ow 40 rfl))) (mvT hZ (hw _ (ow 65 rfl))) (by decide) (backOf (W := 5) (rm_of0 l Z a0 hw []  h1 n0 w_ROWS w_RESULT w_PARTIAL_GROUPS w_MERGED_GROUPS w_D w_EL w_EE w_C w_EM w_M (own_K_ext EX1 hK)) hZ (hw _ (ow 65 rfl)) (hw _ (ow 40 rfl)) (by decide) (by decide)) (g := (mkF m 9 #[.val (.ref w_RESULT), .val .null] [(.int (0 : Int32)), (.ref w_EL), (.ref w_RESULT), (.ref b1), (.ref b1)])) rfl (by rw [hml]; rfl) (argsL := []) (rest := [(.int (0 : Int32)), (.ref w_EL), (.ref w_RESULT), (.ref b1), (.ref b1)]) (lenOf pd_2 rfl) rfl (Nat.le_of_eq rfl) (hb hby d_prog_108_method_2_9) (fun _ _ => ⟨rfl, e2, (by decide : 1 + 0 ≤ _), (by decide : 5 + 0 ≤ _)⟩)
  dsimp only [Pt.U, Pt.locs, Pt.cells, Pt.slots] at X3 l3 y3 z3 st3 hQ3
  subst y3 z3
  obtain ⟨hv3, Nq3, e3⟩ := hQ3
  obtain rfl : v3 = some (.ref w_EL) := hv3
  have N3 : Fr n0 L3 := by rw [l3]; exact Fr.app N2 Nq3
  obtain ⟨v4, _, ⟨T4, L4, k4, n4⟩, -, X4, ⟨Lc4, hQ4, l4, y4, z4⟩, st4⟩ := X3.specialBack hx (y := (⟨"com/example/cairn/cairn/plan/Stage$Output", "<init>", "(Lcom/example/cairn/cairn/plan/Stage$Shape;Ljava/util/List;ILjava/util/List;Lcom/example/cairn/cairn/plan/Grouping;)V"⟩ : MethodName)) rfl hown (mvT hZ (hw _ (ow 230 rfl))) (mvT hZ (hw _ (ow 114 rfl))) (mvT hZ (hw _ (ow 115 rfl))) (by decide) (backOf (W := 1) (rm_oiN1 l Z a0 hw [] b1 h1 n0 w_ROWS w_RESULT w_PARTIAL_GROUPS w_MERGED_GROUPS w_D w_EL w_EE w_C w_EM w_M hK hn0 EX1 A1 g_b1 F1_shape F1_slots F1_buckets F1_keys F1_grouping) hZ (hw _ (ow 115 rfl)) (hw _ (ow 112 rfl)) (by decide) (by decide)) (g := (mkF m 13 #[.val (.ref w_RESULT), .val .null] [.null, (.ref w_EL), (.int (0 : Int32)), (.ref w_EL), (.ref w_RESULT), (.ref b1), (.ref b1)])) rfl (by rw [hml]; rfl) (Steps.refl _) (a := b1) (argsL := [(.ref w_RESULT), (.ref w_EL), (.int (0 : Int32)), (.ref w_EL), .null]) (rest := [(.ref b1)]) (lenOf pd_15 rfl) rfl (Nat.le_of_eq rfl) (hb hby d_prog_108_method_2_13) (fun _ _ => ⟨rfl, e3, (by decide : 1 + 0 ≤ _), (by decide : 5 + 0 ≤ _)⟩)
  dsimp only [Pt.U, Pt.locs, Pt.cells, Pt.slots] at X4 l4 y4 z4 st4 hQ4
  subst y4 z4
  obtain ⟨hv4, Nq4, Kq4, q4_0, q4_1⟩ := hQ4
  obtain rfl : v4 = none := hv4
  have N4 : Fr n0 L4 := by rw [l4]; exact Fr.app N3 Nq4
  have x4_E_b1 := A1.keep Kq4
  have EX4 := own_ext_keepL EX1 Kq4 (allS (hn0 ▸ g_b1) all0)
  have K4 := Keep.trans K1 Kq4 (allS (Or.inr sz_b1) all0)
  have pre5 : ∀ t, Steps p.tables e below (T4.setTop (mkF m 16 #[.val (.ref w_RESULT), .val .null] [(.ref b1)])) t → Steps p.tables e below (s₁.setTop (entryFrame m #[(.ref w_RESULT), .null] 2)) t := fun t k => pre0 t (by
    show Steps p.tables e below (s₁.setTop (mkF m 0 #[.val (.ref w_RESULT), .val .null] [])) _
    refine st1 _ ?_
    show Steps p.tables e below (T1.setTop (mkF m 3 #[.val (.ref w_RESULT), .val .null] [(.ref b1)])) _
    refine XS.dup X1.here hx rfl (hb hby d_prog_108_method_2_3) rfl rfl ?_
    show Steps p.tables e below (T1.setTop (mkF m 4 #[.val (.ref w_RESULT), .val .null] [(.ref b1), (.ref b1)])) _
    refine XS.aloadN X1.here hx rfl (hb hby d_prog_108_method_2_4) rfl rfl ?_
    show Steps p.tables e below (T1.setTop (mkF m 5 #[.val (.ref w_RESULT), .val .null] [(.ref w_RESULT), (.ref b1), (.ref b1)])) _
    refine st2 _ ?_
    show Steps p.tables e below (T2.setTop (mkF m 8 #[.val (.ref w_RESULT), .val .null] [(.ref w_EL), (.ref w_RESULT), (.ref b1), (.ref b1)])) _
    refine XS.iconst X2.here hx rfl (hb hby d_prog_108_method_2_8) ?_
    show Steps p.tables e below (T2.setTop (mkF m 9 #[.val (.ref w_RESULT), .val .null] [(.int (0 : Int32)), (.ref w_EL), (.ref w_RESULT), (.ref b1), (.ref b1)])) _
    refine st3 _ ?_
    show Steps p.tables e below (T3.setTop (mkF m 12 #[.val (.ref w_RESULT), .val .null] [(.ref w_EL), (.int (0 : Int32)), (.ref w_EL), (.ref w_RESULT), (.ref b1), (.ref b1)])) _
    refine XS.aloadN X3.here hx rfl (hb hby d_prog_108_method_2_12) rfl rfl ?_
    show Steps p.tables e below (T3.setTop (mkF m 13 #[.val (.ref w_RESULT), .val .null] [.null, (.ref w_EL), (.int (0 : Int32)), (.ref w_EL), (.ref w_RESULT), (.ref b1), (.ref b1)])) _
    refine st4.trans ?_
    exact k)
  obtain ⟨fs, hr, hrun, hended, hW, hsame⟩ := X4.leave (v := some (.ref b1)) (fun h => by rw [Bd.returns] at h; cases h)
  refine ⟨_, _, pre5 _ ?_, hrun, hended, _, _, rfl, ?_, ⟨_, rfl⟩, hW, hsame.mono (by decide) (by decide)⟩
  · show Steps p.tables e below (T4.setTop (mkF m 16 #[.val (.ref w_RESULT), .val .null] [(.ref b1)])) _
    exact retOut X4 hx Bd.returns rfl (Or.inr (Or.inr (Or.inr (Or.inr ⟨rfl, rfl, rfl⟩)))) (hb hby d_prog_108_method_2_16) hr
  · exact ⟨b1, rfl, sz_b1, N4, by rw [show (T4.setFrames fs).heap = _ from (rfl : T4.heap = T4.heap)]; exact ⟨K4, q4_0, q4_1⟩⟩
def own_Q_toC_PARTIAL_GROUPS (Z : State) (a2 : Addr) (w_ROWS w_RESULT w_PARTIAL_GROUPS w_MERGED_GROUPS w_D w_EL w_EE w_C w_EM w_M : Addr)  (h0 : Heap) (n0 : Nat) (v : Option Value) (h : Heap) (L : List Loc) : Prop := ∃ r : Addr, v = some (.ref r) ∧ h0.size ≤ r ∧ Fr n0 L ∧ Keep h0 h [] ∧ Exa Z h r "com/example/cairn/cairn/plan/Stage$Output" ∧ Fld Z h r "com/example/cairn/cairn/plan/Stage$Output" "buckets" "I" (.int (0 : Int32))
theorem ef_toC_PARTIAL_GROUPS (m : MethodId) (x0 : Addr) (x1 : Addr) : entryFrame m #[(.ref x0), (.ref x1)] 2 = mkF m 0 #[.val (.ref x0), .val (.ref x1)] [] := by first | (simp [entryFrame, mkF, argsToLocals, Value.category]; done) | rfl
set_option maxRecDepth 65536 in
set_option maxHeartbeats 40000000 in
theorem rm_toC_PARTIAL_GROUPS (l : Launch) (Z : State) (a0 : Array Value) (hw : ∀ d ∈ tables_1, d.before a0 Z = true) (ws : List Jvm.Cond) (a2 : Addr) (h0 : Heap) (n0 : Nat) (w_ROWS w_RESULT w_PARTIAL_GROUPS w_MERGED_GROUPS w_D w_EL w_EE w_C w_EM w_M : Addr) (hK : own_K Z Z.heap w_ROWS w_RESULT w_PARTIAL_GROUPS w_MERGED_GROUPS w_D w_EL w_EE w_C w_EM w_M) (hn0 : n0 = Z.heap.size) (EX0 : Ext Z.heap h0) :
    MetFree l (⟨"com/example/cairn/cairn/plan/Stage$Output", "toCoordinator", "(Lcom/example/cairn/cairn/plan/Stage$Shape;Lcom/example/cairn/cairn/plan/Grouping;)Lcom/example/cairn/cairn/plan/Stage$Output;"⟩ : MethodName) (head1 (Jvm.Cond.code (⟨"com/example/cairn/cairn/plan/Stage$Output", "toCoordinator", "(Lcom/example/cairn/cairn/plan/Stage$Shape;Lcom/example/cairn/cairn/plan/Grouping;)Lcom/example/cairn/cairn/plan/Stage$Output;"⟩ : MethodName) prog_108_method_2_code 2 (some (.object "com/example/cairn/cairn/plan/Stage$Output")) :: ws) ({ frames := 3, cells := 1, slots := 5, locals := 44 } : Room)) (fun a U => a = #[(.ref w_PARTIAL_GROUPS), (.ref a2)] ∧ Z.Warmed39 U.vm ∧ U.heap = h0) (fun _ _ _ _ _ => True) (fun _ U o U' => ∃ v L, o = .returned v ∧ own_Q_toC_PARTIAL_GROUPS Z a2 w_ROWS w_RESULT w_PARTIAL_GROUPS w_MERGED_GROUPS w_D w_EL w_EE w_C w_EM w_M h0 n0 v U'.heap L ∧ FrameEnd U o U' L ({ frames := 3, cells := 1, slots := 5, locals := 44 } : Room).cells ({ frames := 3, cells := 1, slots := 5, locals := 44 } : Room).slots) := by
  refine MetFree.of_bodySF (plainFor_of_name pn_16) hisR ?_
  intro p e s m args below meth c s₁ Bd hml0 hP hK0
  obtain ⟨rfl, hZ, hh⟩ := hP
  have hx := Bd.exec
  have hby := Bd.bytes
  have hml : c.maxLocals = 2 := hml0
  have hown : s.vm.findClass "com/example/cairn/cairn/plan/Stage$Output" = some m.cls := findClass_of_methodNamed Bd.named
  have hnm := (name_of_methodNamed Bd.named Bd.method).1
  have X0 : Stand p l e ({ frames := 3, cells := 1, slots := 5, locals := 44 } : Room) s m #[(.ref w_PARTIAL_GROUPS), (.ref a2)] below meth c s₁ [] 0 0 := Stand.of_body Bd
  have e0 : s₁.heap = h0 := by rw [← hh, Bd.state]; rfl
  have N0 := Fr.nil n0
  have pre0 : ∀ t, Steps p.tables e below (s₁.setTop (mkF m 0 #[.val (.ref w_PARTIAL_GROUPS), .val (.ref a2)] [])) t → Steps p.tables e below (s₁.setTop (entryFrame m #[(.ref w_PARTIAL_GROUPS), (.ref a2)] 2)) t := fun t k => castTop (ef_toC_PARTIAL_GROUPS m w_PARTIAL_GROUPS a2) k
  have hK' := hK
  obtain ⟨S_w_ROWS, E_w_ROWS, F_ordinal_w_ROWS, S_w_RESULT, E_w_RESULT, F_ordinal_w_RESULT, S_w_PARTIAL_GROUPS, E_w_PARTIAL_GROUPS, F_ordinal_w_PARTIAL_GROUPS, S_w_MERGED_GROUPS, E_w_MERGED_GROUPS, F_ordinal_w_MERGED_GROUPS, S_w_D, B_w_D, S_w_EL, E_w_EL, F_elements_w_EL, B_w_EE, F_allowNulls_w_EL, S_high, S_w_C, C_w_C, S_w_EM, M_w_M⟩ := hK'
  obtain ⟨cl_w_D, A_w_D, q_w_D⟩ := B_w_D
  obtain ⟨cl_w_EE, A_w_EE, q_w_EE⟩ := B_w_EE
  obtain ⟨T1, h1, X1, e1, Eq1, A1, D1, -, st1⟩ := newO X0 hx hZ hown (hw _ (ow 228 rfl)) (hw _ (ow 111 rfl)) (hw _ (ow 112 rfl)) e0 (g := (mkF m 0 #[.val (.ref w_PARTIAL_GROUPS), .val (.ref a2)] [])) rfl (hb hby d_prog_108_method_2_0) (by decide) (by decide)
  obtain ⟨b1, gb1⟩ : ∃ z, z = h0.size := ⟨_, rfl⟩
  rw [← gb1] at A1 D1 st1
  have sz_b1 : h0.size ≤ b1 := Nat.le_trans (Keep.refl h0 []).1 (Nat.le_of_eq gb1.symm)
  have g_b1 : n0 ≤ b1 := hn0 ▸ Nat.le_trans EX0.1 (Nat.le_of_eq gb1.symm)
  have EX1 := own_ext_trans EX0 Eq1
  have K1 := Keep.ext (Keep.refl h0 []) Eq1
  have F1_shape : Fld Z h1 b1 "com/example/cairn/cairn/plan/Stage$Output" "shape" "Lcom/example/cairn/cairn/plan/Stage$Shape;" .null := D1 (Or.inr (hw _ (ow 209 rfl))) (ty := (.object "com/example/cairn/cairn/plan/Stage$Shape")) (by decide)
  have F1_slots : Fld Z h1 b1 "com/example/cairn/cairn/plan/Stage$Output" "slots" "Ljava/util/List;" .null := D1 (Or.inr (hw _ (ow 211 rfl))) (ty := (.object "java/util/List")) (by decide)
  have F1_buckets : Fld Z h1 b1 "com/example/cairn/cairn/plan/Stage$Output" "buckets" "I" (.int (0 : Int32)) := D1 (Or.inr (hw _ (ow 213 rfl))) (ty := .int) (by decide)
  have F1_keys : Fld Z h1 b1 "com/example/cairn/cairn/plan/Stage$Output" "keys" "Ljava/util/List;" .null := D1 (Or.inr (hw _ (ow 215 rfl))) (ty := (.object "java/util/List")) (by decide)
  have F1_grouping : Fld Z h1 b1 "com/example/cairn/cairn/plan/Stage$Output" "grouping" "Lcom/example/cairn/cairn/plan/Grouping;" .null := D1 (Or.inr (hw _ (ow 217 rfl))) (ty := (.object "com/example/cairn/cairn/plan/Grouping")) (by decide)
  obtain ⟨v2, _, ⟨T2, L2, k2, n2⟩, -, X2, ⟨Lc2, hQ2, l2, y2, z2⟩, st2⟩ := Jvm.LawKit.callS X1 hx (y := (⟨"java/util/List", "of", "()Ljava/util/List;"⟩ : MethodName)) hown (mvT hZ (hw _ (ow 229 rfl))) (mvT hZ (hw _ (ow 64 rfl))) (mvT hZ (hw _ (ow 40 rfl))) (mvT hZ (hw _ (ow 65 rfl))) (by decide) (backOf (W := 3) (rm_of0 l Z a0 hw []  h1 n0 w_ROWS w_RESULT w_PARTIAL_GROUPS w_MERGED_GROUPS w_D w_EL w_EE w_C w_EM w_M (own_K_ext EX1 hK)) hZ (hw _ (ow 65 rfl)) (hw _ (ow 40 rfl)) (by decide) (by decide)) (g := (mkF m 5 #[.val (.ref w_PARTIAL_GROUPS), .val (.ref a2)] [(.ref w_PARTIAL_GROUPS), (.ref b1), (.ref b1)])) rfl (by rw [hml]; rfl) (argsL := []) (rest := [(.ref w_PARTIAL_GROUPS), (.ref b1), (.ref b1)]) (lenOf pd_2 rfl) rfl (Nat.le_of_eq rfl) (hb hby d_prog_108_method_2_5) (fun _ _ => ⟨rfl, e1, (by decide : 1 + 0 ≤ _), (by decide : 5 + 0 ≤ _)⟩)
  dsimp only [Pt.U, Pt.locs, Pt.cells, Pt.slots] at X2 l2 y2 z2 st2 hQ2
  subst y2 z2
  obtain ⟨hv2, Nq2, e2⟩ := hQ2
  obtain rfl : v2 = some (.ref w_EL) := hv2
  have N2 : Fr n0 L2 := by rw [l2]; exact Fr.app N0 Nq2
  obtain ⟨v3, _, ⟨T3, L3, k3, n3⟩, -, X3, ⟨Lc3, hQ3, l3, y3, z3⟩, st3⟩ := Jvm.LawKit.callS X2 hx (y := (⟨"java/util/List", "of", "()Ljava/util/List;"⟩ : MethodName)) hown (mvT hZ (hw _ (ow 229 rfl))) (mvT hZ (hw _ (ow 64 rfl))) (mvT hZ (hw _ (ow 40 rfl))) (mvT hZ (hw _ (ow 65 rfl))) (by decide) (backOf (W := 5) (rm_of0 l Z a0 hw []  h1 n0 w_ROWS w_RESULT w_PARTIAL_GROUPS w_MERGED_GROUPS w_D w_EL w_EE w_C w_EM w_M (own_K_ext EX1 hK)) hZ (hw _ (ow 65 rfl)) (hw _ (ow 40 rfl)) (by decide) (by decide)) (g := (mkF m 9 #[.val (.ref w_PARTIAL_GROUPS), .val (.ref a2)] [(.int (0 : Int32)), (.ref w_EL), (.ref w_PARTIAL_GROUPS), (.ref b1), (.ref b1)])) rfl (by rw [hml]; rfl) (argsL := []) (rest := [(.int (0 : Int32)), (.ref w_EL), (.ref w_PARTIAL_GROUPS), (.ref b1), (.ref b1)]) (lenOf pd_2 rfl) rfl (Nat.le_of_eq rfl) (hb hby d_prog_108_method_2_9) (fun _ _ => ⟨rfl, e2, (by decide : 1 + 0 ≤ _), (by decide : 5 + 0 ≤ _)⟩)
  dsimp only [Pt.U, Pt.locs, Pt.cells, Pt.slots] at X3 l3 y3 z3 st3 hQ3
  subst y3 z3
  obtain ⟨hv3, Nq3, e3⟩ := hQ3
  obtain rfl : v3 = some (.ref w_EL) := hv3
  have N3 : Fr n0 L3 := by rw [l3]; exact Fr.app N2 Nq3
  obtain ⟨v4, _, ⟨T4, L4, k4, n4⟩, -, X4, ⟨Lc4, hQ4, l4, y4, z4⟩, st4⟩ := X3.specialBack hx (y := (⟨"com/example/cairn/cairn/plan/Stage$Output", "<init>", "(Lcom/example/cairn/cairn/plan/Stage$Shape;Ljava/util/List;ILjava/util/List;Lcom/example/cairn/cairn/plan/Grouping;)V"⟩ : MethodName)) rfl hown (mvT hZ (hw _ (ow 230 rfl))) (mvT hZ (hw _ (ow 114 rfl))) (mvT hZ (hw _ (ow 115 rfl))) (by decide) (backOf (W := 1) (rm_oiN2 l Z a0 hw [] b1 a2 h1 n0 w_ROWS w_RESULT w_PARTIAL_GROUPS w_MERGED_GROUPS w_D w_EL w_EE w_C w_EM w_M hK hn0 EX1 A1 g_b1 F1_shape F1_slots F1_buckets F1_keys F1_grouping) hZ (hw _ (ow 115 rfl)) (hw _ (ow 112 rfl)) (by decide) (by decide)) (g := (mkF m 13 #[.val (.ref w_PARTIAL_GROUPS), .val (.ref a2)] [(.ref a2), (.ref w_EL), (.int (0 : Int32)), (.ref w_EL), (.ref w_PARTIAL_GROUPS), (.ref b1), (.ref b1)])) rfl (by rw [hml]; rfl) (Steps.refl _) (a := b1) (argsL := [(.ref w_PARTIAL_GROUPS), (.ref w_EL), (.int (0 : Int32)), (.ref w_EL), (.ref a2)]) (rest := [(.ref b1)]) (lenOf pd_15 rfl) rfl (Nat.le_of_eq rfl) (hb hby d_prog_108_method_2_13) (fun _ _ => ⟨rfl, e3, (by decide : 1 + 0 ≤ _), (by decide : 5 + 0 ≤ _)⟩)
  dsimp only [Pt.U, Pt.locs, Pt.cells, Pt.slots] at X4 l4 y4 z4 st4 hQ4
  subst y4 z4
  obtain ⟨hv4, Nq4, Kq4, q4_0, q4_1⟩ := hQ4
  obtain rfl : v4 = none := hv4
  have N4 : Fr n0 L4 := by rw [l4]; exact Fr.app N3 Nq4
  have x4_E_b1 := A1.keep Kq4
  have EX4 := own_ext_keepL EX1 Kq4 (allS (hn0 ▸ g_b1) all0)
  have K4 := Keep.trans K1 Kq4 (allS (Or.inr sz_b1) all0)
  have pre5 : ∀ t, Steps p.tables e below (T4.setTop (mkF m 16 #[.val (.ref w_PARTIAL_GROUPS), .val (.ref a2)] [(.ref b1)])) t → Steps p.tables e below (s₁.setTop (entryFrame m #[(.ref w_PARTIAL_GROUPS), (.ref a2)] 2)) t := fun t k => pre0 t (by
    show Steps p.tables e below (s₁.setTop (mkF m 0 #[.val (.ref w_PARTIAL_GROUPS), .val (.ref a2)] [])) _
    refine st1 _ ?_
    show Steps p.tables e below (T1.setTop (mkF m 3 #[.val (.ref w_PARTIAL_GROUPS), .val (.ref a2)] [(.ref b1)])) _
    refine XS.dup X1.here hx rfl (hb hby d_prog_108_method_2_3) rfl rfl ?_
    show Steps p.tables e below (T1.setTop (mkF m 4 #[.val (.ref w_PARTIAL_GROUPS), .val (.ref a2)] [(.ref b1), (.ref b1)])) _
    refine XS.aloadN X1.here hx rfl (hb hby d_prog_108_method_2_4) rfl rfl ?_
    show Steps p.tables e below (T1.setTop (mkF m 5 #[.val (.ref w_PARTIAL_GROUPS), .val (.ref a2)] [(.ref w_PARTIAL_GROUPS), (.ref b1), (.ref b1)])) _
    refine st2 _ ?_
    show Steps p.tables e below (T2.setTop (mkF m 8 #[.val (.ref w_PARTIAL_GROUPS), .val (.ref a2)] [(.ref w_EL), (.ref w_PARTIAL_GROUPS), (.ref b1), (.ref b1)])) _
    refine XS.iconst X2.here hx rfl (hb hby d_prog_108_method_2_8) ?_
    show Steps p.tables e below (T2.setTop (mkF m 9 #[.val (.ref w_PARTIAL_GROUPS), .val (.ref a2)] [(.int (0 : Int32)), (.ref w_EL), (.ref w_PARTIAL_GROUPS), (.ref b1), (.ref b1)])) _
    refine st3 _ ?_
    show Steps p.tables e below (T3.setTop (mkF m 12 #[.val (.ref w_PARTIAL_GROUPS), .val (.ref a2)] [(.ref w_EL), (.int (0 : Int32)), (.ref w_EL), (.ref w_PARTIAL_GROUPS), (.ref b1), (.ref b1)])) _
    refine XS.aloadN X3.here hx rfl (hb hby d_prog_108_method_2_12) rfl rfl ?_
    show Steps p.tables e below (T3.setTop (mkF m 13 #[.val (.ref w_PARTIAL_GROUPS), .val (.ref a2)] [(.ref a2), (.ref w_EL), (.int (0 : Int32)), (.ref w_EL), (.ref w_PARTIAL_GROUPS), (.ref b1), (.ref b1)])) _
    refine st4.trans ?_
    exact k)
  obtain ⟨fs, hr, hrun, hended, hW, hsame⟩ := X4.leave (v := some (.ref b1)) (fun h => by rw [Bd.returns] at h; cases h)
  refine ⟨_, _, pre5 _ ?_, hrun, hended, _, _, rfl, ?_, ⟨_, rfl⟩, hW, hsame.mono (by decide) (by decide)⟩
  · show Steps p.tables e below (T4.setTop (mkF m 16 #[.val (.ref w_PARTIAL_GROUPS), .val (.ref a2)] [(.ref b1)])) _
    exact retOut X4 hx Bd.returns rfl (Or.inr (Or.inr (Or.inr (Or.inr ⟨rfl, rfl, rfl⟩)))) (hb hby d_prog_108_method_2_16) hr
  · exact ⟨b1, rfl, sz_b1, N4, by rw [show (T4.setFrames fs).heap = _ from (rfl : T4.heap = T4.heap)]; exact ⟨K4, q4_0, q4_1⟩⟩
def own_Q_toC_MERGED_GROUPS (Z : State) (a2 : Addr) (w_ROWS w_RESULT w_PARTIAL_GROUPS w_MERGED_GROUPS w_D w_EL w_EE w_C w_EM w_M : Addr)  (h0 : Heap) (n0 : Nat) (v : Option Value) (h : Heap) (L : List Loc) : Prop := ∃ r : Addr, v = some (.ref r) ∧ h0.size ≤ r ∧ Fr n0 L ∧ Keep h0 h [] ∧ Exa Z h r "com/example/cairn/cairn/plan/Stage$Output" ∧ Fld Z h r "com/example/cairn/cairn/plan/Stage$Output" "buckets" "I" (.int (0 : Int32))
theorem ef_toC_MERGED_GROUPS (m : MethodId) (x0 : Addr) (x1 : Addr) : entryFrame m #[(.ref x0), (.ref x1)] 2 = mkF m 0 #[.val (.ref x0), .val (.ref x1)] [] := by first | (simp [entryFrame, mkF, argsToLocals, Value.category]; done) | rfl
set_option maxRecDepth 65536 in
set_option maxHeartbeats 40000000 in
theorem rm_toC_MERGED_GROUPS (l : Launch) (Z : State) (a0 : Array Value) (hw : ∀ d ∈ tables_1, d.before a0 Z = true) (ws : List Jvm.Cond) (a2 : Addr) (h0 : Heap) (n0 : Nat) (w_ROWS w_RESULT w_PARTIAL_GROUPS w_MERGED_GROUPS w_D w_EL w_EE w_C w_EM w_M : Addr) (hK : own_K Z Z.heap w_ROWS w_RESULT w_PARTIAL_GROUPS w_MERGED_GROUPS w_D w_EL w_EE w_C w_EM w_M) (hn0 : n0 = Z.heap.size) (EX0 : Ext Z.heap h0) :
    MetFree l (⟨"com/example/cairn/cairn/plan/Stage$Output", "toCoordinator", "(Lcom/example/cairn/cairn/plan/Stage$Shape;Lcom/example/cairn/cairn/plan/Grouping;)Lcom/example/cairn/cairn/plan/Stage$Output;"⟩ : MethodName) (head1 (Jvm.Cond.code (⟨"com/example/cairn/cairn/plan/Stage$Output", "toCoordinator", "(Lcom/example/cairn/cairn/plan/Stage$Shape;Lcom/example/cairn/cairn/plan/Grouping;)Lcom/example/cairn/cairn/plan/Stage$Output;"⟩ : MethodName) prog_108_method_2_code 2 (some (.object "com/example/cairn/cairn/plan/Stage$Output")) :: ws) ({ frames := 3, cells := 1, slots := 5, locals := 44 } : Room)) (fun a U => a = #[(.ref w_MERGED_GROUPS), (.ref a2)] ∧ Z.Warmed39 U.vm ∧ U.heap = h0) (fun _ _ _ _ _ => True) (fun _ U o U' => ∃ v L, o = .returned v ∧ own_Q_toC_MERGED_GROUPS Z a2 w_ROWS w_RESULT w_PARTIAL_GROUPS w_MERGED_GROUPS w_D w_EL w_EE w_C w_EM w_M h0 n0 v U'.heap L ∧ FrameEnd U o U' L ({ frames := 3, cells := 1, slots := 5, locals := 44 } : Room).cells ({ frames := 3, cells := 1, slots := 5, locals := 44 } : Room).slots) := by
  refine MetFree.of_bodySF (plainFor_of_name pn_16) hisR ?_
  intro p e s m args below meth c s₁ Bd hml0 hP hK0
  obtain ⟨rfl, hZ, hh⟩ := hP
  have hx := Bd.exec
  have hby := Bd.bytes
  have hml : c.maxLocals = 2 := hml0
  have hown : s.vm.findClass "com/example/cairn/cairn/plan/Stage$Output" = some m.cls := findClass_of_methodNamed Bd.named
  have hnm := (name_of_methodNamed Bd.named Bd.method).1
  have X0 : Stand p l e ({ frames := 3, cells := 1, slots := 5, locals := 44 } : Room) s m #[(.ref w_MERGED_GROUPS), (.ref a2)] below meth c s₁ [] 0 0 := Stand.of_body Bd
  have e0 : s₁.heap = h0 := by rw [← hh, Bd.state]; rfl
  have N0 := Fr.nil n0
  have pre0 : ∀ t, Steps p.tables e below (s₁.setTop (mkF m 0 #[.val (.ref w_MERGED_GROUPS), .val (.ref a2)] [])) t → Steps p.tables e below (s₁.setTop (entryFrame m #[(.ref w_MERGED_GROUPS), (.ref a2)] 2)) t := fun t k => castTop (ef_toC_MERGED_GROUPS m w_MERGED_GROUPS a2) k
  have hK' := hK
  obtain ⟨S_w_ROWS, E_w_ROWS, F_ordinal_w_ROWS, S_w_RESULT, E_w_RESULT, F_ordinal_w_RESULT, S_w_PARTIAL_GROUPS, E_w_PARTIAL_GROUPS, F_ordinal_w_PARTIAL_GROUPS, S_w_MERGED_GROUPS, E_w_MERGED_GROUPS, F_ordinal_w_MERGED_GROUPS, S_w_D, B_w_D, S_w_EL, E_w_EL, F_elements_w_EL, B_w_EE, F_allowNulls_w_EL, S_high, S_w_C, C_w_C, S_w_EM, M_w_M⟩ := hK'
  obtain ⟨cl_w_D, A_w_D, q_w_D⟩ := B_w_D
  obtain ⟨cl_w_EE, A_w_EE, q_w_EE⟩ := B_w_EE
  obtain ⟨T1, h1, X1, e1, Eq1, A1, D1, -, st1⟩ := newO X0 hx hZ hown (hw _ (ow 228 rfl)) (hw _ (ow 111 rfl)) (hw _ (ow 112 rfl)) e0 (g := (mkF m 0 #[.val (.ref w_MERGED_GROUPS), .val (.ref a2)] [])) rfl (hb hby d_prog_108_method_2_0) (by decide) (by decide)
  obtain ⟨b1, gb1⟩ : ∃ z, z = h0.size := ⟨_, rfl⟩
  rw [← gb1] at A1 D1 st1
  have sz_b1 : h0.size ≤ b1 := Nat.le_trans (Keep.refl h0 []).1 (Nat.le_of_eq gb1.symm)
  have g_b1 : n0 ≤ b1 := hn0 ▸ Nat.le_trans EX0.1 (Nat.le_of_eq gb1.symm)
  have EX1 := own_ext_trans EX0 Eq1
  have K1 := Keep.ext (Keep.refl h0 []) Eq1
  have F1_shape : Fld Z h1 b1 "com/example/cairn/cairn/plan/Stage$Output" "shape" "Lcom/example/cairn/cairn/plan/Stage$Shape;" .null := D1 (Or.inr (hw _ (ow 209 rfl))) (ty := (.object "com/example/cairn/cairn/plan/Stage$Shape")) (by decide)
  have F1_slots : Fld Z h1 b1 "com/example/cairn/cairn/plan/Stage$Output" "slots" "Ljava/util/List;" .null := D1 (Or.inr (hw _ (ow 211 rfl))) (ty := (.object "java/util/List")) (by decide)
  have F1_buckets : Fld Z h1 b1 "com/example/cairn/cairn/plan/Stage$Output" "buckets" "I" (.int (0 : Int32)) := D1 (Or.inr (hw _ (ow 213 rfl))) (ty := .int) (by decide)
  have F1_keys : Fld Z h1 b1 "com/example/cairn/cairn/plan/Stage$Output" "keys" "Ljava/util/List;" .null := D1 (Or.inr (hw _ (ow 215 rfl))) (ty := (.object "java/util/List")) (by decide)
  have F1_grouping : Fld Z h1 b1 "com/example/cairn/cairn/plan/Stage$Output" "grouping" "Lcom/example/cairn/cairn/plan/Grouping;" .null := D1 (Or.inr (hw _ (ow 217 rfl))) (ty := (.object "com/example/cairn/cairn/plan/Grouping")) (by decide)
  obtain ⟨v2, _, ⟨T2, L2, k2, n2⟩, -, X2, ⟨Lc2, hQ2, l2, y2, z2⟩, st2⟩ := Jvm.LawKit.callS X1 hx (y := (⟨"java/util/List", "of", "()Ljava/util/List;"⟩ : MethodName)) hown (mvT hZ (hw _ (ow 229 rfl))) (mvT hZ (hw _ (ow 64 rfl))) (mvT hZ (hw _ (ow 40 rfl))) (mvT hZ (hw _ (ow 65 rfl))) (by decide) (backOf (W := 3) (rm_of0 l Z a0 hw []  h1 n0 w_ROWS w_RESULT w_PARTIAL_GROUPS w_MERGED_GROUPS w_D w_EL w_EE w_C w_EM w_M (own_K_ext EX1 hK)) hZ (hw _ (ow 65 rfl)) (hw _ (ow 40 rfl)) (by decide) (by decide)) (g := (mkF m 5 #[.val (.ref w_MERGED_GROUPS), .val (.ref a2)] [(.ref w_MERGED_GROUPS), (.ref b1), (.ref b1)])) rfl (by rw [hml]; rfl) (argsL := []) (rest := [(.ref w_MERGED_GROUPS), (.ref b1), (.ref b1)]) (lenOf pd_2 rfl) rfl (Nat.le_of_eq rfl) (hb hby d_prog_108_method_2_5) (fun _ _ => ⟨rfl, e1, (by decide : 1 + 0 ≤ _), (by decide : 5 + 0 ≤ _)⟩)
  dsimp only [Pt.U, Pt.locs, Pt.cells, Pt.slots] at X2 l2 y2 z2 st2 hQ2
  subst y2 z2
  obtain ⟨hv2, Nq2, e2⟩ := hQ2
  obtain rfl : v2 = some (.ref w_EL) := hv2
  have N2 : Fr n0 L2 := by rw [l2]; exact Fr.app N0 Nq2
  obtain ⟨v3, _, ⟨T3, L3, k3, n3⟩, -, X3, ⟨Lc3, hQ3, l3, y3, z3⟩, st3⟩ := Jvm.LawKit.callS X2 hx (y := (⟨"java/util/List", "of", "()Ljava/util/List;"⟩ : MethodName)) hown (mvT hZ (hw _ (ow 229 rfl))) (mvT hZ (hw _ (ow 64 rfl))) (mvT hZ (hw _ (ow 40 rfl))) (mvT hZ (hw _ (ow 65 rfl))) (by decide) (backOf (W := 5) (rm_of0 l Z a0 hw []  h1 n0 w_ROWS w_RESULT w_PARTIAL_GROUPS w_MERGED_GROUPS w_D w_EL w_EE w_C w_EM w_M (own_K_ext EX1 hK)) hZ (hw _ (ow 65 rfl)) (hw _ (ow 40 rfl)) (by decide) (by decide)) (g := (mkF m 9 #[.val (.ref w_MERGED_GROUPS), .val (.ref a2)] [(.int (0 : Int32)), (.ref w_EL), (.ref w_MERGED_GROUPS), (.ref b1), (.ref b1)])) rfl (by rw [hml]; rfl) (argsL := []) (rest := [(.int (0 : Int32)), (.ref w_EL), (.ref w_MERGED_GROUPS), (.ref b1), (.ref b1)]) (lenOf pd_2 rfl) rfl (Nat.le_of_eq rfl) (hb hby d_prog_108_method_2_9) (fun _ _ => ⟨rfl, e2, (by decide : 1 + 0 ≤ _), (by decide : 5 + 0 ≤ _)⟩)
  dsimp only [Pt.U, Pt.locs, Pt.cells, Pt.slots] at X3 l3 y3 z3 st3 hQ3
  subst y3 z3
  obtain ⟨hv3, Nq3, e3⟩ := hQ3
  obtain rfl : v3 = some (.ref w_EL) := hv3
  have N3 : Fr n0 L3 := by rw [l3]; exact Fr.app N2 Nq3
  obtain ⟨v4, _, ⟨T4, L4, k4, n4⟩, -, X4, ⟨Lc4, hQ4, l4, y4, z4⟩, st4⟩ := X3.specialBack hx (y := (⟨"com/example/cairn/cairn/plan/Stage$Output", "<init>", "(Lcom/example/cairn/cairn/plan/Stage$Shape;Ljava/util/List;ILjava/util/List;Lcom/example/cairn/cairn/plan/Grouping;)V"⟩ : MethodName)) rfl hown (mvT hZ (hw _ (ow 230 rfl))) (mvT hZ (hw _ (ow 114 rfl))) (mvT hZ (hw _ (ow 115 rfl))) (by decide) (backOf (W := 1) (rm_oiN3 l Z a0 hw [] b1 a2 h1 n0 w_ROWS w_RESULT w_PARTIAL_GROUPS w_MERGED_GROUPS w_D w_EL w_EE w_C w_EM w_M hK hn0 EX1 A1 g_b1 F1_shape F1_slots F1_buckets F1_keys F1_grouping) hZ (hw _ (ow 115 rfl)) (hw _ (ow 112 rfl)) (by decide) (by decide)) (g := (mkF m 13 #[.val (.ref w_MERGED_GROUPS), .val (.ref a2)] [(.ref a2), (.ref w_EL), (.int (0 : Int32)), (.ref w_EL), (.ref w_MERGED_GROUPS), (.ref b1), (.ref b1)])) rfl (by rw [hml]; rfl) (Steps.refl _) (a := b1) (argsL := [(.ref w_MERGED_GROUPS), (.ref w_EL), (.int (0 : Int32)), (.ref w_EL), (.ref a2)]) (rest := [(.ref b1)]) (lenOf pd_15 rfl) rfl (Nat.le_of_eq rfl) (hb hby d_prog_108_method_2_13) (fun _ _ => ⟨rfl, e3, (by decide : 1 + 0 ≤ _), (by decide : 5 + 0 ≤ _)⟩)
  dsimp only [Pt.U, Pt.locs, Pt.cells, Pt.slots] at X4 l4 y4 z4 st4 hQ4
  subst y4 z4
  obtain ⟨hv4, Nq4, Kq4, q4_0, q4_1⟩ := hQ4
  obtain rfl : v4 = none := hv4
  have N4 : Fr n0 L4 := by rw [l4]; exact Fr.app N3 Nq4
  have x4_E_b1 := A1.keep Kq4
  have EX4 := own_ext_keepL EX1 Kq4 (allS (hn0 ▸ g_b1) all0)
  have K4 := Keep.trans K1 Kq4 (allS (Or.inr sz_b1) all0)
  have pre5 : ∀ t, Steps p.tables e below (T4.setTop (mkF m 16 #[.val (.ref w_MERGED_GROUPS), .val (.ref a2)] [(.ref b1)])) t → Steps p.tables e below (s₁.setTop (entryFrame m #[(.ref w_MERGED_GROUPS), (.ref a2)] 2)) t := fun t k => pre0 t (by
    show Steps p.tables e below (s₁.setTop (mkF m 0 #[.val (.ref w_MERGED_GROUPS), .val (.ref a2)] [])) _
    refine st1 _ ?_
    show Steps p.tables e below (T1.setTop (mkF m 3 #[.val (.ref w_MERGED_GROUPS), .val (.ref a2)] [(.ref b1)])) _
    refine XS.dup X1.here hx rfl (hb hby d_prog_108_method_2_3) rfl rfl ?_
    show Steps p.tables e below (T1.setTop (mkF m 4 #[.val (.ref w_MERGED_GROUPS), .val (.ref a2)] [(.ref b1), (.ref b1)])) _
    refine XS.aloadN X1.here hx rfl (hb hby d_prog_108_method_2_4) rfl rfl ?_
    show Steps p.tables e below (T1.setTop (mkF m 5 #[.val (.ref w_MERGED_GROUPS), .val (.ref a2)] [(.ref w_MERGED_GROUPS), (.ref b1), (.ref b1)])) _
    refine st2 _ ?_
    show Steps p.tables e below (T2.setTop (mkF m 8 #[.val (.ref w_MERGED_GROUPS), .val (.ref a2)] [(.ref w_EL), (.ref w_MERGED_GROUPS), (.ref b1), (.ref b1)])) _
    refine XS.iconst X2.here hx rfl (hb hby d_prog_108_method_2_8) ?_
    show Steps p.tables e below (T2.setTop (mkF m 9 #[.val (.ref w_MERGED_GROUPS), .val (.ref a2)] [(.int (0 : Int32)), (.ref w_EL), (.ref w_MERGED_GROUPS), (.ref b1), (.ref b1)])) _
    refine st3 _ ?_
    show Steps p.tables e below (T3.setTop (mkF m 12 #[.val (.ref w_MERGED_GROUPS), .val (.ref a2)] [(.ref w_EL), (.int (0 : Int32)), (.ref w_EL), (.ref w_MERGED_GROUPS), (.ref b1), (.ref b1)])) _
    refine XS.aloadN X3.here hx rfl (hb hby d_prog_108_method_2_12) rfl rfl ?_
    show Steps p.tables e below (T3.setTop (mkF m 13 #[.val (.ref w_MERGED_GROUPS), .val (.ref a2)] [(.ref a2), (.ref w_EL), (.int (0 : Int32)), (.ref w_EL), (.ref w_MERGED_GROUPS), (.ref b1), (.ref b1)])) _
    refine st4.trans ?_
    exact k)
  obtain ⟨fs, hr, hrun, hended, hW, hsame⟩ := X4.leave (v := some (.ref b1)) (fun h => by rw [Bd.returns] at h; cases h)
  refine ⟨_, _, pre5 _ ?_, hrun, hended, _, _, rfl, ?_, ⟨_, rfl⟩, hW, hsame.mono (by decide) (by decide)⟩
  · show Steps p.tables e below (T4.setTop (mkF m 16 #[.val (.ref w_MERGED_GROUPS), .val (.ref a2)] [(.ref b1)])) _
    exact retOut X4 hx Bd.returns rfl (Or.inr (Or.inr (Or.inr (Or.inr ⟨rfl, rfl, rfl⟩)))) (hb hby d_prog_108_method_2_16) hr
  · exact ⟨b1, rfl, sz_b1, N4, by rw [show (T4.setFrames fs).heap = _ from (rfl : T4.heap = T4.heap)]; exact ⟨K4, q4_0, q4_1⟩⟩
theorem pd_16 : parseMethodDescriptor "(Ljava/util/List;Ljava/util/List;)V" = some ⟨[(.object "java/util/List"), (.object "java/util/List")], none⟩ := by decide +kernel
theorem pd_17 : parseMethodDescriptor "(I)Ljava/lang/Integer;" = some ⟨[.int], some (.object "java/lang/Integer")⟩ := by decide +kernel
theorem pd_18 : parseMethodDescriptor "(Ljava/lang/Object;)Z" = some ⟨[(.object "java/lang/Object")], some .boolean⟩ := by decide +kernel
theorem pd_19 : parseMethodDescriptor "(Lcom/example/cairn/cairn/plan/Stage$Shape;Lcom/example/cairn/cairn/plan/Grouping;)Lcom/example/cairn/cairn/plan/Stage$Output;" = some ⟨[(.object "com/example/cairn/cairn/plan/Stage$Shape"), (.object "com/example/cairn/cairn/plan/Grouping")], some (.object "com/example/cairn/cairn/plan/Stage$Output")⟩ := by decide +kernel
theorem pn_17 : plainName "com/example/cairn/cairn/plan/OutputGoesToCoordinatorPinLaw" = true := by first | (simp [plainName, overriddenIn]; done) | decide +kernel
theorem ef_law0 (m : MethodId) (x0 : Int32) (x1 : Int32) : entryFrame m #[(.int x0), (.int x1)] maxLocals = mkF m 0 #[.val (.int x0), .val (.int x1), .unset, .unset, .unset, .unset, .unset, .unset, .unset, .unset, .unset, .unset, .unset, .unset] [] := by first | (simp [entryFrame, mkF, argsToLocals, Value.category, maxLocals]; done) | rfl
set_option maxRecDepth 65536 in
set_option maxHeartbeats 40000000 in
theorem rm_law0 (l : Launch) (Z : State) (a0 : Array Value) (hw : ∀ d ∈ tables_1, d.before a0 Z = true) (ws : List Jvm.Cond) (p1 : Int32) (p2 : Int32) (h0 : Heap) (n0 : Nat) (w_ROWS w_RESULT w_PARTIAL_GROUPS w_MERGED_GROUPS w_D w_EL w_EE w_C w_EM w_M : Addr) (hK : own_K Z Z.heap w_ROWS w_RESULT w_PARTIAL_GROUPS w_MERGED_GROUPS w_D w_EL w_EE w_C w_EM w_M) (hn0 : n0 = Z.heap.size) (EX0 : Ext Z.heap h0) (hk : (p1 &&& (3 : Int32)) = (0 : Int32)) :
    MetFree l x (head1 (Jvm.Cond.code x code maxLocals ret :: ws) room_1) (fun a U => a = #[(.int p1), (.int p2)] ∧ Z.Warmed39 U.vm ∧ U.heap = h0) (fun _ _ _ _ _ => True) (fun _ U o U' => ∃ v L, o = .returned v ∧ own_QH (some (.int (1 : Int32))) n0 v U'.heap L ∧ FrameEnd U o U' L room_1.cells room_1.slots) := by
  refine MetFree.of_bodySF (plainFor_of_name pn_17) hisR ?_
  intro p e s m args below meth c s₁ Bd hml0 hP hK0
  obtain ⟨rfl, hZ, hh⟩ := hP
  have hx := Bd.exec
  have hby := Bd.bytes
  have hml : c.maxLocals = 14 := hml0
  have hown : s.vm.findClass "com/example/cairn/cairn/plan/OutputGoesToCoordinatorPinLaw" = some m.cls := findClass_of_methodNamed Bd.named
  have hnm := (name_of_methodNamed Bd.named Bd.method).1
  have X0 : Stand p l e room_1 s m #[(.int p1), (.int p2)] below meth c s₁ [] 0 0 := Stand.of_body Bd
  have e0 : s₁.heap = h0 := by rw [← hh, Bd.state]; rfl
  have N0 := Fr.nil n0
  have pre0 : ∀ t, Steps p.tables e below (s₁.setTop (mkF m 0 #[.val (.int p1), .val (.int p2), .unset, .unset, .unset, .unset, .unset, .unset, .unset, .unset, .unset, .unset, .unset, .unset] [])) t → Steps p.tables e below (s₁.setTop (entryFrame m #[(.int p1), (.int p2)] maxLocals)) t := fun t k => castTop (ef_law0 m p1 p2) k
  have hK' := hK
  obtain ⟨S_w_ROWS, E_w_ROWS, F_ordinal_w_ROWS, S_w_RESULT, E_w_RESULT, F_ordinal_w_RESULT, S_w_PARTIAL_GROUPS, E_w_PARTIAL_GROUPS, F_ordinal_w_PARTIAL_GROUPS, S_w_MERGED_GROUPS, E_w_MERGED_GROUPS, F_ordinal_w_MERGED_GROUPS, S_w_D, B_w_D, S_w_EL, E_w_EL, F_elements_w_EL, B_w_EE, F_allowNulls_w_EL, S_high, S_w_C, C_w_C, S_w_EM, M_w_M⟩ := hK'
  obtain ⟨cl_w_D, A_w_D, q_w_D⟩ := B_w_D
  obtain ⟨cl_w_EE, A_w_EE, q_w_EE⟩ := B_w_EE
  obtain ⟨T1, h1, X1, e1, Eq1, A1, D1, -, st1⟩ := newO X0 hx hZ hown (hw _ (ow 0 rfl)) (hw _ (ow 1 rfl)) (hw _ (ow 2 rfl)) e0 (g := (mkF m 4 #[.val (.int p1), .val (.int p2), .val (.int (0 : Int32)), .unset, .unset, .unset, .unset, .unset, .unset, .unset, .unset, .unset, .unset, .unset] [])) rfl (hb hby at_4) (by decide) (by decide)
  obtain ⟨b1, gb1⟩ : ∃ z, z = h0.size := ⟨_, rfl⟩
  rw [← gb1] at A1 D1 st1
  have sz_b1 : h0.size ≤ b1 := Nat.le_trans (Keep.refl h0 []).1 (Nat.le_of_eq gb1.symm)
  have g_b1 : n0 ≤ b1 := hn0 ▸ Nat.le_trans EX0.1 (Nat.le_of_eq gb1.symm)
  have EX1 := own_ext_trans EX0 Eq1
  have K1 := Keep.ext (Keep.refl h0 []) Eq1
  have F1_modCount : Fld Z h1 b1 "java/util/AbstractList" "modCount" "I" (.int (0 : Int32)) := D1 (Or.inl (hw _ (ow 22 rfl))) (ty := .int) (by decide)
  have F1_elementData : Fld Z h1 b1 "java/util/ArrayList" "elementData" "[Ljava/lang/Object;" .null := D1 (Or.inl (hw _ (ow 25 rfl))) (ty := (.array (.object "java/lang/Object"))) (by decide)
  have F1_size : Fld Z h1 b1 "java/util/ArrayList" "size" "I" (.int (0 : Int32)) := D1 (Or.inl (hw _ (ow 62 rfl))) (ty := .int) (by decide)
  obtain ⟨v2, _, ⟨T2, L2, k2, n2⟩, -, X2, ⟨Lc2, hQ2, l2, y2, z2⟩, st2⟩ := X1.specialBack hx (y := (⟨"java/util/ArrayList", "<init>", "()V"⟩ : MethodName)) rfl hown (mvT hZ (hw _ (ow 3 rfl))) (mvT hZ (hw _ (ow 4 rfl))) (mvT hZ (hw _ (ow 5 rfl))) (by decide) (backOf (W := 1) (rm_alinit l Z a0 hw [] b1 h1 n0 w_ROWS w_RESULT w_PARTIAL_GROUPS w_MERGED_GROUPS w_D w_EL w_EE w_C w_EM w_M hK hn0 EX1 A1 g_b1 F1_modCount F1_elementData F1_size) hZ (hw _ (ow 5 rfl)) (hw _ (ow 2 rfl)) (by decide) (by decide)) (g := (mkF m 8 #[.val (.int p1), .val (.int p2), .val (.int (0 : Int32)), .unset, .unset, .unset, .unset, .unset, .unset, .unset, .unset, .unset, .unset, .unset] [(.ref b1), (.ref b1)])) rfl (by rw [hml]; rfl) (Steps.refl _) (a := b1) (argsL := []) (rest := [(.ref b1)]) (lenOf pd_0 rfl) rfl (Nat.le_of_eq rfl) (hb hby at_8) (fun _ _ => ⟨rfl, e1, (by decide : 1 + 0 ≤ _), (by decide : 3 + 0 ≤ _)⟩)
  dsimp only [Pt.U, Pt.locs, Pt.cells, Pt.slots] at X2 l2 y2 z2 st2 hQ2
  subst y2 z2
  obtain ⟨hv2, Nq2, Kq2, q2_0, q2_1, q2_2, q2_3⟩ := hQ2
  obtain rfl : v2 = none := hv2
  have N2 : Fr n0 L2 := by rw [l2]; exact Fr.app N0 Nq2
  have x2_E_b1 := A1.keep Kq2
  have EX2 := own_ext_keepL EX1 Kq2 (allS (hn0 ▸ g_b1) all0)
  have K2 := Keep.trans K1 Kq2 (allS (Or.inr sz_b1) all0)
  obtain ⟨T3, h3, X3, e3, Eq3, A3, D3, -, st3⟩ := newO X2 hx hZ hown (hw _ (ow 26 rfl)) (hw _ (ow 27 rfl)) (hw _ (ow 28 rfl)) (rfl : T2.heap = T2.heap) (g := (mkF m 12 #[.val (.int p1), .val (.int p2), .val (.int (0 : Int32)), .val (.ref b1), .unset, .unset, .unset, .unset, .unset, .unset, .unset, .unset, .unset, .unset] [])) rfl (hb hby at_12) (by decide) (by decide)
  obtain ⟨b3, gb3⟩ : ∃ z, z = T2.heap.size := ⟨_, rfl⟩
  rw [← gb3] at A3 D3 st3
  have ne_b1_b3 : b1 ≠ b3 := Nat.ne_of_lt (Nat.lt_of_lt_of_le q2_0.lt (Nat.le_of_eq gb3.symm))
  have sz_b3 : h0.size ≤ b3 := Nat.le_trans K2.1 (Nat.le_of_eq gb3.symm)
  have g_b3 : n0 ≤ b3 := hn0 ▸ Nat.le_trans EX2.1 (Nat.le_of_eq gb3.symm)
  have x3_E_b1 := q2_0.ext Eq3
  have x3_F_b1_modCount := q2_1.ext Eq3
  have x3_F_b1_elementData := q2_2.ext Eq3
  have x3_F_b1_size := q2_3.ext Eq3
  have EX3 := own_ext_trans EX2 Eq3
  have K3 := Keep.ext K2 Eq3
  have F3_keys : Fld Z h3 b3 "com/example/cairn/cairn/plan/Grouping" "keys" "Ljava/util/List;" .null := D3 (Or.inr (hw _ (ow 68 rfl))) (ty := (.object "java/util/List")) (by decide)
  have F3_aggregates : Fld Z h3 b3 "com/example/cairn/cairn/plan/Grouping" "aggregates" "Ljava/util/List;" .null := D3 (Or.inr (hw _ (ow 70 rfl))) (ty := (.object "java/util/List")) (by decide)
  obtain ⟨T4, h4, X4, e4, Eq4, A4, D4, -, st4⟩ := newO X3 hx hZ hown (hw _ (ow 0 rfl)) (hw _ (ow 1 rfl)) (hw _ (ow 2 rfl)) e3 (g := (mkF m 16 #[.val (.int p1), .val (.int p2), .val (.int (0 : Int32)), .val (.ref b1), .unset, .unset, .unset, .unset, .unset, .unset, .unset, .unset, .unset, .unset] [(.ref b3), (.ref b3)])) rfl (hb hby at_16) (by decide) (by decide)
  obtain ⟨b4, gb4⟩ : ∃ z, z = h3.size := ⟨_, rfl⟩
  rw [← gb4] at A4 D4 st4
  have ne_b1_b4 : b1 ≠ b4 := Nat.ne_of_lt (Nat.lt_of_lt_of_le x3_E_b1.lt (Nat.le_of_eq gb4.symm))
  have ne_b3_b4 : b3 ≠ b4 := Nat.ne_of_lt (Nat.lt_of_lt_of_le A3.lt (Nat.le_of_eq gb4.symm))
  have sz_b4 : h0.size ≤ b4 := Nat.le_trans K3.1 (Nat.le_of_eq gb4.symm)
  have g_b4 : n0 ≤ b4 := hn0 ▸ Nat.le_trans EX3.1 (Nat.le_of_eq gb4.symm)
  have x4_E_b1 := x3_E_b1.ext Eq4
  have x4_F_b1_modCount := x3_F_b1_modCount.ext Eq4
  have x4_F_b1_elementData := x3_F_b1_elementData.ext Eq4
  have x4_F_b1_size := x3_F_b1_size.ext Eq4
  have x4_E_b3 := A3.ext Eq4
  have x4_F_b3_keys := F3_keys.ext Eq4
  have x4_F_b3_aggregates := F3_aggregates.ext Eq4
  have EX4 := own_ext_trans EX3 Eq4
  have K4 := Keep.ext K3 Eq4
  have F4_modCount : Fld Z h4 b4 "java/util/AbstractList" "modCount" "I" (.int (0 : Int32)) := D4 (Or.inl (hw _ (ow 22 rfl))) (ty := .int) (by decide)
  have F4_elementData : Fld Z h4 b4 "java/util/ArrayList" "elementData" "[Ljava/lang/Object;" .null := D4 (Or.inl (hw _ (ow 25 rfl))) (ty := (.array (.object "java/lang/Object"))) (by decide)
  have F4_size : Fld Z h4 b4 "java/util/ArrayList" "size" "I" (.int (0 : Int32)) := D4 (Or.inl (hw _ (ow 62 rfl))) (ty := .int) (by decide)
  obtain ⟨v5, _, ⟨T5, L5, k5, n5⟩, -, X5, ⟨Lc5, hQ5, l5, y5, z5⟩, st5⟩ := X4.specialBack hx (y := (⟨"java/util/ArrayList", "<init>", "()V"⟩ : MethodName)) rfl hown (mvT hZ (hw _ (ow 3 rfl))) (mvT hZ (hw _ (ow 4 rfl))) (mvT hZ (hw _ (ow 5 rfl))) (by decide) (backOf (W := 3) (rm_alinit l Z a0 hw [] b4 h4 n0 w_ROWS w_RESULT w_PARTIAL_GROUPS w_MERGED_GROUPS w_D w_EL w_EE w_C w_EM w_M hK hn0 EX4 A4 g_b4 F4_modCount F4_elementData F4_size) hZ (hw _ (ow 5 rfl)) (hw _ (ow 2 rfl)) (by decide) (by decide)) (g := (mkF m 20 #[.val (.int p1), .val (.int p2), .val (.int (0 : Int32)), .val (.ref b1), .unset, .unset, .unset, .unset, .unset, .unset, .unset, .unset, .unset, .unset] [(.ref b4), (.ref b4), (.ref b3), (.ref b3)])) rfl (by rw [hml]; rfl) (Steps.refl _) (a := b4) (argsL := []) (rest := [(.ref b4), (.ref b3), (.ref b3)]) (lenOf pd_0 rfl) rfl (Nat.le_of_eq rfl) (hb hby at_20) (fun _ _ => ⟨rfl, e4, (by decide : 3 + 0 ≤ _), (by decide : 8 + 0 ≤ _)⟩)
  dsimp only [Pt.U, Pt.locs, Pt.cells, Pt.slots] at X5 l5 y5 z5 st5 hQ5
  subst y5 z5
  obtain ⟨hv5, Nq5, Kq5, q5_0, q5_1, q5_2, q5_3⟩ := hQ5
  obtain rfl : v5 = none := hv5
  have N5 : Fr n0 L5 := by rw [l5]; exact Fr.app N2 Nq5
  have x5_E_b1 := x4_E_b1.keep Kq5
  have x5_F_b1_modCount := x4_F_b1_modCount.keep Kq5 (ninS ne_b1_b4 nin0)
  have x5_F_b1_elementData := x4_F_b1_elementData.keep Kq5 (ninS ne_b1_b4 nin0)
  have x5_F_b1_size := x4_F_b1_size.keep Kq5 (ninS ne_b1_b4 nin0)
  have x5_E_b3 := x4_E_b3.keep Kq5
  have x5_F_b3_keys := x4_F_b3_keys.keep Kq5 (ninS ne_b3_b4 nin0)
  have x5_F_b3_aggregates := x4_F_b3_aggregates.keep Kq5 (ninS ne_b3_b4 nin0)
  have x5_E_b4 := A4.keep Kq5
  have EX5 := own_ext_keepL EX4 Kq5 (allS (hn0 ▸ g_b4) all0)
  have K5 := Keep.trans K4 Kq5 (allS (Or.inr sz_b4) all0)
  obtain ⟨T6, h6, X6, e6, Eq6, A6, D6, -, st6⟩ := newO X5 hx hZ hown (hw _ (ow 0 rfl)) (hw _ (ow 1 rfl)) (hw _ (ow 2 rfl)) (rfl : T5.heap = T5.heap) (g := (mkF m 23 #[.val (.int p1), .val (.int p2), .val (.int (0 : Int32)), .val (.ref b1), .unset, .unset, .unset, .unset, .unset, .unset, .unset, .unset, .unset, .unset] [(.ref b4), (.ref b3), (.ref b3)])) rfl (hb hby at_23) (by decide) (by decide)
  obtain ⟨b6, gb6⟩ : ∃ z, z = T5.heap.size := ⟨_, rfl⟩
  rw [← gb6] at A6 D6 st6
  have ne_b1_b6 : b1 ≠ b6 := Nat.ne_of_lt (Nat.lt_of_lt_of_le x5_E_b1.lt (Nat.le_of_eq gb6.symm))
  have ne_b3_b6 : b3 ≠ b6 := Nat.ne_of_lt (Nat.lt_of_lt_of_le x5_E_b3.lt (Nat.le_of_eq gb6.symm))
  have ne_b4_b6 : b4 ≠ b6 := Nat.ne_of_lt (Nat.lt_of_lt_of_le q5_0.lt (Nat.le_of_eq gb6.symm))
  have sz_b6 : h0.size ≤ b6 := Nat.le_trans K5.1 (Nat.le_of_eq gb6.symm)
  have g_b6 : n0 ≤ b6 := hn0 ▸ Nat.le_trans EX5.1 (Nat.le_of_eq gb6.symm)
  have x6_E_b1 := x5_E_b1.ext Eq6
  have x6_F_b1_modCount := x5_F_b1_modCount.ext Eq6
  have x6_F_b1_elementData := x5_F_b1_elementData.ext Eq6
  have x6_F_b1_size := x5_F_b1_size.ext Eq6
  have x6_E_b3 := x5_E_b3.ext Eq6
  have x6_F_b3_keys := x5_F_b3_keys.ext Eq6
  have x6_F_b3_aggregates := x5_F_b3_aggregates.ext Eq6
  have x6_E_b4 := q5_0.ext Eq6
  have x6_F_b4_modCount := q5_1.ext Eq6
  have x6_F_b4_elementData := q5_2.ext Eq6
  have x6_F_b4_size := q5_3.ext Eq6
  have EX6 := own_ext_trans EX5 Eq6
  have K6 := Keep.ext K5 Eq6
  have F6_modCount : Fld Z h6 b6 "java/util/AbstractList" "modCount" "I" (.int (0 : Int32)) := D6 (Or.inl (hw _ (ow 22 rfl))) (ty := .int) (by decide)
  have F6_elementData : Fld Z h6 b6 "java/util/ArrayList" "elementData" "[Ljava/lang/Object;" .null := D6 (Or.inl (hw _ (ow 25 rfl))) (ty := (.array (.object "java/lang/Object"))) (by decide)
  have F6_size : Fld Z h6 b6 "java/util/ArrayList" "size" "I" (.int (0 : Int32)) := D6 (Or.inl (hw _ (ow 62 rfl))) (ty := .int) (by decide)
  obtain ⟨v7, _, ⟨T7, L7, k7, n7⟩, -, X7, ⟨Lc7, hQ7, l7, y7, z7⟩, st7⟩ := X6.specialBack hx (y := (⟨"java/util/ArrayList", "<init>", "()V"⟩ : MethodName)) rfl hown (mvT hZ (hw _ (ow 3 rfl))) (mvT hZ (hw _ (ow 4 rfl))) (mvT hZ (hw _ (ow 5 rfl))) (by decide) (backOf (W := 4) (rm_alinit l Z a0 hw [] b6 h6 n0 w_ROWS w_RESULT w_PARTIAL_GROUPS w_MERGED_GROUPS w_D w_EL w_EE w_C w_EM w_M hK hn0 EX6 A6 g_b6 F6_modCount F6_elementData F6_size) hZ (hw _ (ow 5 rfl)) (hw _ (ow 2 rfl)) (by decide) (by decide)) (g := (mkF m 27 #[.val (.int p1), .val (.int p2), .val (.int (0 : Int32)), .val (.ref b1), .unset, .unset, .unset, .unset, .unset, .unset, .unset, .unset, .unset, .unset] [(.ref b6), (.ref b6), (.ref b4), (.ref b3), (.ref b3)])) rfl (by rw [hml]; rfl) (Steps.refl _) (a := b6) (argsL := []) (rest := [(.ref b6), (.ref b4), (.ref b3), (.ref b3)]) (lenOf pd_0 rfl) rfl (Nat.le_of_eq rfl) (hb hby at_27) (fun _ _ => ⟨rfl, e6, (by decide : 4 + 0 ≤ _), (by decide : 11 + 0 ≤ _)⟩)
  dsimp only [Pt.U, Pt.locs, Pt.cells, Pt.slots] at X7 l7 y7 z7 st7 hQ7
  subst y7 z7
  obtain ⟨hv7, Nq7, Kq7, q7_0, q7_1, q7_2, q7_3⟩ := hQ7
  obtain rfl : v7 = none := hv7
  have N7 : Fr n0 L7 := by rw [l7]; exact Fr.app N5 Nq7
  have x7_E_b1 := x6_E_b1.keep Kq7
  have x7_F_b1_modCount := x6_F_b1_modCount.keep Kq7 (ninS ne_b1_b6 nin0)
  have x7_F_b1_elementData := x6_F_b1_elementData.keep Kq7 (ninS ne_b1_b6 nin0)
  have x7_F_b1_size := x6_F_b1_size.keep Kq7 (ninS ne_b1_b6 nin0)
  have x7_E_b3 := x6_E_b3.keep Kq7
  have x7_F_b3_keys := x6_F_b3_keys.keep Kq7 (ninS ne_b3_b6 nin0)
  have x7_F_b3_aggregates := x6_F_b3_aggregates.keep Kq7 (ninS ne_b3_b6 nin0)
  have x7_E_b4 := x6_E_b4.keep Kq7
  have x7_F_b4_modCount := x6_F_b4_modCount.keep Kq7 (ninS ne_b4_b6 nin0)
  have x7_F_b4_elementData := x6_F_b4_elementData.keep Kq7 (ninS ne_b4_b6 nin0)
  have x7_F_b4_size := x6_F_b4_size.keep Kq7 (ninS ne_b4_b6 nin0)
  have x7_E_b6 := A6.keep Kq7
  have EX7 := own_ext_keepL EX6 Kq7 (allS (hn0 ▸ g_b6) all0)
  have K7 := Keep.trans K6 Kq7 (allS (Or.inr sz_b6) all0)
  obtain ⟨v8, _, ⟨T8, L8, k8, n8⟩, -, X8, ⟨Lc8, hQ8, l8, y8, z8⟩, st8⟩ := X7.specialBack hx (y := (⟨"com/example/cairn/cairn/plan/Grouping", "<init>", "(Ljava/util/List;Ljava/util/List;)V"⟩ : MethodName)) rfl hown (mvT hZ (hw _ (ow 29 rfl))) (mvT hZ (hw _ (ow 30 rfl))) (mvT hZ (hw _ (ow 31 rfl))) (by decide) (backOf (W := 1) (rm_grinit l Z a0 hw [] b3 b4 b6 T7.heap n0 w_ROWS w_RESULT w_PARTIAL_GROUPS w_MERGED_GROUPS w_D w_EL w_EE w_C w_EM w_M hK hn0 EX7 x7_E_b3 g_b3 x7_F_b3_keys x7_F_b3_aggregates x7_E_b4 g_b4 x7_F_b4_size q7_0 g_b6 q7_3) hZ (hw _ (ow 31 rfl)) (hw _ (ow 28 rfl)) (by decide) (by decide)) (g := (mkF m 30 #[.val (.int p1), .val (.int p2), .val (.int (0 : Int32)), .val (.ref b1), .unset, .unset, .unset, .unset, .unset, .unset, .unset, .unset, .unset, .unset] [(.ref b6), (.ref b4), (.ref b3), (.ref b3)])) rfl (by rw [hml]; rfl) (Steps.refl _) (a := b3) (argsL := [(.ref b4), (.ref b6)]) (rest := [(.ref b3)]) (lenOf pd_16 rfl) rfl (Nat.le_of_eq rfl) (hb hby at_30) (fun _ _ => ⟨rfl, (rfl : T7.heap = T7.heap), (by decide : 4 + 0 ≤ _), (by decide : 11 + 0 ≤ _)⟩)
  dsimp only [Pt.U, Pt.locs, Pt.cells, Pt.slots] at X8 l8 y8 z8 st8 hQ8
  subst y8 z8
  obtain ⟨hv8, Nq8, Kq8, q8_0⟩ := hQ8
  obtain rfl : v8 = none := hv8
  have N8 : Fr n0 L8 := by rw [l8]; exact Fr.app N7 Nq8
  have x8_E_b1 := x7_E_b1.keep Kq8
  have x8_F_b1_modCount := x7_F_b1_modCount.keep Kq8 (ninS ne_b1_b3 nin0)
  have x8_F_b1_elementData := x7_F_b1_elementData.keep Kq8 (ninS ne_b1_b3 nin0)
  have x8_F_b1_size := x7_F_b1_size.keep Kq8 (ninS ne_b1_b3 nin0)
  have x8_E_b3 := x7_E_b3.keep Kq8
  have x8_E_b4 := x7_E_b4.keep Kq8
  have x8_F_b4_modCount := x7_F_b4_modCount.keep Kq8 (ninS (Ne.symm ne_b3_b4) nin0)
  have x8_F_b4_elementData := x7_F_b4_elementData.keep Kq8 (ninS (Ne.symm ne_b3_b4) nin0)
  have x8_F_b4_size := x7_F_b4_size.keep Kq8 (ninS (Ne.symm ne_b3_b4) nin0)
  have x8_E_b6 := q7_0.keep Kq8
  have x8_F_b6_modCount := q7_1.keep Kq8 (ninS (Ne.symm ne_b3_b6) nin0)
  have x8_F_b6_elementData := q7_2.keep Kq8 (ninS (Ne.symm ne_b3_b6) nin0)
  have x8_F_b6_size := q7_3.keep Kq8 (ninS (Ne.symm ne_b3_b6) nin0)
  have EX8 := own_ext_keepL EX7 Kq8 (allS (hn0 ▸ g_b3) all0)
  have K8 := Keep.trans K7 Kq8 (allS (Or.inr sz_b3) all0)
  obtain ⟨T9, X9, e9, st9⟩ := getS2 X8 hx hZ hown (host := "") (Or.inl (hw _ (ow 71 rfl))) Via.refl (rfl : T8.heap = T8.heap) (S_w_ROWS.ext EX8) (g := (mkF m 39 #[.val (.int p1), .val (.int p2), .val (.int (0 : Int32)), .val (.ref b1), .val (.ref b3), .unset, .unset, .unset, .unset, .unset, .unset, .unset, .unset, .unset] [])) rfl (hb hby at_39)
  obtain ⟨v10, _, ⟨T10, L10, k10, n10⟩, -, X10, ⟨Lc10, hQ10, l10, y10, z10⟩, st10⟩ := Jvm.LawKit.callS X9 hx (y := (⟨"java/lang/Integer", "valueOf", "(I)Ljava/lang/Integer;"⟩ : MethodName)) hown (mvT hZ (hw _ (ow 74 rfl))) (mvT hZ (hw _ (ow 75 rfl))) (mvT hZ (hw _ (ow 76 rfl))) (mvT hZ (hw _ (ow 77 rfl))) (by decide) (backOf (W := 1) (rm_valueOf l Z a0 hw [] p2 T8.heap n0 w_ROWS w_RESULT w_PARTIAL_GROUPS w_MERGED_GROUPS w_D w_EL w_EE w_C w_EM w_M hK hn0 EX8) hZ (hw _ (ow 77 rfl)) (hw _ (ow 76 rfl)) (by decide) (by decide)) (g := (mkF m 49 #[.val (.int p1), .val (.int p2), .val (.int (0 : Int32)), .val (.ref b1), .val (.ref b3), .val (.ref w_ROWS), .val (.int (1 : Int32)), .unset, .unset, .unset, .unset, .unset, .unset, .unset] [(.int p2), (.ref b1)])) rfl (by rw [hml]; rfl) (argsL := [(.int p2)]) (rest := [(.ref b1)]) (lenOf pd_17 rfl) rfl (Nat.le_of_eq rfl) (hb hby at_49) (fun _ _ => ⟨rfl, e9, (by decide : 4 + 1 ≤ _), (by decide : 11 + 1 ≤ _)⟩)
  dsimp only [Pt.U, Pt.locs, Pt.cells, Pt.slots] at X10 l10 y10 z10 st10 hQ10
  subst y10 z10
  obtain ⟨r10, hv10, Nq10, Kq10, q10_0⟩ := hQ10
  obtain rfl : v10 = some (.ref r10) := hv10
  have N10 : Fr n0 L10 := by rw [l10]; exact Fr.app N8 Nq10
  have x10_E_b1 := x8_E_b1.keep Kq10
  have x10_F_b1_modCount := x8_F_b1_modCount.keep Kq10 nin0
  have x10_F_b1_elementData := x8_F_b1_elementData.keep Kq10 nin0
  have x10_F_b1_size := x8_F_b1_size.keep Kq10 nin0
  have EX10 := own_ext_keepL EX8 Kq10 all0
  have K10 := Keep.trans K8 Kq10 all0
  obtain ⟨cq11, kq11, q11a, q11b, q11c⟩ := isOf hZ (rfl : T10.heap = T10.heap) x10_E_b1
  obtain ⟨v11, _, ⟨T11, L11, k11, n11⟩, -, X11, ⟨Lc11, hQ11, l11, y11, z11⟩, st11⟩ := X10.virtualBack hx (y := (⟨"java/util/ArrayList", "add", "(Ljava/lang/Object;)Z"⟩ : MethodName)) (z := (⟨"java/util/ArrayList", "add", "(Ljava/lang/Object;)Z"⟩ : MethodName)) hown (mvT hZ (hw _ (ow 81 rfl))) (mvT hZ (hw _ (ow 82 rfl))) (notFace_of_selects (args := #[]) (mvT hZ (hw _ (ow 84 rfl)))) (mvT hZ (hw _ (ow 84 rfl))) (mvT hZ (hw _ (ow 83 rfl))) (by decide) (backOf (W := 0) (rm_add1 l Z a0 hw [] b1 r10 T10.heap n0 w_ROWS w_RESULT w_PARTIAL_GROUPS w_MERGED_GROUPS w_D w_EL w_EE w_C w_EM w_M hK hn0 EX10 x10_E_b1 g_b1 x10_F_b1_modCount x10_F_b1_elementData x10_F_b1_size q10_0) hZ (hw _ (ow 85 rfl)) (hw _ (ow 2 rfl)) (by decide) (by decide)) q11a q11c (g := (mkF m 52 #[.val (.int p1), .val (.int p2), .val (.int (0 : Int32)), .val (.ref b1), .val (.ref b3), .val (.ref w_ROWS), .val (.int (1 : Int32)), .unset, .unset, .unset, .unset, .unset, .unset, .unset] [(.ref r10), (.ref b1)])) rfl (by rw [hml]; rfl) (Steps.refl _) (argsL := [(.ref r10)]) (rest := []) (lenOf pd_18 rfl) rfl (Nat.le_of_eq rfl) (hb hby at_52) (fun _ _ => ⟨rfl, (rfl : T10.heap = T10.heap), (by decide : 5 + 1 ≤ _), (by decide : 12 + 10 ≤ _)⟩)
  dsimp only [Pt.U, Pt.locs, Pt.cells, Pt.slots] at X11 l11 y11 z11 st11 hQ11
  subst y11 z11
  obtain ⟨hv11, Nq11, Kq11, q11_0, q11_1, q11_2, q11_3⟩ := hQ11
  obtain rfl : v11 = some (.int (1 : Int32)) := hv11
  obtain ⟨ar11, ka11, sa11, fa11, aa11, ea11, oa11⟩ := q11_3
  have ne_b1_ar11 : b1 ≠ ar11 := Nat.ne_of_lt (Nat.lt_of_lt_of_le x10_E_b1.lt sa11)
  have sz_ar11 : h0.size ≤ ar11 := Nat.le_trans K10.1 sa11
  have g_ar11 : n0 ≤ ar11 := hn0 ▸ Nat.le_trans EX10.1 sa11
  have N11 : Fr n0 L11 := by rw [l11]; exact Fr.app N10 Nq11
  have x11_E_b1 := x10_E_b1.keep Kq11
  have x11_E_r10 := q10_0.keep Kq11
  have EX11 := own_ext_keepL EX10 Kq11 (allS (hn0 ▸ g_b1) all0)
  have K11 := Keep.trans K10 Kq11 (allS (Or.inr sz_b1) all0)
  obtain ⟨T12, h12, X12, e12, Eq12, A12, D12, -, st12⟩ := newO X11 hx hZ hown (hw _ (ow 110 rfl)) (hw _ (ow 111 rfl)) (hw _ (ow 112 rfl)) (rfl : T11.heap = T11.heap) (g := (mkF m 137 #[.val (.int p1), .val (.int p2), .val (.int (0 : Int32)), .val (.ref b1), .val (.ref b3), .val (.ref w_ROWS), .val (.int (1 : Int32)), .val .null, .val (.int (0 : Int32)), .unset, .unset, .unset, .unset, .unset] [])) rfl (hb hby at_137) (by decide) (by decide)
  obtain ⟨b12, gb12⟩ : ∃ z, z = T11.heap.size := ⟨_, rfl⟩
  rw [← gb12] at A12 D12 st12
  have ne_b1_b12 : b1 ≠ b12 := Nat.ne_of_lt (Nat.lt_of_lt_of_le q11_0.lt (Nat.le_of_eq gb12.symm))
  have ne_ar11_b12 : ar11 ≠ b12 := Nat.ne_of_lt (Nat.lt_of_lt_of_le ea11.lt (Nat.le_of_eq gb12.symm))
  have sz_b12 : h0.size ≤ b12 := Nat.le_trans K11.1 (Nat.le_of_eq gb12.symm)
  have g_b12 : n0 ≤ b12 := hn0 ▸ Nat.le_trans EX11.1 (Nat.le_of_eq gb12.symm)
  have x12_E_b1 := q11_0.ext Eq12
  have x12_E_r10 := q11_2.ext Eq12
  have x12_F_b1_size := q11_1.ext Eq12
  have x12_F_b1_elementData := fa11.ext Eq12
  have x12_A_ar11 := aa11.ext Eq12
  have x12_E_ar11 := ea11.ext Eq12
  have EX12 := own_ext_trans EX11 Eq12
  have K12 := Keep.ext K11 Eq12
  have F12_shape : Fld Z h12 b12 "com/example/cairn/cairn/plan/Stage$Output" "shape" "Lcom/example/cairn/cairn/plan/Stage$Shape;" .null := D12 (Or.inr (hw _ (ow 209 rfl))) (ty := (.object "com/example/cairn/cairn/plan/Stage$Shape")) (by decide)
  have F12_slots : Fld Z h12 b12 "com/example/cairn/cairn/plan/Stage$Output" "slots" "Ljava/util/List;" .null := D12 (Or.inr (hw _ (ow 211 rfl))) (ty := (.object "java/util/List")) (by decide)
  have F12_buckets : Fld Z h12 b12 "com/example/cairn/cairn/plan/Stage$Output" "buckets" "I" (.int (0 : Int32)) := D12 (Or.inr (hw _ (ow 213 rfl))) (ty := .int) (by decide)
  have F12_keys : Fld Z h12 b12 "com/example/cairn/cairn/plan/Stage$Output" "keys" "Ljava/util/List;" .null := D12 (Or.inr (hw _ (ow 215 rfl))) (ty := (.object "java/util/List")) (by decide)
  have F12_grouping : Fld Z h12 b12 "com/example/cairn/cairn/plan/Stage$Output" "grouping" "Lcom/example/cairn/cairn/plan/Grouping;" .null := D12 (Or.inr (hw _ (ow 217 rfl))) (ty := (.object "com/example/cairn/cairn/plan/Grouping")) (by decide)
  obtain ⟨T13, h13, X13, e13, Eq13, A13, D13, -, st13⟩ := newO X12 hx hZ hown (hw _ (ow 0 rfl)) (hw _ (ow 1 rfl)) (hw _ (ow 2 rfl)) e12 (g := (mkF m 146 #[.val (.int p1), .val (.int p2), .val (.int (0 : Int32)), .val (.ref b1), .val (.ref b3), .val (.ref w_ROWS), .val (.int (1 : Int32)), .val .null, .val (.int (0 : Int32)), .unset, .unset, .unset, .unset, .unset] [(.int (1 : Int32)), (.ref b1), (.ref w_ROWS), (.ref b12), (.ref b12)])) rfl (hb hby at_146) (by decide) (by decide)
  obtain ⟨b13, gb13⟩ : ∃ z, z = h12.size := ⟨_, rfl⟩
  rw [← gb13] at A13 D13 st13
  have ne_b1_b13 : b1 ≠ b13 := Nat.ne_of_lt (Nat.lt_of_lt_of_le x12_E_b1.lt (Nat.le_of_eq gb13.symm))
  have ne_ar11_b13 : ar11 ≠ b13 := Nat.ne_of_lt (Nat.lt_of_lt_of_le x12_E_ar11.lt (Nat.le_of_eq gb13.symm))
  have ne_b12_b13 : b12 ≠ b13 := Nat.ne_of_lt (Nat.lt_of_lt_of_le A12.lt (Nat.le_of_eq gb13.symm))
  have sz_b13 : h0.size ≤ b13 := Nat.le_trans K12.1 (Nat.le_of_eq gb13.symm)
  have g_b13 : n0 ≤ b13 := hn0 ▸ Nat.le_trans EX12.1 (Nat.le_of_eq gb13.symm)
  have x13_E_b1 := x12_E_b1.ext Eq13
  have x13_E_r10 := x12_E_r10.ext Eq13
  have x13_F_b1_size := x12_F_b1_size.ext Eq13
  have x13_F_b1_elementData := x12_F_b1_elementData.ext Eq13
  have x13_A_ar11 := x12_A_ar11.ext Eq13
  have x13_E_ar11 := x12_E_ar11.ext Eq13
  have x13_E_b12 := A12.ext Eq13
  have x13_F_b12_shape := F12_shape.ext Eq13
  have x13_F_b12_slots := F12_slots.ext Eq13
  have x13_F_b12_buckets := F12_buckets.ext Eq13
  have x13_F_b12_keys := F12_keys.ext Eq13
  have x13_F_b12_grouping := F12_grouping.ext Eq13
  have EX13 := own_ext_trans EX12 Eq13
  have K13 := Keep.ext K12 Eq13
  have F13_modCount : Fld Z h13 b13 "java/util/AbstractList" "modCount" "I" (.int (0 : Int32)) := D13 (Or.inl (hw _ (ow 22 rfl))) (ty := .int) (by decide)
  have F13_elementData : Fld Z h13 b13 "java/util/ArrayList" "elementData" "[Ljava/lang/Object;" .null := D13 (Or.inl (hw _ (ow 25 rfl))) (ty := (.array (.object "java/lang/Object"))) (by decide)
  have F13_size : Fld Z h13 b13 "java/util/ArrayList" "size" "I" (.int (0 : Int32)) := D13 (Or.inl (hw _ (ow 62 rfl))) (ty := .int) (by decide)
  obtain ⟨v14, _, ⟨T14, L14, k14, n14⟩, -, X14, ⟨Lc14, hQ14, l14, y14, z14⟩, st14⟩ := X13.specialBack hx (y := (⟨"java/util/ArrayList", "<init>", "()V"⟩ : MethodName)) rfl hown (mvT hZ (hw _ (ow 3 rfl))) (mvT hZ (hw _ (ow 4 rfl))) (mvT hZ (hw _ (ow 5 rfl))) (by decide) (backOf (W := 6) (rm_alinit l Z a0 hw [] b13 h13 n0 w_ROWS w_RESULT w_PARTIAL_GROUPS w_MERGED_GROUPS w_D w_EL w_EE w_C w_EM w_M hK hn0 EX13 A13 g_b13 F13_modCount F13_elementData F13_size) hZ (hw _ (ow 5 rfl)) (hw _ (ow 2 rfl)) (by decide) (by decide)) (g := (mkF m 150 #[.val (.int p1), .val (.int p2), .val (.int (0 : Int32)), .val (.ref b1), .val (.ref b3), .val (.ref w_ROWS), .val (.int (1 : Int32)), .val .null, .val (.int (0 : Int32)), .unset, .unset, .unset, .unset, .unset] [(.ref b13), (.ref b13), (.int (1 : Int32)), (.ref b1), (.ref w_ROWS), (.ref b12), (.ref b12)])) rfl (by rw [hml]; rfl) (Steps.refl _) (a := b13) (argsL := []) (rest := [(.ref b13), (.int (1 : Int32)), (.ref b1), (.ref w_ROWS), (.ref b12), (.ref b12)]) (lenOf pd_0 rfl) rfl (Nat.le_of_eq rfl) (hb hby at_150) (fun _ _ => ⟨rfl, e13, (by decide : 8 + 0 ≤ _), (by decide : 30 + 0 ≤ _)⟩)
  dsimp only [Pt.U, Pt.locs, Pt.cells, Pt.slots] at X14 l14 y14 z14 st14 hQ14
  subst y14 z14
  obtain ⟨hv14, Nq14, Kq14, q14_0, q14_1, q14_2, q14_3⟩ := hQ14
  obtain rfl : v14 = none := hv14
  have N14 : Fr n0 L14 := by rw [l14]; exact Fr.app N11 Nq14
  have x14_E_b1 := x13_E_b1.keep Kq14
  have x14_E_r10 := x13_E_r10.keep Kq14
  have x14_F_b1_size := x13_F_b1_size.keep Kq14 (ninS ne_b1_b13 nin0)
  have x14_F_b1_elementData := x13_F_b1_elementData.keep Kq14 (ninS ne_b1_b13 nin0)
  have x14_A_ar11 := x13_A_ar11.keep Kq14 (ninS ne_ar11_b13 nin0)
  have x14_E_ar11 := x13_E_ar11.keep Kq14
  have x14_E_b12 := x13_E_b12.keep Kq14
  have x14_F_b12_shape := x13_F_b12_shape.keep Kq14 (ninS ne_b12_b13 nin0)
  have x14_F_b12_slots := x13_F_b12_slots.keep Kq14 (ninS ne_b12_b13 nin0)
  have x14_F_b12_buckets := x13_F_b12_buckets.keep Kq14 (ninS ne_b12_b13 nin0)
  have x14_F_b12_keys := x13_F_b12_keys.keep Kq14 (ninS ne_b12_b13 nin0)
  have x14_F_b12_grouping := x13_F_b12_grouping.keep Kq14 (ninS ne_b12_b13 nin0)
  have x14_E_b13 := A13.keep Kq14
  have EX14 := own_ext_keepL EX13 Kq14 (allS (hn0 ▸ g_b13) all0)
  have K14 := Keep.trans K13 Kq14 (allS (Or.inr sz_b13) all0)
  obtain ⟨v15, _, ⟨T15, L15, k15, n15⟩, -, X15, ⟨Lc15, hQ15, l15, y15, z15⟩, st15⟩ := X14.specialBack hx (y := (⟨"com/example/cairn/cairn/plan/Stage$Output", "<init>", "(Lcom/example/cairn/cairn/plan/Stage$Shape;Ljava/util/List;ILjava/util/List;Lcom/example/cairn/cairn/plan/Grouping;)V"⟩ : MethodName)) rfl hown (mvT hZ (hw _ (ow 113 rfl))) (mvT hZ (hw _ (ow 114 rfl))) (mvT hZ (hw _ (ow 115 rfl))) (by decide) (backOf (W := 1) (rm_oi0 l Z a0 hw [] b12 b1 b13 T14.heap n0 w_ROWS w_RESULT w_PARTIAL_GROUPS w_MERGED_GROUPS w_D w_EL w_EE w_C w_EM w_M hK hn0 EX14 ar11 r10 ka11 x14_E_b12 g_b12 x14_F_b12_shape x14_F_b12_slots x14_F_b12_buckets x14_F_b12_keys x14_F_b12_grouping x14_E_b1 g_b1 x14_F_b1_elementData x14_F_b1_size q14_0 g_b13 q14_3 x14_A_ar11 oa11 g_ar11 x14_E_ar11 x14_E_r10) hZ (hw _ (ow 115 rfl)) (hw _ (ow 112 rfl)) (by decide) (by decide)) (g := (mkF m 155 #[.val (.int p1), .val (.int p2), .val (.int (0 : Int32)), .val (.ref b1), .val (.ref b3), .val (.ref w_ROWS), .val (.int (1 : Int32)), .val .null, .val (.int (0 : Int32)), .unset, .unset, .unset, .unset, .unset] [.null, (.ref b13), (.int (1 : Int32)), (.ref b1), (.ref w_ROWS), (.ref b12), (.ref b12)])) rfl (by rw [hml]; rfl) (Steps.refl _) (a := b12) (argsL := [(.ref w_ROWS), (.ref b1), (.int (1 : Int32)), (.ref b13), .null]) (rest := [(.ref b12)]) (lenOf pd_15 rfl) rfl (Nat.le_of_eq rfl) (hb hby at_155) (fun _ _ => ⟨rfl, (rfl : T14.heap = T14.heap), (by decide : 8 + 2 ≤ _), (by decide : 30 + 3 ≤ _)⟩)
  dsimp only [Pt.U, Pt.locs, Pt.cells, Pt.slots] at X15 l15 y15 z15 st15 hQ15
  subst y15 z15
  obtain ⟨hv15, Nq15, Kq15, q15_0, q15_1⟩ := hQ15
  obtain rfl : v15 = none := hv15
  have N15 : Fr n0 L15 := by rw [l15]; exact Fr.app N14 Nq15
  have x15_E_b1 := x14_E_b1.keep Kq15
  have x15_E_r10 := x14_E_r10.keep Kq15
  have x15_F_b1_size := x14_F_b1_size.keep Kq15 (ninS ne_b1_b12 nin0)
  have x15_F_b1_elementData := x14_F_b1_elementData.keep Kq15 (ninS ne_b1_b12 nin0)
  have x15_A_ar11 := x14_A_ar11.keep Kq15 (ninS ne_ar11_b12 nin0)
  have x15_E_ar11 := x14_E_ar11.keep Kq15
  have x15_E_b12 := x14_E_b12.keep Kq15
  have x15_E_b13 := q14_0.keep Kq15
  have x15_F_b13_modCount := q14_1.keep Kq15 (ninS (Ne.symm ne_b12_b13) nin0)
  have x15_F_b13_elementData := q14_2.keep Kq15 (ninS (Ne.symm ne_b12_b13) nin0)
  have x15_F_b13_size := q14_3.keep Kq15 (ninS (Ne.symm ne_b12_b13) nin0)
  have EX15 := own_ext_keepL EX14 Kq15 (allS (hn0 ▸ g_b12) all0)
  have K15 := Keep.trans K14 Kq15 (allS (Or.inr sz_b12) all0)
  obtain ⟨cq16, kq16, q16a, q16b, q16c⟩ := isOf hZ (rfl : T15.heap = T15.heap) q15_0
  obtain ⟨v16, _, ⟨T16, L16, k16, n16⟩, -, X16, ⟨Lc16, hQ16, l16, y16, z16⟩, st16⟩ := X15.virtualBack hx (y := (⟨"com/example/cairn/cairn/plan/Stage$Output", "goesToCoordinator", "()Z"⟩ : MethodName)) (z := (⟨"com/example/cairn/cairn/plan/Stage$Output", "goesToCoordinator", "()Z"⟩ : MethodName)) hown (mvT hZ (hw _ (ow 218 rfl))) (mvT hZ (hw _ (ow 219 rfl))) (notFace_of_selects (args := #[]) (mvT hZ (hw _ (ow 221 rfl)))) (mvT hZ (hw _ (ow 221 rfl))) (mvT hZ (hw _ (ow 220 rfl))) (by decide) (backOf (W := 0) (rm_goes l Z a0 hw [] b12 (1 : Int32) T15.heap n0 q15_1) hZ (hw _ (ow 222 rfl)) (hw _ (ow 112 rfl)) (by decide) (by decide)) q16a q16c (g := (mkF m 162 #[.val (.int p1), .val (.int p2), .val (.int (0 : Int32)), .val (.ref b1), .val (.ref b3), .val (.ref w_ROWS), .val (.int (1 : Int32)), .val .null, .val (.int (0 : Int32)), .val (.ref b12), .unset, .unset, .unset, .unset] [(.ref b12)])) rfl (by rw [hml]; rfl) (Steps.refl _) (argsL := []) (rest := []) (lenOf pd_1 rfl) rfl (Nat.le_of_eq rfl) (hb hby at_162) (fun _ _ => ⟨rfl, (rfl : T15.heap = T15.heap), (by decide : 10 + 0 ≤ _), (by decide : 33 + 0 ≤ _)⟩)
  dsimp only [Pt.U, Pt.locs, Pt.cells, Pt.slots] at X16 l16 y16 z16 st16 hQ16
  subst y16 z16
  obtain ⟨hv16, Nq16, e16⟩ := hQ16
  obtain rfl : v16 = some (.int (0 : Int32)) := hv16.trans (congrArg some (congrArg Value.int (if_neg (by decide))))
  have N16 : Fr n0 L16 := by rw [l16]; exact Fr.app N15 Nq16
  obtain ⟨T17, X17, e17, st17⟩ := getS2 X16 hx hZ hown (host := "") (Or.inl (hw _ (ow 223 rfl))) Via.refl e16 (S_w_RESULT.ext EX15) (g := (mkF m 211 #[.val (.int p1), .val (.int p2), .val (.int (0 : Int32)), .val (.ref b1), .val (.ref b3), .val (.ref w_ROWS), .val (.int (1 : Int32)), .val .null, .val (.int (0 : Int32)), .val (.ref b12), .val (.int (1 : Int32)), .unset, .unset, .unset] [])) rfl (hb hby at_211)
  obtain ⟨v18, _, ⟨T18, L18, k18, n18⟩, -, X18, ⟨Lc18, hQ18, l18, y18, z18⟩, st18⟩ := Jvm.LawKit.callS X17 hx (y := (⟨"com/example/cairn/cairn/plan/Stage$Output", "toCoordinator", "(Lcom/example/cairn/cairn/plan/Stage$Shape;Lcom/example/cairn/cairn/plan/Grouping;)Lcom/example/cairn/cairn/plan/Stage$Output;"⟩ : MethodName)) hown (mvT hZ (hw _ (ow 225 rfl))) (mvT hZ (hw _ (ow 226 rfl))) (mvT hZ (hw _ (ow 112 rfl))) (mvT hZ (hw _ (ow 227 rfl))) (by decide) (backOf (W := 0) (rm_toC_RESULT l Z a0 hw []  T15.heap n0 w_ROWS w_RESULT w_PARTIAL_GROUPS w_MERGED_GROUPS w_D w_EL w_EE w_C w_EM w_M hK hn0 EX15) hZ (hw _ (ow 227 rfl)) (hw _ (ow 112 rfl)) (by decide) (by decide)) (g := (mkF m 223 #[.val (.int p1), .val (.int p2), .val (.int (0 : Int32)), .val (.ref b1), .val (.ref b3), .val (.ref w_ROWS), .val (.int (1 : Int32)), .val .null, .val (.int (0 : Int32)), .val (.ref b12), .val (.int (1 : Int32)), .val (.ref w_RESULT), .val .null, .unset] [.null, (.ref w_RESULT)])) rfl (by rw [hml]; rfl) (argsL := [(.ref w_RESULT), .null]) (rest := []) (lenOf pd_19 rfl) rfl (Nat.le_of_eq rfl) (hb hby at_223) (fun _ _ => ⟨rfl, e17, (by decide : 10 + 1 ≤ _), (by decide : 33 + 5 ≤ _)⟩)
  dsimp only [Pt.U, Pt.locs, Pt.cells, Pt.slots] at X18 l18 y18 z18 st18 hQ18
  subst y18 z18
  obtain ⟨r18, hv18, sy18, Nq18, Kq18, q18_0, q18_1⟩ := hQ18
  obtain rfl : v18 = some (.ref r18) := hv18
  have ne_b12_r18 : b12 ≠ r18 := Nat.ne_of_lt (Nat.lt_of_lt_of_le q15_0.lt sy18)
  have sz_r18 : h0.size ≤ r18 := Nat.le_trans K15.1 sy18
  have g_r18 : n0 ≤ r18 := hn0 ▸ Nat.le_trans EX15.1 sy18
  have N18 : Fr n0 L18 := by rw [l18]; exact Fr.app N16 Nq18
  have x18_E_b12 := q15_0.keep Kq18
  have x18_F_b12_buckets := q15_1.keep Kq18 nin0
  have EX18 := own_ext_keepL EX15 Kq18 all0
  have K18 := Keep.trans K15 Kq18 all0
  obtain ⟨cq19, kq19, q19a, q19b, q19c⟩ := isOf hZ (rfl : T18.heap = T18.heap) q18_0
  obtain ⟨v19, _, ⟨T19, L19, k19, n19⟩, -, X19, ⟨Lc19, hQ19, l19, y19, z19⟩, st19⟩ := X18.virtualBack hx (y := (⟨"com/example/cairn/cairn/plan/Stage$Output", "goesToCoordinator", "()Z"⟩ : MethodName)) (z := (⟨"com/example/cairn/cairn/plan/Stage$Output", "goesToCoordinator", "()Z"⟩ : MethodName)) hown (mvT hZ (hw _ (ow 218 rfl))) (mvT hZ (hw _ (ow 219 rfl))) (notFace_of_selects (args := #[]) (mvT hZ (hw _ (ow 221 rfl)))) (mvT hZ (hw _ (ow 221 rfl))) (mvT hZ (hw _ (ow 220 rfl))) (by decide) (backOf (W := 0) (rm_goes l Z a0 hw [] r18 (0 : Int32) T18.heap n0 q18_1) hZ (hw _ (ow 222 rfl)) (hw _ (ow 112 rfl)) (by decide) (by decide)) q19a q19c (g := (mkF m 235 #[.val (.int p1), .val (.int p2), .val (.int (0 : Int32)), .val (.ref b1), .val (.ref b3), .val (.ref w_ROWS), .val (.int (1 : Int32)), .val .null, .val (.int (0 : Int32)), .val (.ref b12), .val (.int (1 : Int32)), .val (.ref w_RESULT), .val .null, .val (.ref r18)] [(.ref r18)])) rfl (by rw [hml]; rfl) (Steps.refl _) (argsL := []) (rest := []) (lenOf pd_1 rfl) rfl (Nat.le_of_eq rfl) (hb hby at_235) (fun _ _ => ⟨rfl, (rfl : T18.heap = T18.heap), (by decide : 11 + 0 ≤ _), (by decide : 38 + 0 ≤ _)⟩)
  dsimp only [Pt.U, Pt.locs, Pt.cells, Pt.slots] at X19 l19 y19 z19 st19 hQ19
  subst y19 z19
  obtain ⟨hv19, Nq19, e19⟩ := hQ19
  obtain rfl : v19 = some (.int (1 : Int32)) := hv19.trans (congrArg some (congrArg Value.int (if_pos (by decide))))
  have N19 : Fr n0 L19 := by rw [l19]; exact Fr.app N18 Nq19
  have pre20 : ∀ t, Steps p.tables e below (T19.setTop (mkF m 246 #[.val (.int p1), .val (.int p2), .val (.int (0 : Int32)), .val (.ref b1), .val (.ref b3), .val (.ref w_ROWS), .val (.int (1 : Int32)), .val .null, .val (.int (0 : Int32)), .val (.ref b12), .val (.int (1 : Int32)), .val (.ref w_RESULT), .val .null, .val (.ref r18)] [(.int (1 : Int32))])) t → Steps p.tables e below (s₁.setTop (entryFrame m #[(.int p1), (.int p2)] maxLocals)) t := fun t k => pre0 t (by
    show Steps p.tables e below (s₁.setTop (mkF m 0 #[.val (.int p1), .val (.int p2), .unset, .unset, .unset, .unset, .unset, .unset, .unset, .unset, .unset, .unset, .unset, .unset] [])) _
    refine XS.iloadN X0.here hx rfl (hb hby at_0) rfl ?_
    show Steps p.tables e below (s₁.setTop (mkF m 1 #[.val (.int p1), .val (.int p2), .unset, .unset, .unset, .unset, .unset, .unset, .unset, .unset, .unset, .unset, .unset, .unset] [(.int p1)])) _
    refine XS.iconst X0.here hx rfl (hb hby at_1) ?_
    show Steps p.tables e below (s₁.setTop (mkF m 2 #[.val (.int p1), .val (.int p2), .unset, .unset, .unset, .unset, .unset, .unset, .unset, .unset, .unset, .unset, .unset, .unset] [(.int (3 : Int32)), (.int p1)])) _
    refine XS.iand X0.here hx rfl (hb hby at_2) rfl ?_
    show Steps p.tables e below (s₁.setTop (mkF m 3 #[.val (.int p1), .val (.int p2), .unset, .unset, .unset, .unset, .unset, .unset, .unset, .unset, .unset, .unset, .unset, .unset] [(.int (p1 &&& (3 : Int32)))])) _
    rw [hk]
    show Steps p.tables e below (s₁.setTop (mkF m 3 #[.val (.int p1), .val (.int p2), .unset, .unset, .unset, .unset, .unset, .unset, .unset, .unset, .unset, .unset, .unset, .unset] [(.int (0 : Int32))])) _
    refine XS.istoreN X0.here hx rfl (hb hby at_3) rfl (l' := #[.val (.int p1), .val (.int p2), .val (.int (0 : Int32)), .unset, .unset, .unset, .unset, .unset, .unset, .unset, .unset, .unset, .unset, .unset]) rfl ?_
    show Steps p.tables e below (s₁.setTop (mkF m 4 #[.val (.int p1), .val (.int p2), .val (.int (0 : Int32)), .unset, .unset, .unset, .unset, .unset, .unset, .unset, .unset, .unset, .unset, .unset] [])) _
    refine st1 _ ?_
    show Steps p.tables e below (T1.setTop (mkF m 7 #[.val (.int p1), .val (.int p2), .val (.int (0 : Int32)), .unset, .unset, .unset, .unset, .unset, .unset, .unset, .unset, .unset, .unset, .unset] [(.ref b1)])) _
    refine XS.dup X1.here hx rfl (hb hby at_7) rfl rfl ?_
    show Steps p.tables e below (T1.setTop (mkF m 8 #[.val (.int p1), .val (.int p2), .val (.int (0 : Int32)), .unset, .unset, .unset, .unset, .unset, .unset, .unset, .unset, .unset, .unset, .unset] [(.ref b1), (.ref b1)])) _
    refine st2.trans ?_
    show Steps p.tables e below (T2.setTop (mkF m 11 #[.val (.int p1), .val (.int p2), .val (.int (0 : Int32)), .unset, .unset, .unset, .unset, .unset, .unset, .unset, .unset, .unset, .unset, .unset] [(.ref b1)])) _
    refine XS.astoreN X2.here hx rfl (hb hby at_11) rfl rfl (l' := #[.val (.int p1), .val (.int p2), .val (.int (0 : Int32)), .val (.ref b1), .unset, .unset, .unset, .unset, .unset, .unset, .unset, .unset, .unset, .unset]) rfl ?_
    show Steps p.tables e below (T2.setTop (mkF m 12 #[.val (.int p1), .val (.int p2), .val (.int (0 : Int32)), .val (.ref b1), .unset, .unset, .unset, .unset, .unset, .unset, .unset, .unset, .unset, .unset] [])) _
    refine st3 _ ?_
    show Steps p.tables e below (T3.setTop (mkF m 15 #[.val (.int p1), .val (.int p2), .val (.int (0 : Int32)), .val (.ref b1), .unset, .unset, .unset, .unset, .unset, .unset, .unset, .unset, .unset, .unset] [(.ref b3)])) _
    refine XS.dup X3.here hx rfl (hb hby at_15) rfl rfl ?_
    show Steps p.tables e below (T3.setTop (mkF m 16 #[.val (.int p1), .val (.int p2), .val (.int (0 : Int32)), .val (.ref b1), .unset, .unset, .unset, .unset, .unset, .unset, .unset, .unset, .unset, .unset] [(.ref b3), (.ref b3)])) _
    refine st4 _ ?_
    show Steps p.tables e below (T4.setTop (mkF m 19 #[.val (.int p1), .val (.int p2), .val (.int (0 : Int32)), .val (.ref b1), .unset, .unset, .unset, .unset, .unset, .unset, .unset, .unset, .unset, .unset] [(.ref b4), (.ref b3), (.ref b3)])) _
    refine XS.dup X4.here hx rfl (hb hby at_19) rfl rfl ?_
    show Steps p.tables e below (T4.setTop (mkF m 20 #[.val (.int p1), .val (.int p2), .val (.int (0 : Int32)), .val (.ref b1), .unset, .unset, .unset, .unset, .unset, .unset, .unset, .unset, .unset, .unset] [(.ref b4), (.ref b4), (.ref b3), (.ref b3)])) _
    refine st5.trans ?_
    show Steps p.tables e below (T5.setTop (mkF m 23 #[.val (.int p1), .val (.int p2), .val (.int (0 : Int32)), .val (.ref b1), .unset, .unset, .unset, .unset, .unset, .unset, .unset, .unset, .unset, .unset] [(.ref b4), (.ref b3), (.ref b3)])) _
    refine st6 _ ?_
    show Steps p.tables e below (T6.setTop (mkF m 26 #[.val (.int p1), .val (.int p2), .val (.int (0 : Int32)), .val (.ref b1), .unset, .unset, .unset, .unset, .unset, .unset, .unset, .unset, .unset, .unset] [(.ref b6), (.ref b4), (.ref b3), (.ref b3)])) _
    refine XS.dup X6.here hx rfl (hb hby at_26) rfl rfl ?_
    show Steps p.tables e below (T6.setTop (mkF m 27 #[.val (.int p1), .val (.int p2), .val (.int (0 : Int32)), .val (.ref b1), .unset, .unset, .unset, .unset, .unset, .unset, .unset, .unset, .unset, .unset] [(.ref b6), (.ref b6), (.ref b4), (.ref b3), (.ref b3)])) _
    refine st7.trans ?_
    show Steps p.tables e below (T7.setTop (mkF m 30 #[.val (.int p1), .val (.int p2), .val (.int (0 : Int32)), .val (.ref b1), .unset, .unset, .unset, .unset, .unset, .unset, .unset, .unset, .unset, .unset] [(.ref b6), (.ref b4), (.ref b3), (.ref b3)])) _
    refine st8.trans ?_
    show Steps p.tables e below (T8.setTop (mkF m 33 #[.val (.int p1), .val (.int p2), .val (.int (0 : Int32)), .val (.ref b1), .unset, .unset, .unset, .unset, .unset, .unset, .unset, .unset, .unset, .unset] [(.ref b3)])) _
    refine XS.astore X8.here hx rfl (hb hby at_33) rfl rfl (l' := #[.val (.int p1), .val (.int p2), .val (.int (0 : Int32)), .val (.ref b1), .val (.ref b3), .unset, .unset, .unset, .unset, .unset, .unset, .unset, .unset, .unset]) rfl ?_
    show Steps p.tables e below (T8.setTop (mkF m 35 #[.val (.int p1), .val (.int p2), .val (.int (0 : Int32)), .val (.ref b1), .val (.ref b3), .unset, .unset, .unset, .unset, .unset, .unset, .unset, .unset, .unset] [])) _
    refine XS.iloadN X8.here hx rfl (hb hby at_35) rfl ?_
    show Steps p.tables e below (T8.setTop (mkF m 36 #[.val (.int p1), .val (.int p2), .val (.int (0 : Int32)), .val (.ref b1), .val (.ref b3), .unset, .unset, .unset, .unset, .unset, .unset, .unset, .unset, .unset] [(.int (0 : Int32))])) _
    refine XS.ifNo X8.here hx rfl (hb hby at_36) rfl ((if0 _ _).trans (teq (by decide)).2) ?_
    show Steps p.tables e below (T8.setTop (mkF m 39 #[.val (.int p1), .val (.int p2), .val (.int (0 : Int32)), .val (.ref b1), .val (.ref b3), .unset, .unset, .unset, .unset, .unset, .unset, .unset, .unset, .unset] [])) _
    refine st9 _ ?_
    show Steps p.tables e below (T9.setTop (mkF m 42 #[.val (.int p1), .val (.int p2), .val (.int (0 : Int32)), .val (.ref b1), .val (.ref b3), .unset, .unset, .unset, .unset, .unset, .unset, .unset, .unset, .unset] [(.ref w_ROWS)])) _
    refine XS.astore X9.here hx rfl (hb hby at_42) rfl rfl (l' := #[.val (.int p1), .val (.int p2), .val (.int (0 : Int32)), .val (.ref b1), .val (.ref b3), .val (.ref w_ROWS), .unset, .unset, .unset, .unset, .unset, .unset, .unset, .unset]) rfl ?_
    show Steps p.tables e below (T9.setTop (mkF m 44 #[.val (.int p1), .val (.int p2), .val (.int (0 : Int32)), .val (.ref b1), .val (.ref b3), .val (.ref w_ROWS), .unset, .unset, .unset, .unset, .unset, .unset, .unset, .unset] [])) _
    refine XS.iconst X9.here hx rfl (hb hby at_44) ?_
    show Steps p.tables e below (T9.setTop (mkF m 45 #[.val (.int p1), .val (.int p2), .val (.int (0 : Int32)), .val (.ref b1), .val (.ref b3), .val (.ref w_ROWS), .unset, .unset, .unset, .unset, .unset, .unset, .unset, .unset] [(.int (1 : Int32))])) _
    refine XS.istore X9.here hx rfl (hb hby at_45) rfl (l' := #[.val (.int p1), .val (.int p2), .val (.int (0 : Int32)), .val (.ref b1), .val (.ref b3), .val (.ref w_ROWS), .val (.int (1 : Int32)), .unset, .unset, .unset, .unset, .unset, .unset, .unset]) rfl ?_
    show Steps p.tables e below (T9.setTop (mkF m 47 #[.val (.int p1), .val (.int p2), .val (.int (0 : Int32)), .val (.ref b1), .val (.ref b3), .val (.ref w_ROWS), .val (.int (1 : Int32)), .unset, .unset, .unset, .unset, .unset, .unset, .unset] [])) _
    refine XS.aloadN X9.here hx rfl (hb hby at_47) rfl rfl ?_
    show Steps p.tables e below (T9.setTop (mkF m 48 #[.val (.int p1), .val (.int p2), .val (.int (0 : Int32)), .val (.ref b1), .val (.ref b3), .val (.ref w_ROWS), .val (.int (1 : Int32)), .unset, .unset, .unset, .unset, .unset, .unset, .unset] [(.ref b1)])) _
    refine XS.iloadN X9.here hx rfl (hb hby at_48) rfl ?_
    show Steps p.tables e below (T9.setTop (mkF m 49 #[.val (.int p1), .val (.int p2), .val (.int (0 : Int32)), .val (.ref b1), .val (.ref b3), .val (.ref w_ROWS), .val (.int (1 : Int32)), .unset, .unset, .unset, .unset, .unset, .unset, .unset] [(.int p2), (.ref b1)])) _
    refine st10 _ ?_
    show Steps p.tables e below (T10.setTop (mkF m 52 #[.val (.int p1), .val (.int p2), .val (.int (0 : Int32)), .val (.ref b1), .val (.ref b3), .val (.ref w_ROWS), .val (.int (1 : Int32)), .unset, .unset, .unset, .unset, .unset, .unset, .unset] [(.ref r10), (.ref b1)])) _
    refine st11.trans ?_
    show Steps p.tables e below (T11.setTop (mkF m 55 #[.val (.int p1), .val (.int p2), .val (.int (0 : Int32)), .val (.ref b1), .val (.ref b3), .val (.ref w_ROWS), .val (.int (1 : Int32)), .unset, .unset, .unset, .unset, .unset, .unset, .unset] [(.int (1 : Int32))])) _
    refine XS.pop X11.here hx rfl (hb hby at_55) rfl rfl ?_
    show Steps p.tables e below (T11.setTop (mkF m 56 #[.val (.int p1), .val (.int p2), .val (.int (0 : Int32)), .val (.ref b1), .val (.ref b3), .val (.ref w_ROWS), .val (.int (1 : Int32)), .unset, .unset, .unset, .unset, .unset, .unset, .unset] [])) _
    refine XS.aconstNull X11.here hx rfl (hb hby at_56) ?_
    show Steps p.tables e below (T11.setTop (mkF m 57 #[.val (.int p1), .val (.int p2), .val (.int (0 : Int32)), .val (.ref b1), .val (.ref b3), .val (.ref w_ROWS), .val (.int (1 : Int32)), .unset, .unset, .unset, .unset, .unset, .unset, .unset] [.null])) _
    refine XS.astore X11.here hx rfl (hb hby at_57) rfl rfl (l' := #[.val (.int p1), .val (.int p2), .val (.int (0 : Int32)), .val (.ref b1), .val (.ref b3), .val (.ref w_ROWS), .val (.int (1 : Int32)), .val .null, .unset, .unset, .unset, .unset, .unset, .unset]) rfl ?_
    show Steps p.tables e below (T11.setTop (mkF m 59 #[.val (.int p1), .val (.int p2), .val (.int (0 : Int32)), .val (.ref b1), .val (.ref b3), .val (.ref w_ROWS), .val (.int (1 : Int32)), .val .null, .unset, .unset, .unset, .unset, .unset, .unset] [])) _
    refine XS.iconst X11.here hx rfl (hb hby at_59) ?_
    show Steps p.tables e below (T11.setTop (mkF m 60 #[.val (.int p1), .val (.int p2), .val (.int (0 : Int32)), .val (.ref b1), .val (.ref b3), .val (.ref w_ROWS), .val (.int (1 : Int32)), .val .null, .unset, .unset, .unset, .unset, .unset, .unset] [(.int (0 : Int32))])) _
    refine XS.istore X11.here hx rfl (hb hby at_60) rfl (l' := #[.val (.int p1), .val (.int p2), .val (.int (0 : Int32)), .val (.ref b1), .val (.ref b3), .val (.ref w_ROWS), .val (.int (1 : Int32)), .val .null, .val (.int (0 : Int32)), .unset, .unset, .unset, .unset, .unset]) rfl ?_
    show Steps p.tables e below (T11.setTop (mkF m 62 #[.val (.int p1), .val (.int p2), .val (.int (0 : Int32)), .val (.ref b1), .val (.ref b3), .val (.ref w_ROWS), .val (.int (1 : Int32)), .val .null, .val (.int (0 : Int32)), .unset, .unset, .unset, .unset, .unset] [])) _
    refine XS.goto X11.here hx rfl (pc0 := 62) (pc' := 137) rfl (hb hby at_62) (by decide) (by decide) ?_
    show Steps p.tables e below (T11.setTop (mkF m 137 #[.val (.int p1), .val (.int p2), .val (.int (0 : Int32)), .val (.ref b1), .val (.ref b3), .val (.ref w_ROWS), .val (.int (1 : Int32)), .val .null, .val (.int (0 : Int32)), .unset, .unset, .unset, .unset, .unset] [])) _
    refine st12 _ ?_
    show Steps p.tables e below (T12.setTop (mkF m 140 #[.val (.int p1), .val (.int p2), .val (.int (0 : Int32)), .val (.ref b1), .val (.ref b3), .val (.ref w_ROWS), .val (.int (1 : Int32)), .val .null, .val (.int (0 : Int32)), .unset, .unset, .unset, .unset, .unset] [(.ref b12)])) _
    refine XS.dup X12.here hx rfl (hb hby at_140) rfl rfl ?_
    show Steps p.tables e below (T12.setTop (mkF m 141 #[.val (.int p1), .val (.int p2), .val (.int (0 : Int32)), .val (.ref b1), .val (.ref b3), .val (.ref w_ROWS), .val (.int (1 : Int32)), .val .null, .val (.int (0 : Int32)), .unset, .unset, .unset, .unset, .unset] [(.ref b12), (.ref b12)])) _
    refine XS.aload X12.here hx rfl (hb hby at_141) rfl rfl ?_
    show Steps p.tables e below (T12.setTop (mkF m 143 #[.val (.int p1), .val (.int p2), .val (.int (0 : Int32)), .val (.ref b1), .val (.ref b3), .val (.ref w_ROWS), .val (.int (1 : Int32)), .val .null, .val (.int (0 : Int32)), .unset, .unset, .unset, .unset, .unset] [(.ref w_ROWS), (.ref b12), (.ref b12)])) _
    refine XS.aloadN X12.here hx rfl (hb hby at_143) rfl rfl ?_
    show Steps p.tables e below (T12.setTop (mkF m 144 #[.val (.int p1), .val (.int p2), .val (.int (0 : Int32)), .val (.ref b1), .val (.ref b3), .val (.ref w_ROWS), .val (.int (1 : Int32)), .val .null, .val (.int (0 : Int32)), .unset, .unset, .unset, .unset, .unset] [(.ref b1), (.ref w_ROWS), (.ref b12), (.ref b12)])) _
    refine XS.iload X12.here hx rfl (hb hby at_144) rfl ?_
    show Steps p.tables e below (T12.setTop (mkF m 146 #[.val (.int p1), .val (.int p2), .val (.int (0 : Int32)), .val (.ref b1), .val (.ref b3), .val (.ref w_ROWS), .val (.int (1 : Int32)), .val .null, .val (.int (0 : Int32)), .unset, .unset, .unset, .unset, .unset] [(.int (1 : Int32)), (.ref b1), (.ref w_ROWS), (.ref b12), (.ref b12)])) _
    refine st13 _ ?_
    show Steps p.tables e below (T13.setTop (mkF m 149 #[.val (.int p1), .val (.int p2), .val (.int (0 : Int32)), .val (.ref b1), .val (.ref b3), .val (.ref w_ROWS), .val (.int (1 : Int32)), .val .null, .val (.int (0 : Int32)), .unset, .unset, .unset, .unset, .unset] [(.ref b13), (.int (1 : Int32)), (.ref b1), (.ref w_ROWS), (.ref b12), (.ref b12)])) _
    refine XS.dup X13.here hx rfl (hb hby at_149) rfl rfl ?_
    show Steps p.tables e below (T13.setTop (mkF m 150 #[.val (.int p1), .val (.int p2), .val (.int (0 : Int32)), .val (.ref b1), .val (.ref b3), .val (.ref w_ROWS), .val (.int (1 : Int32)), .val .null, .val (.int (0 : Int32)), .unset, .unset, .unset, .unset, .unset] [(.ref b13), (.ref b13), (.int (1 : Int32)), (.ref b1), (.ref w_ROWS), (.ref b12), (.ref b12)])) _
    refine st14.trans ?_
    show Steps p.tables e below (T14.setTop (mkF m 153 #[.val (.int p1), .val (.int p2), .val (.int (0 : Int32)), .val (.ref b1), .val (.ref b3), .val (.ref w_ROWS), .val (.int (1 : Int32)), .val .null, .val (.int (0 : Int32)), .unset, .unset, .unset, .unset, .unset] [(.ref b13), (.int (1 : Int32)), (.ref b1), (.ref w_ROWS), (.ref b12), (.ref b12)])) _
    refine XS.aload X14.here hx rfl (hb hby at_153) rfl rfl ?_
    show Steps p.tables e below (T14.setTop (mkF m 155 #[.val (.int p1), .val (.int p2), .val (.int (0 : Int32)), .val (.ref b1), .val (.ref b3), .val (.ref w_ROWS), .val (.int (1 : Int32)), .val .null, .val (.int (0 : Int32)), .unset, .unset, .unset, .unset, .unset] [.null, (.ref b13), (.int (1 : Int32)), (.ref b1), (.ref w_ROWS), (.ref b12), (.ref b12)])) _
    refine st15.trans ?_
    show Steps p.tables e below (T15.setTop (mkF m 158 #[.val (.int p1), .val (.int p2), .val (.int (0 : Int32)), .val (.ref b1), .val (.ref b3), .val (.ref w_ROWS), .val (.int (1 : Int32)), .val .null, .val (.int (0 : Int32)), .unset, .unset, .unset, .unset, .unset] [(.ref b12)])) _
    refine XS.astore X15.here hx rfl (hb hby at_158) rfl rfl (l' := #[.val (.int p1), .val (.int p2), .val (.int (0 : Int32)), .val (.ref b1), .val (.ref b3), .val (.ref w_ROWS), .val (.int (1 : Int32)), .val .null, .val (.int (0 : Int32)), .val (.ref b12), .unset, .unset, .unset, .unset]) rfl ?_
    show Steps p.tables e below (T15.setTop (mkF m 160 #[.val (.int p1), .val (.int p2), .val (.int (0 : Int32)), .val (.ref b1), .val (.ref b3), .val (.ref w_ROWS), .val (.int (1 : Int32)), .val .null, .val (.int (0 : Int32)), .val (.ref b12), .unset, .unset, .unset, .unset] [])) _
    refine XS.aload X15.here hx rfl (hb hby at_160) rfl rfl ?_
    show Steps p.tables e below (T15.setTop (mkF m 162 #[.val (.int p1), .val (.int p2), .val (.int (0 : Int32)), .val (.ref b1), .val (.ref b3), .val (.ref w_ROWS), .val (.int (1 : Int32)), .val .null, .val (.int (0 : Int32)), .val (.ref b12), .unset, .unset, .unset, .unset] [(.ref b12)])) _
    refine st16.trans ?_
    show Steps p.tables e below (T16.setTop (mkF m 165 #[.val (.int p1), .val (.int p2), .val (.int (0 : Int32)), .val (.ref b1), .val (.ref b3), .val (.ref w_ROWS), .val (.int (1 : Int32)), .val .null, .val (.int (0 : Int32)), .val (.ref b12), .unset, .unset, .unset, .unset] [(.int (0 : Int32))])) _
    refine XS.iload X16.here hx rfl (hb hby at_165) rfl ?_
    show Steps p.tables e below (T16.setTop (mkF m 167 #[.val (.int p1), .val (.int p2), .val (.int (0 : Int32)), .val (.ref b1), .val (.ref b3), .val (.ref w_ROWS), .val (.int (1 : Int32)), .val .null, .val (.int (0 : Int32)), .val (.ref b12), .unset, .unset, .unset, .unset] [(.int (0 : Int32)), (.int (0 : Int32))])) _
    refine XS.icmpNo X16.here hx rfl (hb hby at_167) rfl (teq (by decide)).2 ?_
    show Steps p.tables e below (T16.setTop (mkF m 170 #[.val (.int p1), .val (.int p2), .val (.int (0 : Int32)), .val (.ref b1), .val (.ref b3), .val (.ref w_ROWS), .val (.int (1 : Int32)), .val .null, .val (.int (0 : Int32)), .val (.ref b12), .unset, .unset, .unset, .unset] [])) _
    refine XS.iconst X16.here hx rfl (hb hby at_170) ?_
    show Steps p.tables e below (T16.setTop (mkF m 171 #[.val (.int p1), .val (.int p2), .val (.int (0 : Int32)), .val (.ref b1), .val (.ref b3), .val (.ref w_ROWS), .val (.int (1 : Int32)), .val .null, .val (.int (0 : Int32)), .val (.ref b12), .unset, .unset, .unset, .unset] [(.int (1 : Int32))])) _
    refine XS.goto X16.here hx rfl (pc0 := 171) (pc' := 175) rfl (hb hby at_171) (by decide) (by decide) ?_
    show Steps p.tables e below (T16.setTop (mkF m 175 #[.val (.int p1), .val (.int p2), .val (.int (0 : Int32)), .val (.ref b1), .val (.ref b3), .val (.ref w_ROWS), .val (.int (1 : Int32)), .val .null, .val (.int (0 : Int32)), .val (.ref b12), .unset, .unset, .unset, .unset] [(.int (1 : Int32))])) _
    refine XS.istore X16.here hx rfl (hb hby at_175) rfl (l' := #[.val (.int p1), .val (.int p2), .val (.int (0 : Int32)), .val (.ref b1), .val (.ref b3), .val (.ref w_ROWS), .val (.int (1 : Int32)), .val .null, .val (.int (0 : Int32)), .val (.ref b12), .val (.int (1 : Int32)), .unset, .unset, .unset]) rfl ?_
    show Steps p.tables e below (T16.setTop (mkF m 177 #[.val (.int p1), .val (.int p2), .val (.int (0 : Int32)), .val (.ref b1), .val (.ref b3), .val (.ref w_ROWS), .val (.int (1 : Int32)), .val .null, .val (.int (0 : Int32)), .val (.ref b12), .val (.int (1 : Int32)), .unset, .unset, .unset] [])) _
    refine XS.iloadN X16.here hx rfl (hb hby at_177) rfl ?_
    show Steps p.tables e below (T16.setTop (mkF m 178 #[.val (.int p1), .val (.int p2), .val (.int (0 : Int32)), .val (.ref b1), .val (.ref b3), .val (.ref w_ROWS), .val (.int (1 : Int32)), .val .null, .val (.int (0 : Int32)), .val (.ref b12), .val (.int (1 : Int32)), .unset, .unset, .unset] [(.int (0 : Int32))])) _
    refine XS.iconst X16.here hx rfl (hb hby at_178) ?_
    show Steps p.tables e below (T16.setTop (mkF m 179 #[.val (.int p1), .val (.int p2), .val (.int (0 : Int32)), .val (.ref b1), .val (.ref b3), .val (.ref w_ROWS), .val (.int (1 : Int32)), .val .null, .val (.int (0 : Int32)), .val (.ref b12), .val (.int (1 : Int32)), .unset, .unset, .unset] [(.int (3 : Int32)), (.int (0 : Int32))])) _
    refine XS.icmpYes X16.here hx rfl (pc0 := 179) (pc' := 194) rfl (hb hby at_179) rfl (feq (by decide)).2 (by decide) (by decide) ?_
    show Steps p.tables e below (T16.setTop (mkF m 194 #[.val (.int p1), .val (.int p2), .val (.int (0 : Int32)), .val (.ref b1), .val (.ref b3), .val (.ref w_ROWS), .val (.int (1 : Int32)), .val .null, .val (.int (0 : Int32)), .val (.ref b12), .val (.int (1 : Int32)), .unset, .unset, .unset] [])) _
    refine XS.iloadN X16.here hx rfl (hb hby at_194) rfl ?_
    show Steps p.tables e below (T16.setTop (mkF m 195 #[.val (.int p1), .val (.int p2), .val (.int (0 : Int32)), .val (.ref b1), .val (.ref b3), .val (.ref w_ROWS), .val (.int (1 : Int32)), .val .null, .val (.int (0 : Int32)), .val (.ref b12), .val (.int (1 : Int32)), .unset, .unset, .unset] [(.int (0 : Int32))])) _
    refine XS.iconst X16.here hx rfl (hb hby at_195) ?_
    show Steps p.tables e below (T16.setTop (mkF m 196 #[.val (.int p1), .val (.int p2), .val (.int (0 : Int32)), .val (.ref b1), .val (.ref b3), .val (.ref w_ROWS), .val (.int (1 : Int32)), .val .null, .val (.int (0 : Int32)), .val (.ref b12), .val (.int (1 : Int32)), .unset, .unset, .unset] [(.int (2 : Int32)), (.int (0 : Int32))])) _
    refine XS.icmpYes X16.here hx rfl (pc0 := 196) (pc' := 211) rfl (hb hby at_196) rfl (feq (by decide)).2 (by decide) (by decide) ?_
    show Steps p.tables e below (T16.setTop (mkF m 211 #[.val (.int p1), .val (.int p2), .val (.int (0 : Int32)), .val (.ref b1), .val (.ref b3), .val (.ref w_ROWS), .val (.int (1 : Int32)), .val .null, .val (.int (0 : Int32)), .val (.ref b12), .val (.int (1 : Int32)), .unset, .unset, .unset] [])) _
    refine st17 _ ?_
    show Steps p.tables e below (T17.setTop (mkF m 214 #[.val (.int p1), .val (.int p2), .val (.int (0 : Int32)), .val (.ref b1), .val (.ref b3), .val (.ref w_ROWS), .val (.int (1 : Int32)), .val .null, .val (.int (0 : Int32)), .val (.ref b12), .val (.int (1 : Int32)), .unset, .unset, .unset] [(.ref w_RESULT)])) _
    refine XS.astore X17.here hx rfl (hb hby at_214) rfl rfl (l' := #[.val (.int p1), .val (.int p2), .val (.int (0 : Int32)), .val (.ref b1), .val (.ref b3), .val (.ref w_ROWS), .val (.int (1 : Int32)), .val .null, .val (.int (0 : Int32)), .val (.ref b12), .val (.int (1 : Int32)), .val (.ref w_RESULT), .unset, .unset]) rfl ?_
    show Steps p.tables e below (T17.setTop (mkF m 216 #[.val (.int p1), .val (.int p2), .val (.int (0 : Int32)), .val (.ref b1), .val (.ref b3), .val (.ref w_ROWS), .val (.int (1 : Int32)), .val .null, .val (.int (0 : Int32)), .val (.ref b12), .val (.int (1 : Int32)), .val (.ref w_RESULT), .unset, .unset] [])) _
    refine XS.aconstNull X17.here hx rfl (hb hby at_216) ?_
    show Steps p.tables e below (T17.setTop (mkF m 217 #[.val (.int p1), .val (.int p2), .val (.int (0 : Int32)), .val (.ref b1), .val (.ref b3), .val (.ref w_ROWS), .val (.int (1 : Int32)), .val .null, .val (.int (0 : Int32)), .val (.ref b12), .val (.int (1 : Int32)), .val (.ref w_RESULT), .unset, .unset] [.null])) _
    refine XS.astore X17.here hx rfl (hb hby at_217) rfl rfl (l' := #[.val (.int p1), .val (.int p2), .val (.int (0 : Int32)), .val (.ref b1), .val (.ref b3), .val (.ref w_ROWS), .val (.int (1 : Int32)), .val .null, .val (.int (0 : Int32)), .val (.ref b12), .val (.int (1 : Int32)), .val (.ref w_RESULT), .val .null, .unset]) rfl ?_
    show Steps p.tables e below (T17.setTop (mkF m 219 #[.val (.int p1), .val (.int p2), .val (.int (0 : Int32)), .val (.ref b1), .val (.ref b3), .val (.ref w_ROWS), .val (.int (1 : Int32)), .val .null, .val (.int (0 : Int32)), .val (.ref b12), .val (.int (1 : Int32)), .val (.ref w_RESULT), .val .null, .unset] [])) _
    refine XS.aload X17.here hx rfl (hb hby at_219) rfl rfl ?_
    show Steps p.tables e below (T17.setTop (mkF m 221 #[.val (.int p1), .val (.int p2), .val (.int (0 : Int32)), .val (.ref b1), .val (.ref b3), .val (.ref w_ROWS), .val (.int (1 : Int32)), .val .null, .val (.int (0 : Int32)), .val (.ref b12), .val (.int (1 : Int32)), .val (.ref w_RESULT), .val .null, .unset] [(.ref w_RESULT)])) _
    refine XS.aload X17.here hx rfl (hb hby at_221) rfl rfl ?_
    show Steps p.tables e below (T17.setTop (mkF m 223 #[.val (.int p1), .val (.int p2), .val (.int (0 : Int32)), .val (.ref b1), .val (.ref b3), .val (.ref w_ROWS), .val (.int (1 : Int32)), .val .null, .val (.int (0 : Int32)), .val (.ref b12), .val (.int (1 : Int32)), .val (.ref w_RESULT), .val .null, .unset] [.null, (.ref w_RESULT)])) _
    refine st18 _ ?_
    show Steps p.tables e below (T18.setTop (mkF m 226 #[.val (.int p1), .val (.int p2), .val (.int (0 : Int32)), .val (.ref b1), .val (.ref b3), .val (.ref w_ROWS), .val (.int (1 : Int32)), .val .null, .val (.int (0 : Int32)), .val (.ref b12), .val (.int (1 : Int32)), .val (.ref w_RESULT), .val .null, .unset] [(.ref r18)])) _
    refine XS.astore X18.here hx rfl (hb hby at_226) rfl rfl (l' := #[.val (.int p1), .val (.int p2), .val (.int (0 : Int32)), .val (.ref b1), .val (.ref b3), .val (.ref w_ROWS), .val (.int (1 : Int32)), .val .null, .val (.int (0 : Int32)), .val (.ref b12), .val (.int (1 : Int32)), .val (.ref w_RESULT), .val .null, .val (.ref r18)]) rfl ?_
    show Steps p.tables e below (T18.setTop (mkF m 228 #[.val (.int p1), .val (.int p2), .val (.int (0 : Int32)), .val (.ref b1), .val (.ref b3), .val (.ref w_ROWS), .val (.int (1 : Int32)), .val .null, .val (.int (0 : Int32)), .val (.ref b12), .val (.int (1 : Int32)), .val (.ref w_RESULT), .val .null, .val (.ref r18)] [])) _
    refine XS.iload X18.here hx rfl (hb hby at_228) rfl ?_
    show Steps p.tables e below (T18.setTop (mkF m 230 #[.val (.int p1), .val (.int p2), .val (.int (0 : Int32)), .val (.ref b1), .val (.ref b3), .val (.ref w_ROWS), .val (.int (1 : Int32)), .val .null, .val (.int (0 : Int32)), .val (.ref b12), .val (.int (1 : Int32)), .val (.ref w_RESULT), .val .null, .val (.ref r18)] [(.int (1 : Int32))])) _
    refine XS.ifNo X18.here hx rfl (hb hby at_230) rfl ((if0 _ _).trans (feq (by decide)).1) ?_
    show Steps p.tables e below (T18.setTop (mkF m 233 #[.val (.int p1), .val (.int p2), .val (.int (0 : Int32)), .val (.ref b1), .val (.ref b3), .val (.ref w_ROWS), .val (.int (1 : Int32)), .val .null, .val (.int (0 : Int32)), .val (.ref b12), .val (.int (1 : Int32)), .val (.ref w_RESULT), .val .null, .val (.ref r18)] [])) _
    refine XS.aload X18.here hx rfl (hb hby at_233) rfl rfl ?_
    show Steps p.tables e below (T18.setTop (mkF m 235 #[.val (.int p1), .val (.int p2), .val (.int (0 : Int32)), .val (.ref b1), .val (.ref b3), .val (.ref w_ROWS), .val (.int (1 : Int32)), .val .null, .val (.int (0 : Int32)), .val (.ref b12), .val (.int (1 : Int32)), .val (.ref w_RESULT), .val .null, .val (.ref r18)] [(.ref r18)])) _
    refine st19.trans ?_
    show Steps p.tables e below (T19.setTop (mkF m 238 #[.val (.int p1), .val (.int p2), .val (.int (0 : Int32)), .val (.ref b1), .val (.ref b3), .val (.ref w_ROWS), .val (.int (1 : Int32)), .val .null, .val (.int (0 : Int32)), .val (.ref b12), .val (.int (1 : Int32)), .val (.ref w_RESULT), .val .null, .val (.ref r18)] [(.int (1 : Int32))])) _
    refine XS.ifNo X19.here hx rfl (hb hby at_238) rfl ((if0 _ _).trans (feq (by decide)).1) ?_
    show Steps p.tables e below (T19.setTop (mkF m 241 #[.val (.int p1), .val (.int p2), .val (.int (0 : Int32)), .val (.ref b1), .val (.ref b3), .val (.ref w_ROWS), .val (.int (1 : Int32)), .val .null, .val (.int (0 : Int32)), .val (.ref b12), .val (.int (1 : Int32)), .val (.ref w_RESULT), .val .null, .val (.ref r18)] [])) _
    refine XS.iconst X19.here hx rfl (hb hby at_241) ?_
    show Steps p.tables e below (T19.setTop (mkF m 242 #[.val (.int p1), .val (.int p2), .val (.int (0 : Int32)), .val (.ref b1), .val (.ref b3), .val (.ref w_ROWS), .val (.int (1 : Int32)), .val .null, .val (.int (0 : Int32)), .val (.ref b12), .val (.int (1 : Int32)), .val (.ref w_RESULT), .val .null, .val (.ref r18)] [(.int (1 : Int32))])) _
    refine XS.goto X19.here hx rfl (pc0 := 242) (pc' := 246) rfl (hb hby at_242) (by decide) (by decide) ?_
    exact k)
  obtain ⟨fs, hr, hrun, hended, hW, hsame⟩ := X19.leave (v := some (.int (1 : Int32))) (fun h => by rw [Bd.returns] at h; cases h)
  refine ⟨_, _, pre20 _ ?_, hrun, hended, _, _, rfl, ?_, ⟨_, rfl⟩, hW, hsame.mono (by decide) (by decide)⟩
  · show Steps p.tables e below (T19.setTop (mkF m 246 #[.val (.int p1), .val (.int p2), .val (.int (0 : Int32)), .val (.ref b1), .val (.ref b3), .val (.ref w_ROWS), .val (.int (1 : Int32)), .val .null, .val (.int (0 : Int32)), .val (.ref b12), .val (.int (1 : Int32)), .val (.ref w_RESULT), .val .null, .val (.ref r18)] [(.int (1 : Int32))])) _
    exact retN X19 hx (t := .boolean) Bd.returns (by simp) (hb hby at_246) hr
  · exact ⟨rfl, N19, trivial⟩
theorem ef_law1 (m : MethodId) (x0 : Int32) (x1 : Int32) : entryFrame m #[(.int x0), (.int x1)] maxLocals = mkF m 0 #[.val (.int x0), .val (.int x1), .unset, .unset, .unset, .unset, .unset, .unset, .unset, .unset, .unset, .unset, .unset, .unset] [] := by first | (simp [entryFrame, mkF, argsToLocals, Value.category, maxLocals]; done) | rfl
set_option maxRecDepth 65536 in
set_option maxHeartbeats 40000000 in
theorem rm_law1 (l : Launch) (Z : State) (a0 : Array Value) (hw : ∀ d ∈ tables_1, d.before a0 Z = true) (ws : List Jvm.Cond) (p1 : Int32) (p2 : Int32) (h0 : Heap) (n0 : Nat) (w_ROWS w_RESULT w_PARTIAL_GROUPS w_MERGED_GROUPS w_D w_EL w_EE w_C w_EM w_M : Addr) (hK : own_K Z Z.heap w_ROWS w_RESULT w_PARTIAL_GROUPS w_MERGED_GROUPS w_D w_EL w_EE w_C w_EM w_M) (hn0 : n0 = Z.heap.size) (EX0 : Ext Z.heap h0) (hk : (p1 &&& (3 : Int32)) = (1 : Int32)) :
    MetFree l x (head1 (Jvm.Cond.code x code maxLocals ret :: ws) room_1) (fun a U => a = #[(.int p1), (.int p2)] ∧ Z.Warmed39 U.vm ∧ U.heap = h0) (fun _ _ _ _ _ => True) (fun _ U o U' => ∃ v L, o = .returned v ∧ own_QH (some (.int (1 : Int32))) n0 v U'.heap L ∧ FrameEnd U o U' L room_1.cells room_1.slots) := by
  refine MetFree.of_bodySF (plainFor_of_name pn_17) hisR ?_
  intro p e s m args below meth c s₁ Bd hml0 hP hK0
  obtain ⟨rfl, hZ, hh⟩ := hP
  have hx := Bd.exec
  have hby := Bd.bytes
  have hml : c.maxLocals = 14 := hml0
  have hown : s.vm.findClass "com/example/cairn/cairn/plan/OutputGoesToCoordinatorPinLaw" = some m.cls := findClass_of_methodNamed Bd.named
  have hnm := (name_of_methodNamed Bd.named Bd.method).1
  have X0 : Stand p l e room_1 s m #[(.int p1), (.int p2)] below meth c s₁ [] 0 0 := Stand.of_body Bd
  have e0 : s₁.heap = h0 := by rw [← hh, Bd.state]; rfl
  have N0 := Fr.nil n0
  have pre0 : ∀ t, Steps p.tables e below (s₁.setTop (mkF m 0 #[.val (.int p1), .val (.int p2), .unset, .unset, .unset, .unset, .unset, .unset, .unset, .unset, .unset, .unset, .unset, .unset] [])) t → Steps p.tables e below (s₁.setTop (entryFrame m #[(.int p1), (.int p2)] maxLocals)) t := fun t k => castTop (ef_law1 m p1 p2) k
  have hK' := hK
  obtain ⟨S_w_ROWS, E_w_ROWS, F_ordinal_w_ROWS, S_w_RESULT, E_w_RESULT, F_ordinal_w_RESULT, S_w_PARTIAL_GROUPS, E_w_PARTIAL_GROUPS, F_ordinal_w_PARTIAL_GROUPS, S_w_MERGED_GROUPS, E_w_MERGED_GROUPS, F_ordinal_w_MERGED_GROUPS, S_w_D, B_w_D, S_w_EL, E_w_EL, F_elements_w_EL, B_w_EE, F_allowNulls_w_EL, S_high, S_w_C, C_w_C, S_w_EM, M_w_M⟩ := hK'
  obtain ⟨cl_w_D, A_w_D, q_w_D⟩ := B_w_D
  obtain ⟨cl_w_EE, A_w_EE, q_w_EE⟩ := B_w_EE
  obtain ⟨T1, h1, X1, e1, Eq1, A1, D1, -, st1⟩ := newO X0 hx hZ hown (hw _ (ow 0 rfl)) (hw _ (ow 1 rfl)) (hw _ (ow 2 rfl)) e0 (g := (mkF m 4 #[.val (.int p1), .val (.int p2), .val (.int (1 : Int32)), .unset, .unset, .unset, .unset, .unset, .unset, .unset, .unset, .unset, .unset, .unset] [])) rfl (hb hby at_4) (by decide) (by decide)
  obtain ⟨b1, gb1⟩ : ∃ z, z = h0.size := ⟨_, rfl⟩
  rw [← gb1] at A1 D1 st1
  have sz_b1 : h0.size ≤ b1 := Nat.le_trans (Keep.refl h0 []).1 (Nat.le_of_eq gb1.symm)
  have g_b1 : n0 ≤ b1 := hn0 ▸ Nat.le_trans EX0.1 (Nat.le_of_eq gb1.symm)
  have EX1 := own_ext_trans EX0 Eq1
  have K1 := Keep.ext (Keep.refl h0 []) Eq1
  have F1_modCount : Fld Z h1 b1 "java/util/AbstractList" "modCount" "I" (.int (0 : Int32)) := D1 (Or.inl (hw _ (ow 22 rfl))) (ty := .int) (by decide)
  have F1_elementData : Fld Z h1 b1 "java/util/ArrayList" "elementData" "[Ljava/lang/Object;" .null := D1 (Or.inl (hw _ (ow 25 rfl))) (ty := (.array (.object "java/lang/Object"))) (by decide)
  have F1_size : Fld Z h1 b1 "java/util/ArrayList" "size" "I" (.int (0 : Int32)) := D1 (Or.inl (hw _ (ow 62 rfl))) (ty := .int) (by decide)
  obtain ⟨v2, _, ⟨T2, L2, k2, n2⟩, -, X2, ⟨Lc2, hQ2, l2, y2, z2⟩, st2⟩ := X1.specialBack hx (y := (⟨"java/util/ArrayList", "<init>", "()V"⟩ : MethodName)) rfl hown (mvT hZ (hw _ (ow 3 rfl))) (mvT hZ (hw _ (ow 4 rfl))) (mvT hZ (hw _ (ow 5 rfl))) (by decide) (backOf (W := 1) (rm_alinit l Z a0 hw [] b1 h1 n0 w_ROWS w_RESULT w_PARTIAL_GROUPS w_MERGED_GROUPS w_D w_EL w_EE w_C w_EM w_M hK hn0 EX1 A1 g_b1 F1_modCount F1_elementData F1_size) hZ (hw _ (ow 5 rfl)) (hw _ (ow 2 rfl)) (by decide) (by decide)) (g := (mkF m 8 #[.val (.int p1), .val (.int p2), .val (.int (1 : Int32)), .unset, .unset, .unset, .unset, .unset, .unset, .unset, .unset, .unset, .unset, .unset] [(.ref b1), (.ref b1)])) rfl (by rw [hml]; rfl) (Steps.refl _) (a := b1) (argsL := []) (rest := [(.ref b1)]) (lenOf pd_0 rfl) rfl (Nat.le_of_eq rfl) (hb hby at_8) (fun _ _ => ⟨rfl, e1, (by decide : 1 + 0 ≤ _), (by decide : 3 + 0 ≤ _)⟩)
  dsimp only [Pt.U, Pt.locs, Pt.cells, Pt.slots] at X2 l2 y2 z2 st2 hQ2
  subst y2 z2
  obtain ⟨hv2, Nq2, Kq2, q2_0, q2_1, q2_2, q2_3⟩ := hQ2
  obtain rfl : v2 = none := hv2
  have N2 : Fr n0 L2 := by rw [l2]; exact Fr.app N0 Nq2
  have x2_E_b1 := A1.keep Kq2
  have EX2 := own_ext_keepL EX1 Kq2 (allS (hn0 ▸ g_b1) all0)
  have K2 := Keep.trans K1 Kq2 (allS (Or.inr sz_b1) all0)
  obtain ⟨T3, h3, X3, e3, Eq3, A3, D3, -, st3⟩ := newO X2 hx hZ hown (hw _ (ow 26 rfl)) (hw _ (ow 27 rfl)) (hw _ (ow 28 rfl)) (rfl : T2.heap = T2.heap) (g := (mkF m 12 #[.val (.int p1), .val (.int p2), .val (.int (1 : Int32)), .val (.ref b1), .unset, .unset, .unset, .unset, .unset, .unset, .unset, .unset, .unset, .unset] [])) rfl (hb hby at_12) (by decide) (by decide)
  obtain ⟨b3, gb3⟩ : ∃ z, z = T2.heap.size := ⟨_, rfl⟩
  rw [← gb3] at A3 D3 st3
  have ne_b1_b3 : b1 ≠ b3 := Nat.ne_of_lt (Nat.lt_of_lt_of_le q2_0.lt (Nat.le_of_eq gb3.symm))
  have sz_b3 : h0.size ≤ b3 := Nat.le_trans K2.1 (Nat.le_of_eq gb3.symm)
  have g_b3 : n0 ≤ b3 := hn0 ▸ Nat.le_trans EX2.1 (Nat.le_of_eq gb3.symm)
  have x3_E_b1 := q2_0.ext Eq3
  have x3_F_b1_modCount := q2_1.ext Eq3
  have x3_F_b1_elementData := q2_2.ext Eq3
  have x3_F_b1_size := q2_3.ext Eq3
  have EX3 := own_ext_trans EX2 Eq3
  have K3 := Keep.ext K2 Eq3
  have F3_keys : Fld Z h3 b3 "com/example/cairn/cairn/plan/Grouping" "keys" "Ljava/util/List;" .null := D3 (Or.inr (hw _ (ow 68 rfl))) (ty := (.object "java/util/List")) (by decide)
  have F3_aggregates : Fld Z h3 b3 "com/example/cairn/cairn/plan/Grouping" "aggregates" "Ljava/util/List;" .null := D3 (Or.inr (hw _ (ow 70 rfl))) (ty := (.object "java/util/List")) (by decide)
  obtain ⟨T4, h4, X4, e4, Eq4, A4, D4, -, st4⟩ := newO X3 hx hZ hown (hw _ (ow 0 rfl)) (hw _ (ow 1 rfl)) (hw _ (ow 2 rfl)) e3 (g := (mkF m 16 #[.val (.int p1), .val (.int p2), .val (.int (1 : Int32)), .val (.ref b1), .unset, .unset, .unset, .unset, .unset, .unset, .unset, .unset, .unset, .unset] [(.ref b3), (.ref b3)])) rfl (hb hby at_16) (by decide) (by decide)
  obtain ⟨b4, gb4⟩ : ∃ z, z = h3.size := ⟨_, rfl⟩
  rw [← gb4] at A4 D4 st4
  have ne_b1_b4 : b1 ≠ b4 := Nat.ne_of_lt (Nat.lt_of_lt_of_le x3_E_b1.lt (Nat.le_of_eq gb4.symm))
  have ne_b3_b4 : b3 ≠ b4 := Nat.ne_of_lt (Nat.lt_of_lt_of_le A3.lt (Nat.le_of_eq gb4.symm))
  have sz_b4 : h0.size ≤ b4 := Nat.le_trans K3.1 (Nat.le_of_eq gb4.symm)
  have g_b4 : n0 ≤ b4 := hn0 ▸ Nat.le_trans EX3.1 (Nat.le_of_eq gb4.symm)
  have x4_E_b1 := x3_E_b1.ext Eq4
  have x4_F_b1_modCount := x3_F_b1_modCount.ext Eq4
  have x4_F_b1_elementData := x3_F_b1_elementData.ext Eq4
  have x4_F_b1_size := x3_F_b1_size.ext Eq4
  have x4_E_b3 := A3.ext Eq4
  have x4_F_b3_keys := F3_keys.ext Eq4
  have x4_F_b3_aggregates := F3_aggregates.ext Eq4
  have EX4 := own_ext_trans EX3 Eq4
  have K4 := Keep.ext K3 Eq4
  have F4_modCount : Fld Z h4 b4 "java/util/AbstractList" "modCount" "I" (.int (0 : Int32)) := D4 (Or.inl (hw _ (ow 22 rfl))) (ty := .int) (by decide)
  have F4_elementData : Fld Z h4 b4 "java/util/ArrayList" "elementData" "[Ljava/lang/Object;" .null := D4 (Or.inl (hw _ (ow 25 rfl))) (ty := (.array (.object "java/lang/Object"))) (by decide)
  have F4_size : Fld Z h4 b4 "java/util/ArrayList" "size" "I" (.int (0 : Int32)) := D4 (Or.inl (hw _ (ow 62 rfl))) (ty := .int) (by decide)
  obtain ⟨v5, _, ⟨T5, L5, k5, n5⟩, -, X5, ⟨Lc5, hQ5, l5, y5, z5⟩, st5⟩ := X4.specialBack hx (y := (⟨"java/util/ArrayList", "<init>", "()V"⟩ : MethodName)) rfl hown (mvT hZ (hw _ (ow 3 rfl))) (mvT hZ (hw _ (ow 4 rfl))) (mvT hZ (hw _ (ow 5 rfl))) (by decide) (backOf (W := 3) (rm_alinit l Z a0 hw [] b4 h4 n0 w_ROWS w_RESULT w_PARTIAL_GROUPS w_MERGED_GROUPS w_D w_EL w_EE w_C w_EM w_M hK hn0 EX4 A4 g_b4 F4_modCount F4_elementData F4_size) hZ (hw _ (ow 5 rfl)) (hw _ (ow 2 rfl)) (by decide) (by decide)) (g := (mkF m 20 #[.val (.int p1), .val (.int p2), .val (.int (1 : Int32)), .val (.ref b1), .unset, .unset, .unset, .unset, .unset, .unset, .unset, .unset, .unset, .unset] [(.ref b4), (.ref b4), (.ref b3), (.ref b3)])) rfl (by rw [hml]; rfl) (Steps.refl _) (a := b4) (argsL := []) (rest := [(.ref b4), (.ref b3), (.ref b3)]) (lenOf pd_0 rfl) rfl (Nat.le_of_eq rfl) (hb hby at_20) (fun _ _ => ⟨rfl, e4, (by decide : 3 + 0 ≤ _), (by decide : 8 + 0 ≤ _)⟩)
  dsimp only [Pt.U, Pt.locs, Pt.cells, Pt.slots] at X5 l5 y5 z5 st5 hQ5
  subst y5 z5
  obtain ⟨hv5, Nq5, Kq5, q5_0, q5_1, q5_2, q5_3⟩ := hQ5
  obtain rfl : v5 = none := hv5
  have N5 : Fr n0 L5 := by rw [l5]; exact Fr.app N2 Nq5
  have x5_E_b1 := x4_E_b1.keep Kq5
  have x5_F_b1_modCount := x4_F_b1_modCount.keep Kq5 (ninS ne_b1_b4 nin0)
  have x5_F_b1_elementData := x4_F_b1_elementData.keep Kq5 (ninS ne_b1_b4 nin0)
  have x5_F_b1_size := x4_F_b1_size.keep Kq5 (ninS ne_b1_b4 nin0)
  have x5_E_b3 := x4_E_b3.keep Kq5
  have x5_F_b3_keys := x4_F_b3_keys.keep Kq5 (ninS ne_b3_b4 nin0)
  have x5_F_b3_aggregates := x4_F_b3_aggregates.keep Kq5 (ninS ne_b3_b4 nin0)
  have x5_E_b4 := A4.keep Kq5
  have EX5 := own_ext_keepL EX4 Kq5 (allS (hn0 ▸ g_b4) all0)
  have K5 := Keep.trans K4 Kq5 (allS (Or.inr sz_b4) all0)
  obtain ⟨T6, h6, X6, e6, Eq6, A6, D6, -, st6⟩ := newO X5 hx hZ hown (hw _ (ow 0 rfl)) (hw _ (ow 1 rfl)) (hw _ (ow 2 rfl)) (rfl : T5.heap = T5.heap) (g := (mkF m 23 #[.val (.int p1), .val (.int p2), .val (.int (1 : Int32)), .val (.ref b1), .unset, .unset, .unset, .unset, .unset, .unset, .unset, .unset, .unset, .unset] [(.ref b4), (.ref b3), (.ref b3)])) rfl (hb hby at_23) (by decide) (by decide)
  obtain ⟨b6, gb6⟩ : ∃ z, z = T5.heap.size := ⟨_, rfl⟩
  rw [← gb6] at A6 D6 st6
  have ne_b1_b6 : b1 ≠ b6 := Nat.ne_of_lt (Nat.lt_of_lt_of_le x5_E_b1.lt (Nat.le_of_eq gb6.symm))
  have ne_b3_b6 : b3 ≠ b6 := Nat.ne_of_lt (Nat.lt_of_lt_of_le x5_E_b3.lt (Nat.le_of_eq gb6.symm))
  have ne_b4_b6 : b4 ≠ b6 := Nat.ne_of_lt (Nat.lt_of_lt_of_le q5_0.lt (Nat.le_of_eq gb6.symm))
  have sz_b6 : h0.size ≤ b6 := Nat.le_trans K5.1 (Nat.le_of_eq gb6.symm)
  have g_b6 : n0 ≤ b6 := hn0 ▸ Nat.le_trans EX5.1 (Nat.le_of_eq gb6.symm)
  have x6_E_b1 := x5_E_b1.ext Eq6
  have x6_F_b1_modCount := x5_F_b1_modCount.ext Eq6
  have x6_F_b1_elementData := x5_F_b1_elementData.ext Eq6
  have x6_F_b1_size := x5_F_b1_size.ext Eq6
  have x6_E_b3 := x5_E_b3.ext Eq6
  have x6_F_b3_keys := x5_F_b3_keys.ext Eq6
  have x6_F_b3_aggregates := x5_F_b3_aggregates.ext Eq6
  have x6_E_b4 := q5_0.ext Eq6
  have x6_F_b4_modCount := q5_1.ext Eq6
  have x6_F_b4_elementData := q5_2.ext Eq6
  have x6_F_b4_size := q5_3.ext Eq6
  have EX6 := own_ext_trans EX5 Eq6
  have K6 := Keep.ext K5 Eq6
  have F6_modCount : Fld Z h6 b6 "java/util/AbstractList" "modCount" "I" (.int (0 : Int32)) := D6 (Or.inl (hw _ (ow 22 rfl))) (ty := .int) (by decide)
  have F6_elementData : Fld Z h6 b6 "java/util/ArrayList" "elementData" "[Ljava/lang/Object;" .null := D6 (Or.inl (hw _ (ow 25 rfl))) (ty := (.array (.object "java/lang/Object"))) (by decide)
  have F6_size : Fld Z h6 b6 "java/util/ArrayList" "size" "I" (.int (0 : Int32)) := D6 (Or.inl (hw _ (ow 62 rfl))) (ty := .int) (by decide)
  obtain ⟨v7, _, ⟨T7, L7, k7, n7⟩, -, X7, ⟨Lc7, hQ7, l7, y7, z7⟩, st7⟩ := X6.specialBack hx (y := (⟨"java/util/ArrayList", "<init>", "()V"⟩ : MethodName)) rfl hown (mvT hZ (hw _ (ow 3 rfl))) (mvT hZ (hw _ (ow 4 rfl))) (mvT hZ (hw _ (ow 5 rfl))) (by decide) (backOf (W := 4) (rm_alinit l Z a0 hw [] b6 h6 n0 w_ROWS w_RESULT w_PARTIAL_GROUPS w_MERGED_GROUPS w_D w_EL w_EE w_C w_EM w_M hK hn0 EX6 A6 g_b6 F6_modCount F6_elementData F6_size) hZ (hw _ (ow 5 rfl)) (hw _ (ow 2 rfl)) (by decide) (by decide)) (g := (mkF m 27 #[.val (.int p1), .val (.int p2), .val (.int (1 : Int32)), .val (.ref b1), .unset, .unset, .unset, .unset, .unset, .unset, .unset, .unset, .unset, .unset] [(.ref b6), (.ref b6), (.ref b4), (.ref b3), (.ref b3)])) rfl (by rw [hml]; rfl) (Steps.refl _) (a := b6) (argsL := []) (rest := [(.ref b6), (.ref b4), (.ref b3), (.ref b3)]) (lenOf pd_0 rfl) rfl (Nat.le_of_eq rfl) (hb hby at_27) (fun _ _ => ⟨rfl, e6, (by decide : 4 + 0 ≤ _), (by decide : 11 + 0 ≤ _)⟩)
  dsimp only [Pt.U, Pt.locs, Pt.cells, Pt.slots] at X7 l7 y7 z7 st7 hQ7
  subst y7 z7
  obtain ⟨hv7, Nq7, Kq7, q7_0, q7_1, q7_2, q7_3⟩ := hQ7
  obtain rfl : v7 = none := hv7
  have N7 : Fr n0 L7 := by rw [l7]; exact Fr.app N5 Nq7
  have x7_E_b1 := x6_E_b1.keep Kq7
  have x7_F_b1_modCount := x6_F_b1_modCount.keep Kq7 (ninS ne_b1_b6 nin0)
  have x7_F_b1_elementData := x6_F_b1_elementData.keep Kq7 (ninS ne_b1_b6 nin0)
  have x7_F_b1_size := x6_F_b1_size.keep Kq7 (ninS ne_b1_b6 nin0)
  have x7_E_b3 := x6_E_b3.keep Kq7
  have x7_F_b3_keys := x6_F_b3_keys.keep Kq7 (ninS ne_b3_b6 nin0)
  have x7_F_b3_aggregates := x6_F_b3_aggregates.keep Kq7 (ninS ne_b3_b6 nin0)
  have x7_E_b4 := x6_E_b4.keep Kq7
  have x7_F_b4_modCount := x6_F_b4_modCount.keep Kq7 (ninS ne_b4_b6 nin0)
  have x7_F_b4_elementData := x6_F_b4_elementData.keep Kq7 (ninS ne_b4_b6 nin0)
  have x7_F_b4_size := x6_F_b4_size.keep Kq7 (ninS ne_b4_b6 nin0)
  have x7_E_b6 := A6.keep Kq7
  have EX7 := own_ext_keepL EX6 Kq7 (allS (hn0 ▸ g_b6) all0)
  have K7 := Keep.trans K6 Kq7 (allS (Or.inr sz_b6) all0)
  obtain ⟨v8, _, ⟨T8, L8, k8, n8⟩, -, X8, ⟨Lc8, hQ8, l8, y8, z8⟩, st8⟩ := X7.specialBack hx (y := (⟨"com/example/cairn/cairn/plan/Grouping", "<init>", "(Ljava/util/List;Ljava/util/List;)V"⟩ : MethodName)) rfl hown (mvT hZ (hw _ (ow 29 rfl))) (mvT hZ (hw _ (ow 30 rfl))) (mvT hZ (hw _ (ow 31 rfl))) (by decide) (backOf (W := 1) (rm_grinit l Z a0 hw [] b3 b4 b6 T7.heap n0 w_ROWS w_RESULT w_PARTIAL_GROUPS w_MERGED_GROUPS w_D w_EL w_EE w_C w_EM w_M hK hn0 EX7 x7_E_b3 g_b3 x7_F_b3_keys x7_F_b3_aggregates x7_E_b4 g_b4 x7_F_b4_size q7_0 g_b6 q7_3) hZ (hw _ (ow 31 rfl)) (hw _ (ow 28 rfl)) (by decide) (by decide)) (g := (mkF m 30 #[.val (.int p1), .val (.int p2), .val (.int (1 : Int32)), .val (.ref b1), .unset, .unset, .unset, .unset, .unset, .unset, .unset, .unset, .unset, .unset] [(.ref b6), (.ref b4), (.ref b3), (.ref b3)])) rfl (by rw [hml]; rfl) (Steps.refl _) (a := b3) (argsL := [(.ref b4), (.ref b6)]) (rest := [(.ref b3)]) (lenOf pd_16 rfl) rfl (Nat.le_of_eq rfl) (hb hby at_30) (fun _ _ => ⟨rfl, (rfl : T7.heap = T7.heap), (by decide : 4 + 0 ≤ _), (by decide : 11 + 0 ≤ _)⟩)
  dsimp only [Pt.U, Pt.locs, Pt.cells, Pt.slots] at X8 l8 y8 z8 st8 hQ8
  subst y8 z8
  obtain ⟨hv8, Nq8, Kq8, q8_0⟩ := hQ8
  obtain rfl : v8 = none := hv8
  have N8 : Fr n0 L8 := by rw [l8]; exact Fr.app N7 Nq8
  have x8_E_b1 := x7_E_b1.keep Kq8
  have x8_F_b1_modCount := x7_F_b1_modCount.keep Kq8 (ninS ne_b1_b3 nin0)
  have x8_F_b1_elementData := x7_F_b1_elementData.keep Kq8 (ninS ne_b1_b3 nin0)
  have x8_F_b1_size := x7_F_b1_size.keep Kq8 (ninS ne_b1_b3 nin0)
  have x8_E_b3 := x7_E_b3.keep Kq8
  have x8_E_b4 := x7_E_b4.keep Kq8
  have x8_F_b4_modCount := x7_F_b4_modCount.keep Kq8 (ninS (Ne.symm ne_b3_b4) nin0)
  have x8_F_b4_elementData := x7_F_b4_elementData.keep Kq8 (ninS (Ne.symm ne_b3_b4) nin0)
  have x8_F_b4_size := x7_F_b4_size.keep Kq8 (ninS (Ne.symm ne_b3_b4) nin0)
  have x8_E_b6 := q7_0.keep Kq8
  have x8_F_b6_modCount := q7_1.keep Kq8 (ninS (Ne.symm ne_b3_b6) nin0)
  have x8_F_b6_elementData := q7_2.keep Kq8 (ninS (Ne.symm ne_b3_b6) nin0)
  have x8_F_b6_size := q7_3.keep Kq8 (ninS (Ne.symm ne_b3_b6) nin0)
  have EX8 := own_ext_keepL EX7 Kq8 (allS (hn0 ▸ g_b3) all0)
  have K8 := Keep.trans K7 Kq8 (allS (Or.inr sz_b3) all0)
  obtain ⟨T9, X9, e9, st9⟩ := getS2 X8 hx hZ hown (host := "") (Or.inl (hw _ (ow 223 rfl))) Via.refl (rfl : T8.heap = T8.heap) (S_w_RESULT.ext EX8) (g := (mkF m 70 #[.val (.int p1), .val (.int p2), .val (.int (1 : Int32)), .val (.ref b1), .val (.ref b3), .unset, .unset, .unset, .unset, .unset, .unset, .unset, .unset, .unset] [])) rfl (hb hby at_70)
  obtain ⟨T10, h10, X10, e10, Eq10, A10, D10, -, st10⟩ := newO X9 hx hZ hown (hw _ (ow 110 rfl)) (hw _ (ow 111 rfl)) (hw _ (ow 112 rfl)) e9 (g := (mkF m 137 #[.val (.int p1), .val (.int p2), .val (.int (1 : Int32)), .val (.ref b1), .val (.ref b3), .val (.ref w_RESULT), .val (.int (0 : Int32)), .val .null, .val (.int (1 : Int32)), .unset, .unset, .unset, .unset, .unset] [])) rfl (hb hby at_137) (by decide) (by decide)
  obtain ⟨b10, gb10⟩ : ∃ z, z = T8.heap.size := ⟨_, rfl⟩
  rw [← gb10] at A10 D10 st10
  have ne_b1_b10 : b1 ≠ b10 := Nat.ne_of_lt (Nat.lt_of_lt_of_le x8_E_b1.lt (Nat.le_of_eq gb10.symm))
  have sz_b10 : h0.size ≤ b10 := Nat.le_trans K8.1 (Nat.le_of_eq gb10.symm)
  have g_b10 : n0 ≤ b10 := hn0 ▸ Nat.le_trans EX8.1 (Nat.le_of_eq gb10.symm)
  have x10_E_b1 := x8_E_b1.ext Eq10
  have x10_F_b1_modCount := x8_F_b1_modCount.ext Eq10
  have x10_F_b1_elementData := x8_F_b1_elementData.ext Eq10
  have x10_F_b1_size := x8_F_b1_size.ext Eq10
  have EX10 := own_ext_trans EX8 Eq10
  have K10 := Keep.ext K8 Eq10
  have F10_shape : Fld Z h10 b10 "com/example/cairn/cairn/plan/Stage$Output" "shape" "Lcom/example/cairn/cairn/plan/Stage$Shape;" .null := D10 (Or.inr (hw _ (ow 209 rfl))) (ty := (.object "com/example/cairn/cairn/plan/Stage$Shape")) (by decide)
  have F10_slots : Fld Z h10 b10 "com/example/cairn/cairn/plan/Stage$Output" "slots" "Ljava/util/List;" .null := D10 (Or.inr (hw _ (ow 211 rfl))) (ty := (.object "java/util/List")) (by decide)
  have F10_buckets : Fld Z h10 b10 "com/example/cairn/cairn/plan/Stage$Output" "buckets" "I" (.int (0 : Int32)) := D10 (Or.inr (hw _ (ow 213 rfl))) (ty := .int) (by decide)
  have F10_keys : Fld Z h10 b10 "com/example/cairn/cairn/plan/Stage$Output" "keys" "Ljava/util/List;" .null := D10 (Or.inr (hw _ (ow 215 rfl))) (ty := (.object "java/util/List")) (by decide)
  have F10_grouping : Fld Z h10 b10 "com/example/cairn/cairn/plan/Stage$Output" "grouping" "Lcom/example/cairn/cairn/plan/Grouping;" .null := D10 (Or.inr (hw _ (ow 217 rfl))) (ty := (.object "com/example/cairn/cairn/plan/Grouping")) (by decide)
  obtain ⟨T11, h11, X11, e11, Eq11, A11, D11, -, st11⟩ := newO X10 hx hZ hown (hw _ (ow 0 rfl)) (hw _ (ow 1 rfl)) (hw _ (ow 2 rfl)) e10 (g := (mkF m 146 #[.val (.int p1), .val (.int p2), .val (.int (1 : Int32)), .val (.ref b1), .val (.ref b3), .val (.ref w_RESULT), .val (.int (0 : Int32)), .val .null, .val (.int (1 : Int32)), .unset, .unset, .unset, .unset, .unset] [(.int (0 : Int32)), (.ref b1), (.ref w_RESULT), (.ref b10), (.ref b10)])) rfl (hb hby at_146) (by decide) (by decide)
  obtain ⟨b11, gb11⟩ : ∃ z, z = h10.size := ⟨_, rfl⟩
  rw [← gb11] at A11 D11 st11
  have ne_b1_b11 : b1 ≠ b11 := Nat.ne_of_lt (Nat.lt_of_lt_of_le x10_E_b1.lt (Nat.le_of_eq gb11.symm))
  have ne_b10_b11 : b10 ≠ b11 := Nat.ne_of_lt (Nat.lt_of_lt_of_le A10.lt (Nat.le_of_eq gb11.symm))
  have sz_b11 : h0.size ≤ b11 := Nat.le_trans K10.1 (Nat.le_of_eq gb11.symm)
  have g_b11 : n0 ≤ b11 := hn0 ▸ Nat.le_trans EX10.1 (Nat.le_of_eq gb11.symm)
  have x11_E_b1 := x10_E_b1.ext Eq11
  have x11_F_b1_modCount := x10_F_b1_modCount.ext Eq11
  have x11_F_b1_elementData := x10_F_b1_elementData.ext Eq11
  have x11_F_b1_size := x10_F_b1_size.ext Eq11
  have x11_E_b10 := A10.ext Eq11
  have x11_F_b10_shape := F10_shape.ext Eq11
  have x11_F_b10_slots := F10_slots.ext Eq11
  have x11_F_b10_buckets := F10_buckets.ext Eq11
  have x11_F_b10_keys := F10_keys.ext Eq11
  have x11_F_b10_grouping := F10_grouping.ext Eq11
  have EX11 := own_ext_trans EX10 Eq11
  have K11 := Keep.ext K10 Eq11
  have F11_modCount : Fld Z h11 b11 "java/util/AbstractList" "modCount" "I" (.int (0 : Int32)) := D11 (Or.inl (hw _ (ow 22 rfl))) (ty := .int) (by decide)
  have F11_elementData : Fld Z h11 b11 "java/util/ArrayList" "elementData" "[Ljava/lang/Object;" .null := D11 (Or.inl (hw _ (ow 25 rfl))) (ty := (.array (.object "java/lang/Object"))) (by decide)
  have F11_size : Fld Z h11 b11 "java/util/ArrayList" "size" "I" (.int (0 : Int32)) := D11 (Or.inl (hw _ (ow 62 rfl))) (ty := .int) (by decide)
  obtain ⟨v12, _, ⟨T12, L12, k12, n12⟩, -, X12, ⟨Lc12, hQ12, l12, y12, z12⟩, st12⟩ := X11.specialBack hx (y := (⟨"java/util/ArrayList", "<init>", "()V"⟩ : MethodName)) rfl hown (mvT hZ (hw _ (ow 3 rfl))) (mvT hZ (hw _ (ow 4 rfl))) (mvT hZ (hw _ (ow 5 rfl))) (by decide) (backOf (W := 6) (rm_alinit l Z a0 hw [] b11 h11 n0 w_ROWS w_RESULT w_PARTIAL_GROUPS w_MERGED_GROUPS w_D w_EL w_EE w_C w_EM w_M hK hn0 EX11 A11 g_b11 F11_modCount F11_elementData F11_size) hZ (hw _ (ow 5 rfl)) (hw _ (ow 2 rfl)) (by decide) (by decide)) (g := (mkF m 150 #[.val (.int p1), .val (.int p2), .val (.int (1 : Int32)), .val (.ref b1), .val (.ref b3), .val (.ref w_RESULT), .val (.int (0 : Int32)), .val .null, .val (.int (1 : Int32)), .unset, .unset, .unset, .unset, .unset] [(.ref b11), (.ref b11), (.int (0 : Int32)), (.ref b1), (.ref w_RESULT), (.ref b10), (.ref b10)])) rfl (by rw [hml]; rfl) (Steps.refl _) (a := b11) (argsL := []) (rest := [(.ref b11), (.int (0 : Int32)), (.ref b1), (.ref w_RESULT), (.ref b10), (.ref b10)]) (lenOf pd_0 rfl) rfl (Nat.le_of_eq rfl) (hb hby at_150) (fun _ _ => ⟨rfl, e11, (by decide : 6 + 0 ≤ _), (by decide : 19 + 0 ≤ _)⟩)
  dsimp only [Pt.U, Pt.locs, Pt.cells, Pt.slots] at X12 l12 y12 z12 st12 hQ12
  subst y12 z12
  obtain ⟨hv12, Nq12, Kq12, q12_0, q12_1, q12_2, q12_3⟩ := hQ12
  obtain rfl : v12 = none := hv12
  have N12 : Fr n0 L12 := by rw [l12]; exact Fr.app N8 Nq12
  have x12_E_b1 := x11_E_b1.keep Kq12
  have x12_F_b1_modCount := x11_F_b1_modCount.keep Kq12 (ninS ne_b1_b11 nin0)
  have x12_F_b1_elementData := x11_F_b1_elementData.keep Kq12 (ninS ne_b1_b11 nin0)
  have x12_F_b1_size := x11_F_b1_size.keep Kq12 (ninS ne_b1_b11 nin0)
  have x12_E_b10 := x11_E_b10.keep Kq12
  have x12_F_b10_shape := x11_F_b10_shape.keep Kq12 (ninS ne_b10_b11 nin0)
  have x12_F_b10_slots := x11_F_b10_slots.keep Kq12 (ninS ne_b10_b11 nin0)
  have x12_F_b10_buckets := x11_F_b10_buckets.keep Kq12 (ninS ne_b10_b11 nin0)
  have x12_F_b10_keys := x11_F_b10_keys.keep Kq12 (ninS ne_b10_b11 nin0)
  have x12_F_b10_grouping := x11_F_b10_grouping.keep Kq12 (ninS ne_b10_b11 nin0)
  have x12_E_b11 := A11.keep Kq12
  have EX12 := own_ext_keepL EX11 Kq12 (allS (hn0 ▸ g_b11) all0)
  have K12 := Keep.trans K11 Kq12 (allS (Or.inr sz_b11) all0)
  obtain ⟨v13, _, ⟨T13, L13, k13, n13⟩, -, X13, ⟨Lc13, hQ13, l13, y13, z13⟩, st13⟩ := X12.specialBack hx (y := (⟨"com/example/cairn/cairn/plan/Stage$Output", "<init>", "(Lcom/example/cairn/cairn/plan/Stage$Shape;Ljava/util/List;ILjava/util/List;Lcom/example/cairn/cairn/plan/Grouping;)V"⟩ : MethodName)) rfl hown (mvT hZ (hw _ (ow 113 rfl))) (mvT hZ (hw _ (ow 114 rfl))) (mvT hZ (hw _ (ow 115 rfl))) (by decide) (backOf (W := 1) (rm_oi1 l Z a0 hw [] b10 b1 b11 T12.heap n0 w_ROWS w_RESULT w_PARTIAL_GROUPS w_MERGED_GROUPS w_D w_EL w_EE w_C w_EM w_M hK hn0 EX12 x12_E_b10 g_b10 x12_F_b10_shape x12_F_b10_slots x12_F_b10_buckets x12_F_b10_keys x12_F_b10_grouping x12_E_b1 g_b1 x12_F_b1_size q12_0 g_b11 q12_3) hZ (hw _ (ow 115 rfl)) (hw _ (ow 112 rfl)) (by decide) (by decide)) (g := (mkF m 155 #[.val (.int p1), .val (.int p2), .val (.int (1 : Int32)), .val (.ref b1), .val (.ref b3), .val (.ref w_RESULT), .val (.int (0 : Int32)), .val .null, .val (.int (1 : Int32)), .unset, .unset, .unset, .unset, .unset] [.null, (.ref b11), (.int (0 : Int32)), (.ref b1), (.ref w_RESULT), (.ref b10), (.ref b10)])) rfl (by rw [hml]; rfl) (Steps.refl _) (a := b10) (argsL := [(.ref w_RESULT), (.ref b1), (.int (0 : Int32)), (.ref b11), .null]) (rest := [(.ref b10)]) (lenOf pd_15 rfl) rfl (Nat.le_of_eq rfl) (hb hby at_155) (fun _ _ => ⟨rfl, (rfl : T12.heap = T12.heap), (by decide : 6 + 0 ≤ _), (by decide : 19 + 0 ≤ _)⟩)
  dsimp only [Pt.U, Pt.locs, Pt.cells, Pt.slots] at X13 l13 y13 z13 st13 hQ13
  subst y13 z13
  obtain ⟨hv13, Nq13, Kq13, q13_0, q13_1⟩ := hQ13
  obtain rfl : v13 = none := hv13
  have N13 : Fr n0 L13 := by rw [l13]; exact Fr.app N12 Nq13
  have x13_E_b1 := x12_E_b1.keep Kq13
  have x13_F_b1_modCount := x12_F_b1_modCount.keep Kq13 (ninS ne_b1_b10 nin0)
  have x13_F_b1_elementData := x12_F_b1_elementData.keep Kq13 (ninS ne_b1_b10 nin0)
  have x13_F_b1_size := x12_F_b1_size.keep Kq13 (ninS ne_b1_b10 nin0)
  have x13_E_b10 := x12_E_b10.keep Kq13
  have x13_E_b11 := q12_0.keep Kq13
  have x13_F_b11_modCount := q12_1.keep Kq13 (ninS (Ne.symm ne_b10_b11) nin0)
  have x13_F_b11_elementData := q12_2.keep Kq13 (ninS (Ne.symm ne_b10_b11) nin0)
  have x13_F_b11_size := q12_3.keep Kq13 (ninS (Ne.symm ne_b10_b11) nin0)
  have EX13 := own_ext_keepL EX12 Kq13 (allS (hn0 ▸ g_b10) all0)
  have K13 := Keep.trans K12 Kq13 (allS (Or.inr sz_b10) all0)
  obtain ⟨cq14, kq14, q14a, q14b, q14c⟩ := isOf hZ (rfl : T13.heap = T13.heap) q13_0
  obtain ⟨v14, _, ⟨T14, L14, k14, n14⟩, -, X14, ⟨Lc14, hQ14, l14, y14, z14⟩, st14⟩ := X13.virtualBack hx (y := (⟨"com/example/cairn/cairn/plan/Stage$Output", "goesToCoordinator", "()Z"⟩ : MethodName)) (z := (⟨"com/example/cairn/cairn/plan/Stage$Output", "goesToCoordinator", "()Z"⟩ : MethodName)) hown (mvT hZ (hw _ (ow 218 rfl))) (mvT hZ (hw _ (ow 219 rfl))) (notFace_of_selects (args := #[]) (mvT hZ (hw _ (ow 221 rfl)))) (mvT hZ (hw _ (ow 221 rfl))) (mvT hZ (hw _ (ow 220 rfl))) (by decide) (backOf (W := 0) (rm_goes l Z a0 hw [] b10 (0 : Int32) T13.heap n0 q13_1) hZ (hw _ (ow 222 rfl)) (hw _ (ow 112 rfl)) (by decide) (by decide)) q14a q14c (g := (mkF m 162 #[.val (.int p1), .val (.int p2), .val (.int (1 : Int32)), .val (.ref b1), .val (.ref b3), .val (.ref w_RESULT), .val (.int (0 : Int32)), .val .null, .val (.int (1 : Int32)), .val (.ref b10), .unset, .unset, .unset, .unset] [(.ref b10)])) rfl (by rw [hml]; rfl) (Steps.refl _) (argsL := []) (rest := []) (lenOf pd_1 rfl) rfl (Nat.le_of_eq rfl) (hb hby at_162) (fun _ _ => ⟨rfl, (rfl : T13.heap = T13.heap), (by decide : 6 + 0 ≤ _), (by decide : 19 + 0 ≤ _)⟩)
  dsimp only [Pt.U, Pt.locs, Pt.cells, Pt.slots] at X14 l14 y14 z14 st14 hQ14
  subst y14 z14
  obtain ⟨hv14, Nq14, e14⟩ := hQ14
  obtain rfl : v14 = some (.int (1 : Int32)) := hv14.trans (congrArg some (congrArg Value.int (if_pos (by decide))))
  have N14 : Fr n0 L14 := by rw [l14]; exact Fr.app N13 Nq14
  obtain ⟨T15, X15, e15, st15⟩ := getS2 X14 hx hZ hown (host := "") (Or.inl (hw _ (ow 223 rfl))) Via.refl e14 (S_w_RESULT.ext EX13) (g := (mkF m 211 #[.val (.int p1), .val (.int p2), .val (.int (1 : Int32)), .val (.ref b1), .val (.ref b3), .val (.ref w_RESULT), .val (.int (0 : Int32)), .val .null, .val (.int (1 : Int32)), .val (.ref b10), .val (.int (1 : Int32)), .unset, .unset, .unset] [])) rfl (hb hby at_211)
  obtain ⟨v16, _, ⟨T16, L16, k16, n16⟩, -, X16, ⟨Lc16, hQ16, l16, y16, z16⟩, st16⟩ := Jvm.LawKit.callS X15 hx (y := (⟨"com/example/cairn/cairn/plan/Stage$Output", "toCoordinator", "(Lcom/example/cairn/cairn/plan/Stage$Shape;Lcom/example/cairn/cairn/plan/Grouping;)Lcom/example/cairn/cairn/plan/Stage$Output;"⟩ : MethodName)) hown (mvT hZ (hw _ (ow 225 rfl))) (mvT hZ (hw _ (ow 226 rfl))) (mvT hZ (hw _ (ow 112 rfl))) (mvT hZ (hw _ (ow 227 rfl))) (by decide) (backOf (W := 0) (rm_toC_RESULT l Z a0 hw []  T13.heap n0 w_ROWS w_RESULT w_PARTIAL_GROUPS w_MERGED_GROUPS w_D w_EL w_EE w_C w_EM w_M hK hn0 EX13) hZ (hw _ (ow 227 rfl)) (hw _ (ow 112 rfl)) (by decide) (by decide)) (g := (mkF m 223 #[.val (.int p1), .val (.int p2), .val (.int (1 : Int32)), .val (.ref b1), .val (.ref b3), .val (.ref w_RESULT), .val (.int (0 : Int32)), .val .null, .val (.int (1 : Int32)), .val (.ref b10), .val (.int (1 : Int32)), .val (.ref w_RESULT), .val .null, .unset] [.null, (.ref w_RESULT)])) rfl (by rw [hml]; rfl) (argsL := [(.ref w_RESULT), .null]) (rest := []) (lenOf pd_19 rfl) rfl (Nat.le_of_eq rfl) (hb hby at_223) (fun _ _ => ⟨rfl, e15, (by decide : 6 + 1 ≤ _), (by decide : 19 + 5 ≤ _)⟩)
  dsimp only [Pt.U, Pt.locs, Pt.cells, Pt.slots] at X16 l16 y16 z16 st16 hQ16
  subst y16 z16
  obtain ⟨r16, hv16, sy16, Nq16, Kq16, q16_0, q16_1⟩ := hQ16
  obtain rfl : v16 = some (.ref r16) := hv16
  have ne_b10_r16 : b10 ≠ r16 := Nat.ne_of_lt (Nat.lt_of_lt_of_le q13_0.lt sy16)
  have sz_r16 : h0.size ≤ r16 := Nat.le_trans K13.1 sy16
  have g_r16 : n0 ≤ r16 := hn0 ▸ Nat.le_trans EX13.1 sy16
  have N16 : Fr n0 L16 := by rw [l16]; exact Fr.app N14 Nq16
  have x16_E_b10 := q13_0.keep Kq16
  have x16_F_b10_buckets := q13_1.keep Kq16 nin0
  have EX16 := own_ext_keepL EX13 Kq16 all0
  have K16 := Keep.trans K13 Kq16 all0
  obtain ⟨cq17, kq17, q17a, q17b, q17c⟩ := isOf hZ (rfl : T16.heap = T16.heap) q16_0
  obtain ⟨v17, _, ⟨T17, L17, k17, n17⟩, -, X17, ⟨Lc17, hQ17, l17, y17, z17⟩, st17⟩ := X16.virtualBack hx (y := (⟨"com/example/cairn/cairn/plan/Stage$Output", "goesToCoordinator", "()Z"⟩ : MethodName)) (z := (⟨"com/example/cairn/cairn/plan/Stage$Output", "goesToCoordinator", "()Z"⟩ : MethodName)) hown (mvT hZ (hw _ (ow 218 rfl))) (mvT hZ (hw _ (ow 219 rfl))) (notFace_of_selects (args := #[]) (mvT hZ (hw _ (ow 221 rfl)))) (mvT hZ (hw _ (ow 221 rfl))) (mvT hZ (hw _ (ow 220 rfl))) (by decide) (backOf (W := 0) (rm_goes l Z a0 hw [] r16 (0 : Int32) T16.heap n0 q16_1) hZ (hw _ (ow 222 rfl)) (hw _ (ow 112 rfl)) (by decide) (by decide)) q17a q17c (g := (mkF m 235 #[.val (.int p1), .val (.int p2), .val (.int (1 : Int32)), .val (.ref b1), .val (.ref b3), .val (.ref w_RESULT), .val (.int (0 : Int32)), .val .null, .val (.int (1 : Int32)), .val (.ref b10), .val (.int (1 : Int32)), .val (.ref w_RESULT), .val .null, .val (.ref r16)] [(.ref r16)])) rfl (by rw [hml]; rfl) (Steps.refl _) (argsL := []) (rest := []) (lenOf pd_1 rfl) rfl (Nat.le_of_eq rfl) (hb hby at_235) (fun _ _ => ⟨rfl, (rfl : T16.heap = T16.heap), (by decide : 7 + 0 ≤ _), (by decide : 24 + 0 ≤ _)⟩)
  dsimp only [Pt.U, Pt.locs, Pt.cells, Pt.slots] at X17 l17 y17 z17 st17 hQ17
  subst y17 z17
  obtain ⟨hv17, Nq17, e17⟩ := hQ17
  obtain rfl : v17 = some (.int (1 : Int32)) := hv17.trans (congrArg some (congrArg Value.int (if_pos (by decide))))
  have N17 : Fr n0 L17 := by rw [l17]; exact Fr.app N16 Nq17
  have pre18 : ∀ t, Steps p.tables e below (T17.setTop (mkF m 246 #[.val (.int p1), .val (.int p2), .val (.int (1 : Int32)), .val (.ref b1), .val (.ref b3), .val (.ref w_RESULT), .val (.int (0 : Int32)), .val .null, .val (.int (1 : Int32)), .val (.ref b10), .val (.int (1 : Int32)), .val (.ref w_RESULT), .val .null, .val (.ref r16)] [(.int (1 : Int32))])) t → Steps p.tables e below (s₁.setTop (entryFrame m #[(.int p1), (.int p2)] maxLocals)) t := fun t k => pre0 t (by
    show Steps p.tables e below (s₁.setTop (mkF m 0 #[.val (.int p1), .val (.int p2), .unset, .unset, .unset, .unset, .unset, .unset, .unset, .unset, .unset, .unset, .unset, .unset] [])) _
    refine XS.iloadN X0.here hx rfl (hb hby at_0) rfl ?_
    show Steps p.tables e below (s₁.setTop (mkF m 1 #[.val (.int p1), .val (.int p2), .unset, .unset, .unset, .unset, .unset, .unset, .unset, .unset, .unset, .unset, .unset, .unset] [(.int p1)])) _
    refine XS.iconst X0.here hx rfl (hb hby at_1) ?_
    show Steps p.tables e below (s₁.setTop (mkF m 2 #[.val (.int p1), .val (.int p2), .unset, .unset, .unset, .unset, .unset, .unset, .unset, .unset, .unset, .unset, .unset, .unset] [(.int (3 : Int32)), (.int p1)])) _
    refine XS.iand X0.here hx rfl (hb hby at_2) rfl ?_
    show Steps p.tables e below (s₁.setTop (mkF m 3 #[.val (.int p1), .val (.int p2), .unset, .unset, .unset, .unset, .unset, .unset, .unset, .unset, .unset, .unset, .unset, .unset] [(.int (p1 &&& (3 : Int32)))])) _
    rw [hk]
    show Steps p.tables e below (s₁.setTop (mkF m 3 #[.val (.int p1), .val (.int p2), .unset, .unset, .unset, .unset, .unset, .unset, .unset, .unset, .unset, .unset, .unset, .unset] [(.int (1 : Int32))])) _
    refine XS.istoreN X0.here hx rfl (hb hby at_3) rfl (l' := #[.val (.int p1), .val (.int p2), .val (.int (1 : Int32)), .unset, .unset, .unset, .unset, .unset, .unset, .unset, .unset, .unset, .unset, .unset]) rfl ?_
    show Steps p.tables e below (s₁.setTop (mkF m 4 #[.val (.int p1), .val (.int p2), .val (.int (1 : Int32)), .unset, .unset, .unset, .unset, .unset, .unset, .unset, .unset, .unset, .unset, .unset] [])) _
    refine st1 _ ?_
    show Steps p.tables e below (T1.setTop (mkF m 7 #[.val (.int p1), .val (.int p2), .val (.int (1 : Int32)), .unset, .unset, .unset, .unset, .unset, .unset, .unset, .unset, .unset, .unset, .unset] [(.ref b1)])) _
    refine XS.dup X1.here hx rfl (hb hby at_7) rfl rfl ?_
    show Steps p.tables e below (T1.setTop (mkF m 8 #[.val (.int p1), .val (.int p2), .val (.int (1 : Int32)), .unset, .unset, .unset, .unset, .unset, .unset, .unset, .unset, .unset, .unset, .unset] [(.ref b1), (.ref b1)])) _
    refine st2.trans ?_
    show Steps p.tables e below (T2.setTop (mkF m 11 #[.val (.int p1), .val (.int p2), .val (.int (1 : Int32)), .unset, .unset, .unset, .unset, .unset, .unset, .unset, .unset, .unset, .unset, .unset] [(.ref b1)])) _
    refine XS.astoreN X2.here hx rfl (hb hby at_11) rfl rfl (l' := #[.val (.int p1), .val (.int p2), .val (.int (1 : Int32)), .val (.ref b1), .unset, .unset, .unset, .unset, .unset, .unset, .unset, .unset, .unset, .unset]) rfl ?_
    show Steps p.tables e below (T2.setTop (mkF m 12 #[.val (.int p1), .val (.int p2), .val (.int (1 : Int32)), .val (.ref b1), .unset, .unset, .unset, .unset, .unset, .unset, .unset, .unset, .unset, .unset] [])) _
    refine st3 _ ?_
    show Steps p.tables e below (T3.setTop (mkF m 15 #[.val (.int p1), .val (.int p2), .val (.int (1 : Int32)), .val (.ref b1), .unset, .unset, .unset, .unset, .unset, .unset, .unset, .unset, .unset, .unset] [(.ref b3)])) _
    refine XS.dup X3.here hx rfl (hb hby at_15) rfl rfl ?_
    show Steps p.tables e below (T3.setTop (mkF m 16 #[.val (.int p1), .val (.int p2), .val (.int (1 : Int32)), .val (.ref b1), .unset, .unset, .unset, .unset, .unset, .unset, .unset, .unset, .unset, .unset] [(.ref b3), (.ref b3)])) _
    refine st4 _ ?_
    show Steps p.tables e below (T4.setTop (mkF m 19 #[.val (.int p1), .val (.int p2), .val (.int (1 : Int32)), .val (.ref b1), .unset, .unset, .unset, .unset, .unset, .unset, .unset, .unset, .unset, .unset] [(.ref b4), (.ref b3), (.ref b3)])) _
    refine XS.dup X4.here hx rfl (hb hby at_19) rfl rfl ?_
    show Steps p.tables e below (T4.setTop (mkF m 20 #[.val (.int p1), .val (.int p2), .val (.int (1 : Int32)), .val (.ref b1), .unset, .unset, .unset, .unset, .unset, .unset, .unset, .unset, .unset, .unset] [(.ref b4), (.ref b4), (.ref b3), (.ref b3)])) _
    refine st5.trans ?_
    show Steps p.tables e below (T5.setTop (mkF m 23 #[.val (.int p1), .val (.int p2), .val (.int (1 : Int32)), .val (.ref b1), .unset, .unset, .unset, .unset, .unset, .unset, .unset, .unset, .unset, .unset] [(.ref b4), (.ref b3), (.ref b3)])) _
    refine st6 _ ?_
    show Steps p.tables e below (T6.setTop (mkF m 26 #[.val (.int p1), .val (.int p2), .val (.int (1 : Int32)), .val (.ref b1), .unset, .unset, .unset, .unset, .unset, .unset, .unset, .unset, .unset, .unset] [(.ref b6), (.ref b4), (.ref b3), (.ref b3)])) _
    refine XS.dup X6.here hx rfl (hb hby at_26) rfl rfl ?_
    show Steps p.tables e below (T6.setTop (mkF m 27 #[.val (.int p1), .val (.int p2), .val (.int (1 : Int32)), .val (.ref b1), .unset, .unset, .unset, .unset, .unset, .unset, .unset, .unset, .unset, .unset] [(.ref b6), (.ref b6), (.ref b4), (.ref b3), (.ref b3)])) _
    refine st7.trans ?_
    show Steps p.tables e below (T7.setTop (mkF m 30 #[.val (.int p1), .val (.int p2), .val (.int (1 : Int32)), .val (.ref b1), .unset, .unset, .unset, .unset, .unset, .unset, .unset, .unset, .unset, .unset] [(.ref b6), (.ref b4), (.ref b3), (.ref b3)])) _
    refine st8.trans ?_
    show Steps p.tables e below (T8.setTop (mkF m 33 #[.val (.int p1), .val (.int p2), .val (.int (1 : Int32)), .val (.ref b1), .unset, .unset, .unset, .unset, .unset, .unset, .unset, .unset, .unset, .unset] [(.ref b3)])) _
    refine XS.astore X8.here hx rfl (hb hby at_33) rfl rfl (l' := #[.val (.int p1), .val (.int p2), .val (.int (1 : Int32)), .val (.ref b1), .val (.ref b3), .unset, .unset, .unset, .unset, .unset, .unset, .unset, .unset, .unset]) rfl ?_
    show Steps p.tables e below (T8.setTop (mkF m 35 #[.val (.int p1), .val (.int p2), .val (.int (1 : Int32)), .val (.ref b1), .val (.ref b3), .unset, .unset, .unset, .unset, .unset, .unset, .unset, .unset, .unset] [])) _
    refine XS.iloadN X8.here hx rfl (hb hby at_35) rfl ?_
    show Steps p.tables e below (T8.setTop (mkF m 36 #[.val (.int p1), .val (.int p2), .val (.int (1 : Int32)), .val (.ref b1), .val (.ref b3), .unset, .unset, .unset, .unset, .unset, .unset, .unset, .unset, .unset] [(.int (1 : Int32))])) _
    refine XS.ifYes X8.here hx rfl (pc0 := 36) (pc' := 65) rfl (hb hby at_36) rfl ((if0 _ _).trans (feq (by decide)).2) (by decide) (by decide) ?_
    show Steps p.tables e below (T8.setTop (mkF m 65 #[.val (.int p1), .val (.int p2), .val (.int (1 : Int32)), .val (.ref b1), .val (.ref b3), .unset, .unset, .unset, .unset, .unset, .unset, .unset, .unset, .unset] [])) _
    refine XS.iloadN X8.here hx rfl (hb hby at_65) rfl ?_
    show Steps p.tables e below (T8.setTop (mkF m 66 #[.val (.int p1), .val (.int p2), .val (.int (1 : Int32)), .val (.ref b1), .val (.ref b3), .unset, .unset, .unset, .unset, .unset, .unset, .unset, .unset, .unset] [(.int (1 : Int32))])) _
    refine XS.iconst X8.here hx rfl (hb hby at_66) ?_
    show Steps p.tables e below (T8.setTop (mkF m 67 #[.val (.int p1), .val (.int p2), .val (.int (1 : Int32)), .val (.ref b1), .val (.ref b3), .unset, .unset, .unset, .unset, .unset, .unset, .unset, .unset, .unset] [(.int (1 : Int32)), (.int (1 : Int32))])) _
    refine XS.icmpNo X8.here hx rfl (hb hby at_67) rfl (teq (by decide)).2 ?_
    show Steps p.tables e below (T8.setTop (mkF m 70 #[.val (.int p1), .val (.int p2), .val (.int (1 : Int32)), .val (.ref b1), .val (.ref b3), .unset, .unset, .unset, .unset, .unset, .unset, .unset, .unset, .unset] [])) _
    refine st9 _ ?_
    show Steps p.tables e below (T9.setTop (mkF m 73 #[.val (.int p1), .val (.int p2), .val (.int (1 : Int32)), .val (.ref b1), .val (.ref b3), .unset, .unset, .unset, .unset, .unset, .unset, .unset, .unset, .unset] [(.ref w_RESULT)])) _
    refine XS.astore X9.here hx rfl (hb hby at_73) rfl rfl (l' := #[.val (.int p1), .val (.int p2), .val (.int (1 : Int32)), .val (.ref b1), .val (.ref b3), .val (.ref w_RESULT), .unset, .unset, .unset, .unset, .unset, .unset, .unset, .unset]) rfl ?_
    show Steps p.tables e below (T9.setTop (mkF m 75 #[.val (.int p1), .val (.int p2), .val (.int (1 : Int32)), .val (.ref b1), .val (.ref b3), .val (.ref w_RESULT), .unset, .unset, .unset, .unset, .unset, .unset, .unset, .unset] [])) _
    refine XS.iconst X9.here hx rfl (hb hby at_75) ?_
    show Steps p.tables e below (T9.setTop (mkF m 76 #[.val (.int p1), .val (.int p2), .val (.int (1 : Int32)), .val (.ref b1), .val (.ref b3), .val (.ref w_RESULT), .unset, .unset, .unset, .unset, .unset, .unset, .unset, .unset] [(.int (0 : Int32))])) _
    refine XS.istore X9.here hx rfl (hb hby at_76) rfl (l' := #[.val (.int p1), .val (.int p2), .val (.int (1 : Int32)), .val (.ref b1), .val (.ref b3), .val (.ref w_RESULT), .val (.int (0 : Int32)), .unset, .unset, .unset, .unset, .unset, .unset, .unset]) rfl ?_
    show Steps p.tables e below (T9.setTop (mkF m 78 #[.val (.int p1), .val (.int p2), .val (.int (1 : Int32)), .val (.ref b1), .val (.ref b3), .val (.ref w_RESULT), .val (.int (0 : Int32)), .unset, .unset, .unset, .unset, .unset, .unset, .unset] [])) _
    refine XS.aconstNull X9.here hx rfl (hb hby at_78) ?_
    show Steps p.tables e below (T9.setTop (mkF m 79 #[.val (.int p1), .val (.int p2), .val (.int (1 : Int32)), .val (.ref b1), .val (.ref b3), .val (.ref w_RESULT), .val (.int (0 : Int32)), .unset, .unset, .unset, .unset, .unset, .unset, .unset] [.null])) _
    refine XS.astore X9.here hx rfl (hb hby at_79) rfl rfl (l' := #[.val (.int p1), .val (.int p2), .val (.int (1 : Int32)), .val (.ref b1), .val (.ref b3), .val (.ref w_RESULT), .val (.int (0 : Int32)), .val .null, .unset, .unset, .unset, .unset, .unset, .unset]) rfl ?_
    show Steps p.tables e below (T9.setTop (mkF m 81 #[.val (.int p1), .val (.int p2), .val (.int (1 : Int32)), .val (.ref b1), .val (.ref b3), .val (.ref w_RESULT), .val (.int (0 : Int32)), .val .null, .unset, .unset, .unset, .unset, .unset, .unset] [])) _
    refine XS.iconst X9.here hx rfl (hb hby at_81) ?_
    show Steps p.tables e below (T9.setTop (mkF m 82 #[.val (.int p1), .val (.int p2), .val (.int (1 : Int32)), .val (.ref b1), .val (.ref b3), .val (.ref w_RESULT), .val (.int (0 : Int32)), .val .null, .unset, .unset, .unset, .unset, .unset, .unset] [(.int (1 : Int32))])) _
    refine XS.istore X9.here hx rfl (hb hby at_82) rfl (l' := #[.val (.int p1), .val (.int p2), .val (.int (1 : Int32)), .val (.ref b1), .val (.ref b3), .val (.ref w_RESULT), .val (.int (0 : Int32)), .val .null, .val (.int (1 : Int32)), .unset, .unset, .unset, .unset, .unset]) rfl ?_
    show Steps p.tables e below (T9.setTop (mkF m 84 #[.val (.int p1), .val (.int p2), .val (.int (1 : Int32)), .val (.ref b1), .val (.ref b3), .val (.ref w_RESULT), .val (.int (0 : Int32)), .val .null, .val (.int (1 : Int32)), .unset, .unset, .unset, .unset, .unset] [])) _
    refine XS.goto X9.here hx rfl (pc0 := 84) (pc' := 137) rfl (hb hby at_84) (by decide) (by decide) ?_
    show Steps p.tables e below (T9.setTop (mkF m 137 #[.val (.int p1), .val (.int p2), .val (.int (1 : Int32)), .val (.ref b1), .val (.ref b3), .val (.ref w_RESULT), .val (.int (0 : Int32)), .val .null, .val (.int (1 : Int32)), .unset, .unset, .unset, .unset, .unset] [])) _
    refine st10 _ ?_
    show Steps p.tables e below (T10.setTop (mkF m 140 #[.val (.int p1), .val (.int p2), .val (.int (1 : Int32)), .val (.ref b1), .val (.ref b3), .val (.ref w_RESULT), .val (.int (0 : Int32)), .val .null, .val (.int (1 : Int32)), .unset, .unset, .unset, .unset, .unset] [(.ref b10)])) _
    refine XS.dup X10.here hx rfl (hb hby at_140) rfl rfl ?_
    show Steps p.tables e below (T10.setTop (mkF m 141 #[.val (.int p1), .val (.int p2), .val (.int (1 : Int32)), .val (.ref b1), .val (.ref b3), .val (.ref w_RESULT), .val (.int (0 : Int32)), .val .null, .val (.int (1 : Int32)), .unset, .unset, .unset, .unset, .unset] [(.ref b10), (.ref b10)])) _
    refine XS.aload X10.here hx rfl (hb hby at_141) rfl rfl ?_
    show Steps p.tables e below (T10.setTop (mkF m 143 #[.val (.int p1), .val (.int p2), .val (.int (1 : Int32)), .val (.ref b1), .val (.ref b3), .val (.ref w_RESULT), .val (.int (0 : Int32)), .val .null, .val (.int (1 : Int32)), .unset, .unset, .unset, .unset, .unset] [(.ref w_RESULT), (.ref b10), (.ref b10)])) _
    refine XS.aloadN X10.here hx rfl (hb hby at_143) rfl rfl ?_
    show Steps p.tables e below (T10.setTop (mkF m 144 #[.val (.int p1), .val (.int p2), .val (.int (1 : Int32)), .val (.ref b1), .val (.ref b3), .val (.ref w_RESULT), .val (.int (0 : Int32)), .val .null, .val (.int (1 : Int32)), .unset, .unset, .unset, .unset, .unset] [(.ref b1), (.ref w_RESULT), (.ref b10), (.ref b10)])) _
    refine XS.iload X10.here hx rfl (hb hby at_144) rfl ?_
    show Steps p.tables e below (T10.setTop (mkF m 146 #[.val (.int p1), .val (.int p2), .val (.int (1 : Int32)), .val (.ref b1), .val (.ref b3), .val (.ref w_RESULT), .val (.int (0 : Int32)), .val .null, .val (.int (1 : Int32)), .unset, .unset, .unset, .unset, .unset] [(.int (0 : Int32)), (.ref b1), (.ref w_RESULT), (.ref b10), (.ref b10)])) _
    refine st11 _ ?_
    show Steps p.tables e below (T11.setTop (mkF m 149 #[.val (.int p1), .val (.int p2), .val (.int (1 : Int32)), .val (.ref b1), .val (.ref b3), .val (.ref w_RESULT), .val (.int (0 : Int32)), .val .null, .val (.int (1 : Int32)), .unset, .unset, .unset, .unset, .unset] [(.ref b11), (.int (0 : Int32)), (.ref b1), (.ref w_RESULT), (.ref b10), (.ref b10)])) _
    refine XS.dup X11.here hx rfl (hb hby at_149) rfl rfl ?_
    show Steps p.tables e below (T11.setTop (mkF m 150 #[.val (.int p1), .val (.int p2), .val (.int (1 : Int32)), .val (.ref b1), .val (.ref b3), .val (.ref w_RESULT), .val (.int (0 : Int32)), .val .null, .val (.int (1 : Int32)), .unset, .unset, .unset, .unset, .unset] [(.ref b11), (.ref b11), (.int (0 : Int32)), (.ref b1), (.ref w_RESULT), (.ref b10), (.ref b10)])) _
    refine st12.trans ?_
    show Steps p.tables e below (T12.setTop (mkF m 153 #[.val (.int p1), .val (.int p2), .val (.int (1 : Int32)), .val (.ref b1), .val (.ref b3), .val (.ref w_RESULT), .val (.int (0 : Int32)), .val .null, .val (.int (1 : Int32)), .unset, .unset, .unset, .unset, .unset] [(.ref b11), (.int (0 : Int32)), (.ref b1), (.ref w_RESULT), (.ref b10), (.ref b10)])) _
    refine XS.aload X12.here hx rfl (hb hby at_153) rfl rfl ?_
    show Steps p.tables e below (T12.setTop (mkF m 155 #[.val (.int p1), .val (.int p2), .val (.int (1 : Int32)), .val (.ref b1), .val (.ref b3), .val (.ref w_RESULT), .val (.int (0 : Int32)), .val .null, .val (.int (1 : Int32)), .unset, .unset, .unset, .unset, .unset] [.null, (.ref b11), (.int (0 : Int32)), (.ref b1), (.ref w_RESULT), (.ref b10), (.ref b10)])) _
    refine st13.trans ?_
    show Steps p.tables e below (T13.setTop (mkF m 158 #[.val (.int p1), .val (.int p2), .val (.int (1 : Int32)), .val (.ref b1), .val (.ref b3), .val (.ref w_RESULT), .val (.int (0 : Int32)), .val .null, .val (.int (1 : Int32)), .unset, .unset, .unset, .unset, .unset] [(.ref b10)])) _
    refine XS.astore X13.here hx rfl (hb hby at_158) rfl rfl (l' := #[.val (.int p1), .val (.int p2), .val (.int (1 : Int32)), .val (.ref b1), .val (.ref b3), .val (.ref w_RESULT), .val (.int (0 : Int32)), .val .null, .val (.int (1 : Int32)), .val (.ref b10), .unset, .unset, .unset, .unset]) rfl ?_
    show Steps p.tables e below (T13.setTop (mkF m 160 #[.val (.int p1), .val (.int p2), .val (.int (1 : Int32)), .val (.ref b1), .val (.ref b3), .val (.ref w_RESULT), .val (.int (0 : Int32)), .val .null, .val (.int (1 : Int32)), .val (.ref b10), .unset, .unset, .unset, .unset] [])) _
    refine XS.aload X13.here hx rfl (hb hby at_160) rfl rfl ?_
    show Steps p.tables e below (T13.setTop (mkF m 162 #[.val (.int p1), .val (.int p2), .val (.int (1 : Int32)), .val (.ref b1), .val (.ref b3), .val (.ref w_RESULT), .val (.int (0 : Int32)), .val .null, .val (.int (1 : Int32)), .val (.ref b10), .unset, .unset, .unset, .unset] [(.ref b10)])) _
    refine st14.trans ?_
    show Steps p.tables e below (T14.setTop (mkF m 165 #[.val (.int p1), .val (.int p2), .val (.int (1 : Int32)), .val (.ref b1), .val (.ref b3), .val (.ref w_RESULT), .val (.int (0 : Int32)), .val .null, .val (.int (1 : Int32)), .val (.ref b10), .unset, .unset, .unset, .unset] [(.int (1 : Int32))])) _
    refine XS.iload X14.here hx rfl (hb hby at_165) rfl ?_
    show Steps p.tables e below (T14.setTop (mkF m 167 #[.val (.int p1), .val (.int p2), .val (.int (1 : Int32)), .val (.ref b1), .val (.ref b3), .val (.ref w_RESULT), .val (.int (0 : Int32)), .val .null, .val (.int (1 : Int32)), .val (.ref b10), .unset, .unset, .unset, .unset] [(.int (1 : Int32)), (.int (1 : Int32))])) _
    refine XS.icmpNo X14.here hx rfl (hb hby at_167) rfl (teq (by decide)).2 ?_
    show Steps p.tables e below (T14.setTop (mkF m 170 #[.val (.int p1), .val (.int p2), .val (.int (1 : Int32)), .val (.ref b1), .val (.ref b3), .val (.ref w_RESULT), .val (.int (0 : Int32)), .val .null, .val (.int (1 : Int32)), .val (.ref b10), .unset, .unset, .unset, .unset] [])) _
    refine XS.iconst X14.here hx rfl (hb hby at_170) ?_
    show Steps p.tables e below (T14.setTop (mkF m 171 #[.val (.int p1), .val (.int p2), .val (.int (1 : Int32)), .val (.ref b1), .val (.ref b3), .val (.ref w_RESULT), .val (.int (0 : Int32)), .val .null, .val (.int (1 : Int32)), .val (.ref b10), .unset, .unset, .unset, .unset] [(.int (1 : Int32))])) _
    refine XS.goto X14.here hx rfl (pc0 := 171) (pc' := 175) rfl (hb hby at_171) (by decide) (by decide) ?_
    show Steps p.tables e below (T14.setTop (mkF m 175 #[.val (.int p1), .val (.int p2), .val (.int (1 : Int32)), .val (.ref b1), .val (.ref b3), .val (.ref w_RESULT), .val (.int (0 : Int32)), .val .null, .val (.int (1 : Int32)), .val (.ref b10), .unset, .unset, .unset, .unset] [(.int (1 : Int32))])) _
    refine XS.istore X14.here hx rfl (hb hby at_175) rfl (l' := #[.val (.int p1), .val (.int p2), .val (.int (1 : Int32)), .val (.ref b1), .val (.ref b3), .val (.ref w_RESULT), .val (.int (0 : Int32)), .val .null, .val (.int (1 : Int32)), .val (.ref b10), .val (.int (1 : Int32)), .unset, .unset, .unset]) rfl ?_
    show Steps p.tables e below (T14.setTop (mkF m 177 #[.val (.int p1), .val (.int p2), .val (.int (1 : Int32)), .val (.ref b1), .val (.ref b3), .val (.ref w_RESULT), .val (.int (0 : Int32)), .val .null, .val (.int (1 : Int32)), .val (.ref b10), .val (.int (1 : Int32)), .unset, .unset, .unset] [])) _
    refine XS.iloadN X14.here hx rfl (hb hby at_177) rfl ?_
    show Steps p.tables e below (T14.setTop (mkF m 178 #[.val (.int p1), .val (.int p2), .val (.int (1 : Int32)), .val (.ref b1), .val (.ref b3), .val (.ref w_RESULT), .val (.int (0 : Int32)), .val .null, .val (.int (1 : Int32)), .val (.ref b10), .val (.int (1 : Int32)), .unset, .unset, .unset] [(.int (1 : Int32))])) _
    refine XS.iconst X14.here hx rfl (hb hby at_178) ?_
    show Steps p.tables e below (T14.setTop (mkF m 179 #[.val (.int p1), .val (.int p2), .val (.int (1 : Int32)), .val (.ref b1), .val (.ref b3), .val (.ref w_RESULT), .val (.int (0 : Int32)), .val .null, .val (.int (1 : Int32)), .val (.ref b10), .val (.int (1 : Int32)), .unset, .unset, .unset] [(.int (3 : Int32)), (.int (1 : Int32))])) _
    refine XS.icmpYes X14.here hx rfl (pc0 := 179) (pc' := 194) rfl (hb hby at_179) rfl (feq (by decide)).2 (by decide) (by decide) ?_
    show Steps p.tables e below (T14.setTop (mkF m 194 #[.val (.int p1), .val (.int p2), .val (.int (1 : Int32)), .val (.ref b1), .val (.ref b3), .val (.ref w_RESULT), .val (.int (0 : Int32)), .val .null, .val (.int (1 : Int32)), .val (.ref b10), .val (.int (1 : Int32)), .unset, .unset, .unset] [])) _
    refine XS.iloadN X14.here hx rfl (hb hby at_194) rfl ?_
    show Steps p.tables e below (T14.setTop (mkF m 195 #[.val (.int p1), .val (.int p2), .val (.int (1 : Int32)), .val (.ref b1), .val (.ref b3), .val (.ref w_RESULT), .val (.int (0 : Int32)), .val .null, .val (.int (1 : Int32)), .val (.ref b10), .val (.int (1 : Int32)), .unset, .unset, .unset] [(.int (1 : Int32))])) _
    refine XS.iconst X14.here hx rfl (hb hby at_195) ?_
    show Steps p.tables e below (T14.setTop (mkF m 196 #[.val (.int p1), .val (.int p2), .val (.int (1 : Int32)), .val (.ref b1), .val (.ref b3), .val (.ref w_RESULT), .val (.int (0 : Int32)), .val .null, .val (.int (1 : Int32)), .val (.ref b10), .val (.int (1 : Int32)), .unset, .unset, .unset] [(.int (2 : Int32)), (.int (1 : Int32))])) _
    refine XS.icmpYes X14.here hx rfl (pc0 := 196) (pc' := 211) rfl (hb hby at_196) rfl (feq (by decide)).2 (by decide) (by decide) ?_
    show Steps p.tables e below (T14.setTop (mkF m 211 #[.val (.int p1), .val (.int p2), .val (.int (1 : Int32)), .val (.ref b1), .val (.ref b3), .val (.ref w_RESULT), .val (.int (0 : Int32)), .val .null, .val (.int (1 : Int32)), .val (.ref b10), .val (.int (1 : Int32)), .unset, .unset, .unset] [])) _
    refine st15 _ ?_
    show Steps p.tables e below (T15.setTop (mkF m 214 #[.val (.int p1), .val (.int p2), .val (.int (1 : Int32)), .val (.ref b1), .val (.ref b3), .val (.ref w_RESULT), .val (.int (0 : Int32)), .val .null, .val (.int (1 : Int32)), .val (.ref b10), .val (.int (1 : Int32)), .unset, .unset, .unset] [(.ref w_RESULT)])) _
    refine XS.astore X15.here hx rfl (hb hby at_214) rfl rfl (l' := #[.val (.int p1), .val (.int p2), .val (.int (1 : Int32)), .val (.ref b1), .val (.ref b3), .val (.ref w_RESULT), .val (.int (0 : Int32)), .val .null, .val (.int (1 : Int32)), .val (.ref b10), .val (.int (1 : Int32)), .val (.ref w_RESULT), .unset, .unset]) rfl ?_
    show Steps p.tables e below (T15.setTop (mkF m 216 #[.val (.int p1), .val (.int p2), .val (.int (1 : Int32)), .val (.ref b1), .val (.ref b3), .val (.ref w_RESULT), .val (.int (0 : Int32)), .val .null, .val (.int (1 : Int32)), .val (.ref b10), .val (.int (1 : Int32)), .val (.ref w_RESULT), .unset, .unset] [])) _
    refine XS.aconstNull X15.here hx rfl (hb hby at_216) ?_
    show Steps p.tables e below (T15.setTop (mkF m 217 #[.val (.int p1), .val (.int p2), .val (.int (1 : Int32)), .val (.ref b1), .val (.ref b3), .val (.ref w_RESULT), .val (.int (0 : Int32)), .val .null, .val (.int (1 : Int32)), .val (.ref b10), .val (.int (1 : Int32)), .val (.ref w_RESULT), .unset, .unset] [.null])) _
    refine XS.astore X15.here hx rfl (hb hby at_217) rfl rfl (l' := #[.val (.int p1), .val (.int p2), .val (.int (1 : Int32)), .val (.ref b1), .val (.ref b3), .val (.ref w_RESULT), .val (.int (0 : Int32)), .val .null, .val (.int (1 : Int32)), .val (.ref b10), .val (.int (1 : Int32)), .val (.ref w_RESULT), .val .null, .unset]) rfl ?_
    show Steps p.tables e below (T15.setTop (mkF m 219 #[.val (.int p1), .val (.int p2), .val (.int (1 : Int32)), .val (.ref b1), .val (.ref b3), .val (.ref w_RESULT), .val (.int (0 : Int32)), .val .null, .val (.int (1 : Int32)), .val (.ref b10), .val (.int (1 : Int32)), .val (.ref w_RESULT), .val .null, .unset] [])) _
    refine XS.aload X15.here hx rfl (hb hby at_219) rfl rfl ?_
    show Steps p.tables e below (T15.setTop (mkF m 221 #[.val (.int p1), .val (.int p2), .val (.int (1 : Int32)), .val (.ref b1), .val (.ref b3), .val (.ref w_RESULT), .val (.int (0 : Int32)), .val .null, .val (.int (1 : Int32)), .val (.ref b10), .val (.int (1 : Int32)), .val (.ref w_RESULT), .val .null, .unset] [(.ref w_RESULT)])) _
    refine XS.aload X15.here hx rfl (hb hby at_221) rfl rfl ?_
    show Steps p.tables e below (T15.setTop (mkF m 223 #[.val (.int p1), .val (.int p2), .val (.int (1 : Int32)), .val (.ref b1), .val (.ref b3), .val (.ref w_RESULT), .val (.int (0 : Int32)), .val .null, .val (.int (1 : Int32)), .val (.ref b10), .val (.int (1 : Int32)), .val (.ref w_RESULT), .val .null, .unset] [.null, (.ref w_RESULT)])) _
    refine st16 _ ?_
    show Steps p.tables e below (T16.setTop (mkF m 226 #[.val (.int p1), .val (.int p2), .val (.int (1 : Int32)), .val (.ref b1), .val (.ref b3), .val (.ref w_RESULT), .val (.int (0 : Int32)), .val .null, .val (.int (1 : Int32)), .val (.ref b10), .val (.int (1 : Int32)), .val (.ref w_RESULT), .val .null, .unset] [(.ref r16)])) _
    refine XS.astore X16.here hx rfl (hb hby at_226) rfl rfl (l' := #[.val (.int p1), .val (.int p2), .val (.int (1 : Int32)), .val (.ref b1), .val (.ref b3), .val (.ref w_RESULT), .val (.int (0 : Int32)), .val .null, .val (.int (1 : Int32)), .val (.ref b10), .val (.int (1 : Int32)), .val (.ref w_RESULT), .val .null, .val (.ref r16)]) rfl ?_
    show Steps p.tables e below (T16.setTop (mkF m 228 #[.val (.int p1), .val (.int p2), .val (.int (1 : Int32)), .val (.ref b1), .val (.ref b3), .val (.ref w_RESULT), .val (.int (0 : Int32)), .val .null, .val (.int (1 : Int32)), .val (.ref b10), .val (.int (1 : Int32)), .val (.ref w_RESULT), .val .null, .val (.ref r16)] [])) _
    refine XS.iload X16.here hx rfl (hb hby at_228) rfl ?_
    show Steps p.tables e below (T16.setTop (mkF m 230 #[.val (.int p1), .val (.int p2), .val (.int (1 : Int32)), .val (.ref b1), .val (.ref b3), .val (.ref w_RESULT), .val (.int (0 : Int32)), .val .null, .val (.int (1 : Int32)), .val (.ref b10), .val (.int (1 : Int32)), .val (.ref w_RESULT), .val .null, .val (.ref r16)] [(.int (1 : Int32))])) _
    refine XS.ifNo X16.here hx rfl (hb hby at_230) rfl ((if0 _ _).trans (feq (by decide)).1) ?_
    show Steps p.tables e below (T16.setTop (mkF m 233 #[.val (.int p1), .val (.int p2), .val (.int (1 : Int32)), .val (.ref b1), .val (.ref b3), .val (.ref w_RESULT), .val (.int (0 : Int32)), .val .null, .val (.int (1 : Int32)), .val (.ref b10), .val (.int (1 : Int32)), .val (.ref w_RESULT), .val .null, .val (.ref r16)] [])) _
    refine XS.aload X16.here hx rfl (hb hby at_233) rfl rfl ?_
    show Steps p.tables e below (T16.setTop (mkF m 235 #[.val (.int p1), .val (.int p2), .val (.int (1 : Int32)), .val (.ref b1), .val (.ref b3), .val (.ref w_RESULT), .val (.int (0 : Int32)), .val .null, .val (.int (1 : Int32)), .val (.ref b10), .val (.int (1 : Int32)), .val (.ref w_RESULT), .val .null, .val (.ref r16)] [(.ref r16)])) _
    refine st17.trans ?_
    show Steps p.tables e below (T17.setTop (mkF m 238 #[.val (.int p1), .val (.int p2), .val (.int (1 : Int32)), .val (.ref b1), .val (.ref b3), .val (.ref w_RESULT), .val (.int (0 : Int32)), .val .null, .val (.int (1 : Int32)), .val (.ref b10), .val (.int (1 : Int32)), .val (.ref w_RESULT), .val .null, .val (.ref r16)] [(.int (1 : Int32))])) _
    refine XS.ifNo X17.here hx rfl (hb hby at_238) rfl ((if0 _ _).trans (feq (by decide)).1) ?_
    show Steps p.tables e below (T17.setTop (mkF m 241 #[.val (.int p1), .val (.int p2), .val (.int (1 : Int32)), .val (.ref b1), .val (.ref b3), .val (.ref w_RESULT), .val (.int (0 : Int32)), .val .null, .val (.int (1 : Int32)), .val (.ref b10), .val (.int (1 : Int32)), .val (.ref w_RESULT), .val .null, .val (.ref r16)] [])) _
    refine XS.iconst X17.here hx rfl (hb hby at_241) ?_
    show Steps p.tables e below (T17.setTop (mkF m 242 #[.val (.int p1), .val (.int p2), .val (.int (1 : Int32)), .val (.ref b1), .val (.ref b3), .val (.ref w_RESULT), .val (.int (0 : Int32)), .val .null, .val (.int (1 : Int32)), .val (.ref b10), .val (.int (1 : Int32)), .val (.ref w_RESULT), .val .null, .val (.ref r16)] [(.int (1 : Int32))])) _
    refine XS.goto X17.here hx rfl (pc0 := 242) (pc' := 246) rfl (hb hby at_242) (by decide) (by decide) ?_
    exact k)
  obtain ⟨fs, hr, hrun, hended, hW, hsame⟩ := X17.leave (v := some (.int (1 : Int32))) (fun h => by rw [Bd.returns] at h; cases h)
  refine ⟨_, _, pre18 _ ?_, hrun, hended, _, _, rfl, ?_, ⟨_, rfl⟩, hW, hsame.mono (by decide) (by decide)⟩
  · show Steps p.tables e below (T17.setTop (mkF m 246 #[.val (.int p1), .val (.int p2), .val (.int (1 : Int32)), .val (.ref b1), .val (.ref b3), .val (.ref w_RESULT), .val (.int (0 : Int32)), .val .null, .val (.int (1 : Int32)), .val (.ref b10), .val (.int (1 : Int32)), .val (.ref w_RESULT), .val .null, .val (.ref r16)] [(.int (1 : Int32))])) _
    exact retN X17 hx (t := .boolean) Bd.returns (by simp) (hb hby at_246) hr
  · exact ⟨rfl, N17, trivial⟩
theorem ef_law2 (m : MethodId) (x0 : Int32) (x1 : Int32) : entryFrame m #[(.int x0), (.int x1)] maxLocals = mkF m 0 #[.val (.int x0), .val (.int x1), .unset, .unset, .unset, .unset, .unset, .unset, .unset, .unset, .unset, .unset, .unset, .unset] [] := by first | (simp [entryFrame, mkF, argsToLocals, Value.category, maxLocals]; done) | rfl
set_option maxRecDepth 65536 in
set_option maxHeartbeats 40000000 in
theorem rm_law2 (l : Launch) (Z : State) (a0 : Array Value) (hw : ∀ d ∈ tables_1, d.before a0 Z = true) (ws : List Jvm.Cond) (p1 : Int32) (p2 : Int32) (h0 : Heap) (n0 : Nat) (w_ROWS w_RESULT w_PARTIAL_GROUPS w_MERGED_GROUPS w_D w_EL w_EE w_C w_EM w_M : Addr) (hK : own_K Z Z.heap w_ROWS w_RESULT w_PARTIAL_GROUPS w_MERGED_GROUPS w_D w_EL w_EE w_C w_EM w_M) (hn0 : n0 = Z.heap.size) (EX0 : Ext Z.heap h0) (z : Int32) (hk : (p1 &&& (3 : Int32)) = (2 : Int32)) (hz : (p2 &&& (2147483647 : Int32)) = z) (hp3 : ¬ z < (0 : Int32)) :
    MetFree l x (head1 (Jvm.Cond.code x code maxLocals ret :: ws) room_1) (fun a U => a = #[(.int p1), (.int p2)] ∧ Z.Warmed39 U.vm ∧ U.heap = h0) (fun _ _ _ _ _ => True) (fun _ U o U' => ∃ v L, o = .returned v ∧ own_QH (some (.int (1 : Int32))) n0 v U'.heap L ∧ FrameEnd U o U' L room_1.cells room_1.slots) := by
  refine MetFree.of_bodySF (plainFor_of_name pn_17) hisR ?_
  intro p e s m args below meth c s₁ Bd hml0 hP hK0
  obtain ⟨rfl, hZ, hh⟩ := hP
  have hx := Bd.exec
  have hby := Bd.bytes
  have hml : c.maxLocals = 14 := hml0
  have hown : s.vm.findClass "com/example/cairn/cairn/plan/OutputGoesToCoordinatorPinLaw" = some m.cls := findClass_of_methodNamed Bd.named
  have hnm := (name_of_methodNamed Bd.named Bd.method).1
  have X0 : Stand p l e room_1 s m #[(.int p1), (.int p2)] below meth c s₁ [] 0 0 := Stand.of_body Bd
  have e0 : s₁.heap = h0 := by rw [← hh, Bd.state]; rfl
  have N0 := Fr.nil n0
  have pre0 : ∀ t, Steps p.tables e below (s₁.setTop (mkF m 0 #[.val (.int p1), .val (.int p2), .unset, .unset, .unset, .unset, .unset, .unset, .unset, .unset, .unset, .unset, .unset, .unset] [])) t → Steps p.tables e below (s₁.setTop (entryFrame m #[(.int p1), (.int p2)] maxLocals)) t := fun t k => castTop (ef_law2 m p1 p2) k
  have hK' := hK
  obtain ⟨S_w_ROWS, E_w_ROWS, F_ordinal_w_ROWS, S_w_RESULT, E_w_RESULT, F_ordinal_w_RESULT, S_w_PARTIAL_GROUPS, E_w_PARTIAL_GROUPS, F_ordinal_w_PARTIAL_GROUPS, S_w_MERGED_GROUPS, E_w_MERGED_GROUPS, F_ordinal_w_MERGED_GROUPS, S_w_D, B_w_D, S_w_EL, E_w_EL, F_elements_w_EL, B_w_EE, F_allowNulls_w_EL, S_high, S_w_C, C_w_C, S_w_EM, M_w_M⟩ := hK'
  obtain ⟨cl_w_D, A_w_D, q_w_D⟩ := B_w_D
  obtain ⟨cl_w_EE, A_w_EE, q_w_EE⟩ := B_w_EE
  obtain ⟨T1, h1, X1, e1, Eq1, A1, D1, -, st1⟩ := newO X0 hx hZ hown (hw _ (ow 0 rfl)) (hw _ (ow 1 rfl)) (hw _ (ow 2 rfl)) e0 (g := (mkF m 4 #[.val (.int p1), .val (.int p2), .val (.int (2 : Int32)), .unset, .unset, .unset, .unset, .unset, .unset, .unset, .unset, .unset, .unset, .unset] [])) rfl (hb hby at_4) (by decide) (by decide)
  obtain ⟨b1, gb1⟩ : ∃ z, z = h0.size := ⟨_, rfl⟩
  rw [← gb1] at A1 D1 st1
  have sz_b1 : h0.size ≤ b1 := Nat.le_trans (Keep.refl h0 []).1 (Nat.le_of_eq gb1.symm)
  have g_b1 : n0 ≤ b1 := hn0 ▸ Nat.le_trans EX0.1 (Nat.le_of_eq gb1.symm)
  have EX1 := own_ext_trans EX0 Eq1
  have K1 := Keep.ext (Keep.refl h0 []) Eq1
  have F1_modCount : Fld Z h1 b1 "java/util/AbstractList" "modCount" "I" (.int (0 : Int32)) := D1 (Or.inl (hw _ (ow 22 rfl))) (ty := .int) (by decide)
  have F1_elementData : Fld Z h1 b1 "java/util/ArrayList" "elementData" "[Ljava/lang/Object;" .null := D1 (Or.inl (hw _ (ow 25 rfl))) (ty := (.array (.object "java/lang/Object"))) (by decide)
  have F1_size : Fld Z h1 b1 "java/util/ArrayList" "size" "I" (.int (0 : Int32)) := D1 (Or.inl (hw _ (ow 62 rfl))) (ty := .int) (by decide)
  obtain ⟨v2, _, ⟨T2, L2, k2, n2⟩, -, X2, ⟨Lc2, hQ2, l2, y2, z2⟩, st2⟩ := X1.specialBack hx (y := (⟨"java/util/ArrayList", "<init>", "()V"⟩ : MethodName)) rfl hown (mvT hZ (hw _ (ow 3 rfl))) (mvT hZ (hw _ (ow 4 rfl))) (mvT hZ (hw _ (ow 5 rfl))) (by decide) (backOf (W := 1) (rm_alinit l Z a0 hw [] b1 h1 n0 w_ROWS w_RESULT w_PARTIAL_GROUPS w_MERGED_GROUPS w_D w_EL w_EE w_C w_EM w_M hK hn0 EX1 A1 g_b1 F1_modCount F1_elementData F1_size) hZ (hw _ (ow 5 rfl)) (hw _ (ow 2 rfl)) (by decide) (by decide)) (g := (mkF m 8 #[.val (.int p1), .val (.int p2), .val (.int (2 : Int32)), .unset, .unset, .unset, .unset, .unset, .unset, .unset, .unset, .unset, .unset, .unset] [(.ref b1), (.ref b1)])) rfl (by rw [hml]; rfl) (Steps.refl _) (a := b1) (argsL := []) (rest := [(.ref b1)]) (lenOf pd_0 rfl) rfl (Nat.le_of_eq rfl) (hb hby at_8) (fun _ _ => ⟨rfl, e1, (by decide : 1 + 0 ≤ _), (by decide : 3 + 0 ≤ _)⟩)
  dsimp only [Pt.U, Pt.locs, Pt.cells, Pt.slots] at X2 l2 y2 z2 st2 hQ2
  subst y2 z2
  obtain ⟨hv2, Nq2, Kq2, q2_0, q2_1, q2_2, q2_3⟩ := hQ2
  obtain rfl : v2 = none := hv2
  have N2 : Fr n0 L2 := by rw [l2]; exact Fr.app N0 Nq2
  have x2_E_b1 := A1.keep Kq2
  have EX2 := own_ext_keepL EX1 Kq2 (allS (hn0 ▸ g_b1) all0)
  have K2 := Keep.trans K1 Kq2 (allS (Or.inr sz_b1) all0)
  obtain ⟨T3, h3, X3, e3, Eq3, A3, D3, -, st3⟩ := newO X2 hx hZ hown (hw _ (ow 26 rfl)) (hw _ (ow 27 rfl)) (hw _ (ow 28 rfl)) (rfl : T2.heap = T2.heap) (g := (mkF m 12 #[.val (.int p1), .val (.int p2), .val (.int (2 : Int32)), .val (.ref b1), .unset, .unset, .unset, .unset, .unset, .unset, .unset, .unset, .unset, .unset] [])) rfl (hb hby at_12) (by decide) (by decide)
  obtain ⟨b3, gb3⟩ : ∃ z, z = T2.heap.size := ⟨_, rfl⟩
  rw [← gb3] at A3 D3 st3
  have ne_b1_b3 : b1 ≠ b3 := Nat.ne_of_lt (Nat.lt_of_lt_of_le q2_0.lt (Nat.le_of_eq gb3.symm))
  have sz_b3 : h0.size ≤ b3 := Nat.le_trans K2.1 (Nat.le_of_eq gb3.symm)
  have g_b3 : n0 ≤ b3 := hn0 ▸ Nat.le_trans EX2.1 (Nat.le_of_eq gb3.symm)
  have x3_E_b1 := q2_0.ext Eq3
  have x3_F_b1_modCount := q2_1.ext Eq3
  have x3_F_b1_elementData := q2_2.ext Eq3
  have x3_F_b1_size := q2_3.ext Eq3
  have EX3 := own_ext_trans EX2 Eq3
  have K3 := Keep.ext K2 Eq3
  have F3_keys : Fld Z h3 b3 "com/example/cairn/cairn/plan/Grouping" "keys" "Ljava/util/List;" .null := D3 (Or.inr (hw _ (ow 68 rfl))) (ty := (.object "java/util/List")) (by decide)
  have F3_aggregates : Fld Z h3 b3 "com/example/cairn/cairn/plan/Grouping" "aggregates" "Ljava/util/List;" .null := D3 (Or.inr (hw _ (ow 70 rfl))) (ty := (.object "java/util/List")) (by decide)
  obtain ⟨T4, h4, X4, e4, Eq4, A4, D4, -, st4⟩ := newO X3 hx hZ hown (hw _ (ow 0 rfl)) (hw _ (ow 1 rfl)) (hw _ (ow 2 rfl)) e3 (g := (mkF m 16 #[.val (.int p1), .val (.int p2), .val (.int (2 : Int32)), .val (.ref b1), .unset, .unset, .unset, .unset, .unset, .unset, .unset, .unset, .unset, .unset] [(.ref b3), (.ref b3)])) rfl (hb hby at_16) (by decide) (by decide)
  obtain ⟨b4, gb4⟩ : ∃ z, z = h3.size := ⟨_, rfl⟩
  rw [← gb4] at A4 D4 st4
  have ne_b1_b4 : b1 ≠ b4 := Nat.ne_of_lt (Nat.lt_of_lt_of_le x3_E_b1.lt (Nat.le_of_eq gb4.symm))
  have ne_b3_b4 : b3 ≠ b4 := Nat.ne_of_lt (Nat.lt_of_lt_of_le A3.lt (Nat.le_of_eq gb4.symm))
  have sz_b4 : h0.size ≤ b4 := Nat.le_trans K3.1 (Nat.le_of_eq gb4.symm)
  have g_b4 : n0 ≤ b4 := hn0 ▸ Nat.le_trans EX3.1 (Nat.le_of_eq gb4.symm)
  have x4_E_b1 := x3_E_b1.ext Eq4
  have x4_F_b1_modCount := x3_F_b1_modCount.ext Eq4
  have x4_F_b1_elementData := x3_F_b1_elementData.ext Eq4
  have x4_F_b1_size := x3_F_b1_size.ext Eq4
  have x4_E_b3 := A3.ext Eq4
  have x4_F_b3_keys := F3_keys.ext Eq4
  have x4_F_b3_aggregates := F3_aggregates.ext Eq4
  have EX4 := own_ext_trans EX3 Eq4
  have K4 := Keep.ext K3 Eq4
  have F4_modCount : Fld Z h4 b4 "java/util/AbstractList" "modCount" "I" (.int (0 : Int32)) := D4 (Or.inl (hw _ (ow 22 rfl))) (ty := .int) (by decide)
  have F4_elementData : Fld Z h4 b4 "java/util/ArrayList" "elementData" "[Ljava/lang/Object;" .null := D4 (Or.inl (hw _ (ow 25 rfl))) (ty := (.array (.object "java/lang/Object"))) (by decide)
  have F4_size : Fld Z h4 b4 "java/util/ArrayList" "size" "I" (.int (0 : Int32)) := D4 (Or.inl (hw _ (ow 62 rfl))) (ty := .int) (by decide)
  obtain ⟨v5, _, ⟨T5, L5, k5, n5⟩, -, X5, ⟨Lc5, hQ5, l5, y5, z5⟩, st5⟩ := X4.specialBack hx (y := (⟨"java/util/ArrayList", "<init>", "()V"⟩ : MethodName)) rfl hown (mvT hZ (hw _ (ow 3 rfl))) (mvT hZ (hw _ (ow 4 rfl))) (mvT hZ (hw _ (ow 5 rfl))) (by decide) (backOf (W := 3) (rm_alinit l Z a0 hw [] b4 h4 n0 w_ROWS w_RESULT w_PARTIAL_GROUPS w_MERGED_GROUPS w_D w_EL w_EE w_C w_EM w_M hK hn0 EX4 A4 g_b4 F4_modCount F4_elementData F4_size) hZ (hw _ (ow 5 rfl)) (hw _ (ow 2 rfl)) (by decide) (by decide)) (g := (mkF m 20 #[.val (.int p1), .val (.int p2), .val (.int (2 : Int32)), .val (.ref b1), .unset, .unset, .unset, .unset, .unset, .unset, .unset, .unset, .unset, .unset] [(.ref b4), (.ref b4), (.ref b3), (.ref b3)])) rfl (by rw [hml]; rfl) (Steps.refl _) (a := b4) (argsL := []) (rest := [(.ref b4), (.ref b3), (.ref b3)]) (lenOf pd_0 rfl) rfl (Nat.le_of_eq rfl) (hb hby at_20) (fun _ _ => ⟨rfl, e4, (by decide : 3 + 0 ≤ _), (by decide : 8 + 0 ≤ _)⟩)
  dsimp only [Pt.U, Pt.locs, Pt.cells, Pt.slots] at X5 l5 y5 z5 st5 hQ5
  subst y5 z5
  obtain ⟨hv5, Nq5, Kq5, q5_0, q5_1, q5_2, q5_3⟩ := hQ5
  obtain rfl : v5 = none := hv5
  have N5 : Fr n0 L5 := by rw [l5]; exact Fr.app N2 Nq5
  have x5_E_b1 := x4_E_b1.keep Kq5
  have x5_F_b1_modCount := x4_F_b1_modCount.keep Kq5 (ninS ne_b1_b4 nin0)
  have x5_F_b1_elementData := x4_F_b1_elementData.keep Kq5 (ninS ne_b1_b4 nin0)
  have x5_F_b1_size := x4_F_b1_size.keep Kq5 (ninS ne_b1_b4 nin0)
  have x5_E_b3 := x4_E_b3.keep Kq5
  have x5_F_b3_keys := x4_F_b3_keys.keep Kq5 (ninS ne_b3_b4 nin0)
  have x5_F_b3_aggregates := x4_F_b3_aggregates.keep Kq5 (ninS ne_b3_b4 nin0)
  have x5_E_b4 := A4.keep Kq5
  have EX5 := own_ext_keepL EX4 Kq5 (allS (hn0 ▸ g_b4) all0)
  have K5 := Keep.trans K4 Kq5 (allS (Or.inr sz_b4) all0)
  obtain ⟨T6, h6, X6, e6, Eq6, A6, D6, -, st6⟩ := newO X5 hx hZ hown (hw _ (ow 0 rfl)) (hw _ (ow 1 rfl)) (hw _ (ow 2 rfl)) (rfl : T5.heap = T5.heap) (g := (mkF m 23 #[.val (.int p1), .val (.int p2), .val (.int (2 : Int32)), .val (.ref b1), .unset, .unset, .unset, .unset, .unset, .unset, .unset, .unset, .unset, .unset] [(.ref b4), (.ref b3), (.ref b3)])) rfl (hb hby at_23) (by decide) (by decide)
  obtain ⟨b6, gb6⟩ : ∃ z, z = T5.heap.size := ⟨_, rfl⟩
  rw [← gb6] at A6 D6 st6
  have ne_b1_b6 : b1 ≠ b6 := Nat.ne_of_lt (Nat.lt_of_lt_of_le x5_E_b1.lt (Nat.le_of_eq gb6.symm))
  have ne_b3_b6 : b3 ≠ b6 := Nat.ne_of_lt (Nat.lt_of_lt_of_le x5_E_b3.lt (Nat.le_of_eq gb6.symm))
  have ne_b4_b6 : b4 ≠ b6 := Nat.ne_of_lt (Nat.lt_of_lt_of_le q5_0.lt (Nat.le_of_eq gb6.symm))
  have sz_b6 : h0.size ≤ b6 := Nat.le_trans K5.1 (Nat.le_of_eq gb6.symm)
  have g_b6 : n0 ≤ b6 := hn0 ▸ Nat.le_trans EX5.1 (Nat.le_of_eq gb6.symm)
  have x6_E_b1 := x5_E_b1.ext Eq6
  have x6_F_b1_modCount := x5_F_b1_modCount.ext Eq6
  have x6_F_b1_elementData := x5_F_b1_elementData.ext Eq6
  have x6_F_b1_size := x5_F_b1_size.ext Eq6
  have x6_E_b3 := x5_E_b3.ext Eq6
  have x6_F_b3_keys := x5_F_b3_keys.ext Eq6
  have x6_F_b3_aggregates := x5_F_b3_aggregates.ext Eq6
  have x6_E_b4 := q5_0.ext Eq6
  have x6_F_b4_modCount := q5_1.ext Eq6
  have x6_F_b4_elementData := q5_2.ext Eq6
  have x6_F_b4_size := q5_3.ext Eq6
  have EX6 := own_ext_trans EX5 Eq6
  have K6 := Keep.ext K5 Eq6
  have F6_modCount : Fld Z h6 b6 "java/util/AbstractList" "modCount" "I" (.int (0 : Int32)) := D6 (Or.inl (hw _ (ow 22 rfl))) (ty := .int) (by decide)
  have F6_elementData : Fld Z h6 b6 "java/util/ArrayList" "elementData" "[Ljava/lang/Object;" .null := D6 (Or.inl (hw _ (ow 25 rfl))) (ty := (.array (.object "java/lang/Object"))) (by decide)
  have F6_size : Fld Z h6 b6 "java/util/ArrayList" "size" "I" (.int (0 : Int32)) := D6 (Or.inl (hw _ (ow 62 rfl))) (ty := .int) (by decide)
  obtain ⟨v7, _, ⟨T7, L7, k7, n7⟩, -, X7, ⟨Lc7, hQ7, l7, y7, z7⟩, st7⟩ := X6.specialBack hx (y := (⟨"java/util/ArrayList", "<init>", "()V"⟩ : MethodName)) rfl hown (mvT hZ (hw _ (ow 3 rfl))) (mvT hZ (hw _ (ow 4 rfl))) (mvT hZ (hw _ (ow 5 rfl))) (by decide) (backOf (W := 4) (rm_alinit l Z a0 hw [] b6 h6 n0 w_ROWS w_RESULT w_PARTIAL_GROUPS w_MERGED_GROUPS w_D w_EL w_EE w_C w_EM w_M hK hn0 EX6 A6 g_b6 F6_modCount F6_elementData F6_size) hZ (hw _ (ow 5 rfl)) (hw _ (ow 2 rfl)) (by decide) (by decide)) (g := (mkF m 27 #[.val (.int p1), .val (.int p2), .val (.int (2 : Int32)), .val (.ref b1), .unset, .unset, .unset, .unset, .unset, .unset, .unset, .unset, .unset, .unset] [(.ref b6), (.ref b6), (.ref b4), (.ref b3), (.ref b3)])) rfl (by rw [hml]; rfl) (Steps.refl _) (a := b6) (argsL := []) (rest := [(.ref b6), (.ref b4), (.ref b3), (.ref b3)]) (lenOf pd_0 rfl) rfl (Nat.le_of_eq rfl) (hb hby at_27) (fun _ _ => ⟨rfl, e6, (by decide : 4 + 0 ≤ _), (by decide : 11 + 0 ≤ _)⟩)
  dsimp only [Pt.U, Pt.locs, Pt.cells, Pt.slots] at X7 l7 y7 z7 st7 hQ7
  subst y7 z7
  obtain ⟨hv7, Nq7, Kq7, q7_0, q7_1, q7_2, q7_3⟩ := hQ7
  obtain rfl : v7 = none := hv7
  have N7 : Fr n0 L7 := by rw [l7]; exact Fr.app N5 Nq7
  have x7_E_b1 := x6_E_b1.keep Kq7
  have x7_F_b1_modCount := x6_F_b1_modCount.keep Kq7 (ninS ne_b1_b6 nin0)
  have x7_F_b1_elementData := x6_F_b1_elementData.keep Kq7 (ninS ne_b1_b6 nin0)
  have x7_F_b1_size := x6_F_b1_size.keep Kq7 (ninS ne_b1_b6 nin0)
  have x7_E_b3 := x6_E_b3.keep Kq7
  have x7_F_b3_keys := x6_F_b3_keys.keep Kq7 (ninS ne_b3_b6 nin0)
  have x7_F_b3_aggregates := x6_F_b3_aggregates.keep Kq7 (ninS ne_b3_b6 nin0)
  have x7_E_b4 := x6_E_b4.keep Kq7
  have x7_F_b4_modCount := x6_F_b4_modCount.keep Kq7 (ninS ne_b4_b6 nin0)
  have x7_F_b4_elementData := x6_F_b4_elementData.keep Kq7 (ninS ne_b4_b6 nin0)
  have x7_F_b4_size := x6_F_b4_size.keep Kq7 (ninS ne_b4_b6 nin0)
  have x7_E_b6 := A6.keep Kq7
  have EX7 := own_ext_keepL EX6 Kq7 (allS (hn0 ▸ g_b6) all0)
  have K7 := Keep.trans K6 Kq7 (allS (Or.inr sz_b6) all0)
  obtain ⟨v8, _, ⟨T8, L8, k8, n8⟩, -, X8, ⟨Lc8, hQ8, l8, y8, z8⟩, st8⟩ := X7.specialBack hx (y := (⟨"com/example/cairn/cairn/plan/Grouping", "<init>", "(Ljava/util/List;Ljava/util/List;)V"⟩ : MethodName)) rfl hown (mvT hZ (hw _ (ow 29 rfl))) (mvT hZ (hw _ (ow 30 rfl))) (mvT hZ (hw _ (ow 31 rfl))) (by decide) (backOf (W := 1) (rm_grinit l Z a0 hw [] b3 b4 b6 T7.heap n0 w_ROWS w_RESULT w_PARTIAL_GROUPS w_MERGED_GROUPS w_D w_EL w_EE w_C w_EM w_M hK hn0 EX7 x7_E_b3 g_b3 x7_F_b3_keys x7_F_b3_aggregates x7_E_b4 g_b4 x7_F_b4_size q7_0 g_b6 q7_3) hZ (hw _ (ow 31 rfl)) (hw _ (ow 28 rfl)) (by decide) (by decide)) (g := (mkF m 30 #[.val (.int p1), .val (.int p2), .val (.int (2 : Int32)), .val (.ref b1), .unset, .unset, .unset, .unset, .unset, .unset, .unset, .unset, .unset, .unset] [(.ref b6), (.ref b4), (.ref b3), (.ref b3)])) rfl (by rw [hml]; rfl) (Steps.refl _) (a := b3) (argsL := [(.ref b4), (.ref b6)]) (rest := [(.ref b3)]) (lenOf pd_16 rfl) rfl (Nat.le_of_eq rfl) (hb hby at_30) (fun _ _ => ⟨rfl, (rfl : T7.heap = T7.heap), (by decide : 4 + 0 ≤ _), (by decide : 11 + 0 ≤ _)⟩)
  dsimp only [Pt.U, Pt.locs, Pt.cells, Pt.slots] at X8 l8 y8 z8 st8 hQ8
  subst y8 z8
  obtain ⟨hv8, Nq8, Kq8, q8_0⟩ := hQ8
  obtain rfl : v8 = none := hv8
  have N8 : Fr n0 L8 := by rw [l8]; exact Fr.app N7 Nq8
  have x8_E_b1 := x7_E_b1.keep Kq8
  have x8_F_b1_modCount := x7_F_b1_modCount.keep Kq8 (ninS ne_b1_b3 nin0)
  have x8_F_b1_elementData := x7_F_b1_elementData.keep Kq8 (ninS ne_b1_b3 nin0)
  have x8_F_b1_size := x7_F_b1_size.keep Kq8 (ninS ne_b1_b3 nin0)
  have x8_E_b3 := x7_E_b3.keep Kq8
  have x8_E_b4 := x7_E_b4.keep Kq8
  have x8_F_b4_modCount := x7_F_b4_modCount.keep Kq8 (ninS (Ne.symm ne_b3_b4) nin0)
  have x8_F_b4_elementData := x7_F_b4_elementData.keep Kq8 (ninS (Ne.symm ne_b3_b4) nin0)
  have x8_F_b4_size := x7_F_b4_size.keep Kq8 (ninS (Ne.symm ne_b3_b4) nin0)
  have x8_E_b6 := q7_0.keep Kq8
  have x8_F_b6_modCount := q7_1.keep Kq8 (ninS (Ne.symm ne_b3_b6) nin0)
  have x8_F_b6_elementData := q7_2.keep Kq8 (ninS (Ne.symm ne_b3_b6) nin0)
  have x8_F_b6_size := q7_3.keep Kq8 (ninS (Ne.symm ne_b3_b6) nin0)
  have EX8 := own_ext_keepL EX7 Kq8 (allS (hn0 ▸ g_b3) all0)
  have K8 := Keep.trans K7 Kq8 (allS (Or.inr sz_b3) all0)
  obtain ⟨T9, X9, e9, st9⟩ := getS2 X8 hx hZ hown (host := "") (Or.inl (hw _ (ow 238 rfl))) Via.refl (rfl : T8.heap = T8.heap) (S_w_PARTIAL_GROUPS.ext EX8) (g := (mkF m 92 #[.val (.int p1), .val (.int p2), .val (.int (2 : Int32)), .val (.ref b1), .val (.ref b3), .unset, .unset, .unset, .unset, .unset, .unset, .unset, .unset, .unset] [])) rfl (hb hby at_92)
  have pre11 : ∀ t, Steps p.tables e below (T9.setTop (mkF m 109 #[.val (.int p1), .val (.int p2), .val (.int (2 : Int32)), .val (.ref b1), .val (.ref b3), .val (.ref w_PARTIAL_GROUPS), .val (.int z), .val (.ref b3), .unset, .unset, .unset, .unset, .unset, .unset] [(.int z)])) t → Steps p.tables e below (s₁.setTop (entryFrame m #[(.int p1), (.int p2)] maxLocals)) t := fun t k => pre0 t (by
    show Steps p.tables e below (s₁.setTop (mkF m 0 #[.val (.int p1), .val (.int p2), .unset, .unset, .unset, .unset, .unset, .unset, .unset, .unset, .unset, .unset, .unset, .unset] [])) _
    refine XS.iloadN X0.here hx rfl (hb hby at_0) rfl ?_
    show Steps p.tables e below (s₁.setTop (mkF m 1 #[.val (.int p1), .val (.int p2), .unset, .unset, .unset, .unset, .unset, .unset, .unset, .unset, .unset, .unset, .unset, .unset] [(.int p1)])) _
    refine XS.iconst X0.here hx rfl (hb hby at_1) ?_
    show Steps p.tables e below (s₁.setTop (mkF m 2 #[.val (.int p1), .val (.int p2), .unset, .unset, .unset, .unset, .unset, .unset, .unset, .unset, .unset, .unset, .unset, .unset] [(.int (3 : Int32)), (.int p1)])) _
    refine XS.iand X0.here hx rfl (hb hby at_2) rfl ?_
    show Steps p.tables e below (s₁.setTop (mkF m 3 #[.val (.int p1), .val (.int p2), .unset, .unset, .unset, .unset, .unset, .unset, .unset, .unset, .unset, .unset, .unset, .unset] [(.int (p1 &&& (3 : Int32)))])) _
    rw [hk]
    show Steps p.tables e below (s₁.setTop (mkF m 3 #[.val (.int p1), .val (.int p2), .unset, .unset, .unset, .unset, .unset, .unset, .unset, .unset, .unset, .unset, .unset, .unset] [(.int (2 : Int32))])) _
    refine XS.istoreN X0.here hx rfl (hb hby at_3) rfl (l' := #[.val (.int p1), .val (.int p2), .val (.int (2 : Int32)), .unset, .unset, .unset, .unset, .unset, .unset, .unset, .unset, .unset, .unset, .unset]) rfl ?_
    show Steps p.tables e below (s₁.setTop (mkF m 4 #[.val (.int p1), .val (.int p2), .val (.int (2 : Int32)), .unset, .unset, .unset, .unset, .unset, .unset, .unset, .unset, .unset, .unset, .unset] [])) _
    refine st1 _ ?_
    show Steps p.tables e below (T1.setTop (mkF m 7 #[.val (.int p1), .val (.int p2), .val (.int (2 : Int32)), .unset, .unset, .unset, .unset, .unset, .unset, .unset, .unset, .unset, .unset, .unset] [(.ref b1)])) _
    refine XS.dup X1.here hx rfl (hb hby at_7) rfl rfl ?_
    show Steps p.tables e below (T1.setTop (mkF m 8 #[.val (.int p1), .val (.int p2), .val (.int (2 : Int32)), .unset, .unset, .unset, .unset, .unset, .unset, .unset, .unset, .unset, .unset, .unset] [(.ref b1), (.ref b1)])) _
    refine st2.trans ?_
    show Steps p.tables e below (T2.setTop (mkF m 11 #[.val (.int p1), .val (.int p2), .val (.int (2 : Int32)), .unset, .unset, .unset, .unset, .unset, .unset, .unset, .unset, .unset, .unset, .unset] [(.ref b1)])) _
    refine XS.astoreN X2.here hx rfl (hb hby at_11) rfl rfl (l' := #[.val (.int p1), .val (.int p2), .val (.int (2 : Int32)), .val (.ref b1), .unset, .unset, .unset, .unset, .unset, .unset, .unset, .unset, .unset, .unset]) rfl ?_
    show Steps p.tables e below (T2.setTop (mkF m 12 #[.val (.int p1), .val (.int p2), .val (.int (2 : Int32)), .val (.ref b1), .unset, .unset, .unset, .unset, .unset, .unset, .unset, .unset, .unset, .unset] [])) _
    refine st3 _ ?_
    show Steps p.tables e below (T3.setTop (mkF m 15 #[.val (.int p1), .val (.int p2), .val (.int (2 : Int32)), .val (.ref b1), .unset, .unset, .unset, .unset, .unset, .unset, .unset, .unset, .unset, .unset] [(.ref b3)])) _
    refine XS.dup X3.here hx rfl (hb hby at_15) rfl rfl ?_
    show Steps p.tables e below (T3.setTop (mkF m 16 #[.val (.int p1), .val (.int p2), .val (.int (2 : Int32)), .val (.ref b1), .unset, .unset, .unset, .unset, .unset, .unset, .unset, .unset, .unset, .unset] [(.ref b3), (.ref b3)])) _
    refine st4 _ ?_
    show Steps p.tables e below (T4.setTop (mkF m 19 #[.val (.int p1), .val (.int p2), .val (.int (2 : Int32)), .val (.ref b1), .unset, .unset, .unset, .unset, .unset, .unset, .unset, .unset, .unset, .unset] [(.ref b4), (.ref b3), (.ref b3)])) _
    refine XS.dup X4.here hx rfl (hb hby at_19) rfl rfl ?_
    show Steps p.tables e below (T4.setTop (mkF m 20 #[.val (.int p1), .val (.int p2), .val (.int (2 : Int32)), .val (.ref b1), .unset, .unset, .unset, .unset, .unset, .unset, .unset, .unset, .unset, .unset] [(.ref b4), (.ref b4), (.ref b3), (.ref b3)])) _
    refine st5.trans ?_
    show Steps p.tables e below (T5.setTop (mkF m 23 #[.val (.int p1), .val (.int p2), .val (.int (2 : Int32)), .val (.ref b1), .unset, .unset, .unset, .unset, .unset, .unset, .unset, .unset, .unset, .unset] [(.ref b4), (.ref b3), (.ref b3)])) _
    refine st6 _ ?_
    show Steps p.tables e below (T6.setTop (mkF m 26 #[.val (.int p1), .val (.int p2), .val (.int (2 : Int32)), .val (.ref b1), .unset, .unset, .unset, .unset, .unset, .unset, .unset, .unset, .unset, .unset] [(.ref b6), (.ref b4), (.ref b3), (.ref b3)])) _
    refine XS.dup X6.here hx rfl (hb hby at_26) rfl rfl ?_
    show Steps p.tables e below (T6.setTop (mkF m 27 #[.val (.int p1), .val (.int p2), .val (.int (2 : Int32)), .val (.ref b1), .unset, .unset, .unset, .unset, .unset, .unset, .unset, .unset, .unset, .unset] [(.ref b6), (.ref b6), (.ref b4), (.ref b3), (.ref b3)])) _
    refine st7.trans ?_
    show Steps p.tables e below (T7.setTop (mkF m 30 #[.val (.int p1), .val (.int p2), .val (.int (2 : Int32)), .val (.ref b1), .unset, .unset, .unset, .unset, .unset, .unset, .unset, .unset, .unset, .unset] [(.ref b6), (.ref b4), (.ref b3), (.ref b3)])) _
    refine st8.trans ?_
    show Steps p.tables e below (T8.setTop (mkF m 33 #[.val (.int p1), .val (.int p2), .val (.int (2 : Int32)), .val (.ref b1), .unset, .unset, .unset, .unset, .unset, .unset, .unset, .unset, .unset, .unset] [(.ref b3)])) _
    refine XS.astore X8.here hx rfl (hb hby at_33) rfl rfl (l' := #[.val (.int p1), .val (.int p2), .val (.int (2 : Int32)), .val (.ref b1), .val (.ref b3), .unset, .unset, .unset, .unset, .unset, .unset, .unset, .unset, .unset]) rfl ?_
    show Steps p.tables e below (T8.setTop (mkF m 35 #[.val (.int p1), .val (.int p2), .val (.int (2 : Int32)), .val (.ref b1), .val (.ref b3), .unset, .unset, .unset, .unset, .unset, .unset, .unset, .unset, .unset] [])) _
    refine XS.iloadN X8.here hx rfl (hb hby at_35) rfl ?_
    show Steps p.tables e below (T8.setTop (mkF m 36 #[.val (.int p1), .val (.int p2), .val (.int (2 : Int32)), .val (.ref b1), .val (.ref b3), .unset, .unset, .unset, .unset, .unset, .unset, .unset, .unset, .unset] [(.int (2 : Int32))])) _
    refine XS.ifYes X8.here hx rfl (pc0 := 36) (pc' := 65) rfl (hb hby at_36) rfl ((if0 _ _).trans (feq (by decide)).2) (by decide) (by decide) ?_
    show Steps p.tables e below (T8.setTop (mkF m 65 #[.val (.int p1), .val (.int p2), .val (.int (2 : Int32)), .val (.ref b1), .val (.ref b3), .unset, .unset, .unset, .unset, .unset, .unset, .unset, .unset, .unset] [])) _
    refine XS.iloadN X8.here hx rfl (hb hby at_65) rfl ?_
    show Steps p.tables e below (T8.setTop (mkF m 66 #[.val (.int p1), .val (.int p2), .val (.int (2 : Int32)), .val (.ref b1), .val (.ref b3), .unset, .unset, .unset, .unset, .unset, .unset, .unset, .unset, .unset] [(.int (2 : Int32))])) _
    refine XS.iconst X8.here hx rfl (hb hby at_66) ?_
    show Steps p.tables e below (T8.setTop (mkF m 67 #[.val (.int p1), .val (.int p2), .val (.int (2 : Int32)), .val (.ref b1), .val (.ref b3), .unset, .unset, .unset, .unset, .unset, .unset, .unset, .unset, .unset] [(.int (1 : Int32)), (.int (2 : Int32))])) _
    refine XS.icmpYes X8.here hx rfl (pc0 := 67) (pc' := 87) rfl (hb hby at_67) rfl (feq (by decide)).2 (by decide) (by decide) ?_
    show Steps p.tables e below (T8.setTop (mkF m 87 #[.val (.int p1), .val (.int p2), .val (.int (2 : Int32)), .val (.ref b1), .val (.ref b3), .unset, .unset, .unset, .unset, .unset, .unset, .unset, .unset, .unset] [])) _
    refine XS.iloadN X8.here hx rfl (hb hby at_87) rfl ?_
    show Steps p.tables e below (T8.setTop (mkF m 88 #[.val (.int p1), .val (.int p2), .val (.int (2 : Int32)), .val (.ref b1), .val (.ref b3), .unset, .unset, .unset, .unset, .unset, .unset, .unset, .unset, .unset] [(.int (2 : Int32))])) _
    refine XS.iconst X8.here hx rfl (hb hby at_88) ?_
    show Steps p.tables e below (T8.setTop (mkF m 89 #[.val (.int p1), .val (.int p2), .val (.int (2 : Int32)), .val (.ref b1), .val (.ref b3), .unset, .unset, .unset, .unset, .unset, .unset, .unset, .unset, .unset] [(.int (2 : Int32)), (.int (2 : Int32))])) _
    refine XS.icmpNo X8.here hx rfl (hb hby at_89) rfl (teq (by decide)).2 ?_
    show Steps p.tables e below (T8.setTop (mkF m 92 #[.val (.int p1), .val (.int p2), .val (.int (2 : Int32)), .val (.ref b1), .val (.ref b3), .unset, .unset, .unset, .unset, .unset, .unset, .unset, .unset, .unset] [])) _
    refine st9 _ ?_
    show Steps p.tables e below (T9.setTop (mkF m 95 #[.val (.int p1), .val (.int p2), .val (.int (2 : Int32)), .val (.ref b1), .val (.ref b3), .unset, .unset, .unset, .unset, .unset, .unset, .unset, .unset, .unset] [(.ref w_PARTIAL_GROUPS)])) _
    refine XS.astore X9.here hx rfl (hb hby at_95) rfl rfl (l' := #[.val (.int p1), .val (.int p2), .val (.int (2 : Int32)), .val (.ref b1), .val (.ref b3), .val (.ref w_PARTIAL_GROUPS), .unset, .unset, .unset, .unset, .unset, .unset, .unset, .unset]) rfl ?_
    show Steps p.tables e below (T9.setTop (mkF m 97 #[.val (.int p1), .val (.int p2), .val (.int (2 : Int32)), .val (.ref b1), .val (.ref b3), .val (.ref w_PARTIAL_GROUPS), .unset, .unset, .unset, .unset, .unset, .unset, .unset, .unset] [])) _
    refine XS.iloadN X9.here hx rfl (hb hby at_97) rfl ?_
    show Steps p.tables e below (T9.setTop (mkF m 98 #[.val (.int p1), .val (.int p2), .val (.int (2 : Int32)), .val (.ref b1), .val (.ref b3), .val (.ref w_PARTIAL_GROUPS), .unset, .unset, .unset, .unset, .unset, .unset, .unset, .unset] [(.int p2)])) _
    refine X9.ldcInt hx hown (mvT hZ (hw _ (ow 240 rfl))) (g := (mkF m 98 #[.val (.int p1), .val (.int p2), .val (.int (2 : Int32)), .val (.ref b1), .val (.ref b3), .val (.ref w_PARTIAL_GROUPS), .unset, .unset, .unset, .unset, .unset, .unset, .unset, .unset] [(.int p2)])) rfl (hb hby at_98) _ ?_
    show Steps p.tables e below (T9.setTop (mkF m 100 #[.val (.int p1), .val (.int p2), .val (.int (2 : Int32)), .val (.ref b1), .val (.ref b3), .val (.ref w_PARTIAL_GROUPS), .unset, .unset, .unset, .unset, .unset, .unset, .unset, .unset] [(.int (2147483647 : Int32)), (.int p2)])) _
    refine XS.iand X9.here hx rfl (hb hby at_100) rfl ?_
    show Steps p.tables e below (T9.setTop (mkF m 101 #[.val (.int p1), .val (.int p2), .val (.int (2 : Int32)), .val (.ref b1), .val (.ref b3), .val (.ref w_PARTIAL_GROUPS), .unset, .unset, .unset, .unset, .unset, .unset, .unset, .unset] [(.int (p2 &&& (2147483647 : Int32)))])) _
    rw [hz]
    show Steps p.tables e below (T9.setTop (mkF m 101 #[.val (.int p1), .val (.int p2), .val (.int (2 : Int32)), .val (.ref b1), .val (.ref b3), .val (.ref w_PARTIAL_GROUPS), .unset, .unset, .unset, .unset, .unset, .unset, .unset, .unset] [(.int z)])) _
    refine XS.istore X9.here hx rfl (hb hby at_101) rfl (l' := #[.val (.int p1), .val (.int p2), .val (.int (2 : Int32)), .val (.ref b1), .val (.ref b3), .val (.ref w_PARTIAL_GROUPS), .val (.int z), .unset, .unset, .unset, .unset, .unset, .unset, .unset]) rfl ?_
    show Steps p.tables e below (T9.setTop (mkF m 103 #[.val (.int p1), .val (.int p2), .val (.int (2 : Int32)), .val (.ref b1), .val (.ref b3), .val (.ref w_PARTIAL_GROUPS), .val (.int z), .unset, .unset, .unset, .unset, .unset, .unset, .unset] [])) _
    refine XS.aload X9.here hx rfl (hb hby at_103) rfl rfl ?_
    show Steps p.tables e below (T9.setTop (mkF m 105 #[.val (.int p1), .val (.int p2), .val (.int (2 : Int32)), .val (.ref b1), .val (.ref b3), .val (.ref w_PARTIAL_GROUPS), .val (.int z), .unset, .unset, .unset, .unset, .unset, .unset, .unset] [(.ref b3)])) _
    refine XS.astore X9.here hx rfl (hb hby at_105) rfl rfl (l' := #[.val (.int p1), .val (.int p2), .val (.int (2 : Int32)), .val (.ref b1), .val (.ref b3), .val (.ref w_PARTIAL_GROUPS), .val (.int z), .val (.ref b3), .unset, .unset, .unset, .unset, .unset, .unset]) rfl ?_
    show Steps p.tables e below (T9.setTop (mkF m 107 #[.val (.int p1), .val (.int p2), .val (.int (2 : Int32)), .val (.ref b1), .val (.ref b3), .val (.ref w_PARTIAL_GROUPS), .val (.int z), .val (.ref b3), .unset, .unset, .unset, .unset, .unset, .unset] [])) _
    refine XS.iload X9.here hx rfl (hb hby at_107) rfl ?_
    exact k)
  by_cases hc109_10 : z = (0 : Int32)
  · obtain ⟨T12, h12, X12, e12, Eq12, A12, D12, -, st12⟩ := newO X9 hx hZ hown (hw _ (ow 110 rfl)) (hw _ (ow 111 rfl)) (hw _ (ow 112 rfl)) e9 (g := (mkF m 137 #[.val (.int p1), .val (.int p2), .val (.int (2 : Int32)), .val (.ref b1), .val (.ref b3), .val (.ref w_PARTIAL_GROUPS), .val (.int z), .val (.ref b3), .val (.int (1 : Int32)), .unset, .unset, .unset, .unset, .unset] [])) rfl (hb hby at_137) (by decide) (by decide)
    obtain ⟨b12, gb12⟩ : ∃ z, z = T8.heap.size := ⟨_, rfl⟩
    rw [← gb12] at A12 D12 st12
    have ne_b1_b12 : b1 ≠ b12 := Nat.ne_of_lt (Nat.lt_of_lt_of_le x8_E_b1.lt (Nat.le_of_eq gb12.symm))
    have sz_b12 : h0.size ≤ b12 := Nat.le_trans K8.1 (Nat.le_of_eq gb12.symm)
    have g_b12 : n0 ≤ b12 := hn0 ▸ Nat.le_trans EX8.1 (Nat.le_of_eq gb12.symm)
    have x12_E_b1 := x8_E_b1.ext Eq12
    have x12_F_b1_modCount := x8_F_b1_modCount.ext Eq12
    have x12_F_b1_elementData := x8_F_b1_elementData.ext Eq12
    have x12_F_b1_size := x8_F_b1_size.ext Eq12
    have EX12 := own_ext_trans EX8 Eq12
    have K12 := Keep.ext K8 Eq12
    have F12_shape : Fld Z h12 b12 "com/example/cairn/cairn/plan/Stage$Output" "shape" "Lcom/example/cairn/cairn/plan/Stage$Shape;" .null := D12 (Or.inr (hw _ (ow 209 rfl))) (ty := (.object "com/example/cairn/cairn/plan/Stage$Shape")) (by decide)
    have F12_slots : Fld Z h12 b12 "com/example/cairn/cairn/plan/Stage$Output" "slots" "Ljava/util/List;" .null := D12 (Or.inr (hw _ (ow 211 rfl))) (ty := (.object "java/util/List")) (by decide)
    have F12_buckets : Fld Z h12 b12 "com/example/cairn/cairn/plan/Stage$Output" "buckets" "I" (.int (0 : Int32)) := D12 (Or.inr (hw _ (ow 213 rfl))) (ty := .int) (by decide)
    have F12_keys : Fld Z h12 b12 "com/example/cairn/cairn/plan/Stage$Output" "keys" "Ljava/util/List;" .null := D12 (Or.inr (hw _ (ow 215 rfl))) (ty := (.object "java/util/List")) (by decide)
    have F12_grouping : Fld Z h12 b12 "com/example/cairn/cairn/plan/Stage$Output" "grouping" "Lcom/example/cairn/cairn/plan/Grouping;" .null := D12 (Or.inr (hw _ (ow 217 rfl))) (ty := (.object "com/example/cairn/cairn/plan/Grouping")) (by decide)
    obtain ⟨T13, h13, X13, e13, Eq13, A13, D13, -, st13⟩ := newO X12 hx hZ hown (hw _ (ow 0 rfl)) (hw _ (ow 1 rfl)) (hw _ (ow 2 rfl)) e12 (g := (mkF m 146 #[.val (.int p1), .val (.int p2), .val (.int (2 : Int32)), .val (.ref b1), .val (.ref b3), .val (.ref w_PARTIAL_GROUPS), .val (.int z), .val (.ref b3), .val (.int (1 : Int32)), .unset, .unset, .unset, .unset, .unset] [(.int z), (.ref b1), (.ref w_PARTIAL_GROUPS), (.ref b12), (.ref b12)])) rfl (hb hby at_146) (by decide) (by decide)
    obtain ⟨b13, gb13⟩ : ∃ z, z = h12.size := ⟨_, rfl⟩
    rw [← gb13] at A13 D13 st13
    have ne_b1_b13 : b1 ≠ b13 := Nat.ne_of_lt (Nat.lt_of_lt_of_le x12_E_b1.lt (Nat.le_of_eq gb13.symm))
    have ne_b12_b13 : b12 ≠ b13 := Nat.ne_of_lt (Nat.lt_of_lt_of_le A12.lt (Nat.le_of_eq gb13.symm))
    have sz_b13 : h0.size ≤ b13 := Nat.le_trans K12.1 (Nat.le_of_eq gb13.symm)
    have g_b13 : n0 ≤ b13 := hn0 ▸ Nat.le_trans EX12.1 (Nat.le_of_eq gb13.symm)
    have x13_E_b1 := x12_E_b1.ext Eq13
    have x13_F_b1_modCount := x12_F_b1_modCount.ext Eq13
    have x13_F_b1_elementData := x12_F_b1_elementData.ext Eq13
    have x13_F_b1_size := x12_F_b1_size.ext Eq13
    have x13_E_b12 := A12.ext Eq13
    have x13_F_b12_shape := F12_shape.ext Eq13
    have x13_F_b12_slots := F12_slots.ext Eq13
    have x13_F_b12_buckets := F12_buckets.ext Eq13
    have x13_F_b12_keys := F12_keys.ext Eq13
    have x13_F_b12_grouping := F12_grouping.ext Eq13
    have EX13 := own_ext_trans EX12 Eq13
    have K13 := Keep.ext K12 Eq13
    have F13_modCount : Fld Z h13 b13 "java/util/AbstractList" "modCount" "I" (.int (0 : Int32)) := D13 (Or.inl (hw _ (ow 22 rfl))) (ty := .int) (by decide)
    have F13_elementData : Fld Z h13 b13 "java/util/ArrayList" "elementData" "[Ljava/lang/Object;" .null := D13 (Or.inl (hw _ (ow 25 rfl))) (ty := (.array (.object "java/lang/Object"))) (by decide)
    have F13_size : Fld Z h13 b13 "java/util/ArrayList" "size" "I" (.int (0 : Int32)) := D13 (Or.inl (hw _ (ow 62 rfl))) (ty := .int) (by decide)
    obtain ⟨v14, _, ⟨T14, L14, k14, n14⟩, -, X14, ⟨Lc14, hQ14, l14, y14, z14⟩, st14⟩ := X13.specialBack hx (y := (⟨"java/util/ArrayList", "<init>", "()V"⟩ : MethodName)) rfl hown (mvT hZ (hw _ (ow 3 rfl))) (mvT hZ (hw _ (ow 4 rfl))) (mvT hZ (hw _ (ow 5 rfl))) (by decide) (backOf (W := 6) (rm_alinit l Z a0 hw [] b13 h13 n0 w_ROWS w_RESULT w_PARTIAL_GROUPS w_MERGED_GROUPS w_D w_EL w_EE w_C w_EM w_M hK hn0 EX13 A13 g_b13 F13_modCount F13_elementData F13_size) hZ (hw _ (ow 5 rfl)) (hw _ (ow 2 rfl)) (by decide) (by decide)) (g := (mkF m 150 #[.val (.int p1), .val (.int p2), .val (.int (2 : Int32)), .val (.ref b1), .val (.ref b3), .val (.ref w_PARTIAL_GROUPS), .val (.int z), .val (.ref b3), .val (.int (1 : Int32)), .unset, .unset, .unset, .unset, .unset] [(.ref b13), (.ref b13), (.int z), (.ref b1), (.ref w_PARTIAL_GROUPS), (.ref b12), (.ref b12)])) rfl (by rw [hml]; rfl) (Steps.refl _) (a := b13) (argsL := []) (rest := [(.ref b13), (.int z), (.ref b1), (.ref w_PARTIAL_GROUPS), (.ref b12), (.ref b12)]) (lenOf pd_0 rfl) rfl (Nat.le_of_eq rfl) (hb hby at_150) (fun _ _ => ⟨rfl, e13, (by decide : 6 + 0 ≤ _), (by decide : 19 + 0 ≤ _)⟩)
    dsimp only [Pt.U, Pt.locs, Pt.cells, Pt.slots] at X14 l14 y14 z14 st14 hQ14
    subst y14 z14
    obtain ⟨hv14, Nq14, Kq14, q14_0, q14_1, q14_2, q14_3⟩ := hQ14
    obtain rfl : v14 = none := hv14
    have N14 : Fr n0 L14 := by rw [l14]; exact Fr.app N8 Nq14
    have x14_E_b1 := x13_E_b1.keep Kq14
    have x14_F_b1_modCount := x13_F_b1_modCount.keep Kq14 (ninS ne_b1_b13 nin0)
    have x14_F_b1_elementData := x13_F_b1_elementData.keep Kq14 (ninS ne_b1_b13 nin0)
    have x14_F_b1_size := x13_F_b1_size.keep Kq14 (ninS ne_b1_b13 nin0)
    have x14_E_b12 := x13_E_b12.keep Kq14
    have x14_F_b12_shape := x13_F_b12_shape.keep Kq14 (ninS ne_b12_b13 nin0)
    have x14_F_b12_slots := x13_F_b12_slots.keep Kq14 (ninS ne_b12_b13 nin0)
    have x14_F_b12_buckets := x13_F_b12_buckets.keep Kq14 (ninS ne_b12_b13 nin0)
    have x14_F_b12_keys := x13_F_b12_keys.keep Kq14 (ninS ne_b12_b13 nin0)
    have x14_F_b12_grouping := x13_F_b12_grouping.keep Kq14 (ninS ne_b12_b13 nin0)
    have x14_E_b13 := A13.keep Kq14
    have EX14 := own_ext_keepL EX13 Kq14 (allS (hn0 ▸ g_b13) all0)
    have K14 := Keep.trans K13 Kq14 (allS (Or.inr sz_b13) all0)
    obtain ⟨v15, _, ⟨T15, L15, k15, n15⟩, -, X15, ⟨Lc15, hQ15, l15, y15, z15⟩, st15⟩ := X14.specialBack hx (y := (⟨"com/example/cairn/cairn/plan/Stage$Output", "<init>", "(Lcom/example/cairn/cairn/plan/Stage$Shape;Ljava/util/List;ILjava/util/List;Lcom/example/cairn/cairn/plan/Grouping;)V"⟩ : MethodName)) rfl hown (mvT hZ (hw _ (ow 113 rfl))) (mvT hZ (hw _ (ow 114 rfl))) (mvT hZ (hw _ (ow 115 rfl))) (by decide) (backOf (W := 1) (rm_oi2 l Z a0 hw [] b12 b1 z b13 b3 T14.heap n0 w_ROWS w_RESULT w_PARTIAL_GROUPS w_MERGED_GROUPS w_D w_EL w_EE w_C w_EM w_M hK hn0 EX14 x14_E_b12 g_b12 x14_F_b12_shape x14_F_b12_slots x14_F_b12_buckets x14_F_b12_keys x14_F_b12_grouping x14_E_b1 g_b1 x14_F_b1_size q14_0 g_b13 q14_3 hp3) hZ (hw _ (ow 115 rfl)) (hw _ (ow 112 rfl)) (by decide) (by decide)) (g := (mkF m 155 #[.val (.int p1), .val (.int p2), .val (.int (2 : Int32)), .val (.ref b1), .val (.ref b3), .val (.ref w_PARTIAL_GROUPS), .val (.int z), .val (.ref b3), .val (.int (1 : Int32)), .unset, .unset, .unset, .unset, .unset] [(.ref b3), (.ref b13), (.int z), (.ref b1), (.ref w_PARTIAL_GROUPS), (.ref b12), (.ref b12)])) rfl (by rw [hml]; rfl) (Steps.refl _) (a := b12) (argsL := [(.ref w_PARTIAL_GROUPS), (.ref b1), (.int z), (.ref b13), (.ref b3)]) (rest := [(.ref b12)]) (lenOf pd_15 rfl) rfl (Nat.le_of_eq rfl) (hb hby at_155) (fun _ _ => ⟨rfl, (rfl : T14.heap = T14.heap), (by decide : 6 + 0 ≤ _), (by decide : 19 + 0 ≤ _)⟩)
    dsimp only [Pt.U, Pt.locs, Pt.cells, Pt.slots] at X15 l15 y15 z15 st15 hQ15
    subst y15 z15
    obtain ⟨hv15, Nq15, Kq15, q15_0, q15_1⟩ := hQ15
    obtain rfl : v15 = none := hv15
    have N15 : Fr n0 L15 := by rw [l15]; exact Fr.app N14 Nq15
    have x15_E_b1 := x14_E_b1.keep Kq15
    have x15_F_b1_modCount := x14_F_b1_modCount.keep Kq15 (ninS ne_b1_b12 nin0)
    have x15_F_b1_elementData := x14_F_b1_elementData.keep Kq15 (ninS ne_b1_b12 nin0)
    have x15_F_b1_size := x14_F_b1_size.keep Kq15 (ninS ne_b1_b12 nin0)
    have x15_E_b12 := x14_E_b12.keep Kq15
    have x15_E_b13 := q14_0.keep Kq15
    have x15_F_b13_modCount := q14_1.keep Kq15 (ninS (Ne.symm ne_b12_b13) nin0)
    have x15_F_b13_elementData := q14_2.keep Kq15 (ninS (Ne.symm ne_b12_b13) nin0)
    have x15_F_b13_size := q14_3.keep Kq15 (ninS (Ne.symm ne_b12_b13) nin0)
    have EX15 := own_ext_keepL EX14 Kq15 (allS (hn0 ▸ g_b12) all0)
    have K15 := Keep.trans K14 Kq15 (allS (Or.inr sz_b12) all0)
    obtain ⟨cq16, kq16, q16a, q16b, q16c⟩ := isOf hZ (rfl : T15.heap = T15.heap) q15_0
    obtain ⟨v16, _, ⟨T16, L16, k16, n16⟩, -, X16, ⟨Lc16, hQ16, l16, y16, z16⟩, st16⟩ := X15.virtualBack hx (y := (⟨"com/example/cairn/cairn/plan/Stage$Output", "goesToCoordinator", "()Z"⟩ : MethodName)) (z := (⟨"com/example/cairn/cairn/plan/Stage$Output", "goesToCoordinator", "()Z"⟩ : MethodName)) hown (mvT hZ (hw _ (ow 218 rfl))) (mvT hZ (hw _ (ow 219 rfl))) (notFace_of_selects (args := #[]) (mvT hZ (hw _ (ow 221 rfl)))) (mvT hZ (hw _ (ow 221 rfl))) (mvT hZ (hw _ (ow 220 rfl))) (by decide) (backOf (W := 0) (rm_goes l Z a0 hw [] b12 z T15.heap n0 q15_1) hZ (hw _ (ow 222 rfl)) (hw _ (ow 112 rfl)) (by decide) (by decide)) q16a q16c (g := (mkF m 162 #[.val (.int p1), .val (.int p2), .val (.int (2 : Int32)), .val (.ref b1), .val (.ref b3), .val (.ref w_PARTIAL_GROUPS), .val (.int z), .val (.ref b3), .val (.int (1 : Int32)), .val (.ref b12), .unset, .unset, .unset, .unset] [(.ref b12)])) rfl (by rw [hml]; rfl) (Steps.refl _) (argsL := []) (rest := []) (lenOf pd_1 rfl) rfl (Nat.le_of_eq rfl) (hb hby at_162) (fun _ _ => ⟨rfl, (rfl : T15.heap = T15.heap), (by decide : 6 + 0 ≤ _), (by decide : 19 + 0 ≤ _)⟩)
    dsimp only [Pt.U, Pt.locs, Pt.cells, Pt.slots] at X16 l16 y16 z16 st16 hQ16
    subst y16 z16
    obtain ⟨hv16, Nq16, e16⟩ := hQ16
    obtain rfl : v16 = some (.int (1 : Int32)) := hv16.trans (congrArg some (congrArg Value.int (if_pos hc109_10)))
    have N16 : Fr n0 L16 := by rw [l16]; exact Fr.app N15 Nq16
    obtain ⟨T17, X17, e17, st17⟩ := getS2 X16 hx hZ hown (host := "") (Or.inl (hw _ (ow 238 rfl))) Via.refl e16 (S_w_PARTIAL_GROUPS.ext EX15) (g := (mkF m 199 #[.val (.int p1), .val (.int p2), .val (.int (2 : Int32)), .val (.ref b1), .val (.ref b3), .val (.ref w_PARTIAL_GROUPS), .val (.int z), .val (.ref b3), .val (.int (1 : Int32)), .val (.ref b12), .val (.int (1 : Int32)), .unset, .unset, .unset] [])) rfl (hb hby at_199)
    obtain ⟨v18, _, ⟨T18, L18, k18, n18⟩, -, X18, ⟨Lc18, hQ18, l18, y18, z18⟩, st18⟩ := Jvm.LawKit.callS X17 hx (y := (⟨"com/example/cairn/cairn/plan/Stage$Output", "toCoordinator", "(Lcom/example/cairn/cairn/plan/Stage$Shape;Lcom/example/cairn/cairn/plan/Grouping;)Lcom/example/cairn/cairn/plan/Stage$Output;"⟩ : MethodName)) hown (mvT hZ (hw _ (ow 225 rfl))) (mvT hZ (hw _ (ow 226 rfl))) (mvT hZ (hw _ (ow 112 rfl))) (mvT hZ (hw _ (ow 227 rfl))) (by decide) (backOf (W := 0) (rm_toC_PARTIAL_GROUPS l Z a0 hw [] b3 T15.heap n0 w_ROWS w_RESULT w_PARTIAL_GROUPS w_MERGED_GROUPS w_D w_EL w_EE w_C w_EM w_M hK hn0 EX15) hZ (hw _ (ow 227 rfl)) (hw _ (ow 112 rfl)) (by decide) (by decide)) (g := (mkF m 223 #[.val (.int p1), .val (.int p2), .val (.int (2 : Int32)), .val (.ref b1), .val (.ref b3), .val (.ref w_PARTIAL_GROUPS), .val (.int z), .val (.ref b3), .val (.int (1 : Int32)), .val (.ref b12), .val (.int (1 : Int32)), .val (.ref w_PARTIAL_GROUPS), .val (.ref b3), .unset] [(.ref b3), (.ref w_PARTIAL_GROUPS)])) rfl (by rw [hml]; rfl) (argsL := [(.ref w_PARTIAL_GROUPS), (.ref b3)]) (rest := []) (lenOf pd_19 rfl) rfl (Nat.le_of_eq rfl) (hb hby at_223) (fun _ _ => ⟨rfl, e17, (by decide : 6 + 1 ≤ _), (by decide : 19 + 5 ≤ _)⟩)
    dsimp only [Pt.U, Pt.locs, Pt.cells, Pt.slots] at X18 l18 y18 z18 st18 hQ18
    subst y18 z18
    obtain ⟨r18, hv18, sy18, Nq18, Kq18, q18_0, q18_1⟩ := hQ18
    obtain rfl : v18 = some (.ref r18) := hv18
    have ne_b12_r18 : b12 ≠ r18 := Nat.ne_of_lt (Nat.lt_of_lt_of_le q15_0.lt sy18)
    have sz_r18 : h0.size ≤ r18 := Nat.le_trans K15.1 sy18
    have g_r18 : n0 ≤ r18 := hn0 ▸ Nat.le_trans EX15.1 sy18
    have N18 : Fr n0 L18 := by rw [l18]; exact Fr.app N16 Nq18
    have x18_E_b12 := q15_0.keep Kq18
    have x18_F_b12_buckets := q15_1.keep Kq18 nin0
    have EX18 := own_ext_keepL EX15 Kq18 all0
    have K18 := Keep.trans K15 Kq18 all0
    obtain ⟨cq19, kq19, q19a, q19b, q19c⟩ := isOf hZ (rfl : T18.heap = T18.heap) q18_0
    obtain ⟨v19, _, ⟨T19, L19, k19, n19⟩, -, X19, ⟨Lc19, hQ19, l19, y19, z19⟩, st19⟩ := X18.virtualBack hx (y := (⟨"com/example/cairn/cairn/plan/Stage$Output", "goesToCoordinator", "()Z"⟩ : MethodName)) (z := (⟨"com/example/cairn/cairn/plan/Stage$Output", "goesToCoordinator", "()Z"⟩ : MethodName)) hown (mvT hZ (hw _ (ow 218 rfl))) (mvT hZ (hw _ (ow 219 rfl))) (notFace_of_selects (args := #[]) (mvT hZ (hw _ (ow 221 rfl)))) (mvT hZ (hw _ (ow 221 rfl))) (mvT hZ (hw _ (ow 220 rfl))) (by decide) (backOf (W := 0) (rm_goes l Z a0 hw [] r18 (0 : Int32) T18.heap n0 q18_1) hZ (hw _ (ow 222 rfl)) (hw _ (ow 112 rfl)) (by decide) (by decide)) q19a q19c (g := (mkF m 235 #[.val (.int p1), .val (.int p2), .val (.int (2 : Int32)), .val (.ref b1), .val (.ref b3), .val (.ref w_PARTIAL_GROUPS), .val (.int z), .val (.ref b3), .val (.int (1 : Int32)), .val (.ref b12), .val (.int (1 : Int32)), .val (.ref w_PARTIAL_GROUPS), .val (.ref b3), .val (.ref r18)] [(.ref r18)])) rfl (by rw [hml]; rfl) (Steps.refl _) (argsL := []) (rest := []) (lenOf pd_1 rfl) rfl (Nat.le_of_eq rfl) (hb hby at_235) (fun _ _ => ⟨rfl, (rfl : T18.heap = T18.heap), (by decide : 7 + 0 ≤ _), (by decide : 24 + 0 ≤ _)⟩)
    dsimp only [Pt.U, Pt.locs, Pt.cells, Pt.slots] at X19 l19 y19 z19 st19 hQ19
    subst y19 z19
    obtain ⟨hv19, Nq19, e19⟩ := hQ19
    obtain rfl : v19 = some (.int (1 : Int32)) := hv19.trans (congrArg some (congrArg Value.int (if_pos (by decide))))
    have N19 : Fr n0 L19 := by rw [l19]; exact Fr.app N18 Nq19
    have pre20 : ∀ t, Steps p.tables e below (T19.setTop (mkF m 246 #[.val (.int p1), .val (.int p2), .val (.int (2 : Int32)), .val (.ref b1), .val (.ref b3), .val (.ref w_PARTIAL_GROUPS), .val (.int z), .val (.ref b3), .val (.int (1 : Int32)), .val (.ref b12), .val (.int (1 : Int32)), .val (.ref w_PARTIAL_GROUPS), .val (.ref b3), .val (.ref r18)] [(.int (1 : Int32))])) t → Steps p.tables e below (s₁.setTop (entryFrame m #[(.int p1), (.int p2)] maxLocals)) t := fun t k => pre11 t (by
      show Steps p.tables e below (T9.setTop (mkF m 109 #[.val (.int p1), .val (.int p2), .val (.int (2 : Int32)), .val (.ref b1), .val (.ref b3), .val (.ref w_PARTIAL_GROUPS), .val (.int z), .val (.ref b3), .unset, .unset, .unset, .unset, .unset, .unset] [(.int z)])) _
      refine XS.ifNo X9.here hx rfl (hb hby at_109) rfl ((if0 _ _).trans (teq hc109_10).2) ?_
      show Steps p.tables e below (T9.setTop (mkF m 112 #[.val (.int p1), .val (.int p2), .val (.int (2 : Int32)), .val (.ref b1), .val (.ref b3), .val (.ref w_PARTIAL_GROUPS), .val (.int z), .val (.ref b3), .unset, .unset, .unset, .unset, .unset, .unset] [])) _
      refine XS.iconst X9.here hx rfl (hb hby at_112) ?_
      show Steps p.tables e below (T9.setTop (mkF m 113 #[.val (.int p1), .val (.int p2), .val (.int (2 : Int32)), .val (.ref b1), .val (.ref b3), .val (.ref w_PARTIAL_GROUPS), .val (.int z), .val (.ref b3), .unset, .unset, .unset, .unset, .unset, .unset] [(.int (1 : Int32))])) _
      refine XS.goto X9.here hx rfl (pc0 := 113) (pc' := 117) rfl (hb hby at_113) (by decide) (by decide) ?_
      show Steps p.tables e below (T9.setTop (mkF m 117 #[.val (.int p1), .val (.int p2), .val (.int (2 : Int32)), .val (.ref b1), .val (.ref b3), .val (.ref w_PARTIAL_GROUPS), .val (.int z), .val (.ref b3), .unset, .unset, .unset, .unset, .unset, .unset] [(.int (1 : Int32))])) _
      refine XS.istore X9.here hx rfl (hb hby at_117) rfl (l' := #[.val (.int p1), .val (.int p2), .val (.int (2 : Int32)), .val (.ref b1), .val (.ref b3), .val (.ref w_PARTIAL_GROUPS), .val (.int z), .val (.ref b3), .val (.int (1 : Int32)), .unset, .unset, .unset, .unset, .unset]) rfl ?_
      show Steps p.tables e below (T9.setTop (mkF m 119 #[.val (.int p1), .val (.int p2), .val (.int (2 : Int32)), .val (.ref b1), .val (.ref b3), .val (.ref w_PARTIAL_GROUPS), .val (.int z), .val (.ref b3), .val (.int (1 : Int32)), .unset, .unset, .unset, .unset, .unset] [])) _
      refine XS.goto X9.here hx rfl (pc0 := 119) (pc' := 137) rfl (hb hby at_119) (by decide) (by decide) ?_
      show Steps p.tables e below (T9.setTop (mkF m 137 #[.val (.int p1), .val (.int p2), .val (.int (2 : Int32)), .val (.ref b1), .val (.ref b3), .val (.ref w_PARTIAL_GROUPS), .val (.int z), .val (.ref b3), .val (.int (1 : Int32)), .unset, .unset, .unset, .unset, .unset] [])) _
      refine st12 _ ?_
      show Steps p.tables e below (T12.setTop (mkF m 140 #[.val (.int p1), .val (.int p2), .val (.int (2 : Int32)), .val (.ref b1), .val (.ref b3), .val (.ref w_PARTIAL_GROUPS), .val (.int z), .val (.ref b3), .val (.int (1 : Int32)), .unset, .unset, .unset, .unset, .unset] [(.ref b12)])) _
      refine XS.dup X12.here hx rfl (hb hby at_140) rfl rfl ?_
      show Steps p.tables e below (T12.setTop (mkF m 141 #[.val (.int p1), .val (.int p2), .val (.int (2 : Int32)), .val (.ref b1), .val (.ref b3), .val (.ref w_PARTIAL_GROUPS), .val (.int z), .val (.ref b3), .val (.int (1 : Int32)), .unset, .unset, .unset, .unset, .unset] [(.ref b12), (.ref b12)])) _
      refine XS.aload X12.here hx rfl (hb hby at_141) rfl rfl ?_
      show Steps p.tables e below (T12.setTop (mkF m 143 #[.val (.int p1), .val (.int p2), .val (.int (2 : Int32)), .val (.ref b1), .val (.ref b3), .val (.ref w_PARTIAL_GROUPS), .val (.int z), .val (.ref b3), .val (.int (1 : Int32)), .unset, .unset, .unset, .unset, .unset] [(.ref w_PARTIAL_GROUPS), (.ref b12), (.ref b12)])) _
      refine XS.aloadN X12.here hx rfl (hb hby at_143) rfl rfl ?_
      show Steps p.tables e below (T12.setTop (mkF m 144 #[.val (.int p1), .val (.int p2), .val (.int (2 : Int32)), .val (.ref b1), .val (.ref b3), .val (.ref w_PARTIAL_GROUPS), .val (.int z), .val (.ref b3), .val (.int (1 : Int32)), .unset, .unset, .unset, .unset, .unset] [(.ref b1), (.ref w_PARTIAL_GROUPS), (.ref b12), (.ref b12)])) _
      refine XS.iload X12.here hx rfl (hb hby at_144) rfl ?_
      show Steps p.tables e below (T12.setTop (mkF m 146 #[.val (.int p1), .val (.int p2), .val (.int (2 : Int32)), .val (.ref b1), .val (.ref b3), .val (.ref w_PARTIAL_GROUPS), .val (.int z), .val (.ref b3), .val (.int (1 : Int32)), .unset, .unset, .unset, .unset, .unset] [(.int z), (.ref b1), (.ref w_PARTIAL_GROUPS), (.ref b12), (.ref b12)])) _
      refine st13 _ ?_
      show Steps p.tables e below (T13.setTop (mkF m 149 #[.val (.int p1), .val (.int p2), .val (.int (2 : Int32)), .val (.ref b1), .val (.ref b3), .val (.ref w_PARTIAL_GROUPS), .val (.int z), .val (.ref b3), .val (.int (1 : Int32)), .unset, .unset, .unset, .unset, .unset] [(.ref b13), (.int z), (.ref b1), (.ref w_PARTIAL_GROUPS), (.ref b12), (.ref b12)])) _
      refine XS.dup X13.here hx rfl (hb hby at_149) rfl rfl ?_
      show Steps p.tables e below (T13.setTop (mkF m 150 #[.val (.int p1), .val (.int p2), .val (.int (2 : Int32)), .val (.ref b1), .val (.ref b3), .val (.ref w_PARTIAL_GROUPS), .val (.int z), .val (.ref b3), .val (.int (1 : Int32)), .unset, .unset, .unset, .unset, .unset] [(.ref b13), (.ref b13), (.int z), (.ref b1), (.ref w_PARTIAL_GROUPS), (.ref b12), (.ref b12)])) _
      refine st14.trans ?_
      show Steps p.tables e below (T14.setTop (mkF m 153 #[.val (.int p1), .val (.int p2), .val (.int (2 : Int32)), .val (.ref b1), .val (.ref b3), .val (.ref w_PARTIAL_GROUPS), .val (.int z), .val (.ref b3), .val (.int (1 : Int32)), .unset, .unset, .unset, .unset, .unset] [(.ref b13), (.int z), (.ref b1), (.ref w_PARTIAL_GROUPS), (.ref b12), (.ref b12)])) _
      refine XS.aload X14.here hx rfl (hb hby at_153) rfl rfl ?_
      show Steps p.tables e below (T14.setTop (mkF m 155 #[.val (.int p1), .val (.int p2), .val (.int (2 : Int32)), .val (.ref b1), .val (.ref b3), .val (.ref w_PARTIAL_GROUPS), .val (.int z), .val (.ref b3), .val (.int (1 : Int32)), .unset, .unset, .unset, .unset, .unset] [(.ref b3), (.ref b13), (.int z), (.ref b1), (.ref w_PARTIAL_GROUPS), (.ref b12), (.ref b12)])) _
      refine st15.trans ?_
      show Steps p.tables e below (T15.setTop (mkF m 158 #[.val (.int p1), .val (.int p2), .val (.int (2 : Int32)), .val (.ref b1), .val (.ref b3), .val (.ref w_PARTIAL_GROUPS), .val (.int z), .val (.ref b3), .val (.int (1 : Int32)), .unset, .unset, .unset, .unset, .unset] [(.ref b12)])) _
      refine XS.astore X15.here hx rfl (hb hby at_158) rfl rfl (l' := #[.val (.int p1), .val (.int p2), .val (.int (2 : Int32)), .val (.ref b1), .val (.ref b3), .val (.ref w_PARTIAL_GROUPS), .val (.int z), .val (.ref b3), .val (.int (1 : Int32)), .val (.ref b12), .unset, .unset, .unset, .unset]) rfl ?_
      show Steps p.tables e below (T15.setTop (mkF m 160 #[.val (.int p1), .val (.int p2), .val (.int (2 : Int32)), .val (.ref b1), .val (.ref b3), .val (.ref w_PARTIAL_GROUPS), .val (.int z), .val (.ref b3), .val (.int (1 : Int32)), .val (.ref b12), .unset, .unset, .unset, .unset] [])) _
      refine XS.aload X15.here hx rfl (hb hby at_160) rfl rfl ?_
      show Steps p.tables e below (T15.setTop (mkF m 162 #[.val (.int p1), .val (.int p2), .val (.int (2 : Int32)), .val (.ref b1), .val (.ref b3), .val (.ref w_PARTIAL_GROUPS), .val (.int z), .val (.ref b3), .val (.int (1 : Int32)), .val (.ref b12), .unset, .unset, .unset, .unset] [(.ref b12)])) _
      refine st16.trans ?_
      show Steps p.tables e below (T16.setTop (mkF m 165 #[.val (.int p1), .val (.int p2), .val (.int (2 : Int32)), .val (.ref b1), .val (.ref b3), .val (.ref w_PARTIAL_GROUPS), .val (.int z), .val (.ref b3), .val (.int (1 : Int32)), .val (.ref b12), .unset, .unset, .unset, .unset] [(.int (1 : Int32))])) _
      refine XS.iload X16.here hx rfl (hb hby at_165) rfl ?_
      show Steps p.tables e below (T16.setTop (mkF m 167 #[.val (.int p1), .val (.int p2), .val (.int (2 : Int32)), .val (.ref b1), .val (.ref b3), .val (.ref w_PARTIAL_GROUPS), .val (.int z), .val (.ref b3), .val (.int (1 : Int32)), .val (.ref b12), .unset, .unset, .unset, .unset] [(.int (1 : Int32)), (.int (1 : Int32))])) _
      refine XS.icmpNo X16.here hx rfl (hb hby at_167) rfl (teq (by decide)).2 ?_
      show Steps p.tables e below (T16.setTop (mkF m 170 #[.val (.int p1), .val (.int p2), .val (.int (2 : Int32)), .val (.ref b1), .val (.ref b3), .val (.ref w_PARTIAL_GROUPS), .val (.int z), .val (.ref b3), .val (.int (1 : Int32)), .val (.ref b12), .unset, .unset, .unset, .unset] [])) _
      refine XS.iconst X16.here hx rfl (hb hby at_170) ?_
      show Steps p.tables e below (T16.setTop (mkF m 171 #[.val (.int p1), .val (.int p2), .val (.int (2 : Int32)), .val (.ref b1), .val (.ref b3), .val (.ref w_PARTIAL_GROUPS), .val (.int z), .val (.ref b3), .val (.int (1 : Int32)), .val (.ref b12), .unset, .unset, .unset, .unset] [(.int (1 : Int32))])) _
      refine XS.goto X16.here hx rfl (pc0 := 171) (pc' := 175) rfl (hb hby at_171) (by decide) (by decide) ?_
      show Steps p.tables e below (T16.setTop (mkF m 175 #[.val (.int p1), .val (.int p2), .val (.int (2 : Int32)), .val (.ref b1), .val (.ref b3), .val (.ref w_PARTIAL_GROUPS), .val (.int z), .val (.ref b3), .val (.int (1 : Int32)), .val (.ref b12), .unset, .unset, .unset, .unset] [(.int (1 : Int32))])) _
      refine XS.istore X16.here hx rfl (hb hby at_175) rfl (l' := #[.val (.int p1), .val (.int p2), .val (.int (2 : Int32)), .val (.ref b1), .val (.ref b3), .val (.ref w_PARTIAL_GROUPS), .val (.int z), .val (.ref b3), .val (.int (1 : Int32)), .val (.ref b12), .val (.int (1 : Int32)), .unset, .unset, .unset]) rfl ?_
      show Steps p.tables e below (T16.setTop (mkF m 177 #[.val (.int p1), .val (.int p2), .val (.int (2 : Int32)), .val (.ref b1), .val (.ref b3), .val (.ref w_PARTIAL_GROUPS), .val (.int z), .val (.ref b3), .val (.int (1 : Int32)), .val (.ref b12), .val (.int (1 : Int32)), .unset, .unset, .unset] [])) _
      refine XS.iloadN X16.here hx rfl (hb hby at_177) rfl ?_
      show Steps p.tables e below (T16.setTop (mkF m 178 #[.val (.int p1), .val (.int p2), .val (.int (2 : Int32)), .val (.ref b1), .val (.ref b3), .val (.ref w_PARTIAL_GROUPS), .val (.int z), .val (.ref b3), .val (.int (1 : Int32)), .val (.ref b12), .val (.int (1 : Int32)), .unset, .unset, .unset] [(.int (2 : Int32))])) _
      refine XS.iconst X16.here hx rfl (hb hby at_178) ?_
      show Steps p.tables e below (T16.setTop (mkF m 179 #[.val (.int p1), .val (.int p2), .val (.int (2 : Int32)), .val (.ref b1), .val (.ref b3), .val (.ref w_PARTIAL_GROUPS), .val (.int z), .val (.ref b3), .val (.int (1 : Int32)), .val (.ref b12), .val (.int (1 : Int32)), .unset, .unset, .unset] [(.int (3 : Int32)), (.int (2 : Int32))])) _
      refine XS.icmpYes X16.here hx rfl (pc0 := 179) (pc' := 194) rfl (hb hby at_179) rfl (feq (by decide)).2 (by decide) (by decide) ?_
      show Steps p.tables e below (T16.setTop (mkF m 194 #[.val (.int p1), .val (.int p2), .val (.int (2 : Int32)), .val (.ref b1), .val (.ref b3), .val (.ref w_PARTIAL_GROUPS), .val (.int z), .val (.ref b3), .val (.int (1 : Int32)), .val (.ref b12), .val (.int (1 : Int32)), .unset, .unset, .unset] [])) _
      refine XS.iloadN X16.here hx rfl (hb hby at_194) rfl ?_
      show Steps p.tables e below (T16.setTop (mkF m 195 #[.val (.int p1), .val (.int p2), .val (.int (2 : Int32)), .val (.ref b1), .val (.ref b3), .val (.ref w_PARTIAL_GROUPS), .val (.int z), .val (.ref b3), .val (.int (1 : Int32)), .val (.ref b12), .val (.int (1 : Int32)), .unset, .unset, .unset] [(.int (2 : Int32))])) _
      refine XS.iconst X16.here hx rfl (hb hby at_195) ?_
      show Steps p.tables e below (T16.setTop (mkF m 196 #[.val (.int p1), .val (.int p2), .val (.int (2 : Int32)), .val (.ref b1), .val (.ref b3), .val (.ref w_PARTIAL_GROUPS), .val (.int z), .val (.ref b3), .val (.int (1 : Int32)), .val (.ref b12), .val (.int (1 : Int32)), .unset, .unset, .unset] [(.int (2 : Int32)), (.int (2 : Int32))])) _
      refine XS.icmpNo X16.here hx rfl (hb hby at_196) rfl (teq (by decide)).2 ?_
      show Steps p.tables e below (T16.setTop (mkF m 199 #[.val (.int p1), .val (.int p2), .val (.int (2 : Int32)), .val (.ref b1), .val (.ref b3), .val (.ref w_PARTIAL_GROUPS), .val (.int z), .val (.ref b3), .val (.int (1 : Int32)), .val (.ref b12), .val (.int (1 : Int32)), .unset, .unset, .unset] [])) _
      refine st17 _ ?_
      show Steps p.tables e below (T17.setTop (mkF m 202 #[.val (.int p1), .val (.int p2), .val (.int (2 : Int32)), .val (.ref b1), .val (.ref b3), .val (.ref w_PARTIAL_GROUPS), .val (.int z), .val (.ref b3), .val (.int (1 : Int32)), .val (.ref b12), .val (.int (1 : Int32)), .unset, .unset, .unset] [(.ref w_PARTIAL_GROUPS)])) _
      refine XS.astore X17.here hx rfl (hb hby at_202) rfl rfl (l' := #[.val (.int p1), .val (.int p2), .val (.int (2 : Int32)), .val (.ref b1), .val (.ref b3), .val (.ref w_PARTIAL_GROUPS), .val (.int z), .val (.ref b3), .val (.int (1 : Int32)), .val (.ref b12), .val (.int (1 : Int32)), .val (.ref w_PARTIAL_GROUPS), .unset, .unset]) rfl ?_
      show Steps p.tables e below (T17.setTop (mkF m 204 #[.val (.int p1), .val (.int p2), .val (.int (2 : Int32)), .val (.ref b1), .val (.ref b3), .val (.ref w_PARTIAL_GROUPS), .val (.int z), .val (.ref b3), .val (.int (1 : Int32)), .val (.ref b12), .val (.int (1 : Int32)), .val (.ref w_PARTIAL_GROUPS), .unset, .unset] [])) _
      refine XS.aload X17.here hx rfl (hb hby at_204) rfl rfl ?_
      show Steps p.tables e below (T17.setTop (mkF m 206 #[.val (.int p1), .val (.int p2), .val (.int (2 : Int32)), .val (.ref b1), .val (.ref b3), .val (.ref w_PARTIAL_GROUPS), .val (.int z), .val (.ref b3), .val (.int (1 : Int32)), .val (.ref b12), .val (.int (1 : Int32)), .val (.ref w_PARTIAL_GROUPS), .unset, .unset] [(.ref b3)])) _
      refine XS.astore X17.here hx rfl (hb hby at_206) rfl rfl (l' := #[.val (.int p1), .val (.int p2), .val (.int (2 : Int32)), .val (.ref b1), .val (.ref b3), .val (.ref w_PARTIAL_GROUPS), .val (.int z), .val (.ref b3), .val (.int (1 : Int32)), .val (.ref b12), .val (.int (1 : Int32)), .val (.ref w_PARTIAL_GROUPS), .val (.ref b3), .unset]) rfl ?_
      show Steps p.tables e below (T17.setTop (mkF m 208 #[.val (.int p1), .val (.int p2), .val (.int (2 : Int32)), .val (.ref b1), .val (.ref b3), .val (.ref w_PARTIAL_GROUPS), .val (.int z), .val (.ref b3), .val (.int (1 : Int32)), .val (.ref b12), .val (.int (1 : Int32)), .val (.ref w_PARTIAL_GROUPS), .val (.ref b3), .unset] [])) _
      refine XS.goto X17.here hx rfl (pc0 := 208) (pc' := 219) rfl (hb hby at_208) (by decide) (by decide) ?_
      show Steps p.tables e below (T17.setTop (mkF m 219 #[.val (.int p1), .val (.int p2), .val (.int (2 : Int32)), .val (.ref b1), .val (.ref b3), .val (.ref w_PARTIAL_GROUPS), .val (.int z), .val (.ref b3), .val (.int (1 : Int32)), .val (.ref b12), .val (.int (1 : Int32)), .val (.ref w_PARTIAL_GROUPS), .val (.ref b3), .unset] [])) _
      refine XS.aload X17.here hx rfl (hb hby at_219) rfl rfl ?_
      show Steps p.tables e below (T17.setTop (mkF m 221 #[.val (.int p1), .val (.int p2), .val (.int (2 : Int32)), .val (.ref b1), .val (.ref b3), .val (.ref w_PARTIAL_GROUPS), .val (.int z), .val (.ref b3), .val (.int (1 : Int32)), .val (.ref b12), .val (.int (1 : Int32)), .val (.ref w_PARTIAL_GROUPS), .val (.ref b3), .unset] [(.ref w_PARTIAL_GROUPS)])) _
      refine XS.aload X17.here hx rfl (hb hby at_221) rfl rfl ?_
      show Steps p.tables e below (T17.setTop (mkF m 223 #[.val (.int p1), .val (.int p2), .val (.int (2 : Int32)), .val (.ref b1), .val (.ref b3), .val (.ref w_PARTIAL_GROUPS), .val (.int z), .val (.ref b3), .val (.int (1 : Int32)), .val (.ref b12), .val (.int (1 : Int32)), .val (.ref w_PARTIAL_GROUPS), .val (.ref b3), .unset] [(.ref b3), (.ref w_PARTIAL_GROUPS)])) _
      refine st18 _ ?_
      show Steps p.tables e below (T18.setTop (mkF m 226 #[.val (.int p1), .val (.int p2), .val (.int (2 : Int32)), .val (.ref b1), .val (.ref b3), .val (.ref w_PARTIAL_GROUPS), .val (.int z), .val (.ref b3), .val (.int (1 : Int32)), .val (.ref b12), .val (.int (1 : Int32)), .val (.ref w_PARTIAL_GROUPS), .val (.ref b3), .unset] [(.ref r18)])) _
      refine XS.astore X18.here hx rfl (hb hby at_226) rfl rfl (l' := #[.val (.int p1), .val (.int p2), .val (.int (2 : Int32)), .val (.ref b1), .val (.ref b3), .val (.ref w_PARTIAL_GROUPS), .val (.int z), .val (.ref b3), .val (.int (1 : Int32)), .val (.ref b12), .val (.int (1 : Int32)), .val (.ref w_PARTIAL_GROUPS), .val (.ref b3), .val (.ref r18)]) rfl ?_
      show Steps p.tables e below (T18.setTop (mkF m 228 #[.val (.int p1), .val (.int p2), .val (.int (2 : Int32)), .val (.ref b1), .val (.ref b3), .val (.ref w_PARTIAL_GROUPS), .val (.int z), .val (.ref b3), .val (.int (1 : Int32)), .val (.ref b12), .val (.int (1 : Int32)), .val (.ref w_PARTIAL_GROUPS), .val (.ref b3), .val (.ref r18)] [])) _
      refine XS.iload X18.here hx rfl (hb hby at_228) rfl ?_
      show Steps p.tables e below (T18.setTop (mkF m 230 #[.val (.int p1), .val (.int p2), .val (.int (2 : Int32)), .val (.ref b1), .val (.ref b3), .val (.ref w_PARTIAL_GROUPS), .val (.int z), .val (.ref b3), .val (.int (1 : Int32)), .val (.ref b12), .val (.int (1 : Int32)), .val (.ref w_PARTIAL_GROUPS), .val (.ref b3), .val (.ref r18)] [(.int (1 : Int32))])) _
      refine XS.ifNo X18.here hx rfl (hb hby at_230) rfl ((if0 _ _).trans (feq (by decide)).1) ?_
      show Steps p.tables e below (T18.setTop (mkF m 233 #[.val (.int p1), .val (.int p2), .val (.int (2 : Int32)), .val (.ref b1), .val (.ref b3), .val (.ref w_PARTIAL_GROUPS), .val (.int z), .val (.ref b3), .val (.int (1 : Int32)), .val (.ref b12), .val (.int (1 : Int32)), .val (.ref w_PARTIAL_GROUPS), .val (.ref b3), .val (.ref r18)] [])) _
      refine XS.aload X18.here hx rfl (hb hby at_233) rfl rfl ?_
      show Steps p.tables e below (T18.setTop (mkF m 235 #[.val (.int p1), .val (.int p2), .val (.int (2 : Int32)), .val (.ref b1), .val (.ref b3), .val (.ref w_PARTIAL_GROUPS), .val (.int z), .val (.ref b3), .val (.int (1 : Int32)), .val (.ref b12), .val (.int (1 : Int32)), .val (.ref w_PARTIAL_GROUPS), .val (.ref b3), .val (.ref r18)] [(.ref r18)])) _
      refine st19.trans ?_
      show Steps p.tables e below (T19.setTop (mkF m 238 #[.val (.int p1), .val (.int p2), .val (.int (2 : Int32)), .val (.ref b1), .val (.ref b3), .val (.ref w_PARTIAL_GROUPS), .val (.int z), .val (.ref b3), .val (.int (1 : Int32)), .val (.ref b12), .val (.int (1 : Int32)), .val (.ref w_PARTIAL_GROUPS), .val (.ref b3), .val (.ref r18)] [(.int (1 : Int32))])) _
      refine XS.ifNo X19.here hx rfl (hb hby at_238) rfl ((if0 _ _).trans (feq (by decide)).1) ?_
      show Steps p.tables e below (T19.setTop (mkF m 241 #[.val (.int p1), .val (.int p2), .val (.int (2 : Int32)), .val (.ref b1), .val (.ref b3), .val (.ref w_PARTIAL_GROUPS), .val (.int z), .val (.ref b3), .val (.int (1 : Int32)), .val (.ref b12), .val (.int (1 : Int32)), .val (.ref w_PARTIAL_GROUPS), .val (.ref b3), .val (.ref r18)] [])) _
      refine XS.iconst X19.here hx rfl (hb hby at_241) ?_
      show Steps p.tables e below (T19.setTop (mkF m 242 #[.val (.int p1), .val (.int p2), .val (.int (2 : Int32)), .val (.ref b1), .val (.ref b3), .val (.ref w_PARTIAL_GROUPS), .val (.int z), .val (.ref b3), .val (.int (1 : Int32)), .val (.ref b12), .val (.int (1 : Int32)), .val (.ref w_PARTIAL_GROUPS), .val (.ref b3), .val (.ref r18)] [(.int (1 : Int32))])) _
      refine XS.goto X19.here hx rfl (pc0 := 242) (pc' := 246) rfl (hb hby at_242) (by decide) (by decide) ?_
      exact k)
    obtain ⟨fs, hr, hrun, hended, hW, hsame⟩ := X19.leave (v := some (.int (1 : Int32))) (fun h => by rw [Bd.returns] at h; cases h)
    refine ⟨_, _, pre20 _ ?_, hrun, hended, _, _, rfl, ?_, ⟨_, rfl⟩, hW, hsame.mono (by decide) (by decide)⟩
    · show Steps p.tables e below (T19.setTop (mkF m 246 #[.val (.int p1), .val (.int p2), .val (.int (2 : Int32)), .val (.ref b1), .val (.ref b3), .val (.ref w_PARTIAL_GROUPS), .val (.int z), .val (.ref b3), .val (.int (1 : Int32)), .val (.ref b12), .val (.int (1 : Int32)), .val (.ref w_PARTIAL_GROUPS), .val (.ref b3), .val (.ref r18)] [(.int (1 : Int32))])) _
      exact retN X19 hx (t := .boolean) Bd.returns (by simp) (hb hby at_246) hr
    · exact ⟨rfl, N19, trivial⟩
  · obtain ⟨T21, h21, X21, e21, Eq21, A21, D21, -, st21⟩ := newO X9 hx hZ hown (hw _ (ow 110 rfl)) (hw _ (ow 111 rfl)) (hw _ (ow 112 rfl)) e9 (g := (mkF m 137 #[.val (.int p1), .val (.int p2), .val (.int (2 : Int32)), .val (.ref b1), .val (.ref b3), .val (.ref w_PARTIAL_GROUPS), .val (.int z), .val (.ref b3), .val (.int (0 : Int32)), .unset, .unset, .unset, .unset, .unset] [])) rfl (hb hby at_137) (by decide) (by decide)
    obtain ⟨b21, gb21⟩ : ∃ z, z = T8.heap.size := ⟨_, rfl⟩
    rw [← gb21] at A21 D21 st21
    have ne_b1_b21 : b1 ≠ b21 := Nat.ne_of_lt (Nat.lt_of_lt_of_le x8_E_b1.lt (Nat.le_of_eq gb21.symm))
    have sz_b21 : h0.size ≤ b21 := Nat.le_trans K8.1 (Nat.le_of_eq gb21.symm)
    have g_b21 : n0 ≤ b21 := hn0 ▸ Nat.le_trans EX8.1 (Nat.le_of_eq gb21.symm)
    have x21_E_b1 := x8_E_b1.ext Eq21
    have x21_F_b1_modCount := x8_F_b1_modCount.ext Eq21
    have x21_F_b1_elementData := x8_F_b1_elementData.ext Eq21
    have x21_F_b1_size := x8_F_b1_size.ext Eq21
    have EX21 := own_ext_trans EX8 Eq21
    have K21 := Keep.ext K8 Eq21
    have F21_shape : Fld Z h21 b21 "com/example/cairn/cairn/plan/Stage$Output" "shape" "Lcom/example/cairn/cairn/plan/Stage$Shape;" .null := D21 (Or.inr (hw _ (ow 209 rfl))) (ty := (.object "com/example/cairn/cairn/plan/Stage$Shape")) (by decide)
    have F21_slots : Fld Z h21 b21 "com/example/cairn/cairn/plan/Stage$Output" "slots" "Ljava/util/List;" .null := D21 (Or.inr (hw _ (ow 211 rfl))) (ty := (.object "java/util/List")) (by decide)
    have F21_buckets : Fld Z h21 b21 "com/example/cairn/cairn/plan/Stage$Output" "buckets" "I" (.int (0 : Int32)) := D21 (Or.inr (hw _ (ow 213 rfl))) (ty := .int) (by decide)
    have F21_keys : Fld Z h21 b21 "com/example/cairn/cairn/plan/Stage$Output" "keys" "Ljava/util/List;" .null := D21 (Or.inr (hw _ (ow 215 rfl))) (ty := (.object "java/util/List")) (by decide)
    have F21_grouping : Fld Z h21 b21 "com/example/cairn/cairn/plan/Stage$Output" "grouping" "Lcom/example/cairn/cairn/plan/Grouping;" .null := D21 (Or.inr (hw _ (ow 217 rfl))) (ty := (.object "com/example/cairn/cairn/plan/Grouping")) (by decide)
    obtain ⟨T22, h22, X22, e22, Eq22, A22, D22, -, st22⟩ := newO X21 hx hZ hown (hw _ (ow 0 rfl)) (hw _ (ow 1 rfl)) (hw _ (ow 2 rfl)) e21 (g := (mkF m 146 #[.val (.int p1), .val (.int p2), .val (.int (2 : Int32)), .val (.ref b1), .val (.ref b3), .val (.ref w_PARTIAL_GROUPS), .val (.int z), .val (.ref b3), .val (.int (0 : Int32)), .unset, .unset, .unset, .unset, .unset] [(.int z), (.ref b1), (.ref w_PARTIAL_GROUPS), (.ref b21), (.ref b21)])) rfl (hb hby at_146) (by decide) (by decide)
    obtain ⟨b22, gb22⟩ : ∃ z, z = h21.size := ⟨_, rfl⟩
    rw [← gb22] at A22 D22 st22
    have ne_b1_b22 : b1 ≠ b22 := Nat.ne_of_lt (Nat.lt_of_lt_of_le x21_E_b1.lt (Nat.le_of_eq gb22.symm))
    have ne_b21_b22 : b21 ≠ b22 := Nat.ne_of_lt (Nat.lt_of_lt_of_le A21.lt (Nat.le_of_eq gb22.symm))
    have sz_b22 : h0.size ≤ b22 := Nat.le_trans K21.1 (Nat.le_of_eq gb22.symm)
    have g_b22 : n0 ≤ b22 := hn0 ▸ Nat.le_trans EX21.1 (Nat.le_of_eq gb22.symm)
    have x22_E_b1 := x21_E_b1.ext Eq22
    have x22_F_b1_modCount := x21_F_b1_modCount.ext Eq22
    have x22_F_b1_elementData := x21_F_b1_elementData.ext Eq22
    have x22_F_b1_size := x21_F_b1_size.ext Eq22
    have x22_E_b21 := A21.ext Eq22
    have x22_F_b21_shape := F21_shape.ext Eq22
    have x22_F_b21_slots := F21_slots.ext Eq22
    have x22_F_b21_buckets := F21_buckets.ext Eq22
    have x22_F_b21_keys := F21_keys.ext Eq22
    have x22_F_b21_grouping := F21_grouping.ext Eq22
    have EX22 := own_ext_trans EX21 Eq22
    have K22 := Keep.ext K21 Eq22
    have F22_modCount : Fld Z h22 b22 "java/util/AbstractList" "modCount" "I" (.int (0 : Int32)) := D22 (Or.inl (hw _ (ow 22 rfl))) (ty := .int) (by decide)
    have F22_elementData : Fld Z h22 b22 "java/util/ArrayList" "elementData" "[Ljava/lang/Object;" .null := D22 (Or.inl (hw _ (ow 25 rfl))) (ty := (.array (.object "java/lang/Object"))) (by decide)
    have F22_size : Fld Z h22 b22 "java/util/ArrayList" "size" "I" (.int (0 : Int32)) := D22 (Or.inl (hw _ (ow 62 rfl))) (ty := .int) (by decide)
    obtain ⟨v23, _, ⟨T23, L23, k23, n23⟩, -, X23, ⟨Lc23, hQ23, l23, y23, z23⟩, st23⟩ := X22.specialBack hx (y := (⟨"java/util/ArrayList", "<init>", "()V"⟩ : MethodName)) rfl hown (mvT hZ (hw _ (ow 3 rfl))) (mvT hZ (hw _ (ow 4 rfl))) (mvT hZ (hw _ (ow 5 rfl))) (by decide) (backOf (W := 6) (rm_alinit l Z a0 hw [] b22 h22 n0 w_ROWS w_RESULT w_PARTIAL_GROUPS w_MERGED_GROUPS w_D w_EL w_EE w_C w_EM w_M hK hn0 EX22 A22 g_b22 F22_modCount F22_elementData F22_size) hZ (hw _ (ow 5 rfl)) (hw _ (ow 2 rfl)) (by decide) (by decide)) (g := (mkF m 150 #[.val (.int p1), .val (.int p2), .val (.int (2 : Int32)), .val (.ref b1), .val (.ref b3), .val (.ref w_PARTIAL_GROUPS), .val (.int z), .val (.ref b3), .val (.int (0 : Int32)), .unset, .unset, .unset, .unset, .unset] [(.ref b22), (.ref b22), (.int z), (.ref b1), (.ref w_PARTIAL_GROUPS), (.ref b21), (.ref b21)])) rfl (by rw [hml]; rfl) (Steps.refl _) (a := b22) (argsL := []) (rest := [(.ref b22), (.int z), (.ref b1), (.ref w_PARTIAL_GROUPS), (.ref b21), (.ref b21)]) (lenOf pd_0 rfl) rfl (Nat.le_of_eq rfl) (hb hby at_150) (fun _ _ => ⟨rfl, e22, (by decide : 6 + 0 ≤ _), (by decide : 19 + 0 ≤ _)⟩)
    dsimp only [Pt.U, Pt.locs, Pt.cells, Pt.slots] at X23 l23 y23 z23 st23 hQ23
    subst y23 z23
    obtain ⟨hv23, Nq23, Kq23, q23_0, q23_1, q23_2, q23_3⟩ := hQ23
    obtain rfl : v23 = none := hv23
    have N23 : Fr n0 L23 := by rw [l23]; exact Fr.app N8 Nq23
    have x23_E_b1 := x22_E_b1.keep Kq23
    have x23_F_b1_modCount := x22_F_b1_modCount.keep Kq23 (ninS ne_b1_b22 nin0)
    have x23_F_b1_elementData := x22_F_b1_elementData.keep Kq23 (ninS ne_b1_b22 nin0)
    have x23_F_b1_size := x22_F_b1_size.keep Kq23 (ninS ne_b1_b22 nin0)
    have x23_E_b21 := x22_E_b21.keep Kq23
    have x23_F_b21_shape := x22_F_b21_shape.keep Kq23 (ninS ne_b21_b22 nin0)
    have x23_F_b21_slots := x22_F_b21_slots.keep Kq23 (ninS ne_b21_b22 nin0)
    have x23_F_b21_buckets := x22_F_b21_buckets.keep Kq23 (ninS ne_b21_b22 nin0)
    have x23_F_b21_keys := x22_F_b21_keys.keep Kq23 (ninS ne_b21_b22 nin0)
    have x23_F_b21_grouping := x22_F_b21_grouping.keep Kq23 (ninS ne_b21_b22 nin0)
    have x23_E_b22 := A22.keep Kq23
    have EX23 := own_ext_keepL EX22 Kq23 (allS (hn0 ▸ g_b22) all0)
    have K23 := Keep.trans K22 Kq23 (allS (Or.inr sz_b22) all0)
    obtain ⟨v24, _, ⟨T24, L24, k24, n24⟩, -, X24, ⟨Lc24, hQ24, l24, y24, z24⟩, st24⟩ := X23.specialBack hx (y := (⟨"com/example/cairn/cairn/plan/Stage$Output", "<init>", "(Lcom/example/cairn/cairn/plan/Stage$Shape;Ljava/util/List;ILjava/util/List;Lcom/example/cairn/cairn/plan/Grouping;)V"⟩ : MethodName)) rfl hown (mvT hZ (hw _ (ow 113 rfl))) (mvT hZ (hw _ (ow 114 rfl))) (mvT hZ (hw _ (ow 115 rfl))) (by decide) (backOf (W := 1) (rm_oi2 l Z a0 hw [] b21 b1 z b22 b3 T23.heap n0 w_ROWS w_RESULT w_PARTIAL_GROUPS w_MERGED_GROUPS w_D w_EL w_EE w_C w_EM w_M hK hn0 EX23 x23_E_b21 g_b21 x23_F_b21_shape x23_F_b21_slots x23_F_b21_buckets x23_F_b21_keys x23_F_b21_grouping x23_E_b1 g_b1 x23_F_b1_size q23_0 g_b22 q23_3 hp3) hZ (hw _ (ow 115 rfl)) (hw _ (ow 112 rfl)) (by decide) (by decide)) (g := (mkF m 155 #[.val (.int p1), .val (.int p2), .val (.int (2 : Int32)), .val (.ref b1), .val (.ref b3), .val (.ref w_PARTIAL_GROUPS), .val (.int z), .val (.ref b3), .val (.int (0 : Int32)), .unset, .unset, .unset, .unset, .unset] [(.ref b3), (.ref b22), (.int z), (.ref b1), (.ref w_PARTIAL_GROUPS), (.ref b21), (.ref b21)])) rfl (by rw [hml]; rfl) (Steps.refl _) (a := b21) (argsL := [(.ref w_PARTIAL_GROUPS), (.ref b1), (.int z), (.ref b22), (.ref b3)]) (rest := [(.ref b21)]) (lenOf pd_15 rfl) rfl (Nat.le_of_eq rfl) (hb hby at_155) (fun _ _ => ⟨rfl, (rfl : T23.heap = T23.heap), (by decide : 6 + 0 ≤ _), (by decide : 19 + 0 ≤ _)⟩)
    dsimp only [Pt.U, Pt.locs, Pt.cells, Pt.slots] at X24 l24 y24 z24 st24 hQ24
    subst y24 z24
    obtain ⟨hv24, Nq24, Kq24, q24_0, q24_1⟩ := hQ24
    obtain rfl : v24 = none := hv24
    have N24 : Fr n0 L24 := by rw [l24]; exact Fr.app N23 Nq24
    have x24_E_b1 := x23_E_b1.keep Kq24
    have x24_F_b1_modCount := x23_F_b1_modCount.keep Kq24 (ninS ne_b1_b21 nin0)
    have x24_F_b1_elementData := x23_F_b1_elementData.keep Kq24 (ninS ne_b1_b21 nin0)
    have x24_F_b1_size := x23_F_b1_size.keep Kq24 (ninS ne_b1_b21 nin0)
    have x24_E_b21 := x23_E_b21.keep Kq24
    have x24_E_b22 := q23_0.keep Kq24
    have x24_F_b22_modCount := q23_1.keep Kq24 (ninS (Ne.symm ne_b21_b22) nin0)
    have x24_F_b22_elementData := q23_2.keep Kq24 (ninS (Ne.symm ne_b21_b22) nin0)
    have x24_F_b22_size := q23_3.keep Kq24 (ninS (Ne.symm ne_b21_b22) nin0)
    have EX24 := own_ext_keepL EX23 Kq24 (allS (hn0 ▸ g_b21) all0)
    have K24 := Keep.trans K23 Kq24 (allS (Or.inr sz_b21) all0)
    obtain ⟨cq25, kq25, q25a, q25b, q25c⟩ := isOf hZ (rfl : T24.heap = T24.heap) q24_0
    obtain ⟨v25, _, ⟨T25, L25, k25, n25⟩, -, X25, ⟨Lc25, hQ25, l25, y25, z25⟩, st25⟩ := X24.virtualBack hx (y := (⟨"com/example/cairn/cairn/plan/Stage$Output", "goesToCoordinator", "()Z"⟩ : MethodName)) (z := (⟨"com/example/cairn/cairn/plan/Stage$Output", "goesToCoordinator", "()Z"⟩ : MethodName)) hown (mvT hZ (hw _ (ow 218 rfl))) (mvT hZ (hw _ (ow 219 rfl))) (notFace_of_selects (args := #[]) (mvT hZ (hw _ (ow 221 rfl)))) (mvT hZ (hw _ (ow 221 rfl))) (mvT hZ (hw _ (ow 220 rfl))) (by decide) (backOf (W := 0) (rm_goes l Z a0 hw [] b21 z T24.heap n0 q24_1) hZ (hw _ (ow 222 rfl)) (hw _ (ow 112 rfl)) (by decide) (by decide)) q25a q25c (g := (mkF m 162 #[.val (.int p1), .val (.int p2), .val (.int (2 : Int32)), .val (.ref b1), .val (.ref b3), .val (.ref w_PARTIAL_GROUPS), .val (.int z), .val (.ref b3), .val (.int (0 : Int32)), .val (.ref b21), .unset, .unset, .unset, .unset] [(.ref b21)])) rfl (by rw [hml]; rfl) (Steps.refl _) (argsL := []) (rest := []) (lenOf pd_1 rfl) rfl (Nat.le_of_eq rfl) (hb hby at_162) (fun _ _ => ⟨rfl, (rfl : T24.heap = T24.heap), (by decide : 6 + 0 ≤ _), (by decide : 19 + 0 ≤ _)⟩)
    dsimp only [Pt.U, Pt.locs, Pt.cells, Pt.slots] at X25 l25 y25 z25 st25 hQ25
    subst y25 z25
    obtain ⟨hv25, Nq25, e25⟩ := hQ25
    obtain rfl : v25 = some (.int (0 : Int32)) := hv25.trans (congrArg some (congrArg Value.int (if_neg hc109_10)))
    have N25 : Fr n0 L25 := by rw [l25]; exact Fr.app N24 Nq25
    obtain ⟨T26, X26, e26, st26⟩ := getS2 X25 hx hZ hown (host := "") (Or.inl (hw _ (ow 238 rfl))) Via.refl e25 (S_w_PARTIAL_GROUPS.ext EX24) (g := (mkF m 199 #[.val (.int p1), .val (.int p2), .val (.int (2 : Int32)), .val (.ref b1), .val (.ref b3), .val (.ref w_PARTIAL_GROUPS), .val (.int z), .val (.ref b3), .val (.int (0 : Int32)), .val (.ref b21), .val (.int (1 : Int32)), .unset, .unset, .unset] [])) rfl (hb hby at_199)
    obtain ⟨v27, _, ⟨T27, L27, k27, n27⟩, -, X27, ⟨Lc27, hQ27, l27, y27, z27⟩, st27⟩ := Jvm.LawKit.callS X26 hx (y := (⟨"com/example/cairn/cairn/plan/Stage$Output", "toCoordinator", "(Lcom/example/cairn/cairn/plan/Stage$Shape;Lcom/example/cairn/cairn/plan/Grouping;)Lcom/example/cairn/cairn/plan/Stage$Output;"⟩ : MethodName)) hown (mvT hZ (hw _ (ow 225 rfl))) (mvT hZ (hw _ (ow 226 rfl))) (mvT hZ (hw _ (ow 112 rfl))) (mvT hZ (hw _ (ow 227 rfl))) (by decide) (backOf (W := 0) (rm_toC_PARTIAL_GROUPS l Z a0 hw [] b3 T24.heap n0 w_ROWS w_RESULT w_PARTIAL_GROUPS w_MERGED_GROUPS w_D w_EL w_EE w_C w_EM w_M hK hn0 EX24) hZ (hw _ (ow 227 rfl)) (hw _ (ow 112 rfl)) (by decide) (by decide)) (g := (mkF m 223 #[.val (.int p1), .val (.int p2), .val (.int (2 : Int32)), .val (.ref b1), .val (.ref b3), .val (.ref w_PARTIAL_GROUPS), .val (.int z), .val (.ref b3), .val (.int (0 : Int32)), .val (.ref b21), .val (.int (1 : Int32)), .val (.ref w_PARTIAL_GROUPS), .val (.ref b3), .unset] [(.ref b3), (.ref w_PARTIAL_GROUPS)])) rfl (by rw [hml]; rfl) (argsL := [(.ref w_PARTIAL_GROUPS), (.ref b3)]) (rest := []) (lenOf pd_19 rfl) rfl (Nat.le_of_eq rfl) (hb hby at_223) (fun _ _ => ⟨rfl, e26, (by decide : 6 + 1 ≤ _), (by decide : 19 + 5 ≤ _)⟩)
    dsimp only [Pt.U, Pt.locs, Pt.cells, Pt.slots] at X27 l27 y27 z27 st27 hQ27
    subst y27 z27
    obtain ⟨r27, hv27, sy27, Nq27, Kq27, q27_0, q27_1⟩ := hQ27
    obtain rfl : v27 = some (.ref r27) := hv27
    have ne_b21_r27 : b21 ≠ r27 := Nat.ne_of_lt (Nat.lt_of_lt_of_le q24_0.lt sy27)
    have sz_r27 : h0.size ≤ r27 := Nat.le_trans K24.1 sy27
    have g_r27 : n0 ≤ r27 := hn0 ▸ Nat.le_trans EX24.1 sy27
    have N27 : Fr n0 L27 := by rw [l27]; exact Fr.app N25 Nq27
    have x27_E_b21 := q24_0.keep Kq27
    have x27_F_b21_buckets := q24_1.keep Kq27 nin0
    have EX27 := own_ext_keepL EX24 Kq27 all0
    have K27 := Keep.trans K24 Kq27 all0
    obtain ⟨cq28, kq28, q28a, q28b, q28c⟩ := isOf hZ (rfl : T27.heap = T27.heap) q27_0
    obtain ⟨v28, _, ⟨T28, L28, k28, n28⟩, -, X28, ⟨Lc28, hQ28, l28, y28, z28⟩, st28⟩ := X27.virtualBack hx (y := (⟨"com/example/cairn/cairn/plan/Stage$Output", "goesToCoordinator", "()Z"⟩ : MethodName)) (z := (⟨"com/example/cairn/cairn/plan/Stage$Output", "goesToCoordinator", "()Z"⟩ : MethodName)) hown (mvT hZ (hw _ (ow 218 rfl))) (mvT hZ (hw _ (ow 219 rfl))) (notFace_of_selects (args := #[]) (mvT hZ (hw _ (ow 221 rfl)))) (mvT hZ (hw _ (ow 221 rfl))) (mvT hZ (hw _ (ow 220 rfl))) (by decide) (backOf (W := 0) (rm_goes l Z a0 hw [] r27 (0 : Int32) T27.heap n0 q27_1) hZ (hw _ (ow 222 rfl)) (hw _ (ow 112 rfl)) (by decide) (by decide)) q28a q28c (g := (mkF m 235 #[.val (.int p1), .val (.int p2), .val (.int (2 : Int32)), .val (.ref b1), .val (.ref b3), .val (.ref w_PARTIAL_GROUPS), .val (.int z), .val (.ref b3), .val (.int (0 : Int32)), .val (.ref b21), .val (.int (1 : Int32)), .val (.ref w_PARTIAL_GROUPS), .val (.ref b3), .val (.ref r27)] [(.ref r27)])) rfl (by rw [hml]; rfl) (Steps.refl _) (argsL := []) (rest := []) (lenOf pd_1 rfl) rfl (Nat.le_of_eq rfl) (hb hby at_235) (fun _ _ => ⟨rfl, (rfl : T27.heap = T27.heap), (by decide : 7 + 0 ≤ _), (by decide : 24 + 0 ≤ _)⟩)
    dsimp only [Pt.U, Pt.locs, Pt.cells, Pt.slots] at X28 l28 y28 z28 st28 hQ28
    subst y28 z28
    obtain ⟨hv28, Nq28, e28⟩ := hQ28
    obtain rfl : v28 = some (.int (1 : Int32)) := hv28.trans (congrArg some (congrArg Value.int (if_pos (by decide))))
    have N28 : Fr n0 L28 := by rw [l28]; exact Fr.app N27 Nq28
    have pre29 : ∀ t, Steps p.tables e below (T28.setTop (mkF m 246 #[.val (.int p1), .val (.int p2), .val (.int (2 : Int32)), .val (.ref b1), .val (.ref b3), .val (.ref w_PARTIAL_GROUPS), .val (.int z), .val (.ref b3), .val (.int (0 : Int32)), .val (.ref b21), .val (.int (1 : Int32)), .val (.ref w_PARTIAL_GROUPS), .val (.ref b3), .val (.ref r27)] [(.int (1 : Int32))])) t → Steps p.tables e below (s₁.setTop (entryFrame m #[(.int p1), (.int p2)] maxLocals)) t := fun t k => pre11 t (by
      show Steps p.tables e below (T9.setTop (mkF m 109 #[.val (.int p1), .val (.int p2), .val (.int (2 : Int32)), .val (.ref b1), .val (.ref b3), .val (.ref w_PARTIAL_GROUPS), .val (.int z), .val (.ref b3), .unset, .unset, .unset, .unset, .unset, .unset] [(.int z)])) _
      refine XS.ifYes X9.here hx rfl (pc0 := 109) (pc' := 116) rfl (hb hby at_109) rfl ((if0 _ _).trans (feq hc109_10).2) (by decide) (by decide) ?_
      show Steps p.tables e below (T9.setTop (mkF m 116 #[.val (.int p1), .val (.int p2), .val (.int (2 : Int32)), .val (.ref b1), .val (.ref b3), .val (.ref w_PARTIAL_GROUPS), .val (.int z), .val (.ref b3), .unset, .unset, .unset, .unset, .unset, .unset] [])) _
      refine XS.iconst X9.here hx rfl (hb hby at_116) ?_
      show Steps p.tables e below (T9.setTop (mkF m 117 #[.val (.int p1), .val (.int p2), .val (.int (2 : Int32)), .val (.ref b1), .val (.ref b3), .val (.ref w_PARTIAL_GROUPS), .val (.int z), .val (.ref b3), .unset, .unset, .unset, .unset, .unset, .unset] [(.int (0 : Int32))])) _
      refine XS.istore X9.here hx rfl (hb hby at_117) rfl (l' := #[.val (.int p1), .val (.int p2), .val (.int (2 : Int32)), .val (.ref b1), .val (.ref b3), .val (.ref w_PARTIAL_GROUPS), .val (.int z), .val (.ref b3), .val (.int (0 : Int32)), .unset, .unset, .unset, .unset, .unset]) rfl ?_
      show Steps p.tables e below (T9.setTop (mkF m 119 #[.val (.int p1), .val (.int p2), .val (.int (2 : Int32)), .val (.ref b1), .val (.ref b3), .val (.ref w_PARTIAL_GROUPS), .val (.int z), .val (.ref b3), .val (.int (0 : Int32)), .unset, .unset, .unset, .unset, .unset] [])) _
      refine XS.goto X9.here hx rfl (pc0 := 119) (pc' := 137) rfl (hb hby at_119) (by decide) (by decide) ?_
      show Steps p.tables e below (T9.setTop (mkF m 137 #[.val (.int p1), .val (.int p2), .val (.int (2 : Int32)), .val (.ref b1), .val (.ref b3), .val (.ref w_PARTIAL_GROUPS), .val (.int z), .val (.ref b3), .val (.int (0 : Int32)), .unset, .unset, .unset, .unset, .unset] [])) _
      refine st21 _ ?_
      show Steps p.tables e below (T21.setTop (mkF m 140 #[.val (.int p1), .val (.int p2), .val (.int (2 : Int32)), .val (.ref b1), .val (.ref b3), .val (.ref w_PARTIAL_GROUPS), .val (.int z), .val (.ref b3), .val (.int (0 : Int32)), .unset, .unset, .unset, .unset, .unset] [(.ref b21)])) _
      refine XS.dup X21.here hx rfl (hb hby at_140) rfl rfl ?_
      show Steps p.tables e below (T21.setTop (mkF m 141 #[.val (.int p1), .val (.int p2), .val (.int (2 : Int32)), .val (.ref b1), .val (.ref b3), .val (.ref w_PARTIAL_GROUPS), .val (.int z), .val (.ref b3), .val (.int (0 : Int32)), .unset, .unset, .unset, .unset, .unset] [(.ref b21), (.ref b21)])) _
      refine XS.aload X21.here hx rfl (hb hby at_141) rfl rfl ?_
      show Steps p.tables e below (T21.setTop (mkF m 143 #[.val (.int p1), .val (.int p2), .val (.int (2 : Int32)), .val (.ref b1), .val (.ref b3), .val (.ref w_PARTIAL_GROUPS), .val (.int z), .val (.ref b3), .val (.int (0 : Int32)), .unset, .unset, .unset, .unset, .unset] [(.ref w_PARTIAL_GROUPS), (.ref b21), (.ref b21)])) _
      refine XS.aloadN X21.here hx rfl (hb hby at_143) rfl rfl ?_
      show Steps p.tables e below (T21.setTop (mkF m 144 #[.val (.int p1), .val (.int p2), .val (.int (2 : Int32)), .val (.ref b1), .val (.ref b3), .val (.ref w_PARTIAL_GROUPS), .val (.int z), .val (.ref b3), .val (.int (0 : Int32)), .unset, .unset, .unset, .unset, .unset] [(.ref b1), (.ref w_PARTIAL_GROUPS), (.ref b21), (.ref b21)])) _
      refine XS.iload X21.here hx rfl (hb hby at_144) rfl ?_
      show Steps p.tables e below (T21.setTop (mkF m 146 #[.val (.int p1), .val (.int p2), .val (.int (2 : Int32)), .val (.ref b1), .val (.ref b3), .val (.ref w_PARTIAL_GROUPS), .val (.int z), .val (.ref b3), .val (.int (0 : Int32)), .unset, .unset, .unset, .unset, .unset] [(.int z), (.ref b1), (.ref w_PARTIAL_GROUPS), (.ref b21), (.ref b21)])) _
      refine st22 _ ?_
      show Steps p.tables e below (T22.setTop (mkF m 149 #[.val (.int p1), .val (.int p2), .val (.int (2 : Int32)), .val (.ref b1), .val (.ref b3), .val (.ref w_PARTIAL_GROUPS), .val (.int z), .val (.ref b3), .val (.int (0 : Int32)), .unset, .unset, .unset, .unset, .unset] [(.ref b22), (.int z), (.ref b1), (.ref w_PARTIAL_GROUPS), (.ref b21), (.ref b21)])) _
      refine XS.dup X22.here hx rfl (hb hby at_149) rfl rfl ?_
      show Steps p.tables e below (T22.setTop (mkF m 150 #[.val (.int p1), .val (.int p2), .val (.int (2 : Int32)), .val (.ref b1), .val (.ref b3), .val (.ref w_PARTIAL_GROUPS), .val (.int z), .val (.ref b3), .val (.int (0 : Int32)), .unset, .unset, .unset, .unset, .unset] [(.ref b22), (.ref b22), (.int z), (.ref b1), (.ref w_PARTIAL_GROUPS), (.ref b21), (.ref b21)])) _
      refine st23.trans ?_
      show Steps p.tables e below (T23.setTop (mkF m 153 #[.val (.int p1), .val (.int p2), .val (.int (2 : Int32)), .val (.ref b1), .val (.ref b3), .val (.ref w_PARTIAL_GROUPS), .val (.int z), .val (.ref b3), .val (.int (0 : Int32)), .unset, .unset, .unset, .unset, .unset] [(.ref b22), (.int z), (.ref b1), (.ref w_PARTIAL_GROUPS), (.ref b21), (.ref b21)])) _
      refine XS.aload X23.here hx rfl (hb hby at_153) rfl rfl ?_
      show Steps p.tables e below (T23.setTop (mkF m 155 #[.val (.int p1), .val (.int p2), .val (.int (2 : Int32)), .val (.ref b1), .val (.ref b3), .val (.ref w_PARTIAL_GROUPS), .val (.int z), .val (.ref b3), .val (.int (0 : Int32)), .unset, .unset, .unset, .unset, .unset] [(.ref b3), (.ref b22), (.int z), (.ref b1), (.ref w_PARTIAL_GROUPS), (.ref b21), (.ref b21)])) _
      refine st24.trans ?_
      show Steps p.tables e below (T24.setTop (mkF m 158 #[.val (.int p1), .val (.int p2), .val (.int (2 : Int32)), .val (.ref b1), .val (.ref b3), .val (.ref w_PARTIAL_GROUPS), .val (.int z), .val (.ref b3), .val (.int (0 : Int32)), .unset, .unset, .unset, .unset, .unset] [(.ref b21)])) _
      refine XS.astore X24.here hx rfl (hb hby at_158) rfl rfl (l' := #[.val (.int p1), .val (.int p2), .val (.int (2 : Int32)), .val (.ref b1), .val (.ref b3), .val (.ref w_PARTIAL_GROUPS), .val (.int z), .val (.ref b3), .val (.int (0 : Int32)), .val (.ref b21), .unset, .unset, .unset, .unset]) rfl ?_
      show Steps p.tables e below (T24.setTop (mkF m 160 #[.val (.int p1), .val (.int p2), .val (.int (2 : Int32)), .val (.ref b1), .val (.ref b3), .val (.ref w_PARTIAL_GROUPS), .val (.int z), .val (.ref b3), .val (.int (0 : Int32)), .val (.ref b21), .unset, .unset, .unset, .unset] [])) _
      refine XS.aload X24.here hx rfl (hb hby at_160) rfl rfl ?_
      show Steps p.tables e below (T24.setTop (mkF m 162 #[.val (.int p1), .val (.int p2), .val (.int (2 : Int32)), .val (.ref b1), .val (.ref b3), .val (.ref w_PARTIAL_GROUPS), .val (.int z), .val (.ref b3), .val (.int (0 : Int32)), .val (.ref b21), .unset, .unset, .unset, .unset] [(.ref b21)])) _
      refine st25.trans ?_
      show Steps p.tables e below (T25.setTop (mkF m 165 #[.val (.int p1), .val (.int p2), .val (.int (2 : Int32)), .val (.ref b1), .val (.ref b3), .val (.ref w_PARTIAL_GROUPS), .val (.int z), .val (.ref b3), .val (.int (0 : Int32)), .val (.ref b21), .unset, .unset, .unset, .unset] [(.int (0 : Int32))])) _
      refine XS.iload X25.here hx rfl (hb hby at_165) rfl ?_
      show Steps p.tables e below (T25.setTop (mkF m 167 #[.val (.int p1), .val (.int p2), .val (.int (2 : Int32)), .val (.ref b1), .val (.ref b3), .val (.ref w_PARTIAL_GROUPS), .val (.int z), .val (.ref b3), .val (.int (0 : Int32)), .val (.ref b21), .unset, .unset, .unset, .unset] [(.int (0 : Int32)), (.int (0 : Int32))])) _
      refine XS.icmpNo X25.here hx rfl (hb hby at_167) rfl (teq (by decide)).2 ?_
      show Steps p.tables e below (T25.setTop (mkF m 170 #[.val (.int p1), .val (.int p2), .val (.int (2 : Int32)), .val (.ref b1), .val (.ref b3), .val (.ref w_PARTIAL_GROUPS), .val (.int z), .val (.ref b3), .val (.int (0 : Int32)), .val (.ref b21), .unset, .unset, .unset, .unset] [])) _
      refine XS.iconst X25.here hx rfl (hb hby at_170) ?_
      show Steps p.tables e below (T25.setTop (mkF m 171 #[.val (.int p1), .val (.int p2), .val (.int (2 : Int32)), .val (.ref b1), .val (.ref b3), .val (.ref w_PARTIAL_GROUPS), .val (.int z), .val (.ref b3), .val (.int (0 : Int32)), .val (.ref b21), .unset, .unset, .unset, .unset] [(.int (1 : Int32))])) _
      refine XS.goto X25.here hx rfl (pc0 := 171) (pc' := 175) rfl (hb hby at_171) (by decide) (by decide) ?_
      show Steps p.tables e below (T25.setTop (mkF m 175 #[.val (.int p1), .val (.int p2), .val (.int (2 : Int32)), .val (.ref b1), .val (.ref b3), .val (.ref w_PARTIAL_GROUPS), .val (.int z), .val (.ref b3), .val (.int (0 : Int32)), .val (.ref b21), .unset, .unset, .unset, .unset] [(.int (1 : Int32))])) _
      refine XS.istore X25.here hx rfl (hb hby at_175) rfl (l' := #[.val (.int p1), .val (.int p2), .val (.int (2 : Int32)), .val (.ref b1), .val (.ref b3), .val (.ref w_PARTIAL_GROUPS), .val (.int z), .val (.ref b3), .val (.int (0 : Int32)), .val (.ref b21), .val (.int (1 : Int32)), .unset, .unset, .unset]) rfl ?_
      show Steps p.tables e below (T25.setTop (mkF m 177 #[.val (.int p1), .val (.int p2), .val (.int (2 : Int32)), .val (.ref b1), .val (.ref b3), .val (.ref w_PARTIAL_GROUPS), .val (.int z), .val (.ref b3), .val (.int (0 : Int32)), .val (.ref b21), .val (.int (1 : Int32)), .unset, .unset, .unset] [])) _
      refine XS.iloadN X25.here hx rfl (hb hby at_177) rfl ?_
      show Steps p.tables e below (T25.setTop (mkF m 178 #[.val (.int p1), .val (.int p2), .val (.int (2 : Int32)), .val (.ref b1), .val (.ref b3), .val (.ref w_PARTIAL_GROUPS), .val (.int z), .val (.ref b3), .val (.int (0 : Int32)), .val (.ref b21), .val (.int (1 : Int32)), .unset, .unset, .unset] [(.int (2 : Int32))])) _
      refine XS.iconst X25.here hx rfl (hb hby at_178) ?_
      show Steps p.tables e below (T25.setTop (mkF m 179 #[.val (.int p1), .val (.int p2), .val (.int (2 : Int32)), .val (.ref b1), .val (.ref b3), .val (.ref w_PARTIAL_GROUPS), .val (.int z), .val (.ref b3), .val (.int (0 : Int32)), .val (.ref b21), .val (.int (1 : Int32)), .unset, .unset, .unset] [(.int (3 : Int32)), (.int (2 : Int32))])) _
      refine XS.icmpYes X25.here hx rfl (pc0 := 179) (pc' := 194) rfl (hb hby at_179) rfl (feq (by decide)).2 (by decide) (by decide) ?_
      show Steps p.tables e below (T25.setTop (mkF m 194 #[.val (.int p1), .val (.int p2), .val (.int (2 : Int32)), .val (.ref b1), .val (.ref b3), .val (.ref w_PARTIAL_GROUPS), .val (.int z), .val (.ref b3), .val (.int (0 : Int32)), .val (.ref b21), .val (.int (1 : Int32)), .unset, .unset, .unset] [])) _
      refine XS.iloadN X25.here hx rfl (hb hby at_194) rfl ?_
      show Steps p.tables e below (T25.setTop (mkF m 195 #[.val (.int p1), .val (.int p2), .val (.int (2 : Int32)), .val (.ref b1), .val (.ref b3), .val (.ref w_PARTIAL_GROUPS), .val (.int z), .val (.ref b3), .val (.int (0 : Int32)), .val (.ref b21), .val (.int (1 : Int32)), .unset, .unset, .unset] [(.int (2 : Int32))])) _
      refine XS.iconst X25.here hx rfl (hb hby at_195) ?_
      show Steps p.tables e below (T25.setTop (mkF m 196 #[.val (.int p1), .val (.int p2), .val (.int (2 : Int32)), .val (.ref b1), .val (.ref b3), .val (.ref w_PARTIAL_GROUPS), .val (.int z), .val (.ref b3), .val (.int (0 : Int32)), .val (.ref b21), .val (.int (1 : Int32)), .unset, .unset, .unset] [(.int (2 : Int32)), (.int (2 : Int32))])) _
      refine XS.icmpNo X25.here hx rfl (hb hby at_196) rfl (teq (by decide)).2 ?_
      show Steps p.tables e below (T25.setTop (mkF m 199 #[.val (.int p1), .val (.int p2), .val (.int (2 : Int32)), .val (.ref b1), .val (.ref b3), .val (.ref w_PARTIAL_GROUPS), .val (.int z), .val (.ref b3), .val (.int (0 : Int32)), .val (.ref b21), .val (.int (1 : Int32)), .unset, .unset, .unset] [])) _
      refine st26 _ ?_
      show Steps p.tables e below (T26.setTop (mkF m 202 #[.val (.int p1), .val (.int p2), .val (.int (2 : Int32)), .val (.ref b1), .val (.ref b3), .val (.ref w_PARTIAL_GROUPS), .val (.int z), .val (.ref b3), .val (.int (0 : Int32)), .val (.ref b21), .val (.int (1 : Int32)), .unset, .unset, .unset] [(.ref w_PARTIAL_GROUPS)])) _
      refine XS.astore X26.here hx rfl (hb hby at_202) rfl rfl (l' := #[.val (.int p1), .val (.int p2), .val (.int (2 : Int32)), .val (.ref b1), .val (.ref b3), .val (.ref w_PARTIAL_GROUPS), .val (.int z), .val (.ref b3), .val (.int (0 : Int32)), .val (.ref b21), .val (.int (1 : Int32)), .val (.ref w_PARTIAL_GROUPS), .unset, .unset]) rfl ?_
      show Steps p.tables e below (T26.setTop (mkF m 204 #[.val (.int p1), .val (.int p2), .val (.int (2 : Int32)), .val (.ref b1), .val (.ref b3), .val (.ref w_PARTIAL_GROUPS), .val (.int z), .val (.ref b3), .val (.int (0 : Int32)), .val (.ref b21), .val (.int (1 : Int32)), .val (.ref w_PARTIAL_GROUPS), .unset, .unset] [])) _
      refine XS.aload X26.here hx rfl (hb hby at_204) rfl rfl ?_
      show Steps p.tables e below (T26.setTop (mkF m 206 #[.val (.int p1), .val (.int p2), .val (.int (2 : Int32)), .val (.ref b1), .val (.ref b3), .val (.ref w_PARTIAL_GROUPS), .val (.int z), .val (.ref b3), .val (.int (0 : Int32)), .val (.ref b21), .val (.int (1 : Int32)), .val (.ref w_PARTIAL_GROUPS), .unset, .unset] [(.ref b3)])) _
      refine XS.astore X26.here hx rfl (hb hby at_206) rfl rfl (l' := #[.val (.int p1), .val (.int p2), .val (.int (2 : Int32)), .val (.ref b1), .val (.ref b3), .val (.ref w_PARTIAL_GROUPS), .val (.int z), .val (.ref b3), .val (.int (0 : Int32)), .val (.ref b21), .val (.int (1 : Int32)), .val (.ref w_PARTIAL_GROUPS), .val (.ref b3), .unset]) rfl ?_
      show Steps p.tables e below (T26.setTop (mkF m 208 #[.val (.int p1), .val (.int p2), .val (.int (2 : Int32)), .val (.ref b1), .val (.ref b3), .val (.ref w_PARTIAL_GROUPS), .val (.int z), .val (.ref b3), .val (.int (0 : Int32)), .val (.ref b21), .val (.int (1 : Int32)), .val (.ref w_PARTIAL_GROUPS), .val (.ref b3), .unset] [])) _
      refine XS.goto X26.here hx rfl (pc0 := 208) (pc' := 219) rfl (hb hby at_208) (by decide) (by decide) ?_
      show Steps p.tables e below (T26.setTop (mkF m 219 #[.val (.int p1), .val (.int p2), .val (.int (2 : Int32)), .val (.ref b1), .val (.ref b3), .val (.ref w_PARTIAL_GROUPS), .val (.int z), .val (.ref b3), .val (.int (0 : Int32)), .val (.ref b21), .val (.int (1 : Int32)), .val (.ref w_PARTIAL_GROUPS), .val (.ref b3), .unset] [])) _
      refine XS.aload X26.here hx rfl (hb hby at_219) rfl rfl ?_
      show Steps p.tables e below (T26.setTop (mkF m 221 #[.val (.int p1), .val (.int p2), .val (.int (2 : Int32)), .val (.ref b1), .val (.ref b3), .val (.ref w_PARTIAL_GROUPS), .val (.int z), .val (.ref b3), .val (.int (0 : Int32)), .val (.ref b21), .val (.int (1 : Int32)), .val (.ref w_PARTIAL_GROUPS), .val (.ref b3), .unset] [(.ref w_PARTIAL_GROUPS)])) _
      refine XS.aload X26.here hx rfl (hb hby at_221) rfl rfl ?_
      show Steps p.tables e below (T26.setTop (mkF m 223 #[.val (.int p1), .val (.int p2), .val (.int (2 : Int32)), .val (.ref b1), .val (.ref b3), .val (.ref w_PARTIAL_GROUPS), .val (.int z), .val (.ref b3), .val (.int (0 : Int32)), .val (.ref b21), .val (.int (1 : Int32)), .val (.ref w_PARTIAL_GROUPS), .val (.ref b3), .unset] [(.ref b3), (.ref w_PARTIAL_GROUPS)])) _
      refine st27 _ ?_
      show Steps p.tables e below (T27.setTop (mkF m 226 #[.val (.int p1), .val (.int p2), .val (.int (2 : Int32)), .val (.ref b1), .val (.ref b3), .val (.ref w_PARTIAL_GROUPS), .val (.int z), .val (.ref b3), .val (.int (0 : Int32)), .val (.ref b21), .val (.int (1 : Int32)), .val (.ref w_PARTIAL_GROUPS), .val (.ref b3), .unset] [(.ref r27)])) _
      refine XS.astore X27.here hx rfl (hb hby at_226) rfl rfl (l' := #[.val (.int p1), .val (.int p2), .val (.int (2 : Int32)), .val (.ref b1), .val (.ref b3), .val (.ref w_PARTIAL_GROUPS), .val (.int z), .val (.ref b3), .val (.int (0 : Int32)), .val (.ref b21), .val (.int (1 : Int32)), .val (.ref w_PARTIAL_GROUPS), .val (.ref b3), .val (.ref r27)]) rfl ?_
      show Steps p.tables e below (T27.setTop (mkF m 228 #[.val (.int p1), .val (.int p2), .val (.int (2 : Int32)), .val (.ref b1), .val (.ref b3), .val (.ref w_PARTIAL_GROUPS), .val (.int z), .val (.ref b3), .val (.int (0 : Int32)), .val (.ref b21), .val (.int (1 : Int32)), .val (.ref w_PARTIAL_GROUPS), .val (.ref b3), .val (.ref r27)] [])) _
      refine XS.iload X27.here hx rfl (hb hby at_228) rfl ?_
      show Steps p.tables e below (T27.setTop (mkF m 230 #[.val (.int p1), .val (.int p2), .val (.int (2 : Int32)), .val (.ref b1), .val (.ref b3), .val (.ref w_PARTIAL_GROUPS), .val (.int z), .val (.ref b3), .val (.int (0 : Int32)), .val (.ref b21), .val (.int (1 : Int32)), .val (.ref w_PARTIAL_GROUPS), .val (.ref b3), .val (.ref r27)] [(.int (1 : Int32))])) _
      refine XS.ifNo X27.here hx rfl (hb hby at_230) rfl ((if0 _ _).trans (feq (by decide)).1) ?_
      show Steps p.tables e below (T27.setTop (mkF m 233 #[.val (.int p1), .val (.int p2), .val (.int (2 : Int32)), .val (.ref b1), .val (.ref b3), .val (.ref w_PARTIAL_GROUPS), .val (.int z), .val (.ref b3), .val (.int (0 : Int32)), .val (.ref b21), .val (.int (1 : Int32)), .val (.ref w_PARTIAL_GROUPS), .val (.ref b3), .val (.ref r27)] [])) _
      refine XS.aload X27.here hx rfl (hb hby at_233) rfl rfl ?_
      show Steps p.tables e below (T27.setTop (mkF m 235 #[.val (.int p1), .val (.int p2), .val (.int (2 : Int32)), .val (.ref b1), .val (.ref b3), .val (.ref w_PARTIAL_GROUPS), .val (.int z), .val (.ref b3), .val (.int (0 : Int32)), .val (.ref b21), .val (.int (1 : Int32)), .val (.ref w_PARTIAL_GROUPS), .val (.ref b3), .val (.ref r27)] [(.ref r27)])) _
      refine st28.trans ?_
      show Steps p.tables e below (T28.setTop (mkF m 238 #[.val (.int p1), .val (.int p2), .val (.int (2 : Int32)), .val (.ref b1), .val (.ref b3), .val (.ref w_PARTIAL_GROUPS), .val (.int z), .val (.ref b3), .val (.int (0 : Int32)), .val (.ref b21), .val (.int (1 : Int32)), .val (.ref w_PARTIAL_GROUPS), .val (.ref b3), .val (.ref r27)] [(.int (1 : Int32))])) _
      refine XS.ifNo X28.here hx rfl (hb hby at_238) rfl ((if0 _ _).trans (feq (by decide)).1) ?_
      show Steps p.tables e below (T28.setTop (mkF m 241 #[.val (.int p1), .val (.int p2), .val (.int (2 : Int32)), .val (.ref b1), .val (.ref b3), .val (.ref w_PARTIAL_GROUPS), .val (.int z), .val (.ref b3), .val (.int (0 : Int32)), .val (.ref b21), .val (.int (1 : Int32)), .val (.ref w_PARTIAL_GROUPS), .val (.ref b3), .val (.ref r27)] [])) _
      refine XS.iconst X28.here hx rfl (hb hby at_241) ?_
      show Steps p.tables e below (T28.setTop (mkF m 242 #[.val (.int p1), .val (.int p2), .val (.int (2 : Int32)), .val (.ref b1), .val (.ref b3), .val (.ref w_PARTIAL_GROUPS), .val (.int z), .val (.ref b3), .val (.int (0 : Int32)), .val (.ref b21), .val (.int (1 : Int32)), .val (.ref w_PARTIAL_GROUPS), .val (.ref b3), .val (.ref r27)] [(.int (1 : Int32))])) _
      refine XS.goto X28.here hx rfl (pc0 := 242) (pc' := 246) rfl (hb hby at_242) (by decide) (by decide) ?_
      exact k)
    obtain ⟨fs, hr, hrun, hended, hW, hsame⟩ := X28.leave (v := some (.int (1 : Int32))) (fun h => by rw [Bd.returns] at h; cases h)
    refine ⟨_, _, pre29 _ ?_, hrun, hended, _, _, rfl, ?_, ⟨_, rfl⟩, hW, hsame.mono (by decide) (by decide)⟩
    · show Steps p.tables e below (T28.setTop (mkF m 246 #[.val (.int p1), .val (.int p2), .val (.int (2 : Int32)), .val (.ref b1), .val (.ref b3), .val (.ref w_PARTIAL_GROUPS), .val (.int z), .val (.ref b3), .val (.int (0 : Int32)), .val (.ref b21), .val (.int (1 : Int32)), .val (.ref w_PARTIAL_GROUPS), .val (.ref b3), .val (.ref r27)] [(.int (1 : Int32))])) _
      exact retN X28 hx (t := .boolean) Bd.returns (by simp) (hb hby at_246) hr
    · exact ⟨rfl, N28, trivial⟩
theorem ef_law3 (m : MethodId) (x0 : Int32) (x1 : Int32) : entryFrame m #[(.int x0), (.int x1)] maxLocals = mkF m 0 #[.val (.int x0), .val (.int x1), .unset, .unset, .unset, .unset, .unset, .unset, .unset, .unset, .unset, .unset, .unset, .unset] [] := by first | (simp [entryFrame, mkF, argsToLocals, Value.category, maxLocals]; done) | rfl
set_option maxRecDepth 65536 in
set_option maxHeartbeats 40000000 in
theorem rm_law3 (l : Launch) (Z : State) (a0 : Array Value) (hw : ∀ d ∈ tables_1, d.before a0 Z = true) (ws : List Jvm.Cond) (p1 : Int32) (p2 : Int32) (h0 : Heap) (n0 : Nat) (w_ROWS w_RESULT w_PARTIAL_GROUPS w_MERGED_GROUPS w_D w_EL w_EE w_C w_EM w_M : Addr) (hK : own_K Z Z.heap w_ROWS w_RESULT w_PARTIAL_GROUPS w_MERGED_GROUPS w_D w_EL w_EE w_C w_EM w_M) (hn0 : n0 = Z.heap.size) (EX0 : Ext Z.heap h0) (hk : (p1 &&& (3 : Int32)) = (3 : Int32)) :
    MetFree l x (head1 (Jvm.Cond.code x code maxLocals ret :: ws) room_1) (fun a U => a = #[(.int p1), (.int p2)] ∧ Z.Warmed39 U.vm ∧ U.heap = h0) (fun _ _ _ _ _ => True) (fun _ U o U' => ∃ v L, o = .returned v ∧ own_QH (some (.int (1 : Int32))) n0 v U'.heap L ∧ FrameEnd U o U' L room_1.cells room_1.slots) := by
  refine MetFree.of_bodySF (plainFor_of_name pn_17) hisR ?_
  intro p e s m args below meth c s₁ Bd hml0 hP hK0
  obtain ⟨rfl, hZ, hh⟩ := hP
  have hx := Bd.exec
  have hby := Bd.bytes
  have hml : c.maxLocals = 14 := hml0
  have hown : s.vm.findClass "com/example/cairn/cairn/plan/OutputGoesToCoordinatorPinLaw" = some m.cls := findClass_of_methodNamed Bd.named
  have hnm := (name_of_methodNamed Bd.named Bd.method).1
  have X0 : Stand p l e room_1 s m #[(.int p1), (.int p2)] below meth c s₁ [] 0 0 := Stand.of_body Bd
  have e0 : s₁.heap = h0 := by rw [← hh, Bd.state]; rfl
  have N0 := Fr.nil n0
  have pre0 : ∀ t, Steps p.tables e below (s₁.setTop (mkF m 0 #[.val (.int p1), .val (.int p2), .unset, .unset, .unset, .unset, .unset, .unset, .unset, .unset, .unset, .unset, .unset, .unset] [])) t → Steps p.tables e below (s₁.setTop (entryFrame m #[(.int p1), (.int p2)] maxLocals)) t := fun t k => castTop (ef_law3 m p1 p2) k
  have hK' := hK
  obtain ⟨S_w_ROWS, E_w_ROWS, F_ordinal_w_ROWS, S_w_RESULT, E_w_RESULT, F_ordinal_w_RESULT, S_w_PARTIAL_GROUPS, E_w_PARTIAL_GROUPS, F_ordinal_w_PARTIAL_GROUPS, S_w_MERGED_GROUPS, E_w_MERGED_GROUPS, F_ordinal_w_MERGED_GROUPS, S_w_D, B_w_D, S_w_EL, E_w_EL, F_elements_w_EL, B_w_EE, F_allowNulls_w_EL, S_high, S_w_C, C_w_C, S_w_EM, M_w_M⟩ := hK'
  obtain ⟨cl_w_D, A_w_D, q_w_D⟩ := B_w_D
  obtain ⟨cl_w_EE, A_w_EE, q_w_EE⟩ := B_w_EE
  obtain ⟨T1, h1, X1, e1, Eq1, A1, D1, -, st1⟩ := newO X0 hx hZ hown (hw _ (ow 0 rfl)) (hw _ (ow 1 rfl)) (hw _ (ow 2 rfl)) e0 (g := (mkF m 4 #[.val (.int p1), .val (.int p2), .val (.int (3 : Int32)), .unset, .unset, .unset, .unset, .unset, .unset, .unset, .unset, .unset, .unset, .unset] [])) rfl (hb hby at_4) (by decide) (by decide)
  obtain ⟨b1, gb1⟩ : ∃ z, z = h0.size := ⟨_, rfl⟩
  rw [← gb1] at A1 D1 st1
  have sz_b1 : h0.size ≤ b1 := Nat.le_trans (Keep.refl h0 []).1 (Nat.le_of_eq gb1.symm)
  have g_b1 : n0 ≤ b1 := hn0 ▸ Nat.le_trans EX0.1 (Nat.le_of_eq gb1.symm)
  have EX1 := own_ext_trans EX0 Eq1
  have K1 := Keep.ext (Keep.refl h0 []) Eq1
  have F1_modCount : Fld Z h1 b1 "java/util/AbstractList" "modCount" "I" (.int (0 : Int32)) := D1 (Or.inl (hw _ (ow 22 rfl))) (ty := .int) (by decide)
  have F1_elementData : Fld Z h1 b1 "java/util/ArrayList" "elementData" "[Ljava/lang/Object;" .null := D1 (Or.inl (hw _ (ow 25 rfl))) (ty := (.array (.object "java/lang/Object"))) (by decide)
  have F1_size : Fld Z h1 b1 "java/util/ArrayList" "size" "I" (.int (0 : Int32)) := D1 (Or.inl (hw _ (ow 62 rfl))) (ty := .int) (by decide)
  obtain ⟨v2, _, ⟨T2, L2, k2, n2⟩, -, X2, ⟨Lc2, hQ2, l2, y2, z2⟩, st2⟩ := X1.specialBack hx (y := (⟨"java/util/ArrayList", "<init>", "()V"⟩ : MethodName)) rfl hown (mvT hZ (hw _ (ow 3 rfl))) (mvT hZ (hw _ (ow 4 rfl))) (mvT hZ (hw _ (ow 5 rfl))) (by decide) (backOf (W := 1) (rm_alinit l Z a0 hw [] b1 h1 n0 w_ROWS w_RESULT w_PARTIAL_GROUPS w_MERGED_GROUPS w_D w_EL w_EE w_C w_EM w_M hK hn0 EX1 A1 g_b1 F1_modCount F1_elementData F1_size) hZ (hw _ (ow 5 rfl)) (hw _ (ow 2 rfl)) (by decide) (by decide)) (g := (mkF m 8 #[.val (.int p1), .val (.int p2), .val (.int (3 : Int32)), .unset, .unset, .unset, .unset, .unset, .unset, .unset, .unset, .unset, .unset, .unset] [(.ref b1), (.ref b1)])) rfl (by rw [hml]; rfl) (Steps.refl _) (a := b1) (argsL := []) (rest := [(.ref b1)]) (lenOf pd_0 rfl) rfl (Nat.le_of_eq rfl) (hb hby at_8) (fun _ _ => ⟨rfl, e1, (by decide : 1 + 0 ≤ _), (by decide : 3 + 0 ≤ _)⟩)
  dsimp only [Pt.U, Pt.locs, Pt.cells, Pt.slots] at X2 l2 y2 z2 st2 hQ2
  subst y2 z2
  obtain ⟨hv2, Nq2, Kq2, q2_0, q2_1, q2_2, q2_3⟩ := hQ2
  obtain rfl : v2 = none := hv2
  have N2 : Fr n0 L2 := by rw [l2]; exact Fr.app N0 Nq2
  have x2_E_b1 := A1.keep Kq2
  have EX2 := own_ext_keepL EX1 Kq2 (allS (hn0 ▸ g_b1) all0)
  have K2 := Keep.trans K1 Kq2 (allS (Or.inr sz_b1) all0)
  obtain ⟨T3, h3, X3, e3, Eq3, A3, D3, -, st3⟩ := newO X2 hx hZ hown (hw _ (ow 26 rfl)) (hw _ (ow 27 rfl)) (hw _ (ow 28 rfl)) (rfl : T2.heap = T2.heap) (g := (mkF m 12 #[.val (.int p1), .val (.int p2), .val (.int (3 : Int32)), .val (.ref b1), .unset, .unset, .unset, .unset, .unset, .unset, .unset, .unset, .unset, .unset] [])) rfl (hb hby at_12) (by decide) (by decide)
  obtain ⟨b3, gb3⟩ : ∃ z, z = T2.heap.size := ⟨_, rfl⟩
  rw [← gb3] at A3 D3 st3
  have ne_b1_b3 : b1 ≠ b3 := Nat.ne_of_lt (Nat.lt_of_lt_of_le q2_0.lt (Nat.le_of_eq gb3.symm))
  have sz_b3 : h0.size ≤ b3 := Nat.le_trans K2.1 (Nat.le_of_eq gb3.symm)
  have g_b3 : n0 ≤ b3 := hn0 ▸ Nat.le_trans EX2.1 (Nat.le_of_eq gb3.symm)
  have x3_E_b1 := q2_0.ext Eq3
  have x3_F_b1_modCount := q2_1.ext Eq3
  have x3_F_b1_elementData := q2_2.ext Eq3
  have x3_F_b1_size := q2_3.ext Eq3
  have EX3 := own_ext_trans EX2 Eq3
  have K3 := Keep.ext K2 Eq3
  have F3_keys : Fld Z h3 b3 "com/example/cairn/cairn/plan/Grouping" "keys" "Ljava/util/List;" .null := D3 (Or.inr (hw _ (ow 68 rfl))) (ty := (.object "java/util/List")) (by decide)
  have F3_aggregates : Fld Z h3 b3 "com/example/cairn/cairn/plan/Grouping" "aggregates" "Ljava/util/List;" .null := D3 (Or.inr (hw _ (ow 70 rfl))) (ty := (.object "java/util/List")) (by decide)
  obtain ⟨T4, h4, X4, e4, Eq4, A4, D4, -, st4⟩ := newO X3 hx hZ hown (hw _ (ow 0 rfl)) (hw _ (ow 1 rfl)) (hw _ (ow 2 rfl)) e3 (g := (mkF m 16 #[.val (.int p1), .val (.int p2), .val (.int (3 : Int32)), .val (.ref b1), .unset, .unset, .unset, .unset, .unset, .unset, .unset, .unset, .unset, .unset] [(.ref b3), (.ref b3)])) rfl (hb hby at_16) (by decide) (by decide)
  obtain ⟨b4, gb4⟩ : ∃ z, z = h3.size := ⟨_, rfl⟩
  rw [← gb4] at A4 D4 st4
  have ne_b1_b4 : b1 ≠ b4 := Nat.ne_of_lt (Nat.lt_of_lt_of_le x3_E_b1.lt (Nat.le_of_eq gb4.symm))
  have ne_b3_b4 : b3 ≠ b4 := Nat.ne_of_lt (Nat.lt_of_lt_of_le A3.lt (Nat.le_of_eq gb4.symm))
  have sz_b4 : h0.size ≤ b4 := Nat.le_trans K3.1 (Nat.le_of_eq gb4.symm)
  have g_b4 : n0 ≤ b4 := hn0 ▸ Nat.le_trans EX3.1 (Nat.le_of_eq gb4.symm)
  have x4_E_b1 := x3_E_b1.ext Eq4
  have x4_F_b1_modCount := x3_F_b1_modCount.ext Eq4
  have x4_F_b1_elementData := x3_F_b1_elementData.ext Eq4
  have x4_F_b1_size := x3_F_b1_size.ext Eq4
  have x4_E_b3 := A3.ext Eq4
  have x4_F_b3_keys := F3_keys.ext Eq4
  have x4_F_b3_aggregates := F3_aggregates.ext Eq4
  have EX4 := own_ext_trans EX3 Eq4
  have K4 := Keep.ext K3 Eq4
  have F4_modCount : Fld Z h4 b4 "java/util/AbstractList" "modCount" "I" (.int (0 : Int32)) := D4 (Or.inl (hw _ (ow 22 rfl))) (ty := .int) (by decide)
  have F4_elementData : Fld Z h4 b4 "java/util/ArrayList" "elementData" "[Ljava/lang/Object;" .null := D4 (Or.inl (hw _ (ow 25 rfl))) (ty := (.array (.object "java/lang/Object"))) (by decide)
  have F4_size : Fld Z h4 b4 "java/util/ArrayList" "size" "I" (.int (0 : Int32)) := D4 (Or.inl (hw _ (ow 62 rfl))) (ty := .int) (by decide)
  obtain ⟨v5, _, ⟨T5, L5, k5, n5⟩, -, X5, ⟨Lc5, hQ5, l5, y5, z5⟩, st5⟩ := X4.specialBack hx (y := (⟨"java/util/ArrayList", "<init>", "()V"⟩ : MethodName)) rfl hown (mvT hZ (hw _ (ow 3 rfl))) (mvT hZ (hw _ (ow 4 rfl))) (mvT hZ (hw _ (ow 5 rfl))) (by decide) (backOf (W := 3) (rm_alinit l Z a0 hw [] b4 h4 n0 w_ROWS w_RESULT w_PARTIAL_GROUPS w_MERGED_GROUPS w_D w_EL w_EE w_C w_EM w_M hK hn0 EX4 A4 g_b4 F4_modCount F4_elementData F4_size) hZ (hw _ (ow 5 rfl)) (hw _ (ow 2 rfl)) (by decide) (by decide)) (g := (mkF m 20 #[.val (.int p1), .val (.int p2), .val (.int (3 : Int32)), .val (.ref b1), .unset, .unset, .unset, .unset, .unset, .unset, .unset, .unset, .unset, .unset] [(.ref b4), (.ref b4), (.ref b3), (.ref b3)])) rfl (by rw [hml]; rfl) (Steps.refl _) (a := b4) (argsL := []) (rest := [(.ref b4), (.ref b3), (.ref b3)]) (lenOf pd_0 rfl) rfl (Nat.le_of_eq rfl) (hb hby at_20) (fun _ _ => ⟨rfl, e4, (by decide : 3 + 0 ≤ _), (by decide : 8 + 0 ≤ _)⟩)
  dsimp only [Pt.U, Pt.locs, Pt.cells, Pt.slots] at X5 l5 y5 z5 st5 hQ5
  subst y5 z5
  obtain ⟨hv5, Nq5, Kq5, q5_0, q5_1, q5_2, q5_3⟩ := hQ5
  obtain rfl : v5 = none := hv5
  have N5 : Fr n0 L5 := by rw [l5]; exact Fr.app N2 Nq5
  have x5_E_b1 := x4_E_b1.keep Kq5
  have x5_F_b1_modCount := x4_F_b1_modCount.keep Kq5 (ninS ne_b1_b4 nin0)
  have x5_F_b1_elementData := x4_F_b1_elementData.keep Kq5 (ninS ne_b1_b4 nin0)
  have x5_F_b1_size := x4_F_b1_size.keep Kq5 (ninS ne_b1_b4 nin0)
  have x5_E_b3 := x4_E_b3.keep Kq5
  have x5_F_b3_keys := x4_F_b3_keys.keep Kq5 (ninS ne_b3_b4 nin0)
  have x5_F_b3_aggregates := x4_F_b3_aggregates.keep Kq5 (ninS ne_b3_b4 nin0)
  have x5_E_b4 := A4.keep Kq5
  have EX5 := own_ext_keepL EX4 Kq5 (allS (hn0 ▸ g_b4) all0)
  have K5 := Keep.trans K4 Kq5 (allS (Or.inr sz_b4) all0)
  obtain ⟨T6, h6, X6, e6, Eq6, A6, D6, -, st6⟩ := newO X5 hx hZ hown (hw _ (ow 0 rfl)) (hw _ (ow 1 rfl)) (hw _ (ow 2 rfl)) (rfl : T5.heap = T5.heap) (g := (mkF m 23 #[.val (.int p1), .val (.int p2), .val (.int (3 : Int32)), .val (.ref b1), .unset, .unset, .unset, .unset, .unset, .unset, .unset, .unset, .unset, .unset] [(.ref b4), (.ref b3), (.ref b3)])) rfl (hb hby at_23) (by decide) (by decide)
  obtain ⟨b6, gb6⟩ : ∃ z, z = T5.heap.size := ⟨_, rfl⟩
  rw [← gb6] at A6 D6 st6
  have ne_b1_b6 : b1 ≠ b6 := Nat.ne_of_lt (Nat.lt_of_lt_of_le x5_E_b1.lt (Nat.le_of_eq gb6.symm))
  have ne_b3_b6 : b3 ≠ b6 := Nat.ne_of_lt (Nat.lt_of_lt_of_le x5_E_b3.lt (Nat.le_of_eq gb6.symm))
  have ne_b4_b6 : b4 ≠ b6 := Nat.ne_of_lt (Nat.lt_of_lt_of_le q5_0.lt (Nat.le_of_eq gb6.symm))
  have sz_b6 : h0.size ≤ b6 := Nat.le_trans K5.1 (Nat.le_of_eq gb6.symm)
  have g_b6 : n0 ≤ b6 := hn0 ▸ Nat.le_trans EX5.1 (Nat.le_of_eq gb6.symm)
  have x6_E_b1 := x5_E_b1.ext Eq6
  have x6_F_b1_modCount := x5_F_b1_modCount.ext Eq6
  have x6_F_b1_elementData := x5_F_b1_elementData.ext Eq6
  have x6_F_b1_size := x5_F_b1_size.ext Eq6
  have x6_E_b3 := x5_E_b3.ext Eq6
  have x6_F_b3_keys := x5_F_b3_keys.ext Eq6
  have x6_F_b3_aggregates := x5_F_b3_aggregates.ext Eq6
  have x6_E_b4 := q5_0.ext Eq6
  have x6_F_b4_modCount := q5_1.ext Eq6
  have x6_F_b4_elementData := q5_2.ext Eq6
  have x6_F_b4_size := q5_3.ext Eq6
  have EX6 := own_ext_trans EX5 Eq6
  have K6 := Keep.ext K5 Eq6
  have F6_modCount : Fld Z h6 b6 "java/util/AbstractList" "modCount" "I" (.int (0 : Int32)) := D6 (Or.inl (hw _ (ow 22 rfl))) (ty := .int) (by decide)
  have F6_elementData : Fld Z h6 b6 "java/util/ArrayList" "elementData" "[Ljava/lang/Object;" .null := D6 (Or.inl (hw _ (ow 25 rfl))) (ty := (.array (.object "java/lang/Object"))) (by decide)
  have F6_size : Fld Z h6 b6 "java/util/ArrayList" "size" "I" (.int (0 : Int32)) := D6 (Or.inl (hw _ (ow 62 rfl))) (ty := .int) (by decide)
  obtain ⟨v7, _, ⟨T7, L7, k7, n7⟩, -, X7, ⟨Lc7, hQ7, l7, y7, z7⟩, st7⟩ := X6.specialBack hx (y := (⟨"java/util/ArrayList", "<init>", "()V"⟩ : MethodName)) rfl hown (mvT hZ (hw _ (ow 3 rfl))) (mvT hZ (hw _ (ow 4 rfl))) (mvT hZ (hw _ (ow 5 rfl))) (by decide) (backOf (W := 4) (rm_alinit l Z a0 hw [] b6 h6 n0 w_ROWS w_RESULT w_PARTIAL_GROUPS w_MERGED_GROUPS w_D w_EL w_EE w_C w_EM w_M hK hn0 EX6 A6 g_b6 F6_modCount F6_elementData F6_size) hZ (hw _ (ow 5 rfl)) (hw _ (ow 2 rfl)) (by decide) (by decide)) (g := (mkF m 27 #[.val (.int p1), .val (.int p2), .val (.int (3 : Int32)), .val (.ref b1), .unset, .unset, .unset, .unset, .unset, .unset, .unset, .unset, .unset, .unset] [(.ref b6), (.ref b6), (.ref b4), (.ref b3), (.ref b3)])) rfl (by rw [hml]; rfl) (Steps.refl _) (a := b6) (argsL := []) (rest := [(.ref b6), (.ref b4), (.ref b3), (.ref b3)]) (lenOf pd_0 rfl) rfl (Nat.le_of_eq rfl) (hb hby at_27) (fun _ _ => ⟨rfl, e6, (by decide : 4 + 0 ≤ _), (by decide : 11 + 0 ≤ _)⟩)
  dsimp only [Pt.U, Pt.locs, Pt.cells, Pt.slots] at X7 l7 y7 z7 st7 hQ7
  subst y7 z7
  obtain ⟨hv7, Nq7, Kq7, q7_0, q7_1, q7_2, q7_3⟩ := hQ7
  obtain rfl : v7 = none := hv7
  have N7 : Fr n0 L7 := by rw [l7]; exact Fr.app N5 Nq7
  have x7_E_b1 := x6_E_b1.keep Kq7
  have x7_F_b1_modCount := x6_F_b1_modCount.keep Kq7 (ninS ne_b1_b6 nin0)
  have x7_F_b1_elementData := x6_F_b1_elementData.keep Kq7 (ninS ne_b1_b6 nin0)
  have x7_F_b1_size := x6_F_b1_size.keep Kq7 (ninS ne_b1_b6 nin0)
  have x7_E_b3 := x6_E_b3.keep Kq7
  have x7_F_b3_keys := x6_F_b3_keys.keep Kq7 (ninS ne_b3_b6 nin0)
  have x7_F_b3_aggregates := x6_F_b3_aggregates.keep Kq7 (ninS ne_b3_b6 nin0)
  have x7_E_b4 := x6_E_b4.keep Kq7
  have x7_F_b4_modCount := x6_F_b4_modCount.keep Kq7 (ninS ne_b4_b6 nin0)
  have x7_F_b4_elementData := x6_F_b4_elementData.keep Kq7 (ninS ne_b4_b6 nin0)
  have x7_F_b4_size := x6_F_b4_size.keep Kq7 (ninS ne_b4_b6 nin0)
  have x7_E_b6 := A6.keep Kq7
  have EX7 := own_ext_keepL EX6 Kq7 (allS (hn0 ▸ g_b6) all0)
  have K7 := Keep.trans K6 Kq7 (allS (Or.inr sz_b6) all0)
  obtain ⟨v8, _, ⟨T8, L8, k8, n8⟩, -, X8, ⟨Lc8, hQ8, l8, y8, z8⟩, st8⟩ := X7.specialBack hx (y := (⟨"com/example/cairn/cairn/plan/Grouping", "<init>", "(Ljava/util/List;Ljava/util/List;)V"⟩ : MethodName)) rfl hown (mvT hZ (hw _ (ow 29 rfl))) (mvT hZ (hw _ (ow 30 rfl))) (mvT hZ (hw _ (ow 31 rfl))) (by decide) (backOf (W := 1) (rm_grinit l Z a0 hw [] b3 b4 b6 T7.heap n0 w_ROWS w_RESULT w_PARTIAL_GROUPS w_MERGED_GROUPS w_D w_EL w_EE w_C w_EM w_M hK hn0 EX7 x7_E_b3 g_b3 x7_F_b3_keys x7_F_b3_aggregates x7_E_b4 g_b4 x7_F_b4_size q7_0 g_b6 q7_3) hZ (hw _ (ow 31 rfl)) (hw _ (ow 28 rfl)) (by decide) (by decide)) (g := (mkF m 30 #[.val (.int p1), .val (.int p2), .val (.int (3 : Int32)), .val (.ref b1), .unset, .unset, .unset, .unset, .unset, .unset, .unset, .unset, .unset, .unset] [(.ref b6), (.ref b4), (.ref b3), (.ref b3)])) rfl (by rw [hml]; rfl) (Steps.refl _) (a := b3) (argsL := [(.ref b4), (.ref b6)]) (rest := [(.ref b3)]) (lenOf pd_16 rfl) rfl (Nat.le_of_eq rfl) (hb hby at_30) (fun _ _ => ⟨rfl, (rfl : T7.heap = T7.heap), (by decide : 4 + 0 ≤ _), (by decide : 11 + 0 ≤ _)⟩)
  dsimp only [Pt.U, Pt.locs, Pt.cells, Pt.slots] at X8 l8 y8 z8 st8 hQ8
  subst y8 z8
  obtain ⟨hv8, Nq8, Kq8, q8_0⟩ := hQ8
  obtain rfl : v8 = none := hv8
  have N8 : Fr n0 L8 := by rw [l8]; exact Fr.app N7 Nq8
  have x8_E_b1 := x7_E_b1.keep Kq8
  have x8_F_b1_modCount := x7_F_b1_modCount.keep Kq8 (ninS ne_b1_b3 nin0)
  have x8_F_b1_elementData := x7_F_b1_elementData.keep Kq8 (ninS ne_b1_b3 nin0)
  have x8_F_b1_size := x7_F_b1_size.keep Kq8 (ninS ne_b1_b3 nin0)
  have x8_E_b3 := x7_E_b3.keep Kq8
  have x8_E_b4 := x7_E_b4.keep Kq8
  have x8_F_b4_modCount := x7_F_b4_modCount.keep Kq8 (ninS (Ne.symm ne_b3_b4) nin0)
  have x8_F_b4_elementData := x7_F_b4_elementData.keep Kq8 (ninS (Ne.symm ne_b3_b4) nin0)
  have x8_F_b4_size := x7_F_b4_size.keep Kq8 (ninS (Ne.symm ne_b3_b4) nin0)
  have x8_E_b6 := q7_0.keep Kq8
  have x8_F_b6_modCount := q7_1.keep Kq8 (ninS (Ne.symm ne_b3_b6) nin0)
  have x8_F_b6_elementData := q7_2.keep Kq8 (ninS (Ne.symm ne_b3_b6) nin0)
  have x8_F_b6_size := q7_3.keep Kq8 (ninS (Ne.symm ne_b3_b6) nin0)
  have EX8 := own_ext_keepL EX7 Kq8 (allS (hn0 ▸ g_b3) all0)
  have K8 := Keep.trans K7 Kq8 (allS (Or.inr sz_b3) all0)
  obtain ⟨T9, X9, e9, st9⟩ := getS2 X8 hx hZ hown (host := "") (Or.inl (hw _ (ow 256 rfl))) Via.refl (rfl : T8.heap = T8.heap) (S_w_MERGED_GROUPS.ext EX8) (g := (mkF m 122 #[.val (.int p1), .val (.int p2), .val (.int (3 : Int32)), .val (.ref b1), .val (.ref b3), .unset, .unset, .unset, .unset, .unset, .unset, .unset, .unset, .unset] [])) rfl (hb hby at_122)
  obtain ⟨T10, h10, X10, e10, Eq10, A10, D10, -, st10⟩ := newO X9 hx hZ hown (hw _ (ow 110 rfl)) (hw _ (ow 111 rfl)) (hw _ (ow 112 rfl)) e9 (g := (mkF m 137 #[.val (.int p1), .val (.int p2), .val (.int (3 : Int32)), .val (.ref b1), .val (.ref b3), .val (.ref w_MERGED_GROUPS), .val (.int (0 : Int32)), .val (.ref b3), .val (.int (1 : Int32)), .unset, .unset, .unset, .unset, .unset] [])) rfl (hb hby at_137) (by decide) (by decide)
  obtain ⟨b10, gb10⟩ : ∃ z, z = T8.heap.size := ⟨_, rfl⟩
  rw [← gb10] at A10 D10 st10
  have ne_b1_b10 : b1 ≠ b10 := Nat.ne_of_lt (Nat.lt_of_lt_of_le x8_E_b1.lt (Nat.le_of_eq gb10.symm))
  have sz_b10 : h0.size ≤ b10 := Nat.le_trans K8.1 (Nat.le_of_eq gb10.symm)
  have g_b10 : n0 ≤ b10 := hn0 ▸ Nat.le_trans EX8.1 (Nat.le_of_eq gb10.symm)
  have x10_E_b1 := x8_E_b1.ext Eq10
  have x10_F_b1_modCount := x8_F_b1_modCount.ext Eq10
  have x10_F_b1_elementData := x8_F_b1_elementData.ext Eq10
  have x10_F_b1_size := x8_F_b1_size.ext Eq10
  have EX10 := own_ext_trans EX8 Eq10
  have K10 := Keep.ext K8 Eq10
  have F10_shape : Fld Z h10 b10 "com/example/cairn/cairn/plan/Stage$Output" "shape" "Lcom/example/cairn/cairn/plan/Stage$Shape;" .null := D10 (Or.inr (hw _ (ow 209 rfl))) (ty := (.object "com/example/cairn/cairn/plan/Stage$Shape")) (by decide)
  have F10_slots : Fld Z h10 b10 "com/example/cairn/cairn/plan/Stage$Output" "slots" "Ljava/util/List;" .null := D10 (Or.inr (hw _ (ow 211 rfl))) (ty := (.object "java/util/List")) (by decide)
  have F10_buckets : Fld Z h10 b10 "com/example/cairn/cairn/plan/Stage$Output" "buckets" "I" (.int (0 : Int32)) := D10 (Or.inr (hw _ (ow 213 rfl))) (ty := .int) (by decide)
  have F10_keys : Fld Z h10 b10 "com/example/cairn/cairn/plan/Stage$Output" "keys" "Ljava/util/List;" .null := D10 (Or.inr (hw _ (ow 215 rfl))) (ty := (.object "java/util/List")) (by decide)
  have F10_grouping : Fld Z h10 b10 "com/example/cairn/cairn/plan/Stage$Output" "grouping" "Lcom/example/cairn/cairn/plan/Grouping;" .null := D10 (Or.inr (hw _ (ow 217 rfl))) (ty := (.object "com/example/cairn/cairn/plan/Grouping")) (by decide)
  obtain ⟨T11, h11, X11, e11, Eq11, A11, D11, -, st11⟩ := newO X10 hx hZ hown (hw _ (ow 0 rfl)) (hw _ (ow 1 rfl)) (hw _ (ow 2 rfl)) e10 (g := (mkF m 146 #[.val (.int p1), .val (.int p2), .val (.int (3 : Int32)), .val (.ref b1), .val (.ref b3), .val (.ref w_MERGED_GROUPS), .val (.int (0 : Int32)), .val (.ref b3), .val (.int (1 : Int32)), .unset, .unset, .unset, .unset, .unset] [(.int (0 : Int32)), (.ref b1), (.ref w_MERGED_GROUPS), (.ref b10), (.ref b10)])) rfl (hb hby at_146) (by decide) (by decide)
  obtain ⟨b11, gb11⟩ : ∃ z, z = h10.size := ⟨_, rfl⟩
  rw [← gb11] at A11 D11 st11
  have ne_b1_b11 : b1 ≠ b11 := Nat.ne_of_lt (Nat.lt_of_lt_of_le x10_E_b1.lt (Nat.le_of_eq gb11.symm))
  have ne_b10_b11 : b10 ≠ b11 := Nat.ne_of_lt (Nat.lt_of_lt_of_le A10.lt (Nat.le_of_eq gb11.symm))
  have sz_b11 : h0.size ≤ b11 := Nat.le_trans K10.1 (Nat.le_of_eq gb11.symm)
  have g_b11 : n0 ≤ b11 := hn0 ▸ Nat.le_trans EX10.1 (Nat.le_of_eq gb11.symm)
  have x11_E_b1 := x10_E_b1.ext Eq11
  have x11_F_b1_modCount := x10_F_b1_modCount.ext Eq11
  have x11_F_b1_elementData := x10_F_b1_elementData.ext Eq11
  have x11_F_b1_size := x10_F_b1_size.ext Eq11
  have x11_E_b10 := A10.ext Eq11
  have x11_F_b10_shape := F10_shape.ext Eq11
  have x11_F_b10_slots := F10_slots.ext Eq11
  have x11_F_b10_buckets := F10_buckets.ext Eq11
  have x11_F_b10_keys := F10_keys.ext Eq11
  have x11_F_b10_grouping := F10_grouping.ext Eq11
  have EX11 := own_ext_trans EX10 Eq11
  have K11 := Keep.ext K10 Eq11
  have F11_modCount : Fld Z h11 b11 "java/util/AbstractList" "modCount" "I" (.int (0 : Int32)) := D11 (Or.inl (hw _ (ow 22 rfl))) (ty := .int) (by decide)
  have F11_elementData : Fld Z h11 b11 "java/util/ArrayList" "elementData" "[Ljava/lang/Object;" .null := D11 (Or.inl (hw _ (ow 25 rfl))) (ty := (.array (.object "java/lang/Object"))) (by decide)
  have F11_size : Fld Z h11 b11 "java/util/ArrayList" "size" "I" (.int (0 : Int32)) := D11 (Or.inl (hw _ (ow 62 rfl))) (ty := .int) (by decide)
  obtain ⟨v12, _, ⟨T12, L12, k12, n12⟩, -, X12, ⟨Lc12, hQ12, l12, y12, z12⟩, st12⟩ := X11.specialBack hx (y := (⟨"java/util/ArrayList", "<init>", "()V"⟩ : MethodName)) rfl hown (mvT hZ (hw _ (ow 3 rfl))) (mvT hZ (hw _ (ow 4 rfl))) (mvT hZ (hw _ (ow 5 rfl))) (by decide) (backOf (W := 6) (rm_alinit l Z a0 hw [] b11 h11 n0 w_ROWS w_RESULT w_PARTIAL_GROUPS w_MERGED_GROUPS w_D w_EL w_EE w_C w_EM w_M hK hn0 EX11 A11 g_b11 F11_modCount F11_elementData F11_size) hZ (hw _ (ow 5 rfl)) (hw _ (ow 2 rfl)) (by decide) (by decide)) (g := (mkF m 150 #[.val (.int p1), .val (.int p2), .val (.int (3 : Int32)), .val (.ref b1), .val (.ref b3), .val (.ref w_MERGED_GROUPS), .val (.int (0 : Int32)), .val (.ref b3), .val (.int (1 : Int32)), .unset, .unset, .unset, .unset, .unset] [(.ref b11), (.ref b11), (.int (0 : Int32)), (.ref b1), (.ref w_MERGED_GROUPS), (.ref b10), (.ref b10)])) rfl (by rw [hml]; rfl) (Steps.refl _) (a := b11) (argsL := []) (rest := [(.ref b11), (.int (0 : Int32)), (.ref b1), (.ref w_MERGED_GROUPS), (.ref b10), (.ref b10)]) (lenOf pd_0 rfl) rfl (Nat.le_of_eq rfl) (hb hby at_150) (fun _ _ => ⟨rfl, e11, (by decide : 6 + 0 ≤ _), (by decide : 19 + 0 ≤ _)⟩)
  dsimp only [Pt.U, Pt.locs, Pt.cells, Pt.slots] at X12 l12 y12 z12 st12 hQ12
  subst y12 z12
  obtain ⟨hv12, Nq12, Kq12, q12_0, q12_1, q12_2, q12_3⟩ := hQ12
  obtain rfl : v12 = none := hv12
  have N12 : Fr n0 L12 := by rw [l12]; exact Fr.app N8 Nq12
  have x12_E_b1 := x11_E_b1.keep Kq12
  have x12_F_b1_modCount := x11_F_b1_modCount.keep Kq12 (ninS ne_b1_b11 nin0)
  have x12_F_b1_elementData := x11_F_b1_elementData.keep Kq12 (ninS ne_b1_b11 nin0)
  have x12_F_b1_size := x11_F_b1_size.keep Kq12 (ninS ne_b1_b11 nin0)
  have x12_E_b10 := x11_E_b10.keep Kq12
  have x12_F_b10_shape := x11_F_b10_shape.keep Kq12 (ninS ne_b10_b11 nin0)
  have x12_F_b10_slots := x11_F_b10_slots.keep Kq12 (ninS ne_b10_b11 nin0)
  have x12_F_b10_buckets := x11_F_b10_buckets.keep Kq12 (ninS ne_b10_b11 nin0)
  have x12_F_b10_keys := x11_F_b10_keys.keep Kq12 (ninS ne_b10_b11 nin0)
  have x12_F_b10_grouping := x11_F_b10_grouping.keep Kq12 (ninS ne_b10_b11 nin0)
  have x12_E_b11 := A11.keep Kq12
  have EX12 := own_ext_keepL EX11 Kq12 (allS (hn0 ▸ g_b11) all0)
  have K12 := Keep.trans K11 Kq12 (allS (Or.inr sz_b11) all0)
  obtain ⟨v13, _, ⟨T13, L13, k13, n13⟩, -, X13, ⟨Lc13, hQ13, l13, y13, z13⟩, st13⟩ := X12.specialBack hx (y := (⟨"com/example/cairn/cairn/plan/Stage$Output", "<init>", "(Lcom/example/cairn/cairn/plan/Stage$Shape;Ljava/util/List;ILjava/util/List;Lcom/example/cairn/cairn/plan/Grouping;)V"⟩ : MethodName)) rfl hown (mvT hZ (hw _ (ow 113 rfl))) (mvT hZ (hw _ (ow 114 rfl))) (mvT hZ (hw _ (ow 115 rfl))) (by decide) (backOf (W := 1) (rm_oi3 l Z a0 hw [] b10 b1 b11 b3 T12.heap n0 w_ROWS w_RESULT w_PARTIAL_GROUPS w_MERGED_GROUPS w_D w_EL w_EE w_C w_EM w_M hK hn0 EX12 x12_E_b10 g_b10 x12_F_b10_shape x12_F_b10_slots x12_F_b10_buckets x12_F_b10_keys x12_F_b10_grouping x12_E_b1 g_b1 x12_F_b1_size q12_0 g_b11 q12_3) hZ (hw _ (ow 115 rfl)) (hw _ (ow 112 rfl)) (by decide) (by decide)) (g := (mkF m 155 #[.val (.int p1), .val (.int p2), .val (.int (3 : Int32)), .val (.ref b1), .val (.ref b3), .val (.ref w_MERGED_GROUPS), .val (.int (0 : Int32)), .val (.ref b3), .val (.int (1 : Int32)), .unset, .unset, .unset, .unset, .unset] [(.ref b3), (.ref b11), (.int (0 : Int32)), (.ref b1), (.ref w_MERGED_GROUPS), (.ref b10), (.ref b10)])) rfl (by rw [hml]; rfl) (Steps.refl _) (a := b10) (argsL := [(.ref w_MERGED_GROUPS), (.ref b1), (.int (0 : Int32)), (.ref b11), (.ref b3)]) (rest := [(.ref b10)]) (lenOf pd_15 rfl) rfl (Nat.le_of_eq rfl) (hb hby at_155) (fun _ _ => ⟨rfl, (rfl : T12.heap = T12.heap), (by decide : 6 + 0 ≤ _), (by decide : 19 + 0 ≤ _)⟩)
  dsimp only [Pt.U, Pt.locs, Pt.cells, Pt.slots] at X13 l13 y13 z13 st13 hQ13
  subst y13 z13
  obtain ⟨hv13, Nq13, Kq13, q13_0, q13_1⟩ := hQ13
  obtain rfl : v13 = none := hv13
  have N13 : Fr n0 L13 := by rw [l13]; exact Fr.app N12 Nq13
  have x13_E_b1 := x12_E_b1.keep Kq13
  have x13_F_b1_modCount := x12_F_b1_modCount.keep Kq13 (ninS ne_b1_b10 nin0)
  have x13_F_b1_elementData := x12_F_b1_elementData.keep Kq13 (ninS ne_b1_b10 nin0)
  have x13_F_b1_size := x12_F_b1_size.keep Kq13 (ninS ne_b1_b10 nin0)
  have x13_E_b10 := x12_E_b10.keep Kq13
  have x13_E_b11 := q12_0.keep Kq13
  have x13_F_b11_modCount := q12_1.keep Kq13 (ninS (Ne.symm ne_b10_b11) nin0)
  have x13_F_b11_elementData := q12_2.keep Kq13 (ninS (Ne.symm ne_b10_b11) nin0)
  have x13_F_b11_size := q12_3.keep Kq13 (ninS (Ne.symm ne_b10_b11) nin0)
  have EX13 := own_ext_keepL EX12 Kq13 (allS (hn0 ▸ g_b10) all0)
  have K13 := Keep.trans K12 Kq13 (allS (Or.inr sz_b10) all0)
  obtain ⟨cq14, kq14, q14a, q14b, q14c⟩ := isOf hZ (rfl : T13.heap = T13.heap) q13_0
  obtain ⟨v14, _, ⟨T14, L14, k14, n14⟩, -, X14, ⟨Lc14, hQ14, l14, y14, z14⟩, st14⟩ := X13.virtualBack hx (y := (⟨"com/example/cairn/cairn/plan/Stage$Output", "goesToCoordinator", "()Z"⟩ : MethodName)) (z := (⟨"com/example/cairn/cairn/plan/Stage$Output", "goesToCoordinator", "()Z"⟩ : MethodName)) hown (mvT hZ (hw _ (ow 218 rfl))) (mvT hZ (hw _ (ow 219 rfl))) (notFace_of_selects (args := #[]) (mvT hZ (hw _ (ow 221 rfl)))) (mvT hZ (hw _ (ow 221 rfl))) (mvT hZ (hw _ (ow 220 rfl))) (by decide) (backOf (W := 0) (rm_goes l Z a0 hw [] b10 (0 : Int32) T13.heap n0 q13_1) hZ (hw _ (ow 222 rfl)) (hw _ (ow 112 rfl)) (by decide) (by decide)) q14a q14c (g := (mkF m 162 #[.val (.int p1), .val (.int p2), .val (.int (3 : Int32)), .val (.ref b1), .val (.ref b3), .val (.ref w_MERGED_GROUPS), .val (.int (0 : Int32)), .val (.ref b3), .val (.int (1 : Int32)), .val (.ref b10), .unset, .unset, .unset, .unset] [(.ref b10)])) rfl (by rw [hml]; rfl) (Steps.refl _) (argsL := []) (rest := []) (lenOf pd_1 rfl) rfl (Nat.le_of_eq rfl) (hb hby at_162) (fun _ _ => ⟨rfl, (rfl : T13.heap = T13.heap), (by decide : 6 + 0 ≤ _), (by decide : 19 + 0 ≤ _)⟩)
  dsimp only [Pt.U, Pt.locs, Pt.cells, Pt.slots] at X14 l14 y14 z14 st14 hQ14
  subst y14 z14
  obtain ⟨hv14, Nq14, e14⟩ := hQ14
  obtain rfl : v14 = some (.int (1 : Int32)) := hv14.trans (congrArg some (congrArg Value.int (if_pos (by decide))))
  have N14 : Fr n0 L14 := by rw [l14]; exact Fr.app N13 Nq14
  obtain ⟨T15, X15, e15, st15⟩ := getS2 X14 hx hZ hown (host := "") (Or.inl (hw _ (ow 256 rfl))) Via.refl e14 (S_w_MERGED_GROUPS.ext EX13) (g := (mkF m 182 #[.val (.int p1), .val (.int p2), .val (.int (3 : Int32)), .val (.ref b1), .val (.ref b3), .val (.ref w_MERGED_GROUPS), .val (.int (0 : Int32)), .val (.ref b3), .val (.int (1 : Int32)), .val (.ref b10), .val (.int (1 : Int32)), .unset, .unset, .unset] [])) rfl (hb hby at_182)
  obtain ⟨v16, _, ⟨T16, L16, k16, n16⟩, -, X16, ⟨Lc16, hQ16, l16, y16, z16⟩, st16⟩ := Jvm.LawKit.callS X15 hx (y := (⟨"com/example/cairn/cairn/plan/Stage$Output", "toCoordinator", "(Lcom/example/cairn/cairn/plan/Stage$Shape;Lcom/example/cairn/cairn/plan/Grouping;)Lcom/example/cairn/cairn/plan/Stage$Output;"⟩ : MethodName)) hown (mvT hZ (hw _ (ow 225 rfl))) (mvT hZ (hw _ (ow 226 rfl))) (mvT hZ (hw _ (ow 112 rfl))) (mvT hZ (hw _ (ow 227 rfl))) (by decide) (backOf (W := 0) (rm_toC_MERGED_GROUPS l Z a0 hw [] b3 T13.heap n0 w_ROWS w_RESULT w_PARTIAL_GROUPS w_MERGED_GROUPS w_D w_EL w_EE w_C w_EM w_M hK hn0 EX13) hZ (hw _ (ow 227 rfl)) (hw _ (ow 112 rfl)) (by decide) (by decide)) (g := (mkF m 223 #[.val (.int p1), .val (.int p2), .val (.int (3 : Int32)), .val (.ref b1), .val (.ref b3), .val (.ref w_MERGED_GROUPS), .val (.int (0 : Int32)), .val (.ref b3), .val (.int (1 : Int32)), .val (.ref b10), .val (.int (1 : Int32)), .val (.ref w_MERGED_GROUPS), .val (.ref b3), .unset] [(.ref b3), (.ref w_MERGED_GROUPS)])) rfl (by rw [hml]; rfl) (argsL := [(.ref w_MERGED_GROUPS), (.ref b3)]) (rest := []) (lenOf pd_19 rfl) rfl (Nat.le_of_eq rfl) (hb hby at_223) (fun _ _ => ⟨rfl, e15, (by decide : 6 + 1 ≤ _), (by decide : 19 + 5 ≤ _)⟩)
  dsimp only [Pt.U, Pt.locs, Pt.cells, Pt.slots] at X16 l16 y16 z16 st16 hQ16
  subst y16 z16
  obtain ⟨r16, hv16, sy16, Nq16, Kq16, q16_0, q16_1⟩ := hQ16
  obtain rfl : v16 = some (.ref r16) := hv16
  have ne_b10_r16 : b10 ≠ r16 := Nat.ne_of_lt (Nat.lt_of_lt_of_le q13_0.lt sy16)
  have sz_r16 : h0.size ≤ r16 := Nat.le_trans K13.1 sy16
  have g_r16 : n0 ≤ r16 := hn0 ▸ Nat.le_trans EX13.1 sy16
  have N16 : Fr n0 L16 := by rw [l16]; exact Fr.app N14 Nq16
  have x16_E_b10 := q13_0.keep Kq16
  have x16_F_b10_buckets := q13_1.keep Kq16 nin0
  have EX16 := own_ext_keepL EX13 Kq16 all0
  have K16 := Keep.trans K13 Kq16 all0
  obtain ⟨cq17, kq17, q17a, q17b, q17c⟩ := isOf hZ (rfl : T16.heap = T16.heap) q16_0
  obtain ⟨v17, _, ⟨T17, L17, k17, n17⟩, -, X17, ⟨Lc17, hQ17, l17, y17, z17⟩, st17⟩ := X16.virtualBack hx (y := (⟨"com/example/cairn/cairn/plan/Stage$Output", "goesToCoordinator", "()Z"⟩ : MethodName)) (z := (⟨"com/example/cairn/cairn/plan/Stage$Output", "goesToCoordinator", "()Z"⟩ : MethodName)) hown (mvT hZ (hw _ (ow 218 rfl))) (mvT hZ (hw _ (ow 219 rfl))) (notFace_of_selects (args := #[]) (mvT hZ (hw _ (ow 221 rfl)))) (mvT hZ (hw _ (ow 221 rfl))) (mvT hZ (hw _ (ow 220 rfl))) (by decide) (backOf (W := 0) (rm_goes l Z a0 hw [] r16 (0 : Int32) T16.heap n0 q16_1) hZ (hw _ (ow 222 rfl)) (hw _ (ow 112 rfl)) (by decide) (by decide)) q17a q17c (g := (mkF m 235 #[.val (.int p1), .val (.int p2), .val (.int (3 : Int32)), .val (.ref b1), .val (.ref b3), .val (.ref w_MERGED_GROUPS), .val (.int (0 : Int32)), .val (.ref b3), .val (.int (1 : Int32)), .val (.ref b10), .val (.int (1 : Int32)), .val (.ref w_MERGED_GROUPS), .val (.ref b3), .val (.ref r16)] [(.ref r16)])) rfl (by rw [hml]; rfl) (Steps.refl _) (argsL := []) (rest := []) (lenOf pd_1 rfl) rfl (Nat.le_of_eq rfl) (hb hby at_235) (fun _ _ => ⟨rfl, (rfl : T16.heap = T16.heap), (by decide : 7 + 0 ≤ _), (by decide : 24 + 0 ≤ _)⟩)
  dsimp only [Pt.U, Pt.locs, Pt.cells, Pt.slots] at X17 l17 y17 z17 st17 hQ17
  subst y17 z17
  obtain ⟨hv17, Nq17, e17⟩ := hQ17
  obtain rfl : v17 = some (.int (1 : Int32)) := hv17.trans (congrArg some (congrArg Value.int (if_pos (by decide))))
  have N17 : Fr n0 L17 := by rw [l17]; exact Fr.app N16 Nq17
  have pre18 : ∀ t, Steps p.tables e below (T17.setTop (mkF m 246 #[.val (.int p1), .val (.int p2), .val (.int (3 : Int32)), .val (.ref b1), .val (.ref b3), .val (.ref w_MERGED_GROUPS), .val (.int (0 : Int32)), .val (.ref b3), .val (.int (1 : Int32)), .val (.ref b10), .val (.int (1 : Int32)), .val (.ref w_MERGED_GROUPS), .val (.ref b3), .val (.ref r16)] [(.int (1 : Int32))])) t → Steps p.tables e below (s₁.setTop (entryFrame m #[(.int p1), (.int p2)] maxLocals)) t := fun t k => pre0 t (by
    show Steps p.tables e below (s₁.setTop (mkF m 0 #[.val (.int p1), .val (.int p2), .unset, .unset, .unset, .unset, .unset, .unset, .unset, .unset, .unset, .unset, .unset, .unset] [])) _
    refine XS.iloadN X0.here hx rfl (hb hby at_0) rfl ?_
    show Steps p.tables e below (s₁.setTop (mkF m 1 #[.val (.int p1), .val (.int p2), .unset, .unset, .unset, .unset, .unset, .unset, .unset, .unset, .unset, .unset, .unset, .unset] [(.int p1)])) _
    refine XS.iconst X0.here hx rfl (hb hby at_1) ?_
    show Steps p.tables e below (s₁.setTop (mkF m 2 #[.val (.int p1), .val (.int p2), .unset, .unset, .unset, .unset, .unset, .unset, .unset, .unset, .unset, .unset, .unset, .unset] [(.int (3 : Int32)), (.int p1)])) _
    refine XS.iand X0.here hx rfl (hb hby at_2) rfl ?_
    show Steps p.tables e below (s₁.setTop (mkF m 3 #[.val (.int p1), .val (.int p2), .unset, .unset, .unset, .unset, .unset, .unset, .unset, .unset, .unset, .unset, .unset, .unset] [(.int (p1 &&& (3 : Int32)))])) _
    rw [hk]
    show Steps p.tables e below (s₁.setTop (mkF m 3 #[.val (.int p1), .val (.int p2), .unset, .unset, .unset, .unset, .unset, .unset, .unset, .unset, .unset, .unset, .unset, .unset] [(.int (3 : Int32))])) _
    refine XS.istoreN X0.here hx rfl (hb hby at_3) rfl (l' := #[.val (.int p1), .val (.int p2), .val (.int (3 : Int32)), .unset, .unset, .unset, .unset, .unset, .unset, .unset, .unset, .unset, .unset, .unset]) rfl ?_
    show Steps p.tables e below (s₁.setTop (mkF m 4 #[.val (.int p1), .val (.int p2), .val (.int (3 : Int32)), .unset, .unset, .unset, .unset, .unset, .unset, .unset, .unset, .unset, .unset, .unset] [])) _
    refine st1 _ ?_
    show Steps p.tables e below (T1.setTop (mkF m 7 #[.val (.int p1), .val (.int p2), .val (.int (3 : Int32)), .unset, .unset, .unset, .unset, .unset, .unset, .unset, .unset, .unset, .unset, .unset] [(.ref b1)])) _
    refine XS.dup X1.here hx rfl (hb hby at_7) rfl rfl ?_
    show Steps p.tables e below (T1.setTop (mkF m 8 #[.val (.int p1), .val (.int p2), .val (.int (3 : Int32)), .unset, .unset, .unset, .unset, .unset, .unset, .unset, .unset, .unset, .unset, .unset] [(.ref b1), (.ref b1)])) _
    refine st2.trans ?_
    show Steps p.tables e below (T2.setTop (mkF m 11 #[.val (.int p1), .val (.int p2), .val (.int (3 : Int32)), .unset, .unset, .unset, .unset, .unset, .unset, .unset, .unset, .unset, .unset, .unset] [(.ref b1)])) _
    refine XS.astoreN X2.here hx rfl (hb hby at_11) rfl rfl (l' := #[.val (.int p1), .val (.int p2), .val (.int (3 : Int32)), .val (.ref b1), .unset, .unset, .unset, .unset, .unset, .unset, .unset, .unset, .unset, .unset]) rfl ?_
    show Steps p.tables e below (T2.setTop (mkF m 12 #[.val (.int p1), .val (.int p2), .val (.int (3 : Int32)), .val (.ref b1), .unset, .unset, .unset, .unset, .unset, .unset, .unset, .unset, .unset, .unset] [])) _
    refine st3 _ ?_
    show Steps p.tables e below (T3.setTop (mkF m 15 #[.val (.int p1), .val (.int p2), .val (.int (3 : Int32)), .val (.ref b1), .unset, .unset, .unset, .unset, .unset, .unset, .unset, .unset, .unset, .unset] [(.ref b3)])) _
    refine XS.dup X3.here hx rfl (hb hby at_15) rfl rfl ?_
    show Steps p.tables e below (T3.setTop (mkF m 16 #[.val (.int p1), .val (.int p2), .val (.int (3 : Int32)), .val (.ref b1), .unset, .unset, .unset, .unset, .unset, .unset, .unset, .unset, .unset, .unset] [(.ref b3), (.ref b3)])) _
    refine st4 _ ?_
    show Steps p.tables e below (T4.setTop (mkF m 19 #[.val (.int p1), .val (.int p2), .val (.int (3 : Int32)), .val (.ref b1), .unset, .unset, .unset, .unset, .unset, .unset, .unset, .unset, .unset, .unset] [(.ref b4), (.ref b3), (.ref b3)])) _
    refine XS.dup X4.here hx rfl (hb hby at_19) rfl rfl ?_
    show Steps p.tables e below (T4.setTop (mkF m 20 #[.val (.int p1), .val (.int p2), .val (.int (3 : Int32)), .val (.ref b1), .unset, .unset, .unset, .unset, .unset, .unset, .unset, .unset, .unset, .unset] [(.ref b4), (.ref b4), (.ref b3), (.ref b3)])) _
    refine st5.trans ?_
    show Steps p.tables e below (T5.setTop (mkF m 23 #[.val (.int p1), .val (.int p2), .val (.int (3 : Int32)), .val (.ref b1), .unset, .unset, .unset, .unset, .unset, .unset, .unset, .unset, .unset, .unset] [(.ref b4), (.ref b3), (.ref b3)])) _
    refine st6 _ ?_
    show Steps p.tables e below (T6.setTop (mkF m 26 #[.val (.int p1), .val (.int p2), .val (.int (3 : Int32)), .val (.ref b1), .unset, .unset, .unset, .unset, .unset, .unset, .unset, .unset, .unset, .unset] [(.ref b6), (.ref b4), (.ref b3), (.ref b3)])) _
    refine XS.dup X6.here hx rfl (hb hby at_26) rfl rfl ?_
    show Steps p.tables e below (T6.setTop (mkF m 27 #[.val (.int p1), .val (.int p2), .val (.int (3 : Int32)), .val (.ref b1), .unset, .unset, .unset, .unset, .unset, .unset, .unset, .unset, .unset, .unset] [(.ref b6), (.ref b6), (.ref b4), (.ref b3), (.ref b3)])) _
    refine st7.trans ?_
    show Steps p.tables e below (T7.setTop (mkF m 30 #[.val (.int p1), .val (.int p2), .val (.int (3 : Int32)), .val (.ref b1), .unset, .unset, .unset, .unset, .unset, .unset, .unset, .unset, .unset, .unset] [(.ref b6), (.ref b4), (.ref b3), (.ref b3)])) _
    refine st8.trans ?_
    show Steps p.tables e below (T8.setTop (mkF m 33 #[.val (.int p1), .val (.int p2), .val (.int (3 : Int32)), .val (.ref b1), .unset, .unset, .unset, .unset, .unset, .unset, .unset, .unset, .unset, .unset] [(.ref b3)])) _
    refine XS.astore X8.here hx rfl (hb hby at_33) rfl rfl (l' := #[.val (.int p1), .val (.int p2), .val (.int (3 : Int32)), .val (.ref b1), .val (.ref b3), .unset, .unset, .unset, .unset, .unset, .unset, .unset, .unset, .unset]) rfl ?_
    show Steps p.tables e below (T8.setTop (mkF m 35 #[.val (.int p1), .val (.int p2), .val (.int (3 : Int32)), .val (.ref b1), .val (.ref b3), .unset, .unset, .unset, .unset, .unset, .unset, .unset, .unset, .unset] [])) _
    refine XS.iloadN X8.here hx rfl (hb hby at_35) rfl ?_
    show Steps p.tables e below (T8.setTop (mkF m 36 #[.val (.int p1), .val (.int p2), .val (.int (3 : Int32)), .val (.ref b1), .val (.ref b3), .unset, .unset, .unset, .unset, .unset, .unset, .unset, .unset, .unset] [(.int (3 : Int32))])) _
    refine XS.ifYes X8.here hx rfl (pc0 := 36) (pc' := 65) rfl (hb hby at_36) rfl ((if0 _ _).trans (feq (by decide)).2) (by decide) (by decide) ?_
    show Steps p.tables e below (T8.setTop (mkF m 65 #[.val (.int p1), .val (.int p2), .val (.int (3 : Int32)), .val (.ref b1), .val (.ref b3), .unset, .unset, .unset, .unset, .unset, .unset, .unset, .unset, .unset] [])) _
    refine XS.iloadN X8.here hx rfl (hb hby at_65) rfl ?_
    show Steps p.tables e below (T8.setTop (mkF m 66 #[.val (.int p1), .val (.int p2), .val (.int (3 : Int32)), .val (.ref b1), .val (.ref b3), .unset, .unset, .unset, .unset, .unset, .unset, .unset, .unset, .unset] [(.int (3 : Int32))])) _
    refine XS.iconst X8.here hx rfl (hb hby at_66) ?_
    show Steps p.tables e below (T8.setTop (mkF m 67 #[.val (.int p1), .val (.int p2), .val (.int (3 : Int32)), .val (.ref b1), .val (.ref b3), .unset, .unset, .unset, .unset, .unset, .unset, .unset, .unset, .unset] [(.int (1 : Int32)), (.int (3 : Int32))])) _
    refine XS.icmpYes X8.here hx rfl (pc0 := 67) (pc' := 87) rfl (hb hby at_67) rfl (feq (by decide)).2 (by decide) (by decide) ?_
    show Steps p.tables e below (T8.setTop (mkF m 87 #[.val (.int p1), .val (.int p2), .val (.int (3 : Int32)), .val (.ref b1), .val (.ref b3), .unset, .unset, .unset, .unset, .unset, .unset, .unset, .unset, .unset] [])) _
    refine XS.iloadN X8.here hx rfl (hb hby at_87) rfl ?_
    show Steps p.tables e below (T8.setTop (mkF m 88 #[.val (.int p1), .val (.int p2), .val (.int (3 : Int32)), .val (.ref b1), .val (.ref b3), .unset, .unset, .unset, .unset, .unset, .unset, .unset, .unset, .unset] [(.int (3 : Int32))])) _
    refine XS.iconst X8.here hx rfl (hb hby at_88) ?_
    show Steps p.tables e below (T8.setTop (mkF m 89 #[.val (.int p1), .val (.int p2), .val (.int (3 : Int32)), .val (.ref b1), .val (.ref b3), .unset, .unset, .unset, .unset, .unset, .unset, .unset, .unset, .unset] [(.int (2 : Int32)), (.int (3 : Int32))])) _
    refine XS.icmpYes X8.here hx rfl (pc0 := 89) (pc' := 122) rfl (hb hby at_89) rfl (feq (by decide)).2 (by decide) (by decide) ?_
    show Steps p.tables e below (T8.setTop (mkF m 122 #[.val (.int p1), .val (.int p2), .val (.int (3 : Int32)), .val (.ref b1), .val (.ref b3), .unset, .unset, .unset, .unset, .unset, .unset, .unset, .unset, .unset] [])) _
    refine st9 _ ?_
    show Steps p.tables e below (T9.setTop (mkF m 125 #[.val (.int p1), .val (.int p2), .val (.int (3 : Int32)), .val (.ref b1), .val (.ref b3), .unset, .unset, .unset, .unset, .unset, .unset, .unset, .unset, .unset] [(.ref w_MERGED_GROUPS)])) _
    refine XS.astore X9.here hx rfl (hb hby at_125) rfl rfl (l' := #[.val (.int p1), .val (.int p2), .val (.int (3 : Int32)), .val (.ref b1), .val (.ref b3), .val (.ref w_MERGED_GROUPS), .unset, .unset, .unset, .unset, .unset, .unset, .unset, .unset]) rfl ?_
    show Steps p.tables e below (T9.setTop (mkF m 127 #[.val (.int p1), .val (.int p2), .val (.int (3 : Int32)), .val (.ref b1), .val (.ref b3), .val (.ref w_MERGED_GROUPS), .unset, .unset, .unset, .unset, .unset, .unset, .unset, .unset] [])) _
    refine XS.iconst X9.here hx rfl (hb hby at_127) ?_
    show Steps p.tables e below (T9.setTop (mkF m 128 #[.val (.int p1), .val (.int p2), .val (.int (3 : Int32)), .val (.ref b1), .val (.ref b3), .val (.ref w_MERGED_GROUPS), .unset, .unset, .unset, .unset, .unset, .unset, .unset, .unset] [(.int (0 : Int32))])) _
    refine XS.istore X9.here hx rfl (hb hby at_128) rfl (l' := #[.val (.int p1), .val (.int p2), .val (.int (3 : Int32)), .val (.ref b1), .val (.ref b3), .val (.ref w_MERGED_GROUPS), .val (.int (0 : Int32)), .unset, .unset, .unset, .unset, .unset, .unset, .unset]) rfl ?_
    show Steps p.tables e below (T9.setTop (mkF m 130 #[.val (.int p1), .val (.int p2), .val (.int (3 : Int32)), .val (.ref b1), .val (.ref b3), .val (.ref w_MERGED_GROUPS), .val (.int (0 : Int32)), .unset, .unset, .unset, .unset, .unset, .unset, .unset] [])) _
    refine XS.aload X9.here hx rfl (hb hby at_130) rfl rfl ?_
    show Steps p.tables e below (T9.setTop (mkF m 132 #[.val (.int p1), .val (.int p2), .val (.int (3 : Int32)), .val (.ref b1), .val (.ref b3), .val (.ref w_MERGED_GROUPS), .val (.int (0 : Int32)), .unset, .unset, .unset, .unset, .unset, .unset, .unset] [(.ref b3)])) _
    refine XS.astore X9.here hx rfl (hb hby at_132) rfl rfl (l' := #[.val (.int p1), .val (.int p2), .val (.int (3 : Int32)), .val (.ref b1), .val (.ref b3), .val (.ref w_MERGED_GROUPS), .val (.int (0 : Int32)), .val (.ref b3), .unset, .unset, .unset, .unset, .unset, .unset]) rfl ?_
    show Steps p.tables e below (T9.setTop (mkF m 134 #[.val (.int p1), .val (.int p2), .val (.int (3 : Int32)), .val (.ref b1), .val (.ref b3), .val (.ref w_MERGED_GROUPS), .val (.int (0 : Int32)), .val (.ref b3), .unset, .unset, .unset, .unset, .unset, .unset] [])) _
    refine XS.iconst X9.here hx rfl (hb hby at_134) ?_
    show Steps p.tables e below (T9.setTop (mkF m 135 #[.val (.int p1), .val (.int p2), .val (.int (3 : Int32)), .val (.ref b1), .val (.ref b3), .val (.ref w_MERGED_GROUPS), .val (.int (0 : Int32)), .val (.ref b3), .unset, .unset, .unset, .unset, .unset, .unset] [(.int (1 : Int32))])) _
    refine XS.istore X9.here hx rfl (hb hby at_135) rfl (l' := #[.val (.int p1), .val (.int p2), .val (.int (3 : Int32)), .val (.ref b1), .val (.ref b3), .val (.ref w_MERGED_GROUPS), .val (.int (0 : Int32)), .val (.ref b3), .val (.int (1 : Int32)), .unset, .unset, .unset, .unset, .unset]) rfl ?_
    show Steps p.tables e below (T9.setTop (mkF m 137 #[.val (.int p1), .val (.int p2), .val (.int (3 : Int32)), .val (.ref b1), .val (.ref b3), .val (.ref w_MERGED_GROUPS), .val (.int (0 : Int32)), .val (.ref b3), .val (.int (1 : Int32)), .unset, .unset, .unset, .unset, .unset] [])) _
    refine st10 _ ?_
    show Steps p.tables e below (T10.setTop (mkF m 140 #[.val (.int p1), .val (.int p2), .val (.int (3 : Int32)), .val (.ref b1), .val (.ref b3), .val (.ref w_MERGED_GROUPS), .val (.int (0 : Int32)), .val (.ref b3), .val (.int (1 : Int32)), .unset, .unset, .unset, .unset, .unset] [(.ref b10)])) _
    refine XS.dup X10.here hx rfl (hb hby at_140) rfl rfl ?_
    show Steps p.tables e below (T10.setTop (mkF m 141 #[.val (.int p1), .val (.int p2), .val (.int (3 : Int32)), .val (.ref b1), .val (.ref b3), .val (.ref w_MERGED_GROUPS), .val (.int (0 : Int32)), .val (.ref b3), .val (.int (1 : Int32)), .unset, .unset, .unset, .unset, .unset] [(.ref b10), (.ref b10)])) _
    refine XS.aload X10.here hx rfl (hb hby at_141) rfl rfl ?_
    show Steps p.tables e below (T10.setTop (mkF m 143 #[.val (.int p1), .val (.int p2), .val (.int (3 : Int32)), .val (.ref b1), .val (.ref b3), .val (.ref w_MERGED_GROUPS), .val (.int (0 : Int32)), .val (.ref b3), .val (.int (1 : Int32)), .unset, .unset, .unset, .unset, .unset] [(.ref w_MERGED_GROUPS), (.ref b10), (.ref b10)])) _
    refine XS.aloadN X10.here hx rfl (hb hby at_143) rfl rfl ?_
    show Steps p.tables e below (T10.setTop (mkF m 144 #[.val (.int p1), .val (.int p2), .val (.int (3 : Int32)), .val (.ref b1), .val (.ref b3), .val (.ref w_MERGED_GROUPS), .val (.int (0 : Int32)), .val (.ref b3), .val (.int (1 : Int32)), .unset, .unset, .unset, .unset, .unset] [(.ref b1), (.ref w_MERGED_GROUPS), (.ref b10), (.ref b10)])) _
    refine XS.iload X10.here hx rfl (hb hby at_144) rfl ?_
    show Steps p.tables e below (T10.setTop (mkF m 146 #[.val (.int p1), .val (.int p2), .val (.int (3 : Int32)), .val (.ref b1), .val (.ref b3), .val (.ref w_MERGED_GROUPS), .val (.int (0 : Int32)), .val (.ref b3), .val (.int (1 : Int32)), .unset, .unset, .unset, .unset, .unset] [(.int (0 : Int32)), (.ref b1), (.ref w_MERGED_GROUPS), (.ref b10), (.ref b10)])) _
    refine st11 _ ?_
    show Steps p.tables e below (T11.setTop (mkF m 149 #[.val (.int p1), .val (.int p2), .val (.int (3 : Int32)), .val (.ref b1), .val (.ref b3), .val (.ref w_MERGED_GROUPS), .val (.int (0 : Int32)), .val (.ref b3), .val (.int (1 : Int32)), .unset, .unset, .unset, .unset, .unset] [(.ref b11), (.int (0 : Int32)), (.ref b1), (.ref w_MERGED_GROUPS), (.ref b10), (.ref b10)])) _
    refine XS.dup X11.here hx rfl (hb hby at_149) rfl rfl ?_
    show Steps p.tables e below (T11.setTop (mkF m 150 #[.val (.int p1), .val (.int p2), .val (.int (3 : Int32)), .val (.ref b1), .val (.ref b3), .val (.ref w_MERGED_GROUPS), .val (.int (0 : Int32)), .val (.ref b3), .val (.int (1 : Int32)), .unset, .unset, .unset, .unset, .unset] [(.ref b11), (.ref b11), (.int (0 : Int32)), (.ref b1), (.ref w_MERGED_GROUPS), (.ref b10), (.ref b10)])) _
    refine st12.trans ?_
    show Steps p.tables e below (T12.setTop (mkF m 153 #[.val (.int p1), .val (.int p2), .val (.int (3 : Int32)), .val (.ref b1), .val (.ref b3), .val (.ref w_MERGED_GROUPS), .val (.int (0 : Int32)), .val (.ref b3), .val (.int (1 : Int32)), .unset, .unset, .unset, .unset, .unset] [(.ref b11), (.int (0 : Int32)), (.ref b1), (.ref w_MERGED_GROUPS), (.ref b10), (.ref b10)])) _
    refine XS.aload X12.here hx rfl (hb hby at_153) rfl rfl ?_
    show Steps p.tables e below (T12.setTop (mkF m 155 #[.val (.int p1), .val (.int p2), .val (.int (3 : Int32)), .val (.ref b1), .val (.ref b3), .val (.ref w_MERGED_GROUPS), .val (.int (0 : Int32)), .val (.ref b3), .val (.int (1 : Int32)), .unset, .unset, .unset, .unset, .unset] [(.ref b3), (.ref b11), (.int (0 : Int32)), (.ref b1), (.ref w_MERGED_GROUPS), (.ref b10), (.ref b10)])) _
    refine st13.trans ?_
    show Steps p.tables e below (T13.setTop (mkF m 158 #[.val (.int p1), .val (.int p2), .val (.int (3 : Int32)), .val (.ref b1), .val (.ref b3), .val (.ref w_MERGED_GROUPS), .val (.int (0 : Int32)), .val (.ref b3), .val (.int (1 : Int32)), .unset, .unset, .unset, .unset, .unset] [(.ref b10)])) _
    refine XS.astore X13.here hx rfl (hb hby at_158) rfl rfl (l' := #[.val (.int p1), .val (.int p2), .val (.int (3 : Int32)), .val (.ref b1), .val (.ref b3), .val (.ref w_MERGED_GROUPS), .val (.int (0 : Int32)), .val (.ref b3), .val (.int (1 : Int32)), .val (.ref b10), .unset, .unset, .unset, .unset]) rfl ?_
    show Steps p.tables e below (T13.setTop (mkF m 160 #[.val (.int p1), .val (.int p2), .val (.int (3 : Int32)), .val (.ref b1), .val (.ref b3), .val (.ref w_MERGED_GROUPS), .val (.int (0 : Int32)), .val (.ref b3), .val (.int (1 : Int32)), .val (.ref b10), .unset, .unset, .unset, .unset] [])) _
    refine XS.aload X13.here hx rfl (hb hby at_160) rfl rfl ?_
    show Steps p.tables e below (T13.setTop (mkF m 162 #[.val (.int p1), .val (.int p2), .val (.int (3 : Int32)), .val (.ref b1), .val (.ref b3), .val (.ref w_MERGED_GROUPS), .val (.int (0 : Int32)), .val (.ref b3), .val (.int (1 : Int32)), .val (.ref b10), .unset, .unset, .unset, .unset] [(.ref b10)])) _
    refine st14.trans ?_
    show Steps p.tables e below (T14.setTop (mkF m 165 #[.val (.int p1), .val (.int p2), .val (.int (3 : Int32)), .val (.ref b1), .val (.ref b3), .val (.ref w_MERGED_GROUPS), .val (.int (0 : Int32)), .val (.ref b3), .val (.int (1 : Int32)), .val (.ref b10), .unset, .unset, .unset, .unset] [(.int (1 : Int32))])) _
    refine XS.iload X14.here hx rfl (hb hby at_165) rfl ?_
    show Steps p.tables e below (T14.setTop (mkF m 167 #[.val (.int p1), .val (.int p2), .val (.int (3 : Int32)), .val (.ref b1), .val (.ref b3), .val (.ref w_MERGED_GROUPS), .val (.int (0 : Int32)), .val (.ref b3), .val (.int (1 : Int32)), .val (.ref b10), .unset, .unset, .unset, .unset] [(.int (1 : Int32)), (.int (1 : Int32))])) _
    refine XS.icmpNo X14.here hx rfl (hb hby at_167) rfl (teq (by decide)).2 ?_
    show Steps p.tables e below (T14.setTop (mkF m 170 #[.val (.int p1), .val (.int p2), .val (.int (3 : Int32)), .val (.ref b1), .val (.ref b3), .val (.ref w_MERGED_GROUPS), .val (.int (0 : Int32)), .val (.ref b3), .val (.int (1 : Int32)), .val (.ref b10), .unset, .unset, .unset, .unset] [])) _
    refine XS.iconst X14.here hx rfl (hb hby at_170) ?_
    show Steps p.tables e below (T14.setTop (mkF m 171 #[.val (.int p1), .val (.int p2), .val (.int (3 : Int32)), .val (.ref b1), .val (.ref b3), .val (.ref w_MERGED_GROUPS), .val (.int (0 : Int32)), .val (.ref b3), .val (.int (1 : Int32)), .val (.ref b10), .unset, .unset, .unset, .unset] [(.int (1 : Int32))])) _
    refine XS.goto X14.here hx rfl (pc0 := 171) (pc' := 175) rfl (hb hby at_171) (by decide) (by decide) ?_
    show Steps p.tables e below (T14.setTop (mkF m 175 #[.val (.int p1), .val (.int p2), .val (.int (3 : Int32)), .val (.ref b1), .val (.ref b3), .val (.ref w_MERGED_GROUPS), .val (.int (0 : Int32)), .val (.ref b3), .val (.int (1 : Int32)), .val (.ref b10), .unset, .unset, .unset, .unset] [(.int (1 : Int32))])) _
    refine XS.istore X14.here hx rfl (hb hby at_175) rfl (l' := #[.val (.int p1), .val (.int p2), .val (.int (3 : Int32)), .val (.ref b1), .val (.ref b3), .val (.ref w_MERGED_GROUPS), .val (.int (0 : Int32)), .val (.ref b3), .val (.int (1 : Int32)), .val (.ref b10), .val (.int (1 : Int32)), .unset, .unset, .unset]) rfl ?_
    show Steps p.tables e below (T14.setTop (mkF m 177 #[.val (.int p1), .val (.int p2), .val (.int (3 : Int32)), .val (.ref b1), .val (.ref b3), .val (.ref w_MERGED_GROUPS), .val (.int (0 : Int32)), .val (.ref b3), .val (.int (1 : Int32)), .val (.ref b10), .val (.int (1 : Int32)), .unset, .unset, .unset] [])) _
    refine XS.iloadN X14.here hx rfl (hb hby at_177) rfl ?_
    show Steps p.tables e below (T14.setTop (mkF m 178 #[.val (.int p1), .val (.int p2), .val (.int (3 : Int32)), .val (.ref b1), .val (.ref b3), .val (.ref w_MERGED_GROUPS), .val (.int (0 : Int32)), .val (.ref b3), .val (.int (1 : Int32)), .val (.ref b10), .val (.int (1 : Int32)), .unset, .unset, .unset] [(.int (3 : Int32))])) _
    refine XS.iconst X14.here hx rfl (hb hby at_178) ?_
    show Steps p.tables e below (T14.setTop (mkF m 179 #[.val (.int p1), .val (.int p2), .val (.int (3 : Int32)), .val (.ref b1), .val (.ref b3), .val (.ref w_MERGED_GROUPS), .val (.int (0 : Int32)), .val (.ref b3), .val (.int (1 : Int32)), .val (.ref b10), .val (.int (1 : Int32)), .unset, .unset, .unset] [(.int (3 : Int32)), (.int (3 : Int32))])) _
    refine XS.icmpNo X14.here hx rfl (hb hby at_179) rfl (teq (by decide)).2 ?_
    show Steps p.tables e below (T14.setTop (mkF m 182 #[.val (.int p1), .val (.int p2), .val (.int (3 : Int32)), .val (.ref b1), .val (.ref b3), .val (.ref w_MERGED_GROUPS), .val (.int (0 : Int32)), .val (.ref b3), .val (.int (1 : Int32)), .val (.ref b10), .val (.int (1 : Int32)), .unset, .unset, .unset] [])) _
    refine st15 _ ?_
    show Steps p.tables e below (T15.setTop (mkF m 185 #[.val (.int p1), .val (.int p2), .val (.int (3 : Int32)), .val (.ref b1), .val (.ref b3), .val (.ref w_MERGED_GROUPS), .val (.int (0 : Int32)), .val (.ref b3), .val (.int (1 : Int32)), .val (.ref b10), .val (.int (1 : Int32)), .unset, .unset, .unset] [(.ref w_MERGED_GROUPS)])) _
    refine XS.astore X15.here hx rfl (hb hby at_185) rfl rfl (l' := #[.val (.int p1), .val (.int p2), .val (.int (3 : Int32)), .val (.ref b1), .val (.ref b3), .val (.ref w_MERGED_GROUPS), .val (.int (0 : Int32)), .val (.ref b3), .val (.int (1 : Int32)), .val (.ref b10), .val (.int (1 : Int32)), .val (.ref w_MERGED_GROUPS), .unset, .unset]) rfl ?_
    show Steps p.tables e below (T15.setTop (mkF m 187 #[.val (.int p1), .val (.int p2), .val (.int (3 : Int32)), .val (.ref b1), .val (.ref b3), .val (.ref w_MERGED_GROUPS), .val (.int (0 : Int32)), .val (.ref b3), .val (.int (1 : Int32)), .val (.ref b10), .val (.int (1 : Int32)), .val (.ref w_MERGED_GROUPS), .unset, .unset] [])) _
    refine XS.aload X15.here hx rfl (hb hby at_187) rfl rfl ?_
    show Steps p.tables e below (T15.setTop (mkF m 189 #[.val (.int p1), .val (.int p2), .val (.int (3 : Int32)), .val (.ref b1), .val (.ref b3), .val (.ref w_MERGED_GROUPS), .val (.int (0 : Int32)), .val (.ref b3), .val (.int (1 : Int32)), .val (.ref b10), .val (.int (1 : Int32)), .val (.ref w_MERGED_GROUPS), .unset, .unset] [(.ref b3)])) _
    refine XS.astore X15.here hx rfl (hb hby at_189) rfl rfl (l' := #[.val (.int p1), .val (.int p2), .val (.int (3 : Int32)), .val (.ref b1), .val (.ref b3), .val (.ref w_MERGED_GROUPS), .val (.int (0 : Int32)), .val (.ref b3), .val (.int (1 : Int32)), .val (.ref b10), .val (.int (1 : Int32)), .val (.ref w_MERGED_GROUPS), .val (.ref b3), .unset]) rfl ?_
    show Steps p.tables e below (T15.setTop (mkF m 191 #[.val (.int p1), .val (.int p2), .val (.int (3 : Int32)), .val (.ref b1), .val (.ref b3), .val (.ref w_MERGED_GROUPS), .val (.int (0 : Int32)), .val (.ref b3), .val (.int (1 : Int32)), .val (.ref b10), .val (.int (1 : Int32)), .val (.ref w_MERGED_GROUPS), .val (.ref b3), .unset] [])) _
    refine XS.goto X15.here hx rfl (pc0 := 191) (pc' := 219) rfl (hb hby at_191) (by decide) (by decide) ?_
    show Steps p.tables e below (T15.setTop (mkF m 219 #[.val (.int p1), .val (.int p2), .val (.int (3 : Int32)), .val (.ref b1), .val (.ref b3), .val (.ref w_MERGED_GROUPS), .val (.int (0 : Int32)), .val (.ref b3), .val (.int (1 : Int32)), .val (.ref b10), .val (.int (1 : Int32)), .val (.ref w_MERGED_GROUPS), .val (.ref b3), .unset] [])) _
    refine XS.aload X15.here hx rfl (hb hby at_219) rfl rfl ?_
    show Steps p.tables e below (T15.setTop (mkF m 221 #[.val (.int p1), .val (.int p2), .val (.int (3 : Int32)), .val (.ref b1), .val (.ref b3), .val (.ref w_MERGED_GROUPS), .val (.int (0 : Int32)), .val (.ref b3), .val (.int (1 : Int32)), .val (.ref b10), .val (.int (1 : Int32)), .val (.ref w_MERGED_GROUPS), .val (.ref b3), .unset] [(.ref w_MERGED_GROUPS)])) _
    refine XS.aload X15.here hx rfl (hb hby at_221) rfl rfl ?_
    show Steps p.tables e below (T15.setTop (mkF m 223 #[.val (.int p1), .val (.int p2), .val (.int (3 : Int32)), .val (.ref b1), .val (.ref b3), .val (.ref w_MERGED_GROUPS), .val (.int (0 : Int32)), .val (.ref b3), .val (.int (1 : Int32)), .val (.ref b10), .val (.int (1 : Int32)), .val (.ref w_MERGED_GROUPS), .val (.ref b3), .unset] [(.ref b3), (.ref w_MERGED_GROUPS)])) _
    refine st16 _ ?_
    show Steps p.tables e below (T16.setTop (mkF m 226 #[.val (.int p1), .val (.int p2), .val (.int (3 : Int32)), .val (.ref b1), .val (.ref b3), .val (.ref w_MERGED_GROUPS), .val (.int (0 : Int32)), .val (.ref b3), .val (.int (1 : Int32)), .val (.ref b10), .val (.int (1 : Int32)), .val (.ref w_MERGED_GROUPS), .val (.ref b3), .unset] [(.ref r16)])) _
    refine XS.astore X16.here hx rfl (hb hby at_226) rfl rfl (l' := #[.val (.int p1), .val (.int p2), .val (.int (3 : Int32)), .val (.ref b1), .val (.ref b3), .val (.ref w_MERGED_GROUPS), .val (.int (0 : Int32)), .val (.ref b3), .val (.int (1 : Int32)), .val (.ref b10), .val (.int (1 : Int32)), .val (.ref w_MERGED_GROUPS), .val (.ref b3), .val (.ref r16)]) rfl ?_
    show Steps p.tables e below (T16.setTop (mkF m 228 #[.val (.int p1), .val (.int p2), .val (.int (3 : Int32)), .val (.ref b1), .val (.ref b3), .val (.ref w_MERGED_GROUPS), .val (.int (0 : Int32)), .val (.ref b3), .val (.int (1 : Int32)), .val (.ref b10), .val (.int (1 : Int32)), .val (.ref w_MERGED_GROUPS), .val (.ref b3), .val (.ref r16)] [])) _
    refine XS.iload X16.here hx rfl (hb hby at_228) rfl ?_
    show Steps p.tables e below (T16.setTop (mkF m 230 #[.val (.int p1), .val (.int p2), .val (.int (3 : Int32)), .val (.ref b1), .val (.ref b3), .val (.ref w_MERGED_GROUPS), .val (.int (0 : Int32)), .val (.ref b3), .val (.int (1 : Int32)), .val (.ref b10), .val (.int (1 : Int32)), .val (.ref w_MERGED_GROUPS), .val (.ref b3), .val (.ref r16)] [(.int (1 : Int32))])) _
    refine XS.ifNo X16.here hx rfl (hb hby at_230) rfl ((if0 _ _).trans (feq (by decide)).1) ?_
    show Steps p.tables e below (T16.setTop (mkF m 233 #[.val (.int p1), .val (.int p2), .val (.int (3 : Int32)), .val (.ref b1), .val (.ref b3), .val (.ref w_MERGED_GROUPS), .val (.int (0 : Int32)), .val (.ref b3), .val (.int (1 : Int32)), .val (.ref b10), .val (.int (1 : Int32)), .val (.ref w_MERGED_GROUPS), .val (.ref b3), .val (.ref r16)] [])) _
    refine XS.aload X16.here hx rfl (hb hby at_233) rfl rfl ?_
    show Steps p.tables e below (T16.setTop (mkF m 235 #[.val (.int p1), .val (.int p2), .val (.int (3 : Int32)), .val (.ref b1), .val (.ref b3), .val (.ref w_MERGED_GROUPS), .val (.int (0 : Int32)), .val (.ref b3), .val (.int (1 : Int32)), .val (.ref b10), .val (.int (1 : Int32)), .val (.ref w_MERGED_GROUPS), .val (.ref b3), .val (.ref r16)] [(.ref r16)])) _
    refine st17.trans ?_
    show Steps p.tables e below (T17.setTop (mkF m 238 #[.val (.int p1), .val (.int p2), .val (.int (3 : Int32)), .val (.ref b1), .val (.ref b3), .val (.ref w_MERGED_GROUPS), .val (.int (0 : Int32)), .val (.ref b3), .val (.int (1 : Int32)), .val (.ref b10), .val (.int (1 : Int32)), .val (.ref w_MERGED_GROUPS), .val (.ref b3), .val (.ref r16)] [(.int (1 : Int32))])) _
    refine XS.ifNo X17.here hx rfl (hb hby at_238) rfl ((if0 _ _).trans (feq (by decide)).1) ?_
    show Steps p.tables e below (T17.setTop (mkF m 241 #[.val (.int p1), .val (.int p2), .val (.int (3 : Int32)), .val (.ref b1), .val (.ref b3), .val (.ref w_MERGED_GROUPS), .val (.int (0 : Int32)), .val (.ref b3), .val (.int (1 : Int32)), .val (.ref b10), .val (.int (1 : Int32)), .val (.ref w_MERGED_GROUPS), .val (.ref b3), .val (.ref r16)] [])) _
    refine XS.iconst X17.here hx rfl (hb hby at_241) ?_
    show Steps p.tables e below (T17.setTop (mkF m 242 #[.val (.int p1), .val (.int p2), .val (.int (3 : Int32)), .val (.ref b1), .val (.ref b3), .val (.ref w_MERGED_GROUPS), .val (.int (0 : Int32)), .val (.ref b3), .val (.int (1 : Int32)), .val (.ref b10), .val (.int (1 : Int32)), .val (.ref w_MERGED_GROUPS), .val (.ref b3), .val (.ref r16)] [(.int (1 : Int32))])) _
    refine XS.goto X17.here hx rfl (pc0 := 242) (pc' := 246) rfl (hb hby at_242) (by decide) (by decide) ?_
    exact k)
  obtain ⟨fs, hr, hrun, hended, hW, hsame⟩ := X17.leave (v := some (.int (1 : Int32))) (fun h => by rw [Bd.returns] at h; cases h)
  refine ⟨_, _, pre18 _ ?_, hrun, hended, _, _, rfl, ?_, ⟨_, rfl⟩, hW, hsame.mono (by decide) (by decide)⟩
  · show Steps p.tables e below (T17.setTop (mkF m 246 #[.val (.int p1), .val (.int p2), .val (.int (3 : Int32)), .val (.ref b1), .val (.ref b3), .val (.ref w_MERGED_GROUPS), .val (.int (0 : Int32)), .val (.ref b3), .val (.int (1 : Int32)), .val (.ref b10), .val (.int (1 : Int32)), .val (.ref w_MERGED_GROUPS), .val (.ref b3), .val (.ref r16)] [(.int (1 : Int32))])) _
    exact retN X17 hx (t := .boolean) Bd.returns (by simp) (hb hby at_246) hr
  · exact ⟨rfl, N17, trivial⟩
theorem own_cases (y : Int32) (h0 : 0 ≤ y.toInt) (h1 : y.toInt < 4) : y = (0 : Int32) ∨ y = (1 : Int32) ∨ y = (2 : Int32) ∨ y = (3 : Int32) := by
  have q : y.toInt = 0 ∨ y.toInt = 1 ∨ y.toInt = 2 ∨ y.toInt = 3 := by omega
  rcases q with q | q | q | q
  · exact Or.inl (Int32.toInt_inj.mp q)
  · exact Or.inr (Or.inl (Int32.toInt_inj.mp q))
  · exact Or.inr (Or.inr (Or.inl (Int32.toInt_inj.mp q)))
  · exact Or.inr (Or.inr (Or.inr (Int32.toInt_inj.mp q)))
theorem rm_law (l : Launch) (Z : State) (a0 : Array Value) (hw : ∀ d ∈ tables_1, d.before a0 Z = true) (ws : List Jvm.Cond) (p1 : Int32) (p2 : Int32) (h0 : Heap) (n0 : Nat) (w_ROWS w_RESULT w_PARTIAL_GROUPS w_MERGED_GROUPS w_D w_EL w_EE w_C w_EM w_M : Addr) (hK : own_K Z Z.heap w_ROWS w_RESULT w_PARTIAL_GROUPS w_MERGED_GROUPS w_D w_EL w_EE w_C w_EM w_M) (hn0 : n0 = Z.heap.size) (EX0 : Ext Z.heap h0) :
    MetFree l x (head1 (Jvm.Cond.code x code maxLocals ret :: ws) room_1) (fun a U => a = #[(.int p1), (.int p2)] ∧ Z.Warmed39 U.vm ∧ U.heap = h0) (fun _ _ _ _ _ => True) (fun _ U o U' => ∃ v L, o = .returned v ∧ own_QH (some (.int (1 : Int32))) n0 v U'.heap L ∧ FrameEnd U o U' L room_1.cells room_1.slots) := by
  have q := c_mask p1 3 2 (by decide) (by decide)
  have qb := c_mask p2 2147483647 31 (by decide) (by decide)
  rcases own_cases (p1 &&& (3 : Int32)) (by omega) (by omega) with hk | hk | hk | hk
  · exact rm_law0 l Z a0 hw ws p1 p2 h0 n0 w_ROWS w_RESULT w_PARTIAL_GROUPS w_MERGED_GROUPS w_D w_EL w_EE w_C w_EM w_M hK hn0 EX0 hk
  · exact rm_law1 l Z a0 hw ws p1 p2 h0 n0 w_ROWS w_RESULT w_PARTIAL_GROUPS w_MERGED_GROUPS w_D w_EL w_EE w_C w_EM w_M hK hn0 EX0 hk
  · exact rm_law2 l Z a0 hw ws p1 p2 h0 n0 w_ROWS w_RESULT w_PARTIAL_GROUPS w_MERGED_GROUPS w_D w_EL w_EE w_C w_EM w_M hK hn0 EX0 _ hk rfl (by rw [Int32.lt_iff_toInt_lt]; have e0 : (0 : Int32).toInt = 0 := (by decide); omega)
  · exact rm_law3 l Z a0 hw ws p1 p2 h0 n0 w_ROWS w_RESULT w_PARTIAL_GROUPS w_MERGED_GROUPS w_D w_EL w_EE w_C w_EM w_M hK hn0 EX0 hk
set_option maxRecDepth 65536 in
set_option maxHeartbeats 40000000 in
theorem comes_1 {Post : Tables → Env → Array Value → State → Outcome → State → Prop} (hpost : ∀ tb e args s v u, (limb_1_1.after args s (.returned v) u = true ∧ limb_1_2.after args s (.returned v) u = true ∧ True) → FrameEnd s (.returned v) u (Jvm.fieldLocs frame_1_writes args s ++ Jvm.arrayLocs frame_1_arrays args s ++ Jvm.staticLocs frame_1_statics s) 32 192 → Post tb e args s (.returned v) u) :
    ArmFor flags0 classFile x code maxLocals ret World_1 tables_1 room_1 Calls_1 rest_1 Pre_1 Post := by
  intro l hfl _ _ p e ha hc hk s m args below hf hA hF happ hP
  obtain ⟨hcalls, hrest, hpre⟩ := hP
  obtain ⟨-, -, -, hnamed, -, -, -, hat⟩ := (Spec.applies_iff hf).mp happ
  obtain ⟨hg, hn⟩ := and_e (Cond.before_iff.mp (show (Jvm.Cond.and given_1 narrow_1).before args s = true from hpre))
  obtain ⟨g0, hg⟩ := and_e hg
  obtain ⟨g1, hg⟩ := and_e hg
  obtain ⟨w0, w1, rfl⟩ : ∃ w0 w1 : Value, args = #[w0, w1] := by
    have hs : args.size = 2 := by simpa [Cond.value, given_1] using g0
    obtain ⟨L⟩ := args
    match L, hs with
    | [w0, w1], _ => exact ⟨w0, w1, rfl⟩
  have hw := fun d (hd : d ∈ tables_1) => atoms_spec (ws := Jvm.Cond.code x code maxLocals ret :: tables_1) hat d (List.mem_cons_of_mem _ hd)
  have hfit : Fit s := fun {y c} hc i hi => by
    obtain ⟨ha, rfl⟩ := Array.getElem?_eq_some_iff.mp hc
    have q := List.all_eq_true.mp ((Array.all_eq_true_iff_forall_mem.mp hF) _ (Array.getElem_mem ha)) i (List.mem_range.mpr hi)
    simpa [Array.getElem?_eq_getElem hi] using q
  obtain ⟨i0, ei0⟩ := is_v g1
  obtain rfl : w0 = (.int i0) := Option.some.inj ei0
  obtain ⟨i1, ei1⟩ := is_v hg
  obtain rfl : w1 = (.int i1) := Option.some.inj ei1
  obtain ⟨hsets, hown0⟩ := atoms_of _ (rest_1_c_eq ▸ (show rest_1_c.before _ s = true from hrest))
  obtain ⟨c0, hn⟩ := and_e hn
  obtain ⟨w_ROWS, v_w_ROWS⟩ := exa_v c0
  have S_w_ROWS := Sta.start v_w_ROWS (Or.inr ⟨(hw _ (ow 72 rfl)), (hw _ (ow 73 rfl))⟩)
  have E_w_ROWS := Exa.start v_w_ROWS c0
  obtain ⟨c1, hn⟩ := and_e hn
  have F_ordinal_w_ROWS := Fld.start ((fld_at v_w_ROWS).symm.trans (own_eqI c1))
  obtain ⟨c2, hn⟩ := and_e hn
  obtain ⟨w_RESULT, v_w_RESULT⟩ := exa_v c2
  have S_w_RESULT := Sta.start v_w_RESULT (Or.inr ⟨(hw _ (ow 72 rfl)), (hw _ (ow 224 rfl))⟩)
  have E_w_RESULT := Exa.start v_w_RESULT c2
  obtain ⟨c3, hn⟩ := and_e hn
  have F_ordinal_w_RESULT := Fld.start ((fld_at v_w_RESULT).symm.trans (own_eqI c3))
  obtain ⟨c4, hn⟩ := and_e hn
  obtain ⟨w_PARTIAL_GROUPS, v_w_PARTIAL_GROUPS⟩ := exa_v c4
  have S_w_PARTIAL_GROUPS := Sta.start v_w_PARTIAL_GROUPS (Or.inr ⟨(hw _ (ow 72 rfl)), (hw _ (ow 239 rfl))⟩)
  have E_w_PARTIAL_GROUPS := Exa.start v_w_PARTIAL_GROUPS c4
  obtain ⟨c5, hn⟩ := and_e hn
  have F_ordinal_w_PARTIAL_GROUPS := Fld.start ((fld_at v_w_PARTIAL_GROUPS).symm.trans (own_eqI c5))
  obtain ⟨c6, hn⟩ := and_e hn
  obtain ⟨w_MERGED_GROUPS, v_w_MERGED_GROUPS⟩ := exa_v c6
  have S_w_MERGED_GROUPS := Sta.start v_w_MERGED_GROUPS (Or.inr ⟨(hw _ (ow 72 rfl)), (hw _ (ow 257 rfl))⟩)
  have E_w_MERGED_GROUPS := Exa.start v_w_MERGED_GROUPS c6
  have F_ordinal_w_MERGED_GROUPS := Fld.start ((fld_at v_w_MERGED_GROUPS).symm.trans (own_eqI hn))
  obtain ⟨w_D, v_w_D⟩ := exa_v (Cond.before_iff.mp (hsets _ (List.mem_of_getElem? (i := 7) rfl)))
  have S_w_D := Sta.start v_w_D (Or.inr ⟨(hw _ (ow 2 rfl)), (hsets _ (List.mem_of_getElem? (i := 2) rfl))⟩)
  obtain ⟨cl_w_D, A_w_D⟩ := Arr.start v_w_D (Cond.before_iff.mp (hsets _ (List.mem_of_getElem? (i := 6) rfl)))
  have n_w_D := own_len (own_eqI (Cond.before_iff.mp (hsets _ (List.mem_of_getElem? (i := 8) rfl)))) v_w_D A_w_D.1
  have B_w_D : own_Arr s s.heap w_D (.object "java/lang/Object") [] := ⟨cl_w_D, A_w_D, own_nil n_w_D⟩
  obtain ⟨w_EL, v_w_EL⟩ := exa_v (Cond.before_iff.mp (hsets _ (List.mem_of_getElem? (i := 11) rfl)))
  have S_w_EL := Sta.start v_w_EL (Or.inl (hsets _ (List.mem_of_getElem? (i := 10) rfl)))
  have E_w_EL := Exa.start v_w_EL (Cond.before_iff.mp (hsets _ (List.mem_of_getElem? (i := 11) rfl)))
  obtain ⟨w_EE, v_w_EE⟩ := arr_v (Cond.before_iff.mp (hsets _ (List.mem_of_getElem? (i := 12) rfl)))
  have F_elements_w_EL := Fld.start ((fld_at v_w_EL).symm.trans v_w_EE)
  obtain ⟨cl_w_EE, A_w_EE⟩ := Arr.start v_w_EE (Cond.before_iff.mp (hsets _ (List.mem_of_getElem? (i := 12) rfl)))
  have n_w_EE := own_len (own_eqI (Cond.before_iff.mp (hsets _ (List.mem_of_getElem? (i := 14) rfl)))) v_w_EE A_w_EE.1
  have B_w_EE : own_Arr s s.heap w_EE (.object "java/lang/Object") [] := ⟨cl_w_EE, A_w_EE, own_nil n_w_EE⟩
  have F_allowNulls_w_EL := Fld.start ((fld_at v_w_EL).symm.trans (own_eqI (Cond.before_iff.mp (hsets _ (List.mem_of_getElem? (i := 15) rfl)))))
  have S_high := Sta.start (own_eqI (Cond.before_iff.mp (hsets _ (List.mem_of_getElem? (i := 19) rfl)))) (Or.inl (hsets _ (List.mem_of_getElem? (i := 17) rfl)))
  obtain ⟨w_C, v_w_C⟩ := exa_v (Cond.before_iff.mp (hsets _ (List.mem_of_getElem? (i := 21) rfl)))
  have S_w_C := Sta.start v_w_C (Or.inr ⟨(hw _ (ow 79 rfl)), (hsets _ (List.mem_of_getElem? (i := 18) rfl))⟩)
  obtain ⟨cl_w_C, A_w_C⟩ := Arr.start v_w_C (Cond.before_iff.mp (hsets _ (List.mem_of_getElem? (i := 20) rfl)))
  have n_w_C := own_len (own_eqI (Cond.before_iff.mp (hsets _ (List.mem_of_getElem? (i := 22) rfl)))) v_w_C A_w_C.1
  have C_w_C : own_Cache s s.heap w_C := own_cache v_w_C A_w_C n_w_C (Cond.before_iff.mp (hsets _ (List.mem_of_getElem? (i := 23) rfl))) (fun _ => v_w_C)
  obtain ⟨w_EM, v_w_EM⟩ := exa_v (Cond.before_iff.mp (hsets _ (List.mem_of_getElem? (i := 26) rfl)))
  have S_w_EM := Sta.start v_w_EM (Or.inl (hsets _ (List.mem_of_getElem? (i := 25) rfl)))
  obtain ⟨cM, kM, w_M, m1, m2, m3, -⟩ := hcalls.1
  have M_w_M : own_M s s.heap w_M := ⟨cM, kM, m1, m2, m3⟩
  have hK : own_K s s.heap w_ROWS w_RESULT w_PARTIAL_GROUPS w_MERGED_GROUPS w_D w_EL w_EE w_C w_EM w_M := ⟨S_w_ROWS, E_w_ROWS, F_ordinal_w_ROWS, S_w_RESULT, E_w_RESULT, F_ordinal_w_RESULT, S_w_PARTIAL_GROUPS, E_w_PARTIAL_GROUPS, F_ordinal_w_PARTIAL_GROUPS, S_w_MERGED_GROUPS, E_w_MERGED_GROUPS, F_ordinal_w_MERGED_GROUPS, S_w_D, B_w_D, S_w_EL, E_w_EL, F_elements_w_EL, B_w_EE, F_allowNulls_w_EL, S_high, S_w_C, C_w_C, S_w_EM, M_w_M⟩
  obtain ⟨n, o, h1, h2, h3, _, L, rfl, ⟨rfl, N, -⟩, hq⟩ := rm_law l s _ hw tables_1 i0 i1 s.heap s.heap.size w_ROWS w_RESULT w_PARTIAL_GROUPS w_MERGED_GROUPS w_D w_EL w_EE w_C w_EM w_M hK rfl ⟨Nat.le_refl _, fun _ _ q => q⟩ p e ha hc hk s m _ below hf ((Spec.applies_iff_loose hf).mp happ).1 ⟨rfl, State.Warmed39.refl s, rfl⟩ trivial
  refine ⟨n, _, h1, h2, h3, hpost _ _ _ _ _ _ ⟨Cond.after_iff.mpr rfl, Cond.after_iff.mpr (eq_i res_at (Term.int_eval (1)) rfl), trivial⟩ ⟨hq.1, hq.2.1, (hq.2.2.sift fun y hy => Or.inr (N y hy)).mono (by decide) (by decide)⟩⟩
theorem main_1_1 : Claimed_1_1 := comes_1 fun _ _ _ _ _ _ h hF => ⟨h.1, hF⟩
theorem main_1_2 : Claimed_1_2 := comes_1 fun _ _ _ _ _ _ h hF => ⟨h.2.1, hF⟩
end Jvm.Pilot.@@N@@
namespace Jvm.Pilot.@@N@@
open Jvm Jvm.ClassFile Sem Op Lib Jvm.Free Jvm.Stand Jvm.Pilot.@@N@@.Jvm.D
/-! MADE BY PROGRAM (witnessworld.py) out of the Statement's table words and the real class files: 39 classes; the members and pool entries that the words name. The judged class is class 1, her method 1. -/
namespace start1
open Jvm.ClassFile
def u (s : String) : CpInfo := .utf8 (stringToUtf16 s)
/-- a pool by its gaps: so many unusable entries, then the entry; so many at the end -/
def gap : Nat → List CpInfo → List CpInfo
  | 0, r => r
  | n + 1, r => .unusable :: gap n r
def poolList (es : List (Nat × CpInfo)) (last : Nat) : List CpInfo := es.foldr (fun e r => gap e.1 (e.2 :: r)) (gap last [])
def pool (es : List (Nat × CpInfo)) (last : Nat) : Array CpInfo := ⟨poolList es last⟩
def fileOf (pool : Array CpInfo) (this : Nat) (attrs : Array Attribute := #[]) (ms : Array MethodInfo := #[]) (fl : Nat := 33) (sup : Nat := 0) (ifs : Array Nat := #[]) (fds : Array FieldInfo := #[]) : ClassFile where
  minorVersion := 0
  majorVersion := 65
  constantPool := pool
  accessFlags := fl
  thisClass := this
  superClass := sup
  interfaces := ifs
  fields := fds
  methods := ms
  attributes := attrs
def plain (name : String) (sup : Option ClassId) : Class where
  name := name
  kind := .ordinary
  loader := none
  accessFlags := 33
  super := sup
  interfaces := #[]
  cf := none
  fields := #[]
  methods := #[]
  instanceTypes := #[]
  staticTypes := #[]
  resolved := #[]
  callSites := []
  init := .initialized
  statics := none
  mirror := none

def pool0 : Array CpInfo := pool [(5, u "<init>"), (0, u "()V"), (1, .class_ 10), (1, u "java/lang/Object"), (0, u "getClass"), (0, u "()Ljava/lang/Class;")] 111

def k0c0 : Code := { maxStack := 0, maxLocals := 1, code := object_method_1_code, exceptionTable := #[], attributes := #[] }
def k0m0 : Method := { name := "<init>", desc := "()V", sig := { parameters := [], returnType := none }, accessFlags := 1, code := some k0c0 }
def k0m1 : Method := { name := "getClass", desc := "()Ljava/lang/Class;", sig := { parameters := [], returnType := some (.object "java/lang/Class") }, accessFlags := 273, code := none }
/-- java/lang/Object -/
def k0 : Class := { plain "java/lang/Object" none with
  accessFlags := 33
  interfaces := #[]
  cf := some (fileOf pool0 8 #[] #[{ accessFlags := 1, nameIndex := 5, descriptorIndex := 6, attributes := #[] }, { accessFlags := 273, nameIndex := 11, descriptorIndex := 12, attributes := #[] }] 33 0 #[] #[])
  fields := #[]
  methods := #[k0m0, k0m1]
  instanceTypes := #[]
  staticTypes := #[]
  resolved := Array.replicate 124 none
  statics := none }

def pool1 : Array CpInfo := pool [(2, .class_ 4), (0, .nameAndType 5 6), (0, u "java/lang/Object"), (0, u "<init>"), (0, u "()V"), (0, .class_ 8), (0, u "java/util/ArrayList"), (0, .methodref 7 3), (0, .class_ 11), (0, u "com/example/cairn/cairn/plan/Grouping"), (0, .methodref 10 13), (0, .nameAndType 5 14), (0, u "(Ljava/util/List;Ljava/util/List;)V"), (0, .fieldref 16 17), (0, .class_ 18), (0, .nameAndType 19 20), (0, u "com/example/cairn/cairn/plan/Stage$Shape"), (0, u "ROWS"), (0, u "Lcom/example/cairn/cairn/plan/Stage$Shape;"), (0, .methodref 22 23), (0, .class_ 24), (0, .nameAndType 25 26), (0, u "java/lang/Integer"), (0, u "valueOf"), (0, u "(I)Ljava/lang/Integer;"), (0, .methodref 7 28), (0, .nameAndType 29 30), (0, u "add"), (0, u "(Ljava/lang/Object;)Z"), (0, .fieldref 16 32), (0, .nameAndType 33 20), (0, u "RESULT"), (0, .fieldref 16 35), (0, .nameAndType 36 20), (0, u "PARTIAL_GROUPS"), (0, .integer 2147483647), (0, .fieldref 16 39), (0, .nameAndType 40 20), (0, u "MERGED_GROUPS"), (0, .class_ 42), (0, u "com/example/cairn/cairn/plan/Stage$Output"), (0, .methodref 41 44), (0, .nameAndType 5 45), (0, u "(Lcom/example/cairn/cairn/plan/Stage$Shape;Ljava/util/List;ILjava/util/List;Lcom/example/cairn/cairn/plan/Grouping;)V"), (0, .methodref 41 47), (0, .nameAndType 48 49), (0, u "goesToCoordinator"), (0, u "()Z"), (0, .methodref 41 51), (0, .nameAndType 52 53), (0, u "toCoordinator"), (0, u "(Lcom/example/cairn/cairn/plan/Stage$Shape;Lcom/example/cairn/cairn/plan/Grouping;)Lcom/example/cairn/cairn/plan/Stage$Output;"), (0, .class_ 55), (0, u "com/example/cairn/cairn/plan/OutputGoesToCoordinatorPinLaw"), (2, u "law"), (0, u "(II)Z")] 8

def k1m0 : Method := { name := "<init>", desc := "()V", sig := { parameters := [], returnType := none }, accessFlags := 1, code := none }
def k1c1 : Code := { maxStack := 7, maxLocals := 14, code := code, exceptionTable := #[], attributes := #[] }
def k1m1 : Method := { name := "law", desc := "(II)Z", sig := { parameters := [.int, .int], returnType := some .boolean }, accessFlags := 9, code := some k1c1 }
/-- com/example/cairn/cairn/plan/OutputGoesToCoordinatorPinLaw -/
def k1 : Class := { plain "com/example/cairn/cairn/plan/OutputGoesToCoordinatorPinLaw" (some 0) with
  accessFlags := 49
  interfaces := #[]
  cf := some (fileOf pool1 54 #[] #[{ accessFlags := 1, nameIndex := 5, descriptorIndex := 6, attributes := #[] }, { accessFlags := 9, nameIndex := 58, descriptorIndex := 59, attributes := #[] }] 49 2 #[] #[])
  fields := #[]
  methods := #[k1m0, k1m1]
  instanceTypes := #[]
  staticTypes := #[]
  resolved := Array.replicate 68 none
  statics := none }

def pool2 : Array CpInfo := pool [(8, .class_ 10), (1, u "java/lang/Iterable"), (24, .class_ 36), (0, u "java/lang/Object")] 25

/-- java/lang/Iterable -/
def k2 : Class := { plain "java/lang/Iterable" (some 0) with
  accessFlags := 1537
  interfaces := #[]
  cf := some (fileOf pool2 8 #[] #[] 1537 35 #[] #[])
  fields := #[]
  methods := #[]
  instanceTypes := #[]
  staticTypes := #[]
  resolved := Array.replicate 62 none
  statics := none }

def pool3 : Array CpInfo := pool [(10, .class_ 12), (1, u "java/util/Collection"), (0, u "toArray"), (16, u "()Z"), (29, .class_ 61), (0, u "java/lang/Object"), (0, .class_ 63), (0, u "java/lang/Iterable"), (2, u "isEmpty"), (3, u "()[Ljava/lang/Object;")] 44

def k3m0 : Method := { name := "isEmpty", desc := "()Z", sig := { parameters := [], returnType := some .boolean }, accessFlags := 1025, code := none }
def k3m1 : Method := { name := "toArray", desc := "()[Ljava/lang/Object;", sig := { parameters := [], returnType := some (.array (.object "java/lang/Object")) }, accessFlags := 1025, code := none }
/-- java/util/Collection -/
def k3 : Class := { plain "java/util/Collection" (some 0) with
  accessFlags := 1537
  interfaces := #[2]
  cf := some (fileOf pool3 10 #[] #[{ accessFlags := 1025, nameIndex := 66, descriptorIndex := 30, attributes := #[] }, { accessFlags := 1025, nameIndex := 13, descriptorIndex := 70, attributes := #[] }] 1537 60 #[62] #[])
  fields := #[]
  methods := #[k3m0, k3m1]
  instanceTypes := #[]
  staticTypes := #[]
  resolved := Array.replicate 115 none
  statics := none }

def pool4 : Array CpInfo := pool [(1, .methodref 2 3), (0, .class_ 4), (0, .nameAndType 5 6), (0, u "java/lang/Object"), (0, u "<init>"), (0, u "()V"), (1, .class_ 10), (1, u "java/util/AbstractCollection"), (66, .class_ 78), (0, u "java/util/Collection")] 81

def k4c0 : Code := { maxStack := 1, maxLocals := 1, code := jdk_22_method_1_code, exceptionTable := #[], attributes := #[] }
def k4m0 : Method := { name := "<init>", desc := "()V", sig := { parameters := [], returnType := none }, accessFlags := 4, code := some k4c0 }
/-- java/util/AbstractCollection -/
def k4 : Class := { plain "java/util/AbstractCollection" (some 0) with
  accessFlags := 1057
  interfaces := #[3]
  cf := some (fileOf pool4 8 #[] #[{ accessFlags := 4, nameIndex := 5, descriptorIndex := 6, attributes := #[] }] 1057 2 #[77] #[])
  fields := #[]
  methods := #[k4m0]
  instanceTypes := #[]
  staticTypes := #[]
  resolved := Array.replicate 160 none
  statics := none }

def pool5 : Array CpInfo := pool [(8, .class_ 10), (1, u "java/util/SequencedCollection"), (15, .class_ 27), (0, u "java/lang/Object"), (0, .class_ 29), (0, u "java/util/Collection")] 27

/-- java/util/SequencedCollection -/
def k5 : Class := { plain "java/util/SequencedCollection" (some 0) with
  accessFlags := 1537
  interfaces := #[3]
  cf := some (fileOf pool5 8 #[] #[] 1537 26 #[28] #[])
  fields := #[]
  methods := #[]
  instanceTypes := #[]
  staticTypes := #[]
  resolved := Array.replicate 57 none
  statics := none }

def pool6 : Array CpInfo := pool [(8, .class_ 10), (1, u "java/util/List"), (7, u "()Z"), (12, u "(Ljava/lang/Object;)V"), (16, u "<init>"), (18, u "isEmpty"), (20, u "of"), (1, .fieldref 91 92), (0, .class_ 93), (0, .nameAndType 94 95), (0, u "java/util/ImmutableCollections"), (0, u "EMPTY_LIST"), (0, u "Ljava/util/ImmutableCollections$ListN;"), (0, .class_ 97), (0, u "java/util/ImmutableCollections$List12"), (0, .methodref 96 99), (0, .nameAndType 48 31), (3, .class_ 104), (0, u "java/lang/Object"), (3, u "([Ljava/lang/Object;)Ljava/util/List;"), (3, .methodref 91 113), (0, .nameAndType 114 115), (0, u "listCopy"), (0, u "(Ljava/util/Collection;)Ljava/util/List;"), (3, u "()Ljava/util/List;"), (0, .class_ 121), (0, u "java/util/SequencedCollection"), (112, u "copyOf")] 16

def k6m0 : Method := { name := "isEmpty", desc := "()Z", sig := { parameters := [], returnType := some .boolean }, accessFlags := 1025, code := none }
def k6c1 : Code := { maxStack := 1, maxLocals := 0, code := jdk_40_method_36_code, exceptionTable := #[], attributes := #[] }
def k6m1 : Method := { name := "of", desc := "()Ljava/util/List;", sig := { parameters := [], returnType := some (.object "java/util/List") }, accessFlags := 9, code := some k6c1 }
def k6c2 : Code := { maxStack := 5, maxLocals := 2, code := jdk_40_method_47_code, exceptionTable := #[], attributes := #[] }
def k6m2 : Method := { name := "of", desc := "([Ljava/lang/Object;)Ljava/util/List;", sig := { parameters := [(.array (.object "java/lang/Object"))], returnType := some (.object "java/util/List") }, accessFlags := 137, code := some k6c2 }
def k6c3 : Code := { maxStack := 1, maxLocals := 1, code := jdk_40_method_48_code, exceptionTable := #[], attributes := #[] }
def k6m3 : Method := { name := "copyOf", desc := "(Ljava/util/Collection;)Ljava/util/List;", sig := { parameters := [(.object "java/util/Collection")], returnType := some (.object "java/util/List") }, accessFlags := 9, code := some k6c3 }
/-- java/util/List -/
def k6 : Class := { plain "java/util/List" (some 0) with
  accessFlags := 1537
  interfaces := #[5]
  cf := some (fileOf pool6 8 #[] #[{ accessFlags := 1025, nameIndex := 67, descriptorIndex := 18, attributes := #[] }, { accessFlags := 9, nameIndex := 88, descriptorIndex := 119, attributes := #[] }, { accessFlags := 137, nameIndex := 88, descriptorIndex := 108, attributes := #[] }, { accessFlags := 9, nameIndex := 234, descriptorIndex := 115, attributes := #[] }] 1537 103 #[120] #[])
  fields := #[]
  methods := #[k6m0, k6m1, k6m2, k6m3]
  instanceTypes := #[]
  staticTypes := #[]
  resolved := Array.replicate 251 none
  statics := none }

def pool7 : Array CpInfo := pool [(1, .methodref 2 3), (0, .class_ 4), (0, .nameAndType 5 6), (0, u "java/util/AbstractCollection"), (0, u "<init>"), (0, u "()V"), (0, .fieldref 8 9), (0, .class_ 10), (0, .nameAndType 11 12), (0, u "java/util/AbstractList"), (0, u "modCount"), (0, u "I"), (64, .class_ 78), (0, u "java/util/AbstractList$Itr"), (3, .class_ 83), (0, u "java/util/AbstractList$ListItr"), (9, .class_ 94), (0, u "java/util/AbstractList$RandomAccessSubList"), (3, .class_ 99), (0, u "java/util/AbstractList$SubList"), (33, .class_ 134), (0, u "java/util/List"), (73, .class_ 209), (0, u "java/util/AbstractList$SubList$1"), (0, .class_ 211), (0, u "java/util/AbstractList$RandomAccessSpliterator")] 6

def k7c0 : Code := { maxStack := 2, maxLocals := 1, code := jdk_39_method_1_code, exceptionTable := #[], attributes := #[] }
def k7m0 : Method := { name := "<init>", desc := "()V", sig := { parameters := [], returnType := none }, accessFlags := 4, code := some k7c0 }
/-- java/util/AbstractList -/
def k7 : Class := { plain "java/util/AbstractList" (some 4) with
  accessFlags := 1057
  interfaces := #[6]
  cf := some (fileOf pool7 8 #[.nestMembers #[93, 98, 208, 210, 82, 77]] #[{ accessFlags := 4, nameIndex := 5, descriptorIndex := 6, attributes := #[] }] 1057 2 #[133] #[{ accessFlags := 132, nameIndex := 11, descriptorIndex := 12, attributes := #[] }])
  fields := #[{ name := "modCount", type := .int, accessFlags := 132, slot := 0, constantValue := 0 }]
  methods := #[k7m0]
  instanceTypes := #[.int]
  staticTypes := #[]
  resolved := Array.replicate 218 none
  statics := none }

def pool8 : Array CpInfo := pool [(1, .class_ 2), (0, u "java/util/RandomAccess"), (0, .class_ 4), (0, u "java/lang/Object")] 2

/-- java/util/RandomAccess -/
def k8 : Class := { plain "java/util/RandomAccess" (some 0) with
  accessFlags := 1537
  interfaces := #[]
  cf := some (fileOf pool8 1 #[] #[] 1537 3 #[] #[])
  fields := #[]
  methods := #[]
  instanceTypes := #[]
  staticTypes := #[]
  resolved := Array.replicate 7 none
  statics := none }

def pool9 : Array CpInfo := pool [(1, .class_ 2), (0, u "java/lang/Cloneable"), (0, .class_ 4), (0, u "java/lang/Object")] 2

/-- java/lang/Cloneable -/
def k9 : Class := { plain "java/lang/Cloneable" (some 0) with
  accessFlags := 1537
  interfaces := #[]
  cf := some (fileOf pool9 1 #[] #[] 1537 3 #[] #[])
  fields := #[]
  methods := #[]
  instanceTypes := #[]
  staticTypes := #[]
  resolved := Array.replicate 7 none
  statics := none }

def pool10 : Array CpInfo := pool [(1, .class_ 2), (0, u "java/io/Serializable"), (0, .class_ 4), (0, u "java/lang/Object")] 2

/-- java/io/Serializable -/
def k10 : Class := { plain "java/io/Serializable" (some 0) with
  accessFlags := 1537
  interfaces := #[]
  cf := some (fileOf pool10 1 #[] #[] 1537 3 #[] #[])
  fields := #[]
  methods := #[]
  instanceTypes := #[]
  staticTypes := #[]
  resolved := Array.replicate 7 none
  statics := none }

def pool11 : Array CpInfo := pool [(1, .methodref 2 3), (0, .class_ 4), (0, .nameAndType 5 6), (0, u "java/util/AbstractList"), (0, u "<init>"), (0, u "()V"), (0, .class_ 8), (0, u "java/lang/Object"), (0, .fieldref 10 11), (0, .class_ 12), (0, .nameAndType 13 14), (0, u "java/util/ArrayList"), (0, u "elementData"), (0, u "[Ljava/lang/Object;"), (2, u "EMPTY_ELEMENTDATA"), (21, .fieldref 10 40), (0, .nameAndType 41 14), (0, u "DEFAULTCAPACITY_EMPTY_ELEMENTDATA"), (4, u "toArray"), (0, u "()[Ljava/lang/Object;"), (0, .fieldref 10 49), (0, .nameAndType 50 51), (0, u "size"), (0, u "I"), (6, .class_ 60), (1, u "java/util/Arrays"), (0, u "copyOf"), (1, .fieldref 10 64), (0, .nameAndType 65 51), (0, u "modCount"), (0, .methodref 58 67), (0, .nameAndType 61 68), (0, u "([Ljava/lang/Object;I)[Ljava/lang/Object;"), (0, .methodref 10 70), (0, .nameAndType 71 72), (0, u "grow"), (0, u "(I)[Ljava/lang/Object;"), (6, .methodref 80 81), (0, .class_ 82), (0, .nameAndType 83 84), (0, u "java/lang/Math"), (0, u "max"), (0, u "(II)I"), (11, u "(Ljava/lang/Object;)Z"), (32, .methodref 10 130), (0, .nameAndType 71 47), (0, .methodref 10 132), (0, .nameAndType 133 134), (0, u "add"), (0, u "(Ljava/lang/Object;[Ljava/lang/Object;I)V"), (13, .class_ 149), (0, u "java/util/List"), (23, u "()Z"), (88, .class_ 263), (0, u "java/util/ArrayList$ListItr"), (3, .class_ 268), (0, u "java/util/ArrayList$Itr"), (7, .class_ 277), (0, u "java/util/ArrayList$SubList"), (12, .class_ 291), (0, u "java/util/ArrayList$ArrayListSpliterator"), (37, .class_ 330), (0, u "java/util/RandomAccess"), (0, .class_ 332), (0, u "java/lang/Cloneable"), (0, .class_ 334), (0, u "java/io/Serializable"), (0, u "serialVersionUID"), (0, u "J"), (3, u "DEFAULT_CAPACITY"), (22, u "isEmpty"), (136, .class_ 501), (0, u "java/util/ArrayList$SubList$2"), (0, .class_ 503), (0, u "java/util/ArrayList$SubList$1")] 5

def k11c0 : Code := { maxStack := 2, maxLocals := 1, code := jdk_38_method_2_code, exceptionTable := #[], attributes := #[] }
def k11m0 : Method := { name := "<init>", desc := "()V", sig := { parameters := [], returnType := none }, accessFlags := 1, code := some k11c0 }
def k11c1 : Code := { maxStack := 4, maxLocals := 4, code := jdk_38_method_6_code, exceptionTable := #[], attributes := #[] }
def k11m1 : Method := { name := "grow", desc := "(I)[Ljava/lang/Object;", sig := { parameters := [.int], returnType := some (.array (.object "java/lang/Object")) }, accessFlags := 2, code := some k11c1 }
def k11c2 : Code := { maxStack := 3, maxLocals := 1, code := jdk_38_method_7_code, exceptionTable := #[], attributes := #[] }
def k11m2 : Method := { name := "grow", desc := "()[Ljava/lang/Object;", sig := { parameters := [], returnType := some (.array (.object "java/lang/Object")) }, accessFlags := 2, code := some k11c2 }
def k11c3 : Code := { maxStack := 1, maxLocals := 1, code := jdk_38_method_9_code, exceptionTable := #[], attributes := #[] }
def k11m3 : Method := { name := "isEmpty", desc := "()Z", sig := { parameters := [], returnType := some .boolean }, accessFlags := 1, code := some k11c3 }
def k11c4 : Code := { maxStack := 2, maxLocals := 1, code := jdk_38_method_16_code, exceptionTable := #[], attributes := #[] }
def k11m4 : Method := { name := "toArray", desc := "()[Ljava/lang/Object;", sig := { parameters := [], returnType := some (.array (.object "java/lang/Object")) }, accessFlags := 1, code := some k11c4 }
def k11c5 : Code := { maxStack := 3, maxLocals := 4, code := jdk_38_method_24_code, exceptionTable := #[], attributes := #[] }
def k11m5 : Method := { name := "add", desc := "(Ljava/lang/Object;[Ljava/lang/Object;I)V", sig := { parameters := [(.object "java/lang/Object"), (.array (.object "java/lang/Object")), .int], returnType := none }, accessFlags := 2, code := some k11c5 }
def k11c6 : Code := { maxStack := 4, maxLocals := 2, code := jdk_38_method_25_code, exceptionTable := #[], attributes := #[] }
def k11m6 : Method := { name := "add", desc := "(Ljava/lang/Object;)Z", sig := { parameters := [(.object "java/lang/Object")], returnType := some .boolean }, accessFlags := 1, code := some k11c6 }
/-- java/util/ArrayList -/
def k11 : Class := { plain "java/util/ArrayList" (some 7) with
  accessFlags := 33
  interfaces := #[6, 8, 9, 10]
  cf := some (fileOf pool11 10 #[.nestMembers #[290, 276, 500, 502, 262, 267]] #[{ accessFlags := 1, nameIndex := 5, descriptorIndex := 6, attributes := #[] }, { accessFlags := 2, nameIndex := 71, descriptorIndex := 72, attributes := #[] }, { accessFlags := 2, nameIndex := 71, descriptorIndex := 47, attributes := #[] }, { accessFlags := 1, nameIndex := 363, descriptorIndex := 173, attributes := #[] }, { accessFlags := 1, nameIndex := 46, descriptorIndex := 47, attributes := #[] }, { accessFlags := 2, nameIndex := 133, descriptorIndex := 134, attributes := #[] }, { accessFlags := 1, nameIndex := 133, descriptorIndex := 96, attributes := #[] }] 33 2 #[148, 329, 331, 333] #[{ accessFlags := 26, nameIndex := 335, descriptorIndex := 336, attributes := #[] }, { accessFlags := 26, nameIndex := 340, descriptorIndex := 51, attributes := #[] }, { accessFlags := 26, nameIndex := 17, descriptorIndex := 14, attributes := #[] }, { accessFlags := 26, nameIndex := 41, descriptorIndex := 14, attributes := #[] }, { accessFlags := 128, nameIndex := 13, descriptorIndex := 14, attributes := #[] }, { accessFlags := 2, nameIndex := 50, descriptorIndex := 51, attributes := #[] }])
  fields := #[{ name := "serialVersionUID", type := .long, accessFlags := 26, slot := 0, constantValue := 0 }, { name := "DEFAULT_CAPACITY", type := .int, accessFlags := 26, slot := 1, constantValue := 0 }, { name := "EMPTY_ELEMENTDATA", type := (.array (.object "java/lang/Object")), accessFlags := 26, slot := 2, constantValue := 0 }, { name := "DEFAULTCAPACITY_EMPTY_ELEMENTDATA", type := (.array (.object "java/lang/Object")), accessFlags := 26, slot := 3, constantValue := 0 }, { name := "elementData", type := (.array (.object "java/lang/Object")), accessFlags := 128, slot := 1, constantValue := 0 }, { name := "size", type := .int, accessFlags := 2, slot := 2, constantValue := 0 }]
  methods := #[k11m0, k11m1, k11m2, k11m3, k11m4, k11m5, k11m6]
  instanceTypes := #[.int, (.array (.object "java/lang/Object")), .int]
  staticTypes := #[.long, .int, (.array (.object "java/lang/Object")), (.array (.object "java/lang/Object"))]
  resolved := Array.replicate 509 none
  statics := some 0 }

def pool12 : Array CpInfo := pool [(1, .methodref 2 3), (0, .class_ 4), (0, .nameAndType 5 6), (0, u "java/lang/Object"), (0, u "<init>"), (0, u "()V"), (0, .class_ 8), (0, u "java/lang/Record")] 13

def k12c0 : Code := { maxStack := 1, maxLocals := 1, code := jdk_30_method_1_code, exceptionTable := #[], attributes := #[] }
def k12m0 : Method := { name := "<init>", desc := "()V", sig := { parameters := [], returnType := none }, accessFlags := 4, code := some k12c0 }
/-- java/lang/Record -/
def k12 : Class := { plain "java/lang/Record" (some 0) with
  accessFlags := 1057
  interfaces := #[]
  cf := some (fileOf pool12 7 #[] #[{ accessFlags := 4, nameIndex := 5, descriptorIndex := 6, attributes := #[] }] 1057 2 #[] #[])
  fields := #[]
  methods := #[k12m0]
  instanceTypes := #[]
  staticTypes := #[]
  resolved := Array.replicate 22 none
  statics := none }

def pool13 : Array CpInfo := pool [(1, .methodref 2 3), (0, .class_ 4), (0, .nameAndType 5 6), (0, u "java/lang/Record"), (0, u "<init>"), (0, u "()V"), (0, .interfaceMethodref 8 9), (0, .class_ 10), (0, .nameAndType 11 12), (0, u "java/util/List"), (0, u "copyOf"), (0, u "(Ljava/util/Collection;)Ljava/util/List;"), (0, .fieldref 14 15), (0, .class_ 16), (0, .nameAndType 17 18), (0, u "com/example/cairn/cairn/plan/Grouping"), (0, u "keys"), (0, u "Ljava/util/List;"), (0, .fieldref 14 20), (0, .nameAndType 21 18), (0, u "aggregates"), (19, u "(Ljava/util/List;Ljava/util/List;)V")] 31

def k13c0 : Code := { maxStack := 2, maxLocals := 3, code := prog_92_method_1_code, exceptionTable := #[], attributes := #[] }
def k13m0 : Method := { name := "<init>", desc := "(Ljava/util/List;Ljava/util/List;)V", sig := { parameters := [(.object "java/util/List"), (.object "java/util/List")], returnType := none }, accessFlags := 1, code := some k13c0 }
/-- com/example/cairn/cairn/plan/Grouping -/
def k13 : Class := { plain "com/example/cairn/cairn/plan/Grouping" (some 12) with
  accessFlags := 49
  interfaces := #[]
  cf := some (fileOf pool13 14 #[] #[{ accessFlags := 1, nameIndex := 5, descriptorIndex := 41, attributes := #[] }] 49 2 #[] #[{ accessFlags := 18, nameIndex := 17, descriptorIndex := 18, attributes := #[] }, { accessFlags := 18, nameIndex := 21, descriptorIndex := 18, attributes := #[] }])
  fields := #[{ name := "keys", type := (.object "java/util/List"), accessFlags := 18, slot := 0, constantValue := 0 }, { name := "aggregates", type := (.object "java/util/List"), accessFlags := 18, slot := 1, constantValue := 0 }]
  methods := #[k13m0]
  instanceTypes := #[(.object "java/util/List"), (.object "java/util/List")]
  staticTypes := #[]
  resolved := Array.replicate 73 none
  statics := none }

def pool14 : Array CpInfo := pool [(2, .class_ 4), (1, u "java/lang/Object"), (0, u "<init>"), (0, u "()V"), (3, .class_ 11), (0, u "java/util/ImmutableCollections$List12"), (0, .class_ 13), (0, u "java/util/ImmutableCollections$ListN"), (0, .fieldref 12 15), (0, .nameAndType 16 17), (0, u "allowNulls"), (0, u "Z"), (0, .class_ 19), (0, u "java/util/List"), (0, .interfaceMethodref 21 22), (0, .class_ 23), (0, .nameAndType 24 25), (0, u "java/util/Collection"), (0, u "isEmpty"), (0, u "()Z"), (0, .interfaceMethodref 18 27), (0, .nameAndType 28 29), (0, u "of"), (0, u "()Ljava/util/List;"), (0, .interfaceMethodref 21 31), (0, .nameAndType 32 33), (0, u "toArray"), (0, u "()[Ljava/lang/Object;"), (0, .interfaceMethodref 18 35), (0, .nameAndType 28 36), (0, u "([Ljava/lang/Object;)Ljava/util/List;"), (10, .class_ 49), (1, u "java/util/ImmutableCollections"), (0, u "$assertionsDisabled"), (5, u "[Ljava/lang/Object;"), (5, u "EMPTY_LIST"), (0, u "Ljava/util/ImmutableCollections$ListN;"), (8, u "EMPTY_LIST_NULLS"), (22, u "SALT32L"), (0, u "J"), (2, u "REVERSE"), (6, u "archivedObjects"), (2, u "EMPTY"), (0, u "Ljava/lang/Object;"), (0, .class_ 112), (0, u "java/util/ImmutableCollections$SetN"), (5, u "EMPTY_SET"), (0, u "Ljava/util/ImmutableCollections$SetN;"), (0, .class_ 121), (0, u "java/util/ImmutableCollections$MapN"), (3, u "EMPTY_MAP"), (0, u "Ljava/util/ImmutableCollections$MapN;"), (4, u "EXPAND_FACTOR"), (0, u "I"), (9, u "listCopy"), (0, u "(Ljava/util/Collection;)Ljava/util/List;"), (25, .class_ 170), (0, u "java/util/ImmutableCollections$MapN$MapNIterator"), (0, .class_ 172), (0, u "java/util/ImmutableCollections$MapN$1"), (0, .class_ 174), (0, u "java/util/ImmutableCollections$Map1"), (0, .class_ 176), (0, u "java/util/ImmutableCollections$AbstractImmutableMap"), (0, .class_ 178), (0, u "java/util/ImmutableCollections$SetN$SetNIterator"), (0, .class_ 180), (0, u "java/util/ImmutableCollections$Set12"), (0, .class_ 182), (0, u "java/util/ImmutableCollections$Set12$1"), (0, .class_ 184), (0, u "java/util/ImmutableCollections$AbstractImmutableSet"), (0, .class_ 186), (0, u "java/util/ImmutableCollections$SubList"), (0, .class_ 188), (0, u "java/util/ImmutableCollections$ListItr"), (0, .class_ 190), (0, u "java/util/ImmutableCollections$AbstractImmutableList"), (0, .class_ 192), (0, u "java/util/ImmutableCollections$AbstractImmutableCollection"), (0, .class_ 194), (0, u "java/util/ImmutableCollections$Access"), (0, .class_ 196), (0, u "java/util/ImmutableCollections$Access$1")] 16

def k14m0 : Method := { name := "<init>", desc := "()V", sig := { parameters := [], returnType := none }, accessFlags := 2, code := none }
def k14c1 : Code := { maxStack := 1, maxLocals := 2, code := jdk_56_method_3_code, exceptionTable := #[], attributes := #[] }
def k14m1 : Method := { name := "listCopy", desc := "(Ljava/util/Collection;)Ljava/util/List;", sig := { parameters := [(.object "java/util/Collection")], returnType := some (.object "java/util/List") }, accessFlags := 8, code := some k14c1 }
/-- java/util/ImmutableCollections -/
def k14 : Class := { plain "java/util/ImmutableCollections" (some 0) with
  accessFlags := 32
  interfaces := #[]
  cf := some (fileOf pool14 47 #[.nestMembers #[120, 169, 171, 173, 175, 111, 177, 179, 181, 183, 12, 10, 185, 187, 189, 191, 193, 195]] #[{ accessFlags := 2, nameIndex := 5, descriptorIndex := 6, attributes := #[] }, { accessFlags := 8, nameIndex := 142, descriptorIndex := 143, attributes := #[] }] 32 2 #[] #[{ accessFlags := 26, nameIndex := 95, descriptorIndex := 96, attributes := #[] }, { accessFlags := 26, nameIndex := 99, descriptorIndex := 17, attributes := #[] }, { accessFlags := 10, nameIndex := 106, descriptorIndex := 56, attributes := #[] }, { accessFlags := 26, nameIndex := 109, descriptorIndex := 110, attributes := #[] }, { accessFlags := 24, nameIndex := 62, descriptorIndex := 63, attributes := #[] }, { accessFlags := 24, nameIndex := 72, descriptorIndex := 63, attributes := #[] }, { accessFlags := 24, nameIndex := 118, descriptorIndex := 119, attributes := #[] }, { accessFlags := 24, nameIndex := 125, descriptorIndex := 126, attributes := #[] }, { accessFlags := 24, nameIndex := 131, descriptorIndex := 132, attributes := #[] }, { accessFlags := 4120, nameIndex := 50, descriptorIndex := 17, attributes := #[] }])
  fields := #[{ name := "SALT32L", type := .long, accessFlags := 26, slot := 0, constantValue := 0 }, { name := "REVERSE", type := .boolean, accessFlags := 26, slot := 1, constantValue := 0 }, { name := "archivedObjects", type := (.array (.object "java/lang/Object")), accessFlags := 10, slot := 2, constantValue := 0 }, { name := "EMPTY", type := (.object "java/lang/Object"), accessFlags := 26, slot := 3, constantValue := 0 }, { name := "EMPTY_LIST", type := (.object "java/util/ImmutableCollections$ListN"), accessFlags := 24, slot := 4, constantValue := 0 }, { name := "EMPTY_LIST_NULLS", type := (.object "java/util/ImmutableCollections$ListN"), accessFlags := 24, slot := 5, constantValue := 0 }, { name := "EMPTY_SET", type := (.object "java/util/ImmutableCollections$SetN"), accessFlags := 24, slot := 6, constantValue := 0 }, { name := "EMPTY_MAP", type := (.object "java/util/ImmutableCollections$MapN"), accessFlags := 24, slot := 7, constantValue := 0 }, { name := "EXPAND_FACTOR", type := .int, accessFlags := 24, slot := 8, constantValue := 0 }, { name := "$assertionsDisabled", type := .boolean, accessFlags := 4120, slot := 9, constantValue := 0 }]
  methods := #[k14m0, k14m1]
  instanceTypes := #[]
  staticTypes := #[.long, .boolean, (.array (.object "java/lang/Object")), (.object "java/lang/Object"), (.object "java/util/ImmutableCollections$ListN"), (.object "java/util/ImmutableCollections$ListN"), (.object "java/util/ImmutableCollections$SetN"), (.object "java/util/ImmutableCollections$MapN"), .int, .boolean]
  resolved := Array.replicate 213 none
  statics := some 1 }

def pool15 : Array CpInfo := pool [(1, .methodref 2 3), (0, .class_ 4), (0, .nameAndType 5 6), (0, u "java/util/AbstractCollection"), (0, u "<init>"), (0, u "()V"), (1, .class_ 10), (1, u "java/util/ImmutableCollections"), (2, .class_ 14), (0, u "java/util/ImmutableCollections$AbstractImmutableCollection")] 41

def k15c0 : Code := { maxStack := 1, maxLocals := 1, code := jdk_47_method_1_code, exceptionTable := #[], attributes := #[] }
def k15m0 : Method := { name := "<init>", desc := "()V", sig := { parameters := [], returnType := none }, accessFlags := 0, code := some k15c0 }
/-- java/util/ImmutableCollections$AbstractImmutableCollection -/
def k15 : Class := { plain "java/util/ImmutableCollections$AbstractImmutableCollection" (some 4) with
  accessFlags := 1056
  interfaces := #[]
  cf := some (fileOf pool15 13 #[.nestHost 8] #[{ accessFlags := 0, nameIndex := 5, descriptorIndex := 6, attributes := #[] }] 1056 2 #[] #[])
  fields := #[]
  methods := #[k15m0]
  instanceTypes := #[]
  staticTypes := #[]
  resolved := Array.replicate 56 none
  statics := none }

def pool16 : Array CpInfo := pool [(1, .methodref 2 3), (0, .class_ 4), (0, .nameAndType 5 6), (0, u "java/util/ImmutableCollections$AbstractImmutableCollection"), (0, u "<init>"), (0, u "()V"), (1, .class_ 10), (1, u "java/util/ImmutableCollections"), (3, .class_ 16), (1, u "java/util/ImmutableCollections$AbstractImmutableList"), (60, .class_ 78), (0, u "java/util/List"), (45, .class_ 125), (0, u "java/util/RandomAccess")] 70

def k16c0 : Code := { maxStack := 1, maxLocals := 1, code := jdk_46_method_1_code, exceptionTable := #[], attributes := #[] }
def k16m0 : Method := { name := "<init>", desc := "()V", sig := { parameters := [], returnType := none }, accessFlags := 0, code := some k16c0 }
/-- java/util/ImmutableCollections$AbstractImmutableList -/
def k16 : Class := { plain "java/util/ImmutableCollections$AbstractImmutableList" (some 15) with
  accessFlags := 1056
  interfaces := #[6, 8]
  cf := some (fileOf pool16 14 #[.nestHost 8] #[{ accessFlags := 0, nameIndex := 5, descriptorIndex := 6, attributes := #[] }] 1056 2 #[77, 124] #[])
  fields := #[]
  methods := #[k16m0]
  instanceTypes := #[]
  staticTypes := #[]
  resolved := Array.replicate 196 none
  statics := none }

def pool17 : Array CpInfo := pool [(1, .methodref 2 3), (0, .class_ 4), (0, .nameAndType 5 6), (0, u "java/util/ImmutableCollections$AbstractImmutableList"), (0, u "<init>"), (0, u "()V"), (0, .methodref 8 9), (0, .class_ 10), (0, .nameAndType 11 12), (0, u "java/util/Objects"), (0, u "requireNonNull"), (0, u "(Ljava/lang/Object;)Ljava/lang/Object;"), (0, .fieldref 14 15), (0, .class_ 16), (0, .nameAndType 17 18), (0, u "java/util/ImmutableCollections$List12"), (0, u "e0"), (0, u "Ljava/lang/Object;"), (0, .fieldref 20 21), (0, .class_ 22), (0, .nameAndType 23 18), (0, u "java/util/ImmutableCollections"), (0, u "EMPTY"), (0, .fieldref 14 25), (0, .nameAndType 26 18), (0, u "e1"), (43, .class_ 71), (0, u "java/io/Serializable"), (4, u "(Ljava/lang/Object;)V"), (11, u "isEmpty"), (0, u "()Z")] 35

def k17c0 : Code := { maxStack := 2, maxLocals := 2, code := jdk_44_method_1_code, exceptionTable := #[], attributes := #[] }
def k17m0 : Method := { name := "<init>", desc := "(Ljava/lang/Object;)V", sig := { parameters := [(.object "java/lang/Object")], returnType := none }, accessFlags := 0, code := some k17c0 }
def k17c1 : Code := { maxStack := 1, maxLocals := 1, code := jdk_44_method_4_code, exceptionTable := #[], attributes := #[] }
def k17m1 : Method := { name := "isEmpty", desc := "()Z", sig := { parameters := [], returnType := some .boolean }, accessFlags := 1, code := some k17c1 }
/-- java/util/ImmutableCollections$List12 -/
def k17 : Class := { plain "java/util/ImmutableCollections$List12" (some 16) with
  accessFlags := 48
  interfaces := #[10]
  cf := some (fileOf pool17 14 #[.nestHost 20] #[{ accessFlags := 0, nameIndex := 5, descriptorIndex := 76, attributes := #[] }, { accessFlags := 1, nameIndex := 88, descriptorIndex := 89, attributes := #[] }] 48 2 #[70] #[{ accessFlags := 18, nameIndex := 17, descriptorIndex := 18, attributes := #[] }, { accessFlags := 18, nameIndex := 26, descriptorIndex := 18, attributes := #[] }])
  fields := #[{ name := "e0", type := (.object "java/lang/Object"), accessFlags := 18, slot := 0, constantValue := 0 }, { name := "e1", type := (.object "java/lang/Object"), accessFlags := 18, slot := 1, constantValue := 0 }]
  methods := #[k17m0, k17m1]
  instanceTypes := #[(.object "java/lang/Object"), (.object "java/lang/Object")]
  staticTypes := #[]
  resolved := Array.replicate 125 none
  statics := none }

def pool18 : Array CpInfo := pool [(2, .class_ 4), (1, u "java/util/ImmutableCollections$AbstractImmutableList"), (2, .fieldref 8 9), (0, .class_ 10), (0, .nameAndType 11 12), (0, u "java/util/ImmutableCollections$ListN"), (0, u "elements"), (0, u "[Ljava/lang/Object;"), (2, u "allowNulls"), (0, u "Z"), (42, .class_ 60), (0, u "java/io/Serializable"), (13, u "isEmpty"), (0, u "()Z"), (38, .class_ 115), (0, u "java/util/ImmutableCollections")] 3

def k18c0 : Code := { maxStack := 1, maxLocals := 1, code := jdk_45_method_2_code, exceptionTable := #[], attributes := #[] }
def k18m0 : Method := { name := "isEmpty", desc := "()Z", sig := { parameters := [], returnType := some .boolean }, accessFlags := 1, code := some k18c0 }
/-- java/util/ImmutableCollections$ListN -/
def k18 : Class := { plain "java/util/ImmutableCollections$ListN" (some 16) with
  accessFlags := 48
  interfaces := #[10]
  cf := some (fileOf pool18 8 #[.nestHost 114] #[{ accessFlags := 1, nameIndex := 74, descriptorIndex := 75, attributes := #[] }] 48 2 #[59] #[{ accessFlags := 18, nameIndex := 11, descriptorIndex := 12, attributes := #[] }, { accessFlags := 18, nameIndex := 15, descriptorIndex := 16, attributes := #[] }])
  fields := #[{ name := "elements", type := (.array (.object "java/lang/Object")), accessFlags := 18, slot := 0, constantValue := 0 }, { name := "allowNulls", type := .boolean, accessFlags := 18, slot := 1, constantValue := 0 }]
  methods := #[k18m0]
  instanceTypes := #[(.array (.object "java/lang/Object")), .boolean]
  staticTypes := #[]
  resolved := Array.replicate 119 none
  statics := none }

def pool19 : Array CpInfo := pool [(1, .class_ 2), (0, u "java/lang/constant/Constable"), (0, .class_ 4), (0, u "java/lang/Object")] 6

/-- java/lang/constant/Constable -/
def k19 : Class := { plain "java/lang/constant/Constable" (some 0) with
  accessFlags := 1537
  interfaces := #[]
  cf := some (fileOf pool19 1 #[] #[] 1537 3 #[] #[])
  fields := #[]
  methods := #[]
  instanceTypes := #[]
  staticTypes := #[]
  resolved := Array.replicate 11 none
  statics := none }

def pool20 : Array CpInfo := pool [(1, .class_ 2), (0, u "java/lang/Comparable"), (0, .class_ 4), (0, u "java/lang/Object")] 7

/-- java/lang/Comparable -/
def k20 : Class := { plain "java/lang/Comparable" (some 0) with
  accessFlags := 1537
  interfaces := #[]
  cf := some (fileOf pool20 1 #[] #[] 1537 3 #[] #[])
  fields := #[]
  methods := #[]
  instanceTypes := #[]
  staticTypes := #[]
  resolved := Array.replicate 12 none
  statics := none }

def pool21 : Array CpInfo := pool [(2, .class_ 4), (1, u "java/lang/Enum"), (0, u "name"), (0, u "Ljava/lang/String;"), (0, .fieldref 2 8), (0, .nameAndType 9 10), (0, u "ordinal"), (0, u "I"), (1, .class_ 14), (1, u "java/lang/Object"), (4, u "hash"), (86, .class_ 108), (1, u "java/lang/Enum$EnumDesc"), (2, .class_ 112), (0, u "java/lang/constant/Constable"), (0, .class_ 114), (0, u "java/lang/Comparable"), (0, .class_ 116), (0, u "java/io/Serializable"), (9, u "()I")] 77

def k21c0 : Code := { maxStack := 1, maxLocals := 1, code := jdk_37_method_2_code, exceptionTable := #[], attributes := #[] }
def k21m0 : Method := { name := "ordinal", desc := "()I", sig := { parameters := [], returnType := some .int }, accessFlags := 17, code := some k21c0 }
/-- java/lang/Enum -/
def k21 : Class := { plain "java/lang/Enum" (some 0) with
  accessFlags := 1057
  interfaces := #[19, 20, 10]
  cf := some (fileOf pool21 2 #[.nestMembers #[106]] #[{ accessFlags := 17, nameIndex := 9, descriptorIndex := 126, attributes := #[] }] 1057 12 #[111, 113, 115] #[{ accessFlags := 18, nameIndex := 5, descriptorIndex := 6, attributes := #[] }, { accessFlags := 18, nameIndex := 9, descriptorIndex := 10, attributes := #[] }, { accessFlags := 2, nameIndex := 19, descriptorIndex := 10, attributes := #[] }])
  fields := #[{ name := "name", type := (.object "java/lang/String"), accessFlags := 18, slot := 0, constantValue := 0 }, { name := "ordinal", type := .int, accessFlags := 18, slot := 1, constantValue := 0 }, { name := "hash", type := .int, accessFlags := 2, slot := 2, constantValue := 0 }]
  methods := #[k21m0]
  instanceTypes := #[(.object "java/lang/String"), .int, .int]
  staticTypes := #[]
  resolved := Array.replicate 204 none
  statics := none }

def pool22 : Array CpInfo := pool [(1, .class_ 2), (0, u "com/example/cairn/cairn/plan/Stage$Shape"), (2, u "ROWS"), (0, u "Lcom/example/cairn/cairn/plan/Stage$Shape;"), (2, u "RESULT"), (2, u "PARTIAL_GROUPS"), (2, u "MERGED_GROUPS"), (2, u "$VALUES"), (0, u "[Lcom/example/cairn/cairn/plan/Stage$Shape;"), (6, .class_ 28), (1, u "java/lang/Enum"), (27, .class_ 57), (0, u "com/example/cairn/cairn/plan/Stage")] 2

/-- com/example/cairn/cairn/plan/Stage$Shape -/
def k22 : Class := { plain "com/example/cairn/cairn/plan/Stage$Shape" (some 21) with
  accessFlags := 16433
  interfaces := #[]
  cf := some (fileOf pool22 1 #[.nestHost 56] #[] 16433 26 #[] #[{ accessFlags := 16409, nameIndex := 5, descriptorIndex := 6, attributes := #[] }, { accessFlags := 16409, nameIndex := 9, descriptorIndex := 6, attributes := #[] }, { accessFlags := 16409, nameIndex := 12, descriptorIndex := 6, attributes := #[] }, { accessFlags := 16409, nameIndex := 15, descriptorIndex := 6, attributes := #[] }, { accessFlags := 4122, nameIndex := 18, descriptorIndex := 19, attributes := #[] }])
  fields := #[{ name := "ROWS", type := (.object "com/example/cairn/cairn/plan/Stage$Shape"), accessFlags := 16409, slot := 0, constantValue := 0 }, { name := "RESULT", type := (.object "com/example/cairn/cairn/plan/Stage$Shape"), accessFlags := 16409, slot := 1, constantValue := 0 }, { name := "PARTIAL_GROUPS", type := (.object "com/example/cairn/cairn/plan/Stage$Shape"), accessFlags := 16409, slot := 2, constantValue := 0 }, { name := "MERGED_GROUPS", type := (.object "com/example/cairn/cairn/plan/Stage$Shape"), accessFlags := 16409, slot := 3, constantValue := 0 }, { name := "$VALUES", type := (.array (.object "com/example/cairn/cairn/plan/Stage$Shape")), accessFlags := 4122, slot := 4, constantValue := 0 }]
  methods := #[]
  instanceTypes := #[(.object "java/lang/String"), .int, .int]
  staticTypes := #[(.object "com/example/cairn/cairn/plan/Stage$Shape"), (.object "com/example/cairn/cairn/plan/Stage$Shape"), (.object "com/example/cairn/cairn/plan/Stage$Shape"), (.object "com/example/cairn/cairn/plan/Stage$Shape"), (.array (.object "com/example/cairn/cairn/plan/Stage$Shape"))]
  resolved := Array.replicate 60 none
  statics := some 2 }

def pool23 : Array CpInfo := pool [(1, .methodref 2 3), (0, .class_ 4), (0, .nameAndType 5 6), (0, u "java/lang/Object"), (0, u "<init>"), (0, u "()V"), (1, .class_ 10), (1, u "java/lang/Number"), (2, .class_ 14), (0, u "java/io/Serializable"), (0, u "serialVersionUID"), (0, u "J")] 20

def k23c0 : Code := { maxStack := 1, maxLocals := 1, code := jdk_18_method_1_code, exceptionTable := #[], attributes := #[] }
def k23m0 : Method := { name := "<init>", desc := "()V", sig := { parameters := [], returnType := none }, accessFlags := 1, code := some k23c0 }
/-- java/lang/Number -/
def k23 : Class := { plain "java/lang/Number" (some 0) with
  accessFlags := 1057
  interfaces := #[10]
  cf := some (fileOf pool23 8 #[] #[{ accessFlags := 1, nameIndex := 5, descriptorIndex := 6, attributes := #[] }] 1057 2 #[13] #[{ accessFlags := 26, nameIndex := 15, descriptorIndex := 16, attributes := #[] }])
  fields := #[{ name := "serialVersionUID", type := .long, accessFlags := 26, slot := 0, constantValue := 0 }]
  methods := #[k23m0]
  instanceTypes := #[]
  staticTypes := #[.long]
  resolved := Array.replicate 37 none
  statics := none }

def pool24 : Array CpInfo := pool [(1, .class_ 2), (0, u "java/lang/constant/ConstantDesc"), (0, .class_ 4), (0, u "java/lang/Object")] 32

/-- java/lang/constant/ConstantDesc -/
def k24 : Class := { plain "java/lang/constant/ConstantDesc" (some 0) with
  accessFlags := 1537
  interfaces := #[]
  cf := some (fileOf pool24 1 #[] #[] 1537 3 #[] #[])
  fields := #[]
  methods := #[]
  instanceTypes := #[]
  staticTypes := #[]
  resolved := Array.replicate 37 none
  statics := none }

def pool25 : Array CpInfo := pool [(1, .class_ 2), (0, u "java/lang/Integer"), (16, u "digits"), (0, u "[C"), (46, u "<init>"), (17, u "DigitOnes"), (0, u "[B"), (2, u "DigitTens"), (10, .nameAndType 67 101), (0, u "()V"), (85, u "valueOf"), (0, u "(I)Ljava/lang/Integer;"), (0, .class_ 190), (0, u "java/lang/Integer$IntegerCache"), (0, .fieldref 189 192), (0, .nameAndType 193 194), (0, u "high"), (0, u "I"), (0, .fieldref 189 196), (0, .nameAndType 197 198), (0, u "cache"), (0, u "[Ljava/lang/Integer;"), (0, .methodref 1 200), (0, .nameAndType 67 201), (0, u "(I)V"), (0, .methodref 203 100), (0, .class_ 204), (0, u "java/lang/Number"), (0, .fieldref 1 206), (0, .nameAndType 207 194), (0, u "value"), (94, u "TYPE"), (0, u "Ljava/lang/Class;"), (0, .class_ 305), (0, u "java/lang/Comparable"), (0, .class_ 307), (0, u "java/lang/constant/Constable"), (0, .class_ 309), (0, u "java/lang/constant/ConstantDesc"), (0, u "MIN_VALUE"), (1, u "MAX_VALUE"), (3, u "SIZE"), (1, u "BYTES"), (1, u "serialVersionUID"), (0, u "J")] 131

def k25c0 : Code := { maxStack := 3, maxLocals := 1, code := jdk_33_method_22_code, exceptionTable := #[], attributes := #[] }
def k25m0 : Method := { name := "valueOf", desc := "(I)Ljava/lang/Integer;", sig := { parameters := [.int], returnType := some (.object "java/lang/Integer") }, accessFlags := 9, code := some k25c0 }
def k25c1 : Code := { maxStack := 2, maxLocals := 2, code := jdk_33_method_23_code, exceptionTable := #[], attributes := #[] }
def k25m1 : Method := { name := "<init>", desc := "(I)V", sig := { parameters := [.int], returnType := none }, accessFlags := 1, code := some k25c1 }
/-- java/lang/Integer -/
def k25 : Class := { plain "java/lang/Integer" (some 23) with
  accessFlags := 49
  interfaces := #[20, 19, 24]
  cf := some (fileOf pool25 1 #[.nestMembers #[189]] #[{ accessFlags := 9, nameIndex := 187, descriptorIndex := 188, attributes := #[] }, { accessFlags := 1, nameIndex := 67, descriptorIndex := 201, attributes := #[] }] 49 203 #[304, 306, 308] #[{ accessFlags := 25, nameIndex := 310, descriptorIndex := 194, attributes := #[] }, { accessFlags := 25, nameIndex := 312, descriptorIndex := 194, attributes := #[] }, { accessFlags := 25, nameIndex := 302, descriptorIndex := 303, attributes := #[] }, { accessFlags := 24, nameIndex := 19, descriptorIndex := 20, attributes := #[] }, { accessFlags := 24, nameIndex := 89, descriptorIndex := 86, attributes := #[] }, { accessFlags := 24, nameIndex := 85, descriptorIndex := 86, attributes := #[] }, { accessFlags := 18, nameIndex := 207, descriptorIndex := 194, attributes := #[] }, { accessFlags := 25, nameIndex := 316, descriptorIndex := 194, attributes := #[] }, { accessFlags := 25, nameIndex := 318, descriptorIndex := 194, attributes := #[] }, { accessFlags := 26, nameIndex := 320, descriptorIndex := 321, attributes := #[] }])
  fields := #[{ name := "MIN_VALUE", type := .int, accessFlags := 25, slot := 0, constantValue := 0 }, { name := "MAX_VALUE", type := .int, accessFlags := 25, slot := 1, constantValue := 0 }, { name := "TYPE", type := (.object "java/lang/Class"), accessFlags := 25, slot := 2, constantValue := 0 }, { name := "digits", type := (.array .char), accessFlags := 24, slot := 3, constantValue := 0 }, { name := "DigitTens", type := (.array .byte), accessFlags := 24, slot := 4, constantValue := 0 }, { name := "DigitOnes", type := (.array .byte), accessFlags := 24, slot := 5, constantValue := 0 }, { name := "value", type := .int, accessFlags := 18, slot := 0, constantValue := 0 }, { name := "SIZE", type := .int, accessFlags := 25, slot := 6, constantValue := 0 }, { name := "BYTES", type := .int, accessFlags := 25, slot := 7, constantValue := 0 }, { name := "serialVersionUID", type := .long, accessFlags := 26, slot := 8, constantValue := 0 }]
  methods := #[k25m0, k25m1]
  instanceTypes := #[.int]
  staticTypes := #[.int, .int, (.object "java/lang/Class"), (.array .char), (.array .byte), (.array .byte), .int, .int, .long]
  resolved := Array.replicate 453 none
  statics := none }

def pool26 : Array CpInfo := pool [(2, .class_ 4), (1, u "java/lang/Object"), (0, u "<init>"), (0, u "()V"), (0, .class_ 8), (0, u "java/lang/Integer"), (7, .class_ 18), (1, u "java/lang/Integer$IntegerCache"), (0, u "$assertionsDisabled"), (0, u "Z"), (26, u "high"), (0, u "I"), (8, u "archivedCache"), (0, u "[Ljava/lang/Integer;"), (12, u "cache"), (0, u "low")] 27

def k26m0 : Method := { name := "<init>", desc := "()V", sig := { parameters := [], returnType := none }, accessFlags := 2, code := none }
/-- java/lang/Integer$IntegerCache -/
def k26 : Class := { plain "java/lang/Integer$IntegerCache" (some 0) with
  accessFlags := 48
  interfaces := #[]
  cf := some (fileOf pool26 16 #[.nestHost 7] #[{ accessFlags := 2, nameIndex := 5, descriptorIndex := 6, attributes := #[] }] 48 2 #[] #[{ accessFlags := 24, nameIndex := 72, descriptorIndex := 48, attributes := #[] }, { accessFlags := 24, nameIndex := 47, descriptorIndex := 48, attributes := #[] }, { accessFlags := 24, nameIndex := 71, descriptorIndex := 58, attributes := #[] }, { accessFlags := 8, nameIndex := 57, descriptorIndex := 58, attributes := #[] }, { accessFlags := 4120, nameIndex := 19, descriptorIndex := 20, attributes := #[] }])
  fields := #[{ name := "low", type := .int, accessFlags := 24, slot := 0, constantValue := 0 }, { name := "high", type := .int, accessFlags := 24, slot := 1, constantValue := 0 }, { name := "cache", type := (.array (.object "java/lang/Integer")), accessFlags := 24, slot := 2, constantValue := 0 }, { name := "archivedCache", type := (.array (.object "java/lang/Integer")), accessFlags := 8, slot := 3, constantValue := 0 }, { name := "$assertionsDisabled", type := .boolean, accessFlags := 4120, slot := 4, constantValue := 0 }]
  methods := #[k26m0]
  instanceTypes := #[]
  staticTypes := #[.int, .int, (.array (.object "java/lang/Integer")), (.array (.object "java/lang/Integer")), .boolean]
  resolved := Array.replicate 100 none
  statics := some 3 }

def pool27 : Array CpInfo := pool [(1, .class_ 2), (0, u "java/lang/Math"), (1, .class_ 6), (1, u "java/lang/Object"), (0, u "<init>"), (0, u "()V"), (89, .class_ 100), (1, u "java/lang/Math$RandomNumberGeneratorHolder"), (71, u "negativeZeroFloatBits"), (0, u "J"), (2, u "negativeZeroDoubleBits"), (21, u "max"), (2, u "min"), (43, u "$assertionsDisabled"), (0, u "Z"), (88, u "(II)I"), (2, u "twoToTheDoubleScaleDown"), (0, u "D"), (4, u "twoToTheDoubleScaleUp"), (9, u "E"), (3, u "PI"), (2, u "TAU"), (2, u "DEGREES_TO_RADIANS"), (0, u "RADIANS_TO_DEGREES")] 94

def k27m0 : Method := { name := "<init>", desc := "()V", sig := { parameters := [], returnType := none }, accessFlags := 2, code := none }
def k27c1 : Code := { maxStack := 2, maxLocals := 2, code := jdk_29_method_65_code, exceptionTable := #[], attributes := #[] }
def k27m1 : Method := { name := "max", desc := "(II)I", sig := { parameters := [.int, .int], returnType := some .int }, accessFlags := 9, code := some k27c1 }
def k27c2 : Code := { maxStack := 2, maxLocals := 2, code := jdk_29_method_69_code, exceptionTable := #[], attributes := #[] }
def k27m2 : Method := { name := "min", desc := "(II)I", sig := { parameters := [.int, .int], returnType := some .int }, accessFlags := 9, code := some k27c2 }
/-- java/lang/Math -/
def k27 : Class := { plain "java/lang/Math" (some 0) with
  accessFlags := 49
  interfaces := #[]
  cf := some (fileOf pool27 1 #[.nestMembers #[98]] #[{ accessFlags := 2, nameIndex := 7, descriptorIndex := 8, attributes := #[] }, { accessFlags := 9, nameIndex := 198, descriptorIndex := 335, attributes := #[] }, { accessFlags := 9, nameIndex := 201, descriptorIndex := 335, attributes := #[] }] 49 4 #[] #[{ accessFlags := 25, nameIndex := 354, descriptorIndex := 339, attributes := #[] }, { accessFlags := 25, nameIndex := 358, descriptorIndex := 339, attributes := #[] }, { accessFlags := 25, nameIndex := 361, descriptorIndex := 339, attributes := #[] }, { accessFlags := 26, nameIndex := 364, descriptorIndex := 339, attributes := #[] }, { accessFlags := 26, nameIndex := 365, descriptorIndex := 339, attributes := #[] }, { accessFlags := 26, nameIndex := 172, descriptorIndex := 173, attributes := #[] }, { accessFlags := 26, nameIndex := 176, descriptorIndex := 173, attributes := #[] }, { accessFlags := 8, nameIndex := 344, descriptorIndex := 339, attributes := #[] }, { accessFlags := 8, nameIndex := 338, descriptorIndex := 339, attributes := #[] }, { accessFlags := 4120, nameIndex := 245, descriptorIndex := 246, attributes := #[] }])
  fields := #[{ name := "E", type := .double, accessFlags := 25, slot := 0, constantValue := 0 }, { name := "PI", type := .double, accessFlags := 25, slot := 1, constantValue := 0 }, { name := "TAU", type := .double, accessFlags := 25, slot := 2, constantValue := 0 }, { name := "DEGREES_TO_RADIANS", type := .double, accessFlags := 26, slot := 3, constantValue := 0 }, { name := "RADIANS_TO_DEGREES", type := .double, accessFlags := 26, slot := 4, constantValue := 0 }, { name := "negativeZeroFloatBits", type := .long, accessFlags := 26, slot := 5, constantValue := 0 }, { name := "negativeZeroDoubleBits", type := .long, accessFlags := 26, slot := 6, constantValue := 0 }, { name := "twoToTheDoubleScaleUp", type := .double, accessFlags := 8, slot := 7, constantValue := 0 }, { name := "twoToTheDoubleScaleDown", type := .double, accessFlags := 8, slot := 8, constantValue := 0 }, { name := "$assertionsDisabled", type := .boolean, accessFlags := 4120, slot := 9, constantValue := 0 }]
  methods := #[k27m0, k27m1, k27m2]
  instanceTypes := #[]
  staticTypes := #[.double, .double, .double, .double, .double, .long, .long, .double, .double, .boolean]
  resolved := Array.replicate 460 none
  statics := none }

def pool28 : Array CpInfo := pool [(1, .methodref 2 3), (0, .class_ 4), (0, .nameAndType 5 6), (0, u "java/lang/Record"), (0, u "<init>"), (0, u "()V"), (0, .interfaceMethodref 8 9), (0, .class_ 10), (0, .nameAndType 11 12), (0, u "java/util/List"), (0, u "copyOf"), (0, u "(Ljava/util/Collection;)Ljava/util/List;"), (0, .methodref 14 15), (0, .class_ 16), (0, .nameAndType 17 18), (0, u "com/example/cairn/cairn/plan/Stage$Shape"), (0, u "ordinal"), (0, u "()I"), (5, .interfaceMethodref 8 25), (0, .nameAndType 26 27), (0, u "isEmpty"), (0, u "()Z"), (14, u "keys"), (0, u "()Ljava/util/List;"), (10, .fieldref 55 56), (0, .class_ 57), (0, .nameAndType 58 59), (0, u "com/example/cairn/cairn/plan/Stage$Output"), (0, u "shape"), (0, u "Lcom/example/cairn/cairn/plan/Stage$Shape;"), (0, .fieldref 55 61), (0, .nameAndType 62 63), (0, u "slots"), (0, u "Ljava/util/List;"), (0, .fieldref 55 65), (0, .nameAndType 66 67), (0, u "buckets"), (0, u "I"), (0, .fieldref 55 69), (0, .nameAndType 42 63), (0, .fieldref 55 71), (0, .nameAndType 72 73), (0, u "grouping"), (0, u "Lcom/example/cairn/cairn/plan/Grouping;"), (0, .interfaceMethodref 8 75), (0, .nameAndType 76 43), (0, u "of"), (0, .methodref 55 78), (0, .nameAndType 5 79), (0, u "(Lcom/example/cairn/cairn/plan/Stage$Shape;Ljava/util/List;ILjava/util/List;Lcom/example/cairn/cairn/plan/Grouping;)V"), (20, u "toCoordinator"), (0, u "(Lcom/example/cairn/cairn/plan/Stage$Shape;Lcom/example/cairn/cairn/plan/Grouping;)Lcom/example/cairn/cairn/plan/Stage$Output;"), (0, u "goesToCoordinator"), (9, .class_ 113), (0, u "com/example/cairn/cairn/plan/Stage")] 34

def k28c0 : Code := { maxStack := 7, maxLocals := 7, code := prog_108_method_1_code, exceptionTable := #[], attributes := #[] }
def k28m0 : Method := { name := "<init>", desc := "(Lcom/example/cairn/cairn/plan/Stage$Shape;Ljava/util/List;ILjava/util/List;Lcom/example/cairn/cairn/plan/Grouping;)V", sig := { parameters := [(.object "com/example/cairn/cairn/plan/Stage$Shape"), (.object "java/util/List"), .int, (.object "java/util/List"), (.object "com/example/cairn/cairn/plan/Grouping")], returnType := none }, accessFlags := 1, code := some k28c0 }
def k28c1 : Code := { maxStack := 7, maxLocals := 2, code := prog_108_method_2_code, exceptionTable := #[], attributes := #[] }
def k28m1 : Method := { name := "toCoordinator", desc := "(Lcom/example/cairn/cairn/plan/Stage$Shape;Lcom/example/cairn/cairn/plan/Grouping;)Lcom/example/cairn/cairn/plan/Stage$Output;", sig := { parameters := [(.object "com/example/cairn/cairn/plan/Stage$Shape"), (.object "com/example/cairn/cairn/plan/Grouping")], returnType := some (.object "com/example/cairn/cairn/plan/Stage$Output") }, accessFlags := 9, code := some k28c1 }
def k28c2 : Code := { maxStack := 1, maxLocals := 1, code := prog_108_method_3_code, exceptionTable := #[], attributes := #[] }
def k28m2 : Method := { name := "goesToCoordinator", desc := "()Z", sig := { parameters := [], returnType := some .boolean }, accessFlags := 1, code := some k28c2 }
/-- com/example/cairn/cairn/plan/Stage$Output -/
def k28 : Class := { plain "com/example/cairn/cairn/plan/Stage$Output" (some 12) with
  accessFlags := 49
  interfaces := #[]
  cf := some (fileOf pool28 55 #[.nestHost 112] #[{ accessFlags := 1, nameIndex := 5, descriptorIndex := 79, attributes := #[] }, { accessFlags := 9, nameIndex := 100, descriptorIndex := 101, attributes := #[] }, { accessFlags := 1, nameIndex := 102, descriptorIndex := 27, attributes := #[] }] 49 2 #[] #[{ accessFlags := 18, nameIndex := 58, descriptorIndex := 59, attributes := #[] }, { accessFlags := 18, nameIndex := 62, descriptorIndex := 63, attributes := #[] }, { accessFlags := 18, nameIndex := 66, descriptorIndex := 67, attributes := #[] }, { accessFlags := 18, nameIndex := 42, descriptorIndex := 63, attributes := #[] }, { accessFlags := 18, nameIndex := 72, descriptorIndex := 73, attributes := #[] }])
  fields := #[{ name := "shape", type := (.object "com/example/cairn/cairn/plan/Stage$Shape"), accessFlags := 18, slot := 0, constantValue := 0 }, { name := "slots", type := (.object "java/util/List"), accessFlags := 18, slot := 1, constantValue := 0 }, { name := "buckets", type := .int, accessFlags := 18, slot := 2, constantValue := 0 }, { name := "keys", type := (.object "java/util/List"), accessFlags := 18, slot := 3, constantValue := 0 }, { name := "grouping", type := (.object "com/example/cairn/cairn/plan/Grouping"), accessFlags := 18, slot := 4, constantValue := 0 }]
  methods := #[k28m0, k28m1, k28m2]
  instanceTypes := #[(.object "com/example/cairn/cairn/plan/Stage$Shape"), (.object "java/util/List"), .int, (.object "java/util/List"), (.object "com/example/cairn/cairn/plan/Grouping")]
  staticTypes := #[]
  resolved := Array.replicate 148 none
  statics := none }

def pool29 : Array CpInfo := pool [(2, .class_ 4), (1, u "java/lang/Object"), (0, u "<init>"), (0, u "()V"), (7, .class_ 16), (1, u "java/util/Arrays"), (57, .class_ 76), (1, u "java/util/Arrays$NaturalOrder"), (9, .methodref 2 87), (0, .nameAndType 88 89), (0, u "getClass"), (0, u "()Ljava/lang/Class;"), (20, .class_ 111), (0, u "[Ljava/lang/Object;"), (1, .class_ 115), (1, u "java/util/Arrays$LegacyMergeSort"), (1, u "Z"), (32, .methodref 151 152), (0, .class_ 153), (0, .nameAndType 154 155), (0, u "java/lang/System"), (0, u "arraycopy"), (0, u "(Ljava/lang/Object;ILjava/lang/Object;II)V"), (144, .methodref 14 301), (0, .nameAndType 302 303), (0, u "copyOf"), (0, u "([Ljava/lang/Object;ILjava/lang/Class;)[Ljava/lang/Object;"), (0, .methodref 305 306), (0, .class_ 307), (0, .nameAndType 308 309), (0, u "java/lang/Math"), (0, u "min"), (0, u "(II)I"), (65, .class_ 376), (0, u "java/util/Arrays$ArrayList"), (68, u "$assertionsDisabled"), (269, u "MIN_ARRAY_SORT_GRAN"), (0, u "I"), (2, u "INSERTIONSORT_THRESHOLD"), (140, u "([Ljava/lang/Object;I)[Ljava/lang/Object;"), (114, .class_ 976), (0, u "java/util/Arrays$ArrayItr")] 52

def k29m0 : Method := { name := "<init>", desc := "()V", sig := { parameters := [], returnType := none }, accessFlags := 2, code := none }
def k29c1 : Code := { maxStack := 3, maxLocals := 2, code := jdk_65_method_119_code, exceptionTable := #[], attributes := #[] }
def k29m1 : Method := { name := "copyOf", desc := "([Ljava/lang/Object;I)[Ljava/lang/Object;", sig := { parameters := [(.array (.object "java/lang/Object")), .int], returnType := some (.array (.object "java/lang/Object")) }, accessFlags := 9, code := some k29c1 }
def k29c2 : Code := { maxStack := 6, maxLocals := 4, code := jdk_65_method_120_code, exceptionTable := #[], attributes := #[] }
def k29m2 : Method := { name := "copyOf", desc := "([Ljava/lang/Object;ILjava/lang/Class;)[Ljava/lang/Object;", sig := { parameters := [(.array (.object "java/lang/Object")), .int, (.object "java/lang/Class")], returnType := some (.array (.object "java/lang/Object")) }, accessFlags := 9, code := some k29c2 }
/-- java/util/Arrays -/
def k29 : Class := { plain "java/util/Arrays" (some 0) with
  accessFlags := 49
  interfaces := #[]
  cf := some (fileOf pool29 14 #[.nestMembers #[975, 375, 113, 74]] #[{ accessFlags := 2, nameIndex := 5, descriptorIndex := 6, attributes := #[] }, { accessFlags := 9, nameIndex := 302, descriptorIndex := 860, attributes := #[] }, { accessFlags := 9, nameIndex := 302, descriptorIndex := 303, attributes := #[] }] 49 2 #[] #[{ accessFlags := 26, nameIndex := 715, descriptorIndex := 716, attributes := #[] }, { accessFlags := 26, nameIndex := 719, descriptorIndex := 716, attributes := #[] }, { accessFlags := 4120, nameIndex := 445, descriptorIndex := 117, attributes := #[] }])
  fields := #[{ name := "MIN_ARRAY_SORT_GRAN", type := .int, accessFlags := 26, slot := 0, constantValue := 0 }, { name := "INSERTIONSORT_THRESHOLD", type := .int, accessFlags := 26, slot := 1, constantValue := 0 }, { name := "$assertionsDisabled", type := .boolean, accessFlags := 4120, slot := 2, constantValue := 0 }]
  methods := #[k29m0, k29m1, k29m2]
  instanceTypes := #[]
  staticTypes := #[.int, .int, .boolean]
  resolved := Array.replicate 1029 none
  statics := none }

def pool30 : Array CpInfo := pool [(2, .class_ 4), (1, u "java/lang/Object"), (0, u "<init>"), (0, u "()V"), (1, .class_ 10), (1, u "java/lang/System"), (0, u "allowSecurityManager"), (0, u "I"), (16, u "cons"), (0, u "Ljava/io/Console;"), (77, .class_ 110), (1, u "java/lang/System$CallersHolder"), (43, u "initialErrStream"), (0, u "Ljava/io/PrintStream;"), (19, u "security"), (0, u "Ljava/lang/SecurityManager;"), (31, .class_ 209), (0, u "java/lang/System$1"), (7, u "props"), (0, u "Ljava/util/Properties;"), (2, u "lineSeparator"), (0, u "Ljava/lang/String;"), (96, .class_ 321), (1, u "java/lang/System$LoggerFinder"), (5, .class_ 328), (0, u "java/lang/System$Logger"), (67, u "err"), (2, u "out"), (91, u "notSupportedJnuEncoding"), (15, u "in"), (17, u "initialIn"), (0, u "Ljava/io/InputStream;"), (35, u "bootLayer"), (0, u "Ljava/lang/ModuleLayer;"), (99, .class_ 664), (0, u "java/lang/System$2"), (9, u "NEVER"), (2, u "MAYBE"), (49, u "arraycopy"), (0, u "(Ljava/lang/Object;ILjava/lang/Object;II)V"), (72, .class_ 802), (0, u "java/lang/System$Logger$Level")] 31

def k30m0 : Method := { name := "<init>", desc := "()V", sig := { parameters := [], returnType := none }, accessFlags := 2, code := none }
def k30m1 : Method := { name := "arraycopy", desc := "(Ljava/lang/Object;ILjava/lang/Object;II)V", sig := { parameters := [(.object "java/lang/Object"), .int, (.object "java/lang/Object"), .int, .int], returnType := none }, accessFlags := 265, code := none }
/-- java/lang/System -/
def k30 : Class := { plain "java/lang/System" (some 0) with
  accessFlags := 49
  interfaces := #[]
  cf := some (fileOf pool30 8 #[.nestMembers #[319, 327, 801, 108, 663, 208]] #[{ accessFlags := 2, nameIndex := 5, descriptorIndex := 6, attributes := #[] }, { accessFlags := 265, nameIndex := 727, descriptorIndex := 728, attributes := #[] }] 49 2 #[] #[{ accessFlags := 25, nameIndex := 507, descriptorIndex := 526, attributes := #[] }, { accessFlags := 25, nameIndex := 399, descriptorIndex := 155, attributes := #[] }, { accessFlags := 25, nameIndex := 396, descriptorIndex := 155, attributes := #[] }, { accessFlags := 10, nameIndex := 525, descriptorIndex := 526, attributes := #[] }, { accessFlags := 26, nameIndex := 674, descriptorIndex := 12, attributes := #[] }, { accessFlags := 26, nameIndex := 677, descriptorIndex := 12, attributes := #[] }, { accessFlags := 10, nameIndex := 11, descriptorIndex := 12, attributes := #[] }, { accessFlags := 74, nameIndex := 175, descriptorIndex := 176, attributes := #[] }, { accessFlags := 10, nameIndex := 491, descriptorIndex := 222, attributes := #[] }, { accessFlags := 74, nameIndex := 29, descriptorIndex := 30, attributes := #[] }, { accessFlags := 74, nameIndex := 154, descriptorIndex := 155, attributes := #[] }, { accessFlags := 10, nameIndex := 217, descriptorIndex := 218, attributes := #[] }, { accessFlags := 10, nameIndex := 221, descriptorIndex := 222, attributes := #[] }, { accessFlags := 8, nameIndex := 562, descriptorIndex := 563, attributes := #[] }])
  fields := #[{ name := "in", type := (.object "java/io/InputStream"), accessFlags := 25, slot := 0, constantValue := 0 }, { name := "out", type := (.object "java/io/PrintStream"), accessFlags := 25, slot := 1, constantValue := 0 }, { name := "err", type := (.object "java/io/PrintStream"), accessFlags := 25, slot := 2, constantValue := 0 }, { name := "initialIn", type := (.object "java/io/InputStream"), accessFlags := 10, slot := 3, constantValue := 0 }, { name := "NEVER", type := .int, accessFlags := 26, slot := 4, constantValue := 0 }, { name := "MAYBE", type := .int, accessFlags := 26, slot := 5, constantValue := 0 }, { name := "allowSecurityManager", type := .int, accessFlags := 10, slot := 6, constantValue := 0 }, { name := "security", type := (.object "java/lang/SecurityManager"), accessFlags := 74, slot := 7, constantValue := 0 }, { name := "notSupportedJnuEncoding", type := (.object "java/lang/String"), accessFlags := 10, slot := 8, constantValue := 0 }, { name := "cons", type := (.object "java/io/Console"), accessFlags := 74, slot := 9, constantValue := 0 }, { name := "initialErrStream", type := (.object "java/io/PrintStream"), accessFlags := 74, slot := 10, constantValue := 0 }, { name := "props", type := (.object "java/util/Properties"), accessFlags := 10, slot := 11, constantValue := 0 }, { name := "lineSeparator", type := (.object "java/lang/String"), accessFlags := 10, slot := 12, constantValue := 0 }, { name := "bootLayer", type := (.object "java/lang/ModuleLayer"), accessFlags := 8, slot := 13, constantValue := 0 }]
  methods := #[k30m0, k30m1]
  instanceTypes := #[]
  staticTypes := #[(.object "java/io/InputStream"), (.object "java/io/PrintStream"), (.object "java/io/PrintStream"), (.object "java/io/InputStream"), .int, .int, .int, (.object "java/lang/SecurityManager"), (.object "java/lang/String"), (.object "java/io/Console"), (.object "java/io/PrintStream"), (.object "java/util/Properties"), (.object "java/lang/String"), (.object "java/lang/ModuleLayer")]
  resolved := Array.replicate 834 none
  statics := none }

def pool31 : Array CpInfo := pool [(2, .class_ 4), (1, u "java/lang/Object"), (0, u "<init>"), (0, u "()V"), (35, .class_ 44), (1, u "java/util/Objects"), (0, u "requireNonNull"), (0, u "(Ljava/lang/Object;)Ljava/lang/Object;")] 137

def k31m0 : Method := { name := "<init>", desc := "()V", sig := { parameters := [], returnType := none }, accessFlags := 2, code := none }
def k31c1 : Code := { maxStack := 2, maxLocals := 1, code := jdk_31_method_10_code, exceptionTable := #[], attributes := #[] }
def k31m1 : Method := { name := "requireNonNull", desc := "(Ljava/lang/Object;)Ljava/lang/Object;", sig := { parameters := [(.object "java/lang/Object")], returnType := some (.object "java/lang/Object") }, accessFlags := 9, code := some k31c1 }
/-- java/util/Objects -/
def k31 : Class := { plain "java/util/Objects" (some 0) with
  accessFlags := 49
  interfaces := #[]
  cf := some (fileOf pool31 42 #[] #[{ accessFlags := 2, nameIndex := 5, descriptorIndex := 6, attributes := #[] }, { accessFlags := 9, nameIndex := 45, descriptorIndex := 46, attributes := #[] }] 49 2 #[] #[])
  fields := #[]
  methods := #[k31m0, k31m1]
  instanceTypes := #[]
  staticTypes := #[]
  resolved := Array.replicate 184 none
  statics := none }

def pool32 : Array CpInfo := pool [(1, u "java/lang/Class"), (0, .class_ 1), (0, u "java/lang/Object"), (0, .class_ 3)] 0

/-- java/lang/Class -/
def k32 : Class := { plain "java/lang/Class" (some 0) with
  accessFlags := 49
  interfaces := #[]
  cf := some (fileOf pool32 2 #[] #[] 49 4 #[] #[])
  fields := #[]
  methods := #[]
  instanceTypes := #[]
  staticTypes := #[]
  resolved := Array.replicate 5 none
  statics := none }

/-- the primitive byte -/
def k33 : Class := { plain "byte" none with kind := .primitive 'B', accessFlags := 0x411 }
/-- [B -/
def k34 : Class := { plain "[B" (some 0) with kind := .array 33 .byte, interfaces := #[9, 10], accessFlags := 1041 }

/-- the primitive int -/
def k35 : Class := { plain "int" none with kind := .primitive 'I', accessFlags := 0x411 }
/-- [I -/
def k36 : Class := { plain "[I" (some 0) with kind := .array 35 .int, interfaces := #[9, 10], accessFlags := 1041 }

/-- [Ljava/lang/Integer; -/
def k37 : Class := { plain "[Ljava/lang/Integer;" (some 0) with kind := .array 25 (.object "java/lang/Integer"), interfaces := #[9, 10], accessFlags := 1041 }

/-- [Ljava/lang/Object; -/
def k38 : Class := { plain "[Ljava/lang/Object;" (some 0) with kind := .array 0 (.object "java/lang/Object"), interfaces := #[9, 10], accessFlags := 1041, mirror := some 4 }

def heap : Heap := #[{ cls := 11, slots := #[.long 0, .int 0, .ref 266, .ref 267], vm := .statics 11 },
  { cls := 14, slots := #[.long 0, .int 0, .null, .ref 269, .ref 268, .null, .null, .null, .int 0, .int 1], vm := .statics 14 },
  { cls := 22, slots := #[.ref 6, .ref 7, .ref 8, .ref 9, .null], vm := .statics 22 },
  { cls := 26, slots := #[.int 0, .int 127, .ref 5, .null, .int 0], vm := .statics 26 },
  { cls := 32, slots := #[], vm := .mirror 38 },
  { cls := 37, slots := #[.ref 10, .ref 11, .ref 12, .ref 13, .ref 14, .ref 15, .ref 16, .ref 17, .ref 18, .ref 19, .ref 20, .ref 21, .ref 22, .ref 23, .ref 24, .ref 25, .ref 26, .ref 27, .ref 28, .ref 29, .ref 30, .ref 31, .ref 32, .ref 33, .ref 34, .ref 35, .ref 36, .ref 37, .ref 38, .ref 39, .ref 40, .ref 41, .ref 42, .ref 43, .ref 44, .ref 45, .ref 46, .ref 47, .ref 48, .ref 49, .ref 50, .ref 51, .ref 52, .ref 53, .ref 54, .ref 55, .ref 56, .ref 57, .ref 58, .ref 59, .ref 60, .ref 61, .ref 62, .ref 63, .ref 64, .ref 65, .ref 66, .ref 67, .ref 68, .ref 69, .ref 70, .ref 71, .ref 72, .ref 73, .ref 74, .ref 75, .ref 76, .ref 77, .ref 78, .ref 79, .ref 80, .ref 81, .ref 82, .ref 83, .ref 84, .ref 85, .ref 86, .ref 87, .ref 88, .ref 89, .ref 90, .ref 91, .ref 92, .ref 93, .ref 94, .ref 95, .ref 96, .ref 97, .ref 98, .ref 99, .ref 100, .ref 101, .ref 102, .ref 103, .ref 104, .ref 105, .ref 106, .ref 107, .ref 108, .ref 109, .ref 110, .ref 111, .ref 112, .ref 113, .ref 114, .ref 115, .ref 116, .ref 117, .ref 118, .ref 119, .ref 120, .ref 121, .ref 122, .ref 123, .ref 124, .ref 125, .ref 126, .ref 127, .ref 128, .ref 129, .ref 130, .ref 131, .ref 132, .ref 133, .ref 134, .ref 135, .ref 136, .ref 137, .ref 138, .ref 139, .ref 140, .ref 141, .ref 142, .ref 143, .ref 144, .ref 145, .ref 146, .ref 147, .ref 148, .ref 149, .ref 150, .ref 151, .ref 152, .ref 153, .ref 154, .ref 155, .ref 156, .ref 157, .ref 158, .ref 159, .ref 160, .ref 161, .ref 162, .ref 163, .ref 164, .ref 165, .ref 166, .ref 167, .ref 168, .ref 169, .ref 170, .ref 171, .ref 172, .ref 173, .ref 174, .ref 175, .ref 176, .ref 177, .ref 178, .ref 179, .ref 180, .ref 181, .ref 182, .ref 183, .ref 184, .ref 185, .ref 186, .ref 187, .ref 188, .ref 189, .ref 190, .ref 191, .ref 192, .ref 193, .ref 194, .ref 195, .ref 196, .ref 197, .ref 198, .ref 199, .ref 200, .ref 201, .ref 202, .ref 203, .ref 204, .ref 205, .ref 206, .ref 207, .ref 208, .ref 209, .ref 210, .ref 211, .ref 212, .ref 213, .ref 214, .ref 215, .ref 216, .ref 217, .ref 218, .ref 219, .ref 220, .ref 221, .ref 222, .ref 223, .ref 224, .ref 225, .ref 226, .ref 227, .ref 228, .ref 229, .ref 230, .ref 231, .ref 232, .ref 233, .ref 234, .ref 235, .ref 236, .ref 237, .ref 238, .ref 239, .ref 240, .ref 241, .ref 242, .ref 243, .ref 244, .ref 245, .ref 246, .ref 247, .ref 248, .ref 249, .ref 250, .ref 251, .ref 252, .ref 253, .ref 254, .ref 255, .ref 256, .ref 257, .ref 258, .ref 259, .ref 260, .ref 261, .ref 262, .ref 263, .ref 264, .ref 265], vm := .none },
  { cls := 22, slots := #[.null, .int 0, .int 0], vm := .none },
  { cls := 22, slots := #[.null, .int 1, .int 0], vm := .none },
  { cls := 22, slots := #[.null, .int 2, .int 0], vm := .none },
  { cls := 22, slots := #[.null, .int 3, .int 0], vm := .none },
  { cls := 25, slots := #[.int (-128)], vm := .none },
  { cls := 25, slots := #[.int (-127)], vm := .none },
  { cls := 25, slots := #[.int (-126)], vm := .none },
  { cls := 25, slots := #[.int (-125)], vm := .none },
  { cls := 25, slots := #[.int (-124)], vm := .none },
  { cls := 25, slots := #[.int (-123)], vm := .none },
  { cls := 25, slots := #[.int (-122)], vm := .none },
  { cls := 25, slots := #[.int (-121)], vm := .none },
  { cls := 25, slots := #[.int (-120)], vm := .none },
  { cls := 25, slots := #[.int (-119)], vm := .none },
  { cls := 25, slots := #[.int (-118)], vm := .none },
  { cls := 25, slots := #[.int (-117)], vm := .none },
  { cls := 25, slots := #[.int (-116)], vm := .none },
  { cls := 25, slots := #[.int (-115)], vm := .none },
  { cls := 25, slots := #[.int (-114)], vm := .none },
  { cls := 25, slots := #[.int (-113)], vm := .none },
  { cls := 25, slots := #[.int (-112)], vm := .none },
  { cls := 25, slots := #[.int (-111)], vm := .none },
  { cls := 25, slots := #[.int (-110)], vm := .none },
  { cls := 25, slots := #[.int (-109)], vm := .none },
  { cls := 25, slots := #[.int (-108)], vm := .none },
  { cls := 25, slots := #[.int (-107)], vm := .none },
  { cls := 25, slots := #[.int (-106)], vm := .none },
  { cls := 25, slots := #[.int (-105)], vm := .none },
  { cls := 25, slots := #[.int (-104)], vm := .none },
  { cls := 25, slots := #[.int (-103)], vm := .none },
  { cls := 25, slots := #[.int (-102)], vm := .none },
  { cls := 25, slots := #[.int (-101)], vm := .none },
  { cls := 25, slots := #[.int (-100)], vm := .none },
  { cls := 25, slots := #[.int (-99)], vm := .none },
  { cls := 25, slots := #[.int (-98)], vm := .none },
  { cls := 25, slots := #[.int (-97)], vm := .none },
  { cls := 25, slots := #[.int (-96)], vm := .none },
  { cls := 25, slots := #[.int (-95)], vm := .none },
  { cls := 25, slots := #[.int (-94)], vm := .none },
  { cls := 25, slots := #[.int (-93)], vm := .none },
  { cls := 25, slots := #[.int (-92)], vm := .none },
  { cls := 25, slots := #[.int (-91)], vm := .none },
  { cls := 25, slots := #[.int (-90)], vm := .none },
  { cls := 25, slots := #[.int (-89)], vm := .none },
  { cls := 25, slots := #[.int (-88)], vm := .none },
  { cls := 25, slots := #[.int (-87)], vm := .none },
  { cls := 25, slots := #[.int (-86)], vm := .none },
  { cls := 25, slots := #[.int (-85)], vm := .none },
  { cls := 25, slots := #[.int (-84)], vm := .none },
  { cls := 25, slots := #[.int (-83)], vm := .none },
  { cls := 25, slots := #[.int (-82)], vm := .none },
  { cls := 25, slots := #[.int (-81)], vm := .none },
  { cls := 25, slots := #[.int (-80)], vm := .none },
  { cls := 25, slots := #[.int (-79)], vm := .none },
  { cls := 25, slots := #[.int (-78)], vm := .none },
  { cls := 25, slots := #[.int (-77)], vm := .none },
  { cls := 25, slots := #[.int (-76)], vm := .none },
  { cls := 25, slots := #[.int (-75)], vm := .none },
  { cls := 25, slots := #[.int (-74)], vm := .none },
  { cls := 25, slots := #[.int (-73)], vm := .none },
  { cls := 25, slots := #[.int (-72)], vm := .none },
  { cls := 25, slots := #[.int (-71)], vm := .none },
  { cls := 25, slots := #[.int (-70)], vm := .none },
  { cls := 25, slots := #[.int (-69)], vm := .none },
  { cls := 25, slots := #[.int (-68)], vm := .none },
  { cls := 25, slots := #[.int (-67)], vm := .none },
  { cls := 25, slots := #[.int (-66)], vm := .none },
  { cls := 25, slots := #[.int (-65)], vm := .none },
  { cls := 25, slots := #[.int (-64)], vm := .none },
  { cls := 25, slots := #[.int (-63)], vm := .none },
  { cls := 25, slots := #[.int (-62)], vm := .none },
  { cls := 25, slots := #[.int (-61)], vm := .none },
  { cls := 25, slots := #[.int (-60)], vm := .none },
  { cls := 25, slots := #[.int (-59)], vm := .none },
  { cls := 25, slots := #[.int (-58)], vm := .none },
  { cls := 25, slots := #[.int (-57)], vm := .none },
  { cls := 25, slots := #[.int (-56)], vm := .none },
  { cls := 25, slots := #[.int (-55)], vm := .none },
  { cls := 25, slots := #[.int (-54)], vm := .none },
  { cls := 25, slots := #[.int (-53)], vm := .none },
  { cls := 25, slots := #[.int (-52)], vm := .none },
  { cls := 25, slots := #[.int (-51)], vm := .none },
  { cls := 25, slots := #[.int (-50)], vm := .none },
  { cls := 25, slots := #[.int (-49)], vm := .none },
  { cls := 25, slots := #[.int (-48)], vm := .none },
  { cls := 25, slots := #[.int (-47)], vm := .none },
  { cls := 25, slots := #[.int (-46)], vm := .none },
  { cls := 25, slots := #[.int (-45)], vm := .none },
  { cls := 25, slots := #[.int (-44)], vm := .none },
  { cls := 25, slots := #[.int (-43)], vm := .none },
  { cls := 25, slots := #[.int (-42)], vm := .none },
  { cls := 25, slots := #[.int (-41)], vm := .none },
  { cls := 25, slots := #[.int (-40)], vm := .none },
  { cls := 25, slots := #[.int (-39)], vm := .none },
  { cls := 25, slots := #[.int (-38)], vm := .none },
  { cls := 25, slots := #[.int (-37)], vm := .none },
  { cls := 25, slots := #[.int (-36)], vm := .none },
  { cls := 25, slots := #[.int (-35)], vm := .none },
  { cls := 25, slots := #[.int (-34)], vm := .none },
  { cls := 25, slots := #[.int (-33)], vm := .none },
  { cls := 25, slots := #[.int (-32)], vm := .none },
  { cls := 25, slots := #[.int (-31)], vm := .none },
  { cls := 25, slots := #[.int (-30)], vm := .none },
  { cls := 25, slots := #[.int (-29)], vm := .none },
  { cls := 25, slots := #[.int (-28)], vm := .none },
  { cls := 25, slots := #[.int (-27)], vm := .none },
  { cls := 25, slots := #[.int (-26)], vm := .none },
  { cls := 25, slots := #[.int (-25)], vm := .none },
  { cls := 25, slots := #[.int (-24)], vm := .none },
  { cls := 25, slots := #[.int (-23)], vm := .none },
  { cls := 25, slots := #[.int (-22)], vm := .none },
  { cls := 25, slots := #[.int (-21)], vm := .none },
  { cls := 25, slots := #[.int (-20)], vm := .none },
  { cls := 25, slots := #[.int (-19)], vm := .none },
  { cls := 25, slots := #[.int (-18)], vm := .none },
  { cls := 25, slots := #[.int (-17)], vm := .none },
  { cls := 25, slots := #[.int (-16)], vm := .none },
  { cls := 25, slots := #[.int (-15)], vm := .none },
  { cls := 25, slots := #[.int (-14)], vm := .none },
  { cls := 25, slots := #[.int (-13)], vm := .none },
  { cls := 25, slots := #[.int (-12)], vm := .none },
  { cls := 25, slots := #[.int (-11)], vm := .none },
  { cls := 25, slots := #[.int (-10)], vm := .none },
  { cls := 25, slots := #[.int (-9)], vm := .none },
  { cls := 25, slots := #[.int (-8)], vm := .none },
  { cls := 25, slots := #[.int (-7)], vm := .none },
  { cls := 25, slots := #[.int (-6)], vm := .none },
  { cls := 25, slots := #[.int (-5)], vm := .none },
  { cls := 25, slots := #[.int (-4)], vm := .none },
  { cls := 25, slots := #[.int (-3)], vm := .none },
  { cls := 25, slots := #[.int (-2)], vm := .none },
  { cls := 25, slots := #[.int (-1)], vm := .none },
  { cls := 25, slots := #[.int 0], vm := .none },
  { cls := 25, slots := #[.int 1], vm := .none },
  { cls := 25, slots := #[.int 2], vm := .none },
  { cls := 25, slots := #[.int 3], vm := .none },
  { cls := 25, slots := #[.int 4], vm := .none },
  { cls := 25, slots := #[.int 5], vm := .none },
  { cls := 25, slots := #[.int 6], vm := .none },
  { cls := 25, slots := #[.int 7], vm := .none },
  { cls := 25, slots := #[.int 8], vm := .none },
  { cls := 25, slots := #[.int 9], vm := .none },
  { cls := 25, slots := #[.int 10], vm := .none },
  { cls := 25, slots := #[.int 11], vm := .none },
  { cls := 25, slots := #[.int 12], vm := .none },
  { cls := 25, slots := #[.int 13], vm := .none },
  { cls := 25, slots := #[.int 14], vm := .none },
  { cls := 25, slots := #[.int 15], vm := .none },
  { cls := 25, slots := #[.int 16], vm := .none },
  { cls := 25, slots := #[.int 17], vm := .none },
  { cls := 25, slots := #[.int 18], vm := .none },
  { cls := 25, slots := #[.int 19], vm := .none },
  { cls := 25, slots := #[.int 20], vm := .none },
  { cls := 25, slots := #[.int 21], vm := .none },
  { cls := 25, slots := #[.int 22], vm := .none },
  { cls := 25, slots := #[.int 23], vm := .none },
  { cls := 25, slots := #[.int 24], vm := .none },
  { cls := 25, slots := #[.int 25], vm := .none },
  { cls := 25, slots := #[.int 26], vm := .none },
  { cls := 25, slots := #[.int 27], vm := .none },
  { cls := 25, slots := #[.int 28], vm := .none },
  { cls := 25, slots := #[.int 29], vm := .none },
  { cls := 25, slots := #[.int 30], vm := .none },
  { cls := 25, slots := #[.int 31], vm := .none },
  { cls := 25, slots := #[.int 32], vm := .none },
  { cls := 25, slots := #[.int 33], vm := .none },
  { cls := 25, slots := #[.int 34], vm := .none },
  { cls := 25, slots := #[.int 35], vm := .none },
  { cls := 25, slots := #[.int 36], vm := .none },
  { cls := 25, slots := #[.int 37], vm := .none },
  { cls := 25, slots := #[.int 38], vm := .none },
  { cls := 25, slots := #[.int 39], vm := .none },
  { cls := 25, slots := #[.int 40], vm := .none },
  { cls := 25, slots := #[.int 41], vm := .none },
  { cls := 25, slots := #[.int 42], vm := .none },
  { cls := 25, slots := #[.int 43], vm := .none },
  { cls := 25, slots := #[.int 44], vm := .none },
  { cls := 25, slots := #[.int 45], vm := .none },
  { cls := 25, slots := #[.int 46], vm := .none },
  { cls := 25, slots := #[.int 47], vm := .none },
  { cls := 25, slots := #[.int 48], vm := .none },
  { cls := 25, slots := #[.int 49], vm := .none },
  { cls := 25, slots := #[.int 50], vm := .none },
  { cls := 25, slots := #[.int 51], vm := .none },
  { cls := 25, slots := #[.int 52], vm := .none },
  { cls := 25, slots := #[.int 53], vm := .none },
  { cls := 25, slots := #[.int 54], vm := .none },
  { cls := 25, slots := #[.int 55], vm := .none },
  { cls := 25, slots := #[.int 56], vm := .none },
  { cls := 25, slots := #[.int 57], vm := .none },
  { cls := 25, slots := #[.int 58], vm := .none },
  { cls := 25, slots := #[.int 59], vm := .none },
  { cls := 25, slots := #[.int 60], vm := .none },
  { cls := 25, slots := #[.int 61], vm := .none },
  { cls := 25, slots := #[.int 62], vm := .none },
  { cls := 25, slots := #[.int 63], vm := .none },
  { cls := 25, slots := #[.int 64], vm := .none },
  { cls := 25, slots := #[.int 65], vm := .none },
  { cls := 25, slots := #[.int 66], vm := .none },
  { cls := 25, slots := #[.int 67], vm := .none },
  { cls := 25, slots := #[.int 68], vm := .none },
  { cls := 25, slots := #[.int 69], vm := .none },
  { cls := 25, slots := #[.int 70], vm := .none },
  { cls := 25, slots := #[.int 71], vm := .none },
  { cls := 25, slots := #[.int 72], vm := .none },
  { cls := 25, slots := #[.int 73], vm := .none },
  { cls := 25, slots := #[.int 74], vm := .none },
  { cls := 25, slots := #[.int 75], vm := .none },
  { cls := 25, slots := #[.int 76], vm := .none },
  { cls := 25, slots := #[.int 77], vm := .none },
  { cls := 25, slots := #[.int 78], vm := .none },
  { cls := 25, slots := #[.int 79], vm := .none },
  { cls := 25, slots := #[.int 80], vm := .none },
  { cls := 25, slots := #[.int 81], vm := .none },
  { cls := 25, slots := #[.int 82], vm := .none },
  { cls := 25, slots := #[.int 83], vm := .none },
  { cls := 25, slots := #[.int 84], vm := .none },
  { cls := 25, slots := #[.int 85], vm := .none },
  { cls := 25, slots := #[.int 86], vm := .none },
  { cls := 25, slots := #[.int 87], vm := .none },
  { cls := 25, slots := #[.int 88], vm := .none },
  { cls := 25, slots := #[.int 89], vm := .none },
  { cls := 25, slots := #[.int 90], vm := .none },
  { cls := 25, slots := #[.int 91], vm := .none },
  { cls := 25, slots := #[.int 92], vm := .none },
  { cls := 25, slots := #[.int 93], vm := .none },
  { cls := 25, slots := #[.int 94], vm := .none },
  { cls := 25, slots := #[.int 95], vm := .none },
  { cls := 25, slots := #[.int 96], vm := .none },
  { cls := 25, slots := #[.int 97], vm := .none },
  { cls := 25, slots := #[.int 98], vm := .none },
  { cls := 25, slots := #[.int 99], vm := .none },
  { cls := 25, slots := #[.int 100], vm := .none },
  { cls := 25, slots := #[.int 101], vm := .none },
  { cls := 25, slots := #[.int 102], vm := .none },
  { cls := 25, slots := #[.int 103], vm := .none },
  { cls := 25, slots := #[.int 104], vm := .none },
  { cls := 25, slots := #[.int 105], vm := .none },
  { cls := 25, slots := #[.int 106], vm := .none },
  { cls := 25, slots := #[.int 107], vm := .none },
  { cls := 25, slots := #[.int 108], vm := .none },
  { cls := 25, slots := #[.int 109], vm := .none },
  { cls := 25, slots := #[.int 110], vm := .none },
  { cls := 25, slots := #[.int 111], vm := .none },
  { cls := 25, slots := #[.int 112], vm := .none },
  { cls := 25, slots := #[.int 113], vm := .none },
  { cls := 25, slots := #[.int 114], vm := .none },
  { cls := 25, slots := #[.int 115], vm := .none },
  { cls := 25, slots := #[.int 116], vm := .none },
  { cls := 25, slots := #[.int 117], vm := .none },
  { cls := 25, slots := #[.int 118], vm := .none },
  { cls := 25, slots := #[.int 119], vm := .none },
  { cls := 25, slots := #[.int 120], vm := .none },
  { cls := 25, slots := #[.int 121], vm := .none },
  { cls := 25, slots := #[.int 122], vm := .none },
  { cls := 25, slots := #[.int 123], vm := .none },
  { cls := 25, slots := #[.int 124], vm := .none },
  { cls := 25, slots := #[.int 125], vm := .none },
  { cls := 25, slots := #[.int 126], vm := .none },
  { cls := 25, slots := #[.int 127], vm := .none },
  { cls := 38, slots := #[], vm := .none },
  { cls := 38, slots := #[], vm := .none },
  { cls := 18, slots := #[.ref 267, .int 0], vm := .none },
  { cls := 0, slots := #[], vm := .none }]
def classes : Array Class := #[k0, k1, k2, k3, k4, k5, k6, k7, k8, k9, k10, k11, k12, k13, k14, k15, k16, k17, k18, k19, k20, k21, k22, k23, k24, k25, k26, k27, k28, k29, k30, k31, k32, k33, k34, k35, k36, k37, k38]
def interned : List (Array UInt16 × Addr) := []
def slotsUsed : Nat := 550
def theMethod : MethodId := ⟨1, 1⟩
def args0 : Array Value := #[.int 5, .int 4]
def aboutOver (below : List Frame) : State where
  vm := { classes := classes, interned := interned.toArray }
  heap := heap
  slotsUsed := slotsUsed
  threads := #[{ frames := .invoking theMethod args0 :: below }]
def below0 : List Frame := [.native { method := ⟨0, 0⟩, args := #[] }]
def about1 : State := aboutOver below0
def p0 : Program := .bare "" "" ""
def e0 : Env := launch0.env 0 0 0
theorem w_frames : about1.frames = Frame.invoking theMethod args0 :: below0 := rfl
set_option maxRecDepth 65536 in
theorem w_args : argsFit about1.vm theMethod args0 = true := by decide +kernel
set_option maxRecDepth 65536 in
theorem w_heap : heapFits about1 = true := by decide +kernel
set_option maxRecDepth 65536 in
theorem w_runnable : about1.curStatus? = some .runnable := by decide +kernel
set_option maxRecDepth 65536 in
theorem w_alone : about1.alone = true := by decide +kernel
set_option maxRecDepth 65536 in
theorem w_named : about1.methodNamed? x = some theMethod := by decide +kernel
set_option maxRecDepth 65536 in
theorem w_hears : about1.hears theMethod below0 = true := by decide +kernel
set_option maxRecDepth 65536 in
theorem w_ripe : about1.ripe theMethod args0 below0 = true := by decide +kernel
theorem w_running : about1.status = .running := rfl
set_option maxRecDepth 65536 in
theorem w_room : about1.hasRoom e0.platform room_1 = true :=
  launch0.hasRoom_least _ room_1 (by decide +kernel) (by decide +kernel) (by decide +kernel) (by decide +kernel) (by decide +kernel) (by decide +kernel)
theorem allAtoms_all (ts : List Jvm.Cond) (a : Array Jvm.Value) (st : Jvm.State) : (allAtoms ts).before a st = ts.all (fun c => c.before a st) := by
  induction ts with
  | nil => rfl
  | cons c t ih =>
    show (Jvm.Cond.and c (allAtoms t)).before a st = _
    rw [Jvm.Cond.before_and, ih, List.all_cons]
def words1 : List Jvm.Cond := Jvm.Cond.code x code maxLocals ret :: tables_1
/-- a 'code' word, met by the world's own term for the bytes: nothing is compared byte by byte -/
theorem code_word {y : MethodName} {bytes : ByteArray} {mx : Nat} {rt : Option FieldType} {a : Array Value} {s : State} {m : MethodId} {meth : Method} {c : Code} (h1 : s.methodNamed? y = some m) (h2 : s.vm.method? m = some meth) (h3 : meth.code = some c) (h4 : c.code = bytes)
    (h5 : (c.maxLocals == mx && c.exceptionTable.isEmpty && decide (c.maxStack ≤ mostOperands) && decide (meth.sig.returnType = rt) && !meth.locks && decide (parseMethodDescriptor y.desc = some meth.sig)) = true) : (Jvm.Cond.code y bytes mx rt).before a s = true := by
  simp only [Bool.and_eq_true, beq_iff_eq, Bool.not_eq_true', decide_eq_true_eq] at h5
  obtain ⟨⟨⟨⟨⟨g1, g2⟩, g3⟩, g4⟩, g5⟩, g6⟩ := h5
  simp [Cond.before, Cond.holds, Cond.value, h1, h2, h3, h4, g1, g2, g3, g4, g5, g6]
def isCode : Jvm.Cond → Bool
  | .code _ _ _ _ => true
  | _ => false
theorem all_split {L : List Jvm.Cond} {P : Jvm.Cond → Bool} (h1 : L.all (fun c => isCode c || P c) = true) (h2 : ∀ c ∈ L.filter isCode, P c = true) : L.all P = true := by
  refine List.all_eq_true.mpr fun c hc => ?_
  have h := List.all_eq_true.mp h1 c hc
  rcases Bool.eq_false_or_eq_true (isCode c) with hi | hi
  · exact h2 c (List.mem_filter.mpr ⟨hc, hi⟩)
  · simpa [hi] using h
set_option maxRecDepth 65536 in
theorem w_c0 : (Jvm.Cond.code x code maxLocals ret).before args0 about1 = true := code_word (m := ⟨1, 1⟩) (meth := k1m1) (c := k1c1) (by decide +kernel) rfl rfl rfl (by decide +kernel)
set_option maxRecDepth 65536 in
theorem w_c1 : (Jvm.Cond.code ({ cls := "java/util/ArrayList", name := "<init>", desc := "()V" } : Jvm.MethodName) jdk_38_method_2_code (1 : Nat) (Option.none : Option Jvm.ClassFile.FieldType)).before args0 about1 = true := code_word (m := ⟨11, 0⟩) (meth := k11m0) (c := k11c0) (by decide +kernel) rfl rfl rfl (by decide +kernel)
set_option maxRecDepth 65536 in
theorem w_c2 : (Jvm.Cond.code ({ cls := "java/util/AbstractList", name := "<init>", desc := "()V" } : Jvm.MethodName) jdk_39_method_1_code (1 : Nat) (Option.none : Option Jvm.ClassFile.FieldType)).before args0 about1 = true := code_word (m := ⟨7, 0⟩) (meth := k7m0) (c := k7c0) (by decide +kernel) rfl rfl rfl (by decide +kernel)
set_option maxRecDepth 65536 in
theorem w_c3 : (Jvm.Cond.code ({ cls := "java/util/AbstractCollection", name := "<init>", desc := "()V" } : Jvm.MethodName) jdk_22_method_1_code (1 : Nat) (Option.none : Option Jvm.ClassFile.FieldType)).before args0 about1 = true := code_word (m := ⟨4, 0⟩) (meth := k4m0) (c := k4c0) (by decide +kernel) rfl rfl rfl (by decide +kernel)
set_option maxRecDepth 65536 in
theorem w_c4 : (Jvm.Cond.code ({ cls := "java/lang/Object", name := "<init>", desc := "()V" } : Jvm.MethodName) object_method_1_code (1 : Nat) (Option.none : Option Jvm.ClassFile.FieldType)).before args0 about1 = true := code_word (m := ⟨0, 0⟩) (meth := k0m0) (c := k0c0) (by decide +kernel) rfl rfl rfl (by decide +kernel)
set_option maxRecDepth 65536 in
theorem w_c5 : (Jvm.Cond.code ({ cls := "com/example/cairn/cairn/plan/Grouping", name := "<init>", desc := "(Ljava/util/List;Ljava/util/List;)V" } : Jvm.MethodName) prog_92_method_1_code (3 : Nat) (Option.none : Option Jvm.ClassFile.FieldType)).before args0 about1 = true := code_word (m := ⟨13, 0⟩) (meth := k13m0) (c := k13c0) (by decide +kernel) rfl rfl rfl (by decide +kernel)
set_option maxRecDepth 65536 in
theorem w_c6 : (Jvm.Cond.code ({ cls := "java/lang/Record", name := "<init>", desc := "()V" } : Jvm.MethodName) jdk_30_method_1_code (1 : Nat) (Option.none : Option Jvm.ClassFile.FieldType)).before args0 about1 = true := code_word (m := ⟨12, 0⟩) (meth := k12m0) (c := k12c0) (by decide +kernel) rfl rfl rfl (by decide +kernel)
set_option maxRecDepth 65536 in
theorem w_c7 : (Jvm.Cond.code ({ cls := "java/util/List", name := "copyOf", desc := "(Ljava/util/Collection;)Ljava/util/List;" } : Jvm.MethodName) jdk_40_method_48_code (1 : Nat) (Option.some (Jvm.ClassFile.FieldType.object "java/util/List"))).before args0 about1 = true := code_word (m := ⟨6, 3⟩) (meth := k6m3) (c := k6c3) (by decide +kernel) rfl rfl rfl (by decide +kernel)
set_option maxRecDepth 65536 in
theorem w_c8 : (Jvm.Cond.code ({ cls := "java/util/ImmutableCollections", name := "listCopy", desc := "(Ljava/util/Collection;)Ljava/util/List;" } : Jvm.MethodName) jdk_56_method_3_code (2 : Nat) (Option.some (Jvm.ClassFile.FieldType.object "java/util/List"))).before args0 about1 = true := code_word (m := ⟨14, 1⟩) (meth := k14m1) (c := k14c1) (by decide +kernel) rfl rfl rfl (by decide +kernel)
set_option maxRecDepth 65536 in
theorem w_c9 : (Jvm.Cond.code ({ cls := "java/util/ArrayList", name := "isEmpty", desc := "()Z" } : Jvm.MethodName) jdk_38_method_9_code (1 : Nat) (Option.some Jvm.ClassFile.FieldType.boolean)).before args0 about1 = true := code_word (m := ⟨11, 3⟩) (meth := k11m3) (c := k11c3) (by decide +kernel) rfl rfl rfl (by decide +kernel)
set_option maxRecDepth 65536 in
theorem w_c10 : (Jvm.Cond.code ({ cls := "java/util/List", name := "of", desc := "()Ljava/util/List;" } : Jvm.MethodName) jdk_40_method_36_code (0 : Nat) (Option.some (Jvm.ClassFile.FieldType.object "java/util/List"))).before args0 about1 = true := code_word (m := ⟨6, 1⟩) (meth := k6m1) (c := k6c1) (by decide +kernel) rfl rfl rfl (by decide +kernel)
set_option maxRecDepth 65536 in
theorem w_c11 : (Jvm.Cond.code ({ cls := "java/lang/Integer", name := "valueOf", desc := "(I)Ljava/lang/Integer;" } : Jvm.MethodName) jdk_33_method_22_code (1 : Nat) (Option.some (Jvm.ClassFile.FieldType.object "java/lang/Integer"))).before args0 about1 = true := code_word (m := ⟨25, 0⟩) (meth := k25m0) (c := k25c0) (by decide +kernel) rfl rfl rfl (by decide +kernel)
set_option maxRecDepth 65536 in
theorem w_c12 : (Jvm.Cond.code ({ cls := "java/util/ArrayList", name := "add", desc := "(Ljava/lang/Object;)Z" } : Jvm.MethodName) jdk_38_method_25_code (2 : Nat) (Option.some Jvm.ClassFile.FieldType.boolean)).before args0 about1 = true := code_word (m := ⟨11, 6⟩) (meth := k11m6) (c := k11c6) (by decide +kernel) rfl rfl rfl (by decide +kernel)
set_option maxRecDepth 65536 in
theorem w_c13 : (Jvm.Cond.code ({ cls := "java/util/ArrayList", name := "add", desc := "(Ljava/lang/Object;[Ljava/lang/Object;I)V" } : Jvm.MethodName) jdk_38_method_24_code (4 : Nat) (Option.none : Option Jvm.ClassFile.FieldType)).before args0 about1 = true := code_word (m := ⟨11, 5⟩) (meth := k11m5) (c := k11c5) (by decide +kernel) rfl rfl rfl (by decide +kernel)
set_option maxRecDepth 65536 in
theorem w_c14 : (Jvm.Cond.code ({ cls := "java/util/ArrayList", name := "grow", desc := "()[Ljava/lang/Object;" } : Jvm.MethodName) jdk_38_method_7_code (1 : Nat) (Option.some (Jvm.ClassFile.FieldType.array (Jvm.ClassFile.FieldType.object "java/lang/Object")))).before args0 about1 = true := code_word (m := ⟨11, 2⟩) (meth := k11m2) (c := k11c2) (by decide +kernel) rfl rfl rfl (by decide +kernel)
set_option maxRecDepth 65536 in
theorem w_c15 : (Jvm.Cond.code ({ cls := "java/util/ArrayList", name := "grow", desc := "(I)[Ljava/lang/Object;" } : Jvm.MethodName) jdk_38_method_6_code (4 : Nat) (Option.some (Jvm.ClassFile.FieldType.array (Jvm.ClassFile.FieldType.object "java/lang/Object")))).before args0 about1 = true := code_word (m := ⟨11, 1⟩) (meth := k11m1) (c := k11c1) (by decide +kernel) rfl rfl rfl (by decide +kernel)
set_option maxRecDepth 65536 in
theorem w_c16 : (Jvm.Cond.code ({ cls := "java/lang/Math", name := "max", desc := "(II)I" } : Jvm.MethodName) jdk_29_method_65_code (2 : Nat) (Option.some Jvm.ClassFile.FieldType.int)).before args0 about1 = true := code_word (m := ⟨27, 1⟩) (meth := k27m1) (c := k27c1) (by decide +kernel) rfl rfl rfl (by decide +kernel)
set_option maxRecDepth 65536 in
theorem w_c17 : (Jvm.Cond.code ({ cls := "com/example/cairn/cairn/plan/Stage$Output", name := "<init>", desc := "(Lcom/example/cairn/cairn/plan/Stage$Shape;Ljava/util/List;ILjava/util/List;Lcom/example/cairn/cairn/plan/Grouping;)V" } : Jvm.MethodName) prog_108_method_1_code (7 : Nat) (Option.none : Option Jvm.ClassFile.FieldType)).before args0 about1 = true := code_word (m := ⟨28, 0⟩) (meth := k28m0) (c := k28c0) (by decide +kernel) rfl rfl rfl (by decide +kernel)
set_option maxRecDepth 65536 in
theorem w_c18 : (Jvm.Cond.code ({ cls := "java/util/ArrayList", name := "toArray", desc := "()[Ljava/lang/Object;" } : Jvm.MethodName) jdk_38_method_16_code (1 : Nat) (Option.some (Jvm.ClassFile.FieldType.array (Jvm.ClassFile.FieldType.object "java/lang/Object")))).before args0 about1 = true := code_word (m := ⟨11, 4⟩) (meth := k11m4) (c := k11c4) (by decide +kernel) rfl rfl rfl (by decide +kernel)
set_option maxRecDepth 65536 in
theorem w_c19 : (Jvm.Cond.code ({ cls := "java/util/Arrays", name := "copyOf", desc := "([Ljava/lang/Object;I)[Ljava/lang/Object;" } : Jvm.MethodName) jdk_65_method_119_code (2 : Nat) (Option.some (Jvm.ClassFile.FieldType.array (Jvm.ClassFile.FieldType.object "java/lang/Object")))).before args0 about1 = true := code_word (m := ⟨29, 1⟩) (meth := k29m1) (c := k29c1) (by decide +kernel) rfl rfl rfl (by decide +kernel)
set_option maxRecDepth 65536 in
theorem w_c20 : (Jvm.Cond.code ({ cls := "java/util/Arrays", name := "copyOf", desc := "([Ljava/lang/Object;ILjava/lang/Class;)[Ljava/lang/Object;" } : Jvm.MethodName) jdk_65_method_120_code (4 : Nat) (Option.some (Jvm.ClassFile.FieldType.array (Jvm.ClassFile.FieldType.object "java/lang/Object")))).before args0 about1 = true := code_word (m := ⟨29, 2⟩) (meth := k29m2) (c := k29c2) (by decide +kernel) rfl rfl rfl (by decide +kernel)
set_option maxRecDepth 65536 in
theorem w_c21 : (Jvm.Cond.code ({ cls := "java/lang/Math", name := "min", desc := "(II)I" } : Jvm.MethodName) jdk_29_method_69_code (2 : Nat) (Option.some Jvm.ClassFile.FieldType.int)).before args0 about1 = true := code_word (m := ⟨27, 2⟩) (meth := k27m2) (c := k27c2) (by decide +kernel) rfl rfl rfl (by decide +kernel)
set_option maxRecDepth 65536 in
theorem w_c22 : (Jvm.Cond.code ({ cls := "java/util/List", name := "of", desc := "([Ljava/lang/Object;)Ljava/util/List;" } : Jvm.MethodName) jdk_40_method_47_code (2 : Nat) (Option.some (Jvm.ClassFile.FieldType.object "java/util/List"))).before args0 about1 = true := code_word (m := ⟨6, 2⟩) (meth := k6m2) (c := k6c2) (by decide +kernel) rfl rfl rfl (by decide +kernel)
set_option maxRecDepth 65536 in
theorem w_c23 : (Jvm.Cond.code ({ cls := "java/util/ImmutableCollections$List12", name := "<init>", desc := "(Ljava/lang/Object;)V" } : Jvm.MethodName) jdk_44_method_1_code (2 : Nat) (Option.none : Option Jvm.ClassFile.FieldType)).before args0 about1 = true := code_word (m := ⟨17, 0⟩) (meth := k17m0) (c := k17c0) (by decide +kernel) rfl rfl rfl (by decide +kernel)
set_option maxRecDepth 65536 in
theorem w_c24 : (Jvm.Cond.code ({ cls := "java/util/ImmutableCollections$AbstractImmutableList", name := "<init>", desc := "()V" } : Jvm.MethodName) jdk_46_method_1_code (1 : Nat) (Option.none : Option Jvm.ClassFile.FieldType)).before args0 about1 = true := code_word (m := ⟨16, 0⟩) (meth := k16m0) (c := k16c0) (by decide +kernel) rfl rfl rfl (by decide +kernel)
set_option maxRecDepth 65536 in
theorem w_c25 : (Jvm.Cond.code ({ cls := "java/util/ImmutableCollections$AbstractImmutableCollection", name := "<init>", desc := "()V" } : Jvm.MethodName) jdk_47_method_1_code (1 : Nat) (Option.none : Option Jvm.ClassFile.FieldType)).before args0 about1 = true := code_word (m := ⟨15, 0⟩) (meth := k15m0) (c := k15c0) (by decide +kernel) rfl rfl rfl (by decide +kernel)
set_option maxRecDepth 65536 in
theorem w_c26 : (Jvm.Cond.code ({ cls := "java/util/Objects", name := "requireNonNull", desc := "(Ljava/lang/Object;)Ljava/lang/Object;" } : Jvm.MethodName) jdk_31_method_10_code (1 : Nat) (Option.some (Jvm.ClassFile.FieldType.object "java/lang/Object"))).before args0 about1 = true := code_word (m := ⟨31, 1⟩) (meth := k31m1) (c := k31c1) (by decide +kernel) rfl rfl rfl (by decide +kernel)
set_option maxRecDepth 65536 in
theorem w_c27 : (Jvm.Cond.code ({ cls := "java/lang/Enum", name := "ordinal", desc := "()I" } : Jvm.MethodName) jdk_37_method_2_code (1 : Nat) (Option.some Jvm.ClassFile.FieldType.int)).before args0 about1 = true := code_word (m := ⟨21, 0⟩) (meth := k21m0) (c := k21c0) (by decide +kernel) rfl rfl rfl (by decide +kernel)
set_option maxRecDepth 65536 in
theorem w_c28 : (Jvm.Cond.code ({ cls := "java/util/ImmutableCollections$List12", name := "isEmpty", desc := "()Z" } : Jvm.MethodName) jdk_44_method_4_code (1 : Nat) (Option.some Jvm.ClassFile.FieldType.boolean)).before args0 about1 = true := code_word (m := ⟨17, 1⟩) (meth := k17m1) (c := k17c1) (by decide +kernel) rfl rfl rfl (by decide +kernel)
set_option maxRecDepth 65536 in
theorem w_c29 : (Jvm.Cond.code ({ cls := "java/util/ImmutableCollections$ListN", name := "isEmpty", desc := "()Z" } : Jvm.MethodName) jdk_45_method_2_code (1 : Nat) (Option.some Jvm.ClassFile.FieldType.boolean)).before args0 about1 = true := code_word (m := ⟨18, 0⟩) (meth := k18m0) (c := k18c0) (by decide +kernel) rfl rfl rfl (by decide +kernel)
set_option maxRecDepth 65536 in
theorem w_c30 : (Jvm.Cond.code ({ cls := "com/example/cairn/cairn/plan/Stage$Output", name := "goesToCoordinator", desc := "()Z" } : Jvm.MethodName) prog_108_method_3_code (1 : Nat) (Option.some Jvm.ClassFile.FieldType.boolean)).before args0 about1 = true := code_word (m := ⟨28, 2⟩) (meth := k28m2) (c := k28c2) (by decide +kernel) rfl rfl rfl (by decide +kernel)
set_option maxRecDepth 65536 in
theorem w_c31 : (Jvm.Cond.code ({ cls := "com/example/cairn/cairn/plan/Stage$Output", name := "toCoordinator", desc := "(Lcom/example/cairn/cairn/plan/Stage$Shape;Lcom/example/cairn/cairn/plan/Grouping;)Lcom/example/cairn/cairn/plan/Stage$Output;" } : Jvm.MethodName) prog_108_method_2_code (2 : Nat) (Option.some (Jvm.ClassFile.FieldType.object "com/example/cairn/cairn/plan/Stage$Output"))).before args0 about1 = true := code_word (m := ⟨28, 1⟩) (meth := k28m1) (c := k28c1) (by decide +kernel) rfl rfl rfl (by decide +kernel)
set_option maxRecDepth 65536 in
theorem w_c32 : (Jvm.Cond.code ({ cls := "java/lang/Integer", name := "<init>", desc := "(I)V" } : Jvm.MethodName) jdk_33_method_23_code (2 : Nat) (Option.none : Option Jvm.ClassFile.FieldType)).before args0 about1 = true := code_word (m := ⟨25, 1⟩) (meth := k25m1) (c := k25c1) (by decide +kernel) rfl rfl rfl (by decide +kernel)
set_option maxRecDepth 65536 in
theorem w_c33 : (Jvm.Cond.code ({ cls := "java/lang/Number", name := "<init>", desc := "()V" } : Jvm.MethodName) jdk_18_method_1_code (1 : Nat) (Option.none : Option Jvm.ClassFile.FieldType)).before args0 about1 = true := code_word (m := ⟨23, 0⟩) (meth := k23m0) (c := k23c0) (by decide +kernel) rfl rfl rfl (by decide +kernel)
def codes1 : List Jvm.Cond := [Jvm.Cond.code x code maxLocals ret, Jvm.Cond.code ({ cls := "java/util/ArrayList", name := "<init>", desc := "()V" } : Jvm.MethodName) jdk_38_method_2_code (1 : Nat) (Option.none : Option Jvm.ClassFile.FieldType), Jvm.Cond.code ({ cls := "java/util/AbstractList", name := "<init>", desc := "()V" } : Jvm.MethodName) jdk_39_method_1_code (1 : Nat) (Option.none : Option Jvm.ClassFile.FieldType), Jvm.Cond.code ({ cls := "java/util/AbstractCollection", name := "<init>", desc := "()V" } : Jvm.MethodName) jdk_22_method_1_code (1 : Nat) (Option.none : Option Jvm.ClassFile.FieldType), Jvm.Cond.code ({ cls := "java/lang/Object", name := "<init>", desc := "()V" } : Jvm.MethodName) object_method_1_code (1 : Nat) (Option.none : Option Jvm.ClassFile.FieldType), Jvm.Cond.code ({ cls := "com/example/cairn/cairn/plan/Grouping", name := "<init>", desc := "(Ljava/util/List;Ljava/util/List;)V" } : Jvm.MethodName) prog_92_method_1_code (3 : Nat) (Option.none : Option Jvm.ClassFile.FieldType), Jvm.Cond.code ({ cls := "java/lang/Record", name := "<init>", desc := "()V" } : Jvm.MethodName) jdk_30_method_1_code (1 : Nat) (Option.none : Option Jvm.ClassFile.FieldType), Jvm.Cond.code ({ cls := "java/util/List", name := "copyOf", desc := "(Ljava/util/Collection;)Ljava/util/List;" } : Jvm.MethodName) jdk_40_method_48_code (1 : Nat) (Option.some (Jvm.ClassFile.FieldType.object "java/util/List")), Jvm.Cond.code ({ cls := "java/util/ImmutableCollections", name := "listCopy", desc := "(Ljava/util/Collection;)Ljava/util/List;" } : Jvm.MethodName) jdk_56_method_3_code (2 : Nat) (Option.some (Jvm.ClassFile.FieldType.object "java/util/List")), Jvm.Cond.code ({ cls := "java/util/ArrayList", name := "isEmpty", desc := "()Z" } : Jvm.MethodName) jdk_38_method_9_code (1 : Nat) (Option.some Jvm.ClassFile.FieldType.boolean), Jvm.Cond.code ({ cls := "java/util/List", name := "of", desc := "()Ljava/util/List;" } : Jvm.MethodName) jdk_40_method_36_code (0 : Nat) (Option.some (Jvm.ClassFile.FieldType.object "java/util/List")), Jvm.Cond.code ({ cls := "java/lang/Integer", name := "valueOf", desc := "(I)Ljava/lang/Integer;" } : Jvm.MethodName) jdk_33_method_22_code (1 : Nat) (Option.some (Jvm.ClassFile.FieldType.object "java/lang/Integer")), Jvm.Cond.code ({ cls := "java/util/ArrayList", name := "add", desc := "(Ljava/lang/Object;)Z" } : Jvm.MethodName) jdk_38_method_25_code (2 : Nat) (Option.some Jvm.ClassFile.FieldType.boolean), Jvm.Cond.code ({ cls := "java/util/ArrayList", name := "add", desc := "(Ljava/lang/Object;[Ljava/lang/Object;I)V" } : Jvm.MethodName) jdk_38_method_24_code (4 : Nat) (Option.none : Option Jvm.ClassFile.FieldType), Jvm.Cond.code ({ cls := "java/util/ArrayList", name := "grow", desc := "()[Ljava/lang/Object;" } : Jvm.MethodName) jdk_38_method_7_code (1 : Nat) (Option.some (Jvm.ClassFile.FieldType.array (Jvm.ClassFile.FieldType.object "java/lang/Object"))), Jvm.Cond.code ({ cls := "java/util/ArrayList", name := "grow", desc := "(I)[Ljava/lang/Object;" } : Jvm.MethodName) jdk_38_method_6_code (4 : Nat) (Option.some (Jvm.ClassFile.FieldType.array (Jvm.ClassFile.FieldType.object "java/lang/Object"))), Jvm.Cond.code ({ cls := "java/lang/Math", name := "max", desc := "(II)I" } : Jvm.MethodName) jdk_29_method_65_code (2 : Nat) (Option.some Jvm.ClassFile.FieldType.int), Jvm.Cond.code ({ cls := "com/example/cairn/cairn/plan/Stage$Output", name := "<init>", desc := "(Lcom/example/cairn/cairn/plan/Stage$Shape;Ljava/util/List;ILjava/util/List;Lcom/example/cairn/cairn/plan/Grouping;)V" } : Jvm.MethodName) prog_108_method_1_code (7 : Nat) (Option.none : Option Jvm.ClassFile.FieldType), Jvm.Cond.code ({ cls := "java/util/ArrayList", name := "toArray", desc := "()[Ljava/lang/Object;" } : Jvm.MethodName) jdk_38_method_16_code (1 : Nat) (Option.some (Jvm.ClassFile.FieldType.array (Jvm.ClassFile.FieldType.object "java/lang/Object"))), Jvm.Cond.code ({ cls := "java/util/Arrays", name := "copyOf", desc := "([Ljava/lang/Object;I)[Ljava/lang/Object;" } : Jvm.MethodName) jdk_65_method_119_code (2 : Nat) (Option.some (Jvm.ClassFile.FieldType.array (Jvm.ClassFile.FieldType.object "java/lang/Object"))), Jvm.Cond.code ({ cls := "java/util/Arrays", name := "copyOf", desc := "([Ljava/lang/Object;ILjava/lang/Class;)[Ljava/lang/Object;" } : Jvm.MethodName) jdk_65_method_120_code (4 : Nat) (Option.some (Jvm.ClassFile.FieldType.array (Jvm.ClassFile.FieldType.object "java/lang/Object"))), Jvm.Cond.code ({ cls := "java/lang/Math", name := "min", desc := "(II)I" } : Jvm.MethodName) jdk_29_method_69_code (2 : Nat) (Option.some Jvm.ClassFile.FieldType.int), Jvm.Cond.code ({ cls := "java/util/List", name := "of", desc := "([Ljava/lang/Object;)Ljava/util/List;" } : Jvm.MethodName) jdk_40_method_47_code (2 : Nat) (Option.some (Jvm.ClassFile.FieldType.object "java/util/List")), Jvm.Cond.code ({ cls := "java/util/ImmutableCollections$List12", name := "<init>", desc := "(Ljava/lang/Object;)V" } : Jvm.MethodName) jdk_44_method_1_code (2 : Nat) (Option.none : Option Jvm.ClassFile.FieldType), Jvm.Cond.code ({ cls := "java/util/ImmutableCollections$AbstractImmutableList", name := "<init>", desc := "()V" } : Jvm.MethodName) jdk_46_method_1_code (1 : Nat) (Option.none : Option Jvm.ClassFile.FieldType), Jvm.Cond.code ({ cls := "java/util/ImmutableCollections$AbstractImmutableCollection", name := "<init>", desc := "()V" } : Jvm.MethodName) jdk_47_method_1_code (1 : Nat) (Option.none : Option Jvm.ClassFile.FieldType), Jvm.Cond.code ({ cls := "java/util/Objects", name := "requireNonNull", desc := "(Ljava/lang/Object;)Ljava/lang/Object;" } : Jvm.MethodName) jdk_31_method_10_code (1 : Nat) (Option.some (Jvm.ClassFile.FieldType.object "java/lang/Object")), Jvm.Cond.code ({ cls := "java/lang/Enum", name := "ordinal", desc := "()I" } : Jvm.MethodName) jdk_37_method_2_code (1 : Nat) (Option.some Jvm.ClassFile.FieldType.int), Jvm.Cond.code ({ cls := "java/util/ImmutableCollections$List12", name := "isEmpty", desc := "()Z" } : Jvm.MethodName) jdk_44_method_4_code (1 : Nat) (Option.some Jvm.ClassFile.FieldType.boolean), Jvm.Cond.code ({ cls := "java/util/ImmutableCollections$ListN", name := "isEmpty", desc := "()Z" } : Jvm.MethodName) jdk_45_method_2_code (1 : Nat) (Option.some Jvm.ClassFile.FieldType.boolean), Jvm.Cond.code ({ cls := "com/example/cairn/cairn/plan/Stage$Output", name := "goesToCoordinator", desc := "()Z" } : Jvm.MethodName) prog_108_method_3_code (1 : Nat) (Option.some Jvm.ClassFile.FieldType.boolean), Jvm.Cond.code ({ cls := "com/example/cairn/cairn/plan/Stage$Output", name := "toCoordinator", desc := "(Lcom/example/cairn/cairn/plan/Stage$Shape;Lcom/example/cairn/cairn/plan/Grouping;)Lcom/example/cairn/cairn/plan/Stage$Output;" } : Jvm.MethodName) prog_108_method_2_code (2 : Nat) (Option.some (Jvm.ClassFile.FieldType.object "com/example/cairn/cairn/plan/Stage$Output")), Jvm.Cond.code ({ cls := "java/lang/Integer", name := "<init>", desc := "(I)V" } : Jvm.MethodName) jdk_33_method_23_code (2 : Nat) (Option.none : Option Jvm.ClassFile.FieldType), Jvm.Cond.code ({ cls := "java/lang/Number", name := "<init>", desc := "()V" } : Jvm.MethodName) jdk_18_method_1_code (1 : Nat) (Option.none : Option Jvm.ClassFile.FieldType)]
set_option maxRecDepth 65536 in
theorem codes_eq : words1.filter isCode = codes1 := rfl
theorem w_codes : ∀ c ∈ words1.filter isCode, c.before args0 about1 = true := by
  rw [codes_eq]
  intro c hc
  simp only [codes1, List.mem_cons, List.not_mem_nil, or_false] at hc
  rcases hc with rfl | rfl | rfl | rfl | rfl | rfl | rfl | rfl | rfl | rfl | rfl | rfl | rfl | rfl | rfl | rfl | rfl | rfl | rfl | rfl | rfl | rfl | rfl | rfl | rfl | rfl | rfl | rfl | rfl | rfl | rfl | rfl | rfl | rfl
  · exact w_c0
  · exact w_c1
  · exact w_c2
  · exact w_c3
  · exact w_c4
  · exact w_c5
  · exact w_c6
  · exact w_c7
  · exact w_c8
  · exact w_c9
  · exact w_c10
  · exact w_c11
  · exact w_c12
  · exact w_c13
  · exact w_c14
  · exact w_c15
  · exact w_c16
  · exact w_c17
  · exact w_c18
  · exact w_c19
  · exact w_c20
  · exact w_c21
  · exact w_c22
  · exact w_c23
  · exact w_c24
  · exact w_c25
  · exact w_c26
  · exact w_c27
  · exact w_c28
  · exact w_c29
  · exact w_c30
  · exact w_c31
  · exact w_c32
  · exact w_c33
set_option maxRecDepth 65536 in
theorem w_t1 : (words1.take 24).all (fun c => isCode c || c.before args0 about1) = true := by decide +kernel
set_option maxRecDepth 65536 in
theorem w_t2 : ((words1.drop 24).take 24).all (fun c => isCode c || c.before args0 about1) = true := by decide +kernel
set_option maxRecDepth 65536 in
theorem w_t3 : (((words1.drop 24).drop 24).take 24).all (fun c => isCode c || c.before args0 about1) = true := by decide +kernel
set_option maxRecDepth 65536 in
theorem w_t4 : ((((words1.drop 24).drop 24).drop 24).take 24).all (fun c => isCode c || c.before args0 about1) = true := by decide +kernel
set_option maxRecDepth 65536 in
theorem w_t5 : (((((words1.drop 24).drop 24).drop 24).drop 24).take 24).all (fun c => isCode c || c.before args0 about1) = true := by decide +kernel
set_option maxRecDepth 65536 in
theorem w_t6 : ((((((words1.drop 24).drop 24).drop 24).drop 24).drop 24).take 24).all (fun c => isCode c || c.before args0 about1) = true := by decide +kernel
set_option maxRecDepth 65536 in
theorem w_t7 : (((((((words1.drop 24).drop 24).drop 24).drop 24).drop 24).drop 24).take 24).all (fun c => isCode c || c.before args0 about1) = true := by decide +kernel
set_option maxRecDepth 65536 in
theorem w_t8 : ((((((((words1.drop 24).drop 24).drop 24).drop 24).drop 24).drop 24).drop 24).take 24).all (fun c => isCode c || c.before args0 about1) = true := by decide +kernel
set_option maxRecDepth 65536 in
theorem w_t9 : (((((((((words1.drop 24).drop 24).drop 24).drop 24).drop 24).drop 24).drop 24).drop 24).take 24).all (fun c => isCode c || c.before args0 about1) = true := by decide +kernel
set_option maxRecDepth 65536 in
theorem w_t10 : ((((((((((words1.drop 24).drop 24).drop 24).drop 24).drop 24).drop 24).drop 24).drop 24).drop 24).take 24).all (fun c => isCode c || c.before args0 about1) = true := by decide +kernel
set_option maxRecDepth 65536 in
theorem w_t11 : ((((((((((words1.drop 24).drop 24).drop 24).drop 24).drop 24).drop 24).drop 24).drop 24).drop 24).drop 24).all (fun c => isCode c || c.before args0 about1) = true := by decide +kernel
theorem w_tables : (allAtoms (Jvm.Cond.code x code maxLocals ret :: tables_1)).before args0 about1 = true := by
  rw [allAtoms_all]
  show words1.all (fun c => c.before args0 about1) = true
  refine all_split ?_ w_codes
  rw [← List.take_append_drop 24 words1, List.all_append, w_t1, ← List.take_append_drop 24 (words1.drop 24), List.all_append, w_t2, ← List.take_append_drop 24 ((words1.drop 24).drop 24), List.all_append, w_t3, ← List.take_append_drop 24 (((words1.drop 24).drop 24).drop 24), List.all_append, w_t4, ← List.take_append_drop 24 ((((words1.drop 24).drop 24).drop 24).drop 24), List.all_append, w_t5, ← List.take_append_drop 24 (((((words1.drop 24).drop 24).drop 24).drop 24).drop 24), List.all_append, w_t6, ← List.take_append_drop 24 ((((((words1.drop 24).drop 24).drop 24).drop 24).drop 24).drop 24), List.all_append, w_t7, ← List.take_append_drop 24 (((((((words1.drop 24).drop 24).drop 24).drop 24).drop 24).drop 24).drop 24), List.all_append, w_t8, ← List.take_append_drop 24 ((((((((words1.drop 24).drop 24).drop 24).drop 24).drop 24).drop 24).drop 24).drop 24), List.all_append, w_t9, ← List.take_append_drop 24 (((((((((words1.drop 24).drop 24).drop 24).drop 24).drop 24).drop 24).drop 24).drop 24).drop 24), List.all_append, w_t10, w_t11]
  rfl
set_option maxRecDepth 65536 in
theorem w_rest : rest_1_c.before args0 about1 = true := by decide +kernel
set_option maxRecDepth 65536 in
theorem w_case : (Jvm.Cond.and given_1 narrow_1).before args0 about1 = true := by decide +kernel
theorem w_applies : (headSpec (Jvm.Cond.code x code maxLocals ret :: tables_1) room_1).applies x e0.platform about1 = true :=
  (Spec.applies_iff w_frames).mpr ⟨w_running, w_runnable, w_alone, w_named, w_hears, w_ripe, w_room, w_tables⟩
set_option maxRecDepth 65536 in
theorem atStart : AtStart classFile x code maxLocals ret World_1 tables_1 room_1 Calls_1 rest_1 Pre_1 launch0 p0 e0 about1 theMethod args0 below0 :=
  ⟨lists_1, trivial, launch0.admits_env _ _ _, launch0.least_env, fairChoices_fair.cas, fairChoices_fair.clock, w_frames, w_args, w_heap, w_applies, ⟨⟨38, k38, 4, by decide +kernel, rfl, rfl, _, rfl, rfl⟩, trivial⟩, w_rest, w_case⟩
end start1
theorem witness_1 : WitnessClaimed_1 := ⟨start1.p0, start1.e0, start1.about1, start1.theMethod, start1.args0, start1.below0, start1.atStart⟩
end Jvm.Pilot.@@N@@
