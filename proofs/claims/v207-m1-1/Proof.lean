import JvmDerived
import JvmDerived.Pilot.@@N@@Statement
import JvmDerived.Pilot.@@N@@Code
set_option linter.unusedVariables false
set_option linter.unusedSimpArgs false
namespace Jvm.RoadKit
open Sem ClassFile Op Lib Jvm.Stand Jvm.Free Jvm.LawKit
section New
variable {p : Program} {l : Launch} {e : Env} {R : Room} {s : State} {m : MethodId} {args : Array Value} {below : List Frame} {meth : Method} {c : Code} {T : State} {locs : List Loc} {cells slots : Nat}
theorem retI (X : Stand p l e R s m args below meth c T locs cells slots) (hx : p.tables.exec = Jvm.exec) {pc : Nat} {Ls : Array Slot} {z : Int32} {rest : List Value} (hret : meth.sig.returnType = some .int) (hd : decode c.code pc = .ok (.ireturn, 1)) {fs : List Frame}
    (hl : ∀ (f : JFrame) (acts : List Action), f.method = m → f.locked = none → f.entered = [] → (doReturn e (T.setTop f) acts (some (.int z))).1 = T.setFrames fs) : Steps p.tables e below (T.setTop (mkF m pc Ls (.int z :: rest))) (T.setFrames fs) :=
  retOut X hx hret rfl (Or.inl ⟨rfl, Or.inl rfl, z, rfl⟩) hd hl
end New
end Jvm.RoadKit
namespace Jvm.Pilot.@@N@@
open Jvm Jvm.ClassFile Sem Op Lib Jvm.Free Jvm.Stand Jvm.LawKit Jvm.RoadKit Bundle Jvm.Pilot.@@N@@.Jvm.D
theorem ow {d : Jvm.Cond} (i : Nat) (h : tables_1[i]? = some d) : d ∈ tables_1 := List.mem_of_getElem? h
/-- what a body that only reads leaves: its answer, nothing written, the heap as it was -/
def own_Q (r : Option Value) (h0 : Heap) (n0 : Nat) (v : Option Value) (h : Heap) (L : List Loc) : Prop := v = r ∧ Fr n0 L ∧ h = h0
section OwnWords
variable {args : Array Value} {first s : State} {o : Option Outcome} {idx : List Nat} {a b : Term}
theorem own_eqI {k : Int32} (h : (Jvm.Cond.eq a (.int k)).value args first o s idx = some true) : a.eval args first o idx s = some (.int k) := by
  obtain ⟨x, y, hx, hy, k1, -⟩ := cmp_v (r := true) (Or.inl h)
  have hy' : y = .int k := (Option.some.inj hy).symm
  subst hy'
  cases x <;> simp [Kin, Value.isRef] at k1
  simp [Jvm.Cond.value, hx, Term.eval] at h
  rw [hx, h]
theorem own_eqR {y : Addr} (h : (Jvm.Cond.eq a b).value args first o s idx = some true) (hb : b.eval args first o idx s = some (.ref y)) : a.eval args first o idx s = some (.ref y) := by
  obtain ⟨x, z, hx, hy, k1, -⟩ := cmp_v (r := true) (Or.inl h)
  cases hb.symm.trans hy
  cases x <;> simp [Kin, Value.isRef] at k1
  · simp [Jvm.Cond.value, hx, hb] at h
  · simp [Jvm.Cond.value, hx, hb] at h
    rw [hx, h]
theorem own_len {y : Addr} {c : Cell} {n : Int32} (h : (Term.length a).eval args first o idx s = some (.int n)) (ht : a.eval args first o idx s = some (.ref y)) (hc : s.heap[y]? = some c) : (c.slots.size : Int) = n.toInt := by
  simp only [Term.eval, Option.bind_eq_bind, ht, Option.bind_some] at h
  obtain ⟨cell, hcell, h⟩ := Option.bind_eq_some_iff.mp h
  cases hc.symm.trans (State.arrayAt?_spec hcell).1
  by_cases hn : c.slots.size < 2147483648
  · rw [if_pos hn] at h; cases h; exact (len_toInt hn).symm
  · rw [if_neg hn] at h; cases h
end OwnWords
/-- an array that stands in the heap, with all that lies in it -/
def own_Arr (Z : State) (h : Heap) (a : Addr) (ty : FieldType) (vs : List Value) : Prop := ∃ c : Cell, Arr Z h a c ty ∧ c.slots = vs.toArray
/-- what a law leaves that makes arrays of its own -/
def own_QH (r : Option Value) (n0 : Nat) (v : Option Value) (h : Heap) (L : List Loc) : Prop := v = r ∧ Fr n0 L ∧ True
/-- the same of an array whose class is known -/
def own_ArrK (Z : State) (h : Heap) (a : Addr) (k : ClassId) (ty : FieldType) (vs : List Value) : Prop := ∃ c : Cell, Arr Z h a c ty ∧ c.cls = k ∧ c.slots = vs.toArray
section OwnArr
variable {Z : State} {h0 h h' : Heap} {a b : Addr} {k : ClassId} {ty : FieldType} {vs : List Value} {v : Value} {sl : Nat} {c : Cell}
theorem own_Arr.ext (F : own_Arr Z h a ty vs) (E : Ext h h') : own_Arr Z h' a ty vs := by obtain ⟨c, A, r⟩ := F; exact ⟨c, A.ext E, r⟩
theorem own_ArrK.lt (F : own_ArrK Z h a k ty vs) : a < h.size := by obtain ⟨c, A, -⟩ := F; exact A.lt
theorem own_ArrK.ext (F : own_ArrK Z h a k ty vs) (E : Ext h h') : own_ArrK Z h' a k ty vs := by obtain ⟨c, A, r⟩ := F; exact ⟨c, A.ext E, r⟩
theorem own_ArrK.other (F : own_ArrK Z h b k ty vs) (W : Wr h h' a sl v) (q : b ≠ a) : own_ArrK Z h' b k ty vs := by obtain ⟨c, A, r⟩ := F; exact ⟨c, A.other W q, r⟩
theorem own_set (W : Wr h h' a sl v) (A : Arr Z h a c ty) (q : c.cls = k) (e : c.slots = vs.toArray) : own_ArrK Z h' a k ty (vs.set sl v) := ⟨_, A.same W, q, by simp [Cell.setSlot, e]⟩
theorem own_inb {j : Int32} (n : Nat) (e : c.slots = vs.toArray) (hl : vs.length = n) (h0 : ¬ j < 0) (h1 : j.toNatClampNeg < n) : ¬ (j < 0 ∨ c.slots.size ≤ j.toNatClampNeg) := by
  rw [e]
  rintro (h | h)
  · exact h0 h
  · simp at h; omega
theorem own_get {j : Int32} (e : c.slots = vs.toArray) (hj : ¬ j < 0) (q : vs[j.toNatClampNeg]? = some v) : (¬ (j < 0 ∨ c.slots.size ≤ j.toNatClampNeg)) ∧ c.slots[j.toNatClampNeg]? = some v := by
  have hl := (List.getElem?_eq_some_iff.mp q).1
  rw [e]
  refine ⟨?_, by simpa using q⟩
  rintro (h | h)
  · exact hj h
  · simp at h; omega
theorem own_ext_trans {h'' : Heap} (E : Ext h h') (E' : Ext h' h'') : Ext h h'' := ⟨Nat.le_trans E.1 E'.1, fun x y q => E'.2 x y (E.2 x y q)⟩
theorem own_ext_wr (E : Ext h0 h) (W : Wr h h' a sl v) (q : h0.size ≤ a) : Ext h0 h' := by
  refine ⟨Nat.le_trans E.1 (Nat.le_of_eq W.size.symm), fun x y hx => ?_⟩
  have hlt := (Array.getElem?_eq_some_iff.mp hx).1
  obtain ⟨c', e1, -, -, -, e5, -⟩ := wr_at W (E.2 x y hx)
  rw [← e5 (Nat.ne_of_lt (Nat.lt_of_lt_of_le hlt q))]; exact e1
theorem own_ext_keep (E : Ext h0 h) (K : Keep h h' [a]) (q : h0.size ≤ a) : Ext h0 h' := ⟨Nat.le_trans E.1 K.1, fun x y hx => K.2.1 x y (E.2 x y hx) (ninS (Nat.ne_of_lt (Nat.lt_of_lt_of_le (Array.getElem?_eq_some_iff.mp hx).1 q)) nin0)⟩
end OwnArr
def own_K (Z : State) (h : Heap) (w_ALL w_ADDITIVE_CHANGE w_SUBTRACTIVE_CHANGE w_ORDER_CHANGING_CHANGE w_SERIAL_INSERT w_PARALLEL_INSERT w_DELETE_ACTIVITY w_MOVE_ACTIVITY : Addr) : Prop := Sta Z h "com/example/live_rbac/liverbac/ChangeCommand" "ALL" "Lcom/example/live_rbac/liverbac/ChangeCommand;" (.ref w_ALL) ∧ Exa Z h w_ALL "com/example/live_rbac/liverbac/ChangeCommand" ∧ Sta Z h "com/example/live_rbac/liverbac/ChangeCommand" "ADDITIVE_CHANGE" "Lcom/example/live_rbac/liverbac/ChangeCommand;" (.ref w_ADDITIVE_CHANGE) ∧ Exa Z h w_ADDITIVE_CHANGE "com/example/live_rbac/liverbac/ChangeCommand" ∧ Sta Z h "com/example/live_rbac/liverbac/ChangeCommand" "SUBTRACTIVE_CHANGE" "Lcom/example/live_rbac/liverbac/ChangeCommand;" (.ref w_SUBTRACTIVE_CHANGE) ∧ Exa Z h w_SUBTRACTIVE_CHANGE "com/example/live_rbac/liverbac/ChangeCommand" ∧ Sta Z h "com/example/live_rbac/liverbac/ChangeCommand" "ORDER_CHANGING_CHANGE" "Lcom/example/live_rbac/liverbac/ChangeCommand;" (.ref w_ORDER_CHANGING_CHANGE) ∧ Exa Z h w_ORDER_CHANGING_CHANGE "com/example/live_rbac/liverbac/ChangeCommand" ∧ Sta Z h "com/example/live_rbac/liverbac/ChangeCommand" "SERIAL_INSERT" "Lcom/example/live_rbac/liverbac/ChangeCommand;" (.ref w_SERIAL_INSERT) ∧ Exa Z h w_SERIAL_INSERT "com/example/live_rbac/liverbac/ChangeCommand" ∧ Sta Z h "com/example/live_rbac/liverbac/ChangeCommand" "PARALLEL_INSERT" "Lcom/example/live_rbac/liverbac/ChangeCommand;" (.ref w_PARALLEL_INSERT) ∧ Exa Z h w_PARALLEL_INSERT "com/example/live_rbac/liverbac/ChangeCommand" ∧ Sta Z h "com/example/live_rbac/liverbac/ChangeCommand" "DELETE_ACTIVITY" "Lcom/example/live_rbac/liverbac/ChangeCommand;" (.ref w_DELETE_ACTIVITY) ∧ Exa Z h w_DELETE_ACTIVITY "com/example/live_rbac/liverbac/ChangeCommand" ∧ Sta Z h "com/example/live_rbac/liverbac/ChangeCommand" "MOVE_ACTIVITY" "Lcom/example/live_rbac/liverbac/ChangeCommand;" (.ref w_MOVE_ACTIVITY) ∧ Exa Z h w_MOVE_ACTIVITY "com/example/live_rbac/liverbac/ChangeCommand" ∧ Fld Z h w_ORDER_CHANGING_CHANGE "java/lang/Enum" "ordinal" "I" (.int (3 : Int32)) ∧ Fld Z h w_ALL "java/lang/Enum" "ordinal" "I" (.int (0 : Int32)) ∧ Fld Z h w_ORDER_CHANGING_CHANGE "com/example/live_rbac/liverbac/ChangeCommand" "parent" "Lcom/example/live_rbac/liverbac/ChangeCommand;" (.ref w_ALL) ∧ Fld Z h w_ADDITIVE_CHANGE "java/lang/Enum" "ordinal" "I" (.int (1 : Int32)) ∧ Fld Z h w_DELETE_ACTIVITY "java/lang/Enum" "ordinal" "I" (.int (6 : Int32)) ∧ Fld Z h w_ADDITIVE_CHANGE "com/example/live_rbac/liverbac/ChangeCommand" "parent" "Lcom/example/live_rbac/liverbac/ChangeCommand;" (.ref w_ALL) ∧ Fld Z h w_ALL "com/example/live_rbac/liverbac/ChangeCommand" "parent" "Lcom/example/live_rbac/liverbac/ChangeCommand;" .null ∧ Fld Z h w_SERIAL_INSERT "java/lang/Enum" "ordinal" "I" (.int (4 : Int32)) ∧ Fld Z h w_SERIAL_INSERT "com/example/live_rbac/liverbac/ChangeCommand" "parent" "Lcom/example/live_rbac/liverbac/ChangeCommand;" (.ref w_ADDITIVE_CHANGE) ∧ Fld Z h w_MOVE_ACTIVITY "java/lang/Enum" "ordinal" "I" (.int (7 : Int32)) ∧ Fld Z h w_MOVE_ACTIVITY "com/example/live_rbac/liverbac/ChangeCommand" "parent" "Lcom/example/live_rbac/liverbac/ChangeCommand;" (.ref w_ORDER_CHANGING_CHANGE) ∧ Fld Z h w_PARALLEL_INSERT "java/lang/Enum" "ordinal" "I" (.int (5 : Int32)) ∧ Fld Z h w_PARALLEL_INSERT "com/example/live_rbac/liverbac/ChangeCommand" "parent" "Lcom/example/live_rbac/liverbac/ChangeCommand;" (.ref w_ADDITIVE_CHANGE) ∧ Fld Z h w_DELETE_ACTIVITY "com/example/live_rbac/liverbac/ChangeCommand" "parent" "Lcom/example/live_rbac/liverbac/ChangeCommand;" (.ref w_SUBTRACTIVE_CHANGE) ∧ Fld Z h w_SUBTRACTIVE_CHANGE "java/lang/Enum" "ordinal" "I" (.int (2 : Int32)) ∧ Fld Z h w_SUBTRACTIVE_CHANGE "com/example/live_rbac/liverbac/ChangeCommand" "parent" "Lcom/example/live_rbac/liverbac/ChangeCommand;" (.ref w_ALL)
theorem own_K_ext {Z : State} {h h' : Heap} {w_ALL w_ADDITIVE_CHANGE w_SUBTRACTIVE_CHANGE w_ORDER_CHANGING_CHANGE w_SERIAL_INSERT w_PARALLEL_INSERT w_DELETE_ACTIVITY w_MOVE_ACTIVITY : Addr} (E : Ext h h') (hK : own_K Z h w_ALL w_ADDITIVE_CHANGE w_SUBTRACTIVE_CHANGE w_ORDER_CHANGING_CHANGE w_SERIAL_INSERT w_PARALLEL_INSERT w_DELETE_ACTIVITY w_MOVE_ACTIVITY) : own_K Z h' w_ALL w_ADDITIVE_CHANGE w_SUBTRACTIVE_CHANGE w_ORDER_CHANGING_CHANGE w_SERIAL_INSERT w_PARALLEL_INSERT w_DELETE_ACTIVITY w_MOVE_ACTIVITY := by
  obtain ⟨S_w_ALL, E_w_ALL, S_w_ADDITIVE_CHANGE, E_w_ADDITIVE_CHANGE, S_w_SUBTRACTIVE_CHANGE, E_w_SUBTRACTIVE_CHANGE, S_w_ORDER_CHANGING_CHANGE, E_w_ORDER_CHANGING_CHANGE, S_w_SERIAL_INSERT, E_w_SERIAL_INSERT, S_w_PARALLEL_INSERT, E_w_PARALLEL_INSERT, S_w_DELETE_ACTIVITY, E_w_DELETE_ACTIVITY, S_w_MOVE_ACTIVITY, E_w_MOVE_ACTIVITY, F_ordinal_w_ORDER_CHANGING_CHANGE, F_ordinal_w_ALL, F_parent_w_ORDER_CHANGING_CHANGE, F_ordinal_w_ADDITIVE_CHANGE, F_ordinal_w_DELETE_ACTIVITY, F_parent_w_ADDITIVE_CHANGE, F_parent_w_ALL, F_ordinal_w_SERIAL_INSERT, F_parent_w_SERIAL_INSERT, F_ordinal_w_MOVE_ACTIVITY, F_parent_w_MOVE_ACTIVITY, F_ordinal_w_PARALLEL_INSERT, F_parent_w_PARALLEL_INSERT, F_parent_w_DELETE_ACTIVITY, F_ordinal_w_SUBTRACTIVE_CHANGE, F_parent_w_SUBTRACTIVE_CHANGE⟩ := hK
  exact ⟨S_w_ALL.ext E, E_w_ALL.ext E, S_w_ADDITIVE_CHANGE.ext E, E_w_ADDITIVE_CHANGE.ext E, S_w_SUBTRACTIVE_CHANGE.ext E, E_w_SUBTRACTIVE_CHANGE.ext E, S_w_ORDER_CHANGING_CHANGE.ext E, E_w_ORDER_CHANGING_CHANGE.ext E, S_w_SERIAL_INSERT.ext E, E_w_SERIAL_INSERT.ext E, S_w_PARALLEL_INSERT.ext E, E_w_PARALLEL_INSERT.ext E, S_w_DELETE_ACTIVITY.ext E, E_w_DELETE_ACTIVITY.ext E, S_w_MOVE_ACTIVITY.ext E, E_w_MOVE_ACTIVITY.ext E, F_ordinal_w_ORDER_CHANGING_CHANGE.ext E, F_ordinal_w_ALL.ext E, F_parent_w_ORDER_CHANGING_CHANGE.ext E, F_ordinal_w_ADDITIVE_CHANGE.ext E, F_ordinal_w_DELETE_ACTIVITY.ext E, F_parent_w_ADDITIVE_CHANGE.ext E, F_parent_w_ALL.ext E, F_ordinal_w_SERIAL_INSERT.ext E, F_parent_w_SERIAL_INSERT.ext E, F_ordinal_w_MOVE_ACTIVITY.ext E, F_parent_w_MOVE_ACTIVITY.ext E, F_ordinal_w_PARALLEL_INSERT.ext E, F_parent_w_PARALLEL_INSERT.ext E, F_parent_w_DELETE_ACTIVITY.ext E, F_ordinal_w_SUBTRACTIVE_CHANGE.ext E, F_parent_w_SUBTRACTIVE_CHANGE.ext E⟩
theorem d_method_2_0 : decode method_2_code 0 = .ok (.iload_n 0, 1) := by decide +kernel
theorem d_method_2_1 : decode method_2_code 1 = .ok (.iconst 4, 1) := by decide +kernel
theorem d_method_2_2 : decode method_2_code 2 = .ok (.if_icmp .ge 5, 3) := by decide +kernel
theorem d_method_2_5 : decode method_2_code 5 = .ok (.iload_n 0, 1) := by decide +kernel
theorem d_method_2_6 : decode method_2_code 6 = .ok (.ireturn, 1) := by decide +kernel
theorem d_method_2_7 : decode method_2_code 7 = .ok (.iload_n 0, 1) := by decide +kernel
theorem d_method_2_8 : decode method_2_code 8 = .ok (.bipush 6, 2) := by decide +kernel
theorem d_method_2_10 : decode method_2_code 10 = .ok (.if_icmp .ge 5, 3) := by decide +kernel
theorem d_method_2_13 : decode method_2_code 13 = .ok (.iconst 1, 1) := by decide +kernel
theorem d_method_2_14 : decode method_2_code 14 = .ok (.ireturn, 1) := by decide +kernel
theorem d_method_2_15 : decode method_2_code 15 = .ok (.iload_n 0, 1) := by decide +kernel
theorem d_method_2_16 : decode method_2_code 16 = .ok (.bipush 6, 2) := by decide +kernel
theorem d_method_2_18 : decode method_2_code 18 = .ok (.if_icmp .ne 5, 3) := by decide +kernel
theorem d_method_2_21 : decode method_2_code 21 = .ok (.iconst 2, 1) := by decide +kernel
theorem d_method_2_22 : decode method_2_code 22 = .ok (.ireturn, 1) := by decide +kernel
theorem d_method_2_23 : decode method_2_code 23 = .ok (.iconst 3, 1) := by decide +kernel
theorem d_method_2_24 : decode method_2_code 24 = .ok (.ireturn, 1) := by decide +kernel
theorem pn_0 : plainName "com/example/live_rbac/liverbac/ChangeCommandIncludesPinLaw" = true := by first | (simp [plainName, overriddenIn]; done) | decide +kernel
theorem ef_family (m : MethodId) (x0 : Int32) : entryFrame m #[(.int x0)] 1 = mkF m 0 #[.val (.int x0)] [] := by first | (simp [entryFrame, mkF, argsToLocals, Value.category]; done) | rfl
set_option maxRecDepth 65536 in
set_option maxHeartbeats 40000000 in
theorem rm_family (l : Launch) (Z : State) (a0 : Array Value) (hw : ∀ d ∈ tables_1, d.before a0 Z = true) (ws : List Jvm.Cond) (p0 : Int32) (h0 : Heap) (n0 : Nat) :
    MetFree l (⟨"com/example/live_rbac/liverbac/ChangeCommandIncludesPinLaw", "family", "(I)I"⟩ : MethodName) (head1 (Jvm.Cond.code (⟨"com/example/live_rbac/liverbac/ChangeCommandIncludesPinLaw", "family", "(I)I"⟩ : MethodName) method_2_code 1 (some .int) :: ws) ({ frames := 0, cells := 0, slots := 0, locals := 0 } : Room)) (fun a U => a = #[(.int p0)] ∧ Z.Warmed39 U.vm ∧ U.heap = h0) (fun _ _ _ _ _ => True) (fun _ U o U' => ∃ v L, o = .returned v ∧ own_Q (some (.int (if p0 < (4 : Int32) then p0 else (if p0 < (6 : Int32) then (1 : Int32) else (if p0 = (6 : Int32) then (2 : Int32) else (3 : Int32)))))) h0 n0 v U'.heap L ∧ FrameEnd U o U' L ({ frames := 0, cells := 0, slots := 0, locals := 0 } : Room).cells ({ frames := 0, cells := 0, slots := 0, locals := 0 } : Room).slots) := by
  refine MetFree.of_bodySF (plainFor_of_name pn_0) hisR ?_
  intro p e s m args below meth c s₁ Bd hml0 hP hK0
  obtain ⟨rfl, hZ, hh⟩ := hP
  have hx := Bd.exec
  have hby := Bd.bytes
  have hml : c.maxLocals = 1 := hml0
  have hown : s.vm.findClass "com/example/live_rbac/liverbac/ChangeCommandIncludesPinLaw" = some m.cls := findClass_of_methodNamed Bd.named
  have hnm := (name_of_methodNamed Bd.named Bd.method).1
  have X0 : Stand p l e ({ frames := 0, cells := 0, slots := 0, locals := 0 } : Room) s m #[(.int p0)] below meth c s₁ [] 0 0 := Stand.of_body Bd
  have e0 : s₁.heap = h0 := by rw [← hh, Bd.state]; rfl
  have N0 := Fr.nil n0
  have pre0 : ∀ t, Steps p.tables e below (s₁.setTop (mkF m 0 #[.val (.int p0)] [])) t → Steps p.tables e below (s₁.setTop (entryFrame m #[(.int p0)] 1)) t := fun t k => castTop (ef_family m p0) k
  have pre2 : ∀ t, Steps p.tables e below (s₁.setTop (mkF m 2 #[.val (.int p0)] [(.int (4 : Int32)), (.int p0)])) t → Steps p.tables e below (s₁.setTop (entryFrame m #[(.int p0)] 1)) t := fun t k => pre0 t (by
    show Steps p.tables e below (s₁.setTop (mkF m 0 #[.val (.int p0)] [])) _
    refine XS.iloadN X0.here hx rfl (hb hby d_method_2_0) rfl ?_
    show Steps p.tables e below (s₁.setTop (mkF m 1 #[.val (.int p0)] [(.int p0)])) _
    refine XS.iconst X0.here hx rfl (hb hby d_method_2_1) ?_
    exact k)
  by_cases hc2_1 : p0 < (4 : Int32)
  · have pre3 : ∀ t, Steps p.tables e below (s₁.setTop (mkF m 6 #[.val (.int p0)] [(.int p0)])) t → Steps p.tables e below (s₁.setTop (entryFrame m #[(.int p0)] 1)) t := fun t k => pre2 t (by
      show Steps p.tables e below (s₁.setTop (mkF m 2 #[.val (.int p0)] [(.int (4 : Int32)), (.int p0)])) _
      refine XS.icmpNo X0.here hx rfl (hb hby d_method_2_2) rfl (tlt hc2_1).2.1 ?_
      show Steps p.tables e below (s₁.setTop (mkF m 5 #[.val (.int p0)] [])) _
      refine XS.iloadN X0.here hx rfl (hb hby d_method_2_5) rfl ?_
      exact k)
    obtain ⟨fs, hr, hrun, hended, hW, hsame⟩ := X0.leave (v := some (.int p0)) (fun h => by rw [Bd.returns] at h; cases h)
    refine ⟨_, _, pre3 _ ?_, hrun, hended, _, _, rfl, ?_, ⟨_, rfl⟩, hW, hsame.mono (by decide) (by decide)⟩
    · show Steps p.tables e below (s₁.setTop (mkF m 6 #[.val (.int p0)] [(.int p0)])) _
      exact retI X0 hx Bd.returns (hb hby d_method_2_6) hr
    · exact ⟨congrArg (fun z => some (Value.int z)) (Eq.symm (if_pos hc2_1)), N0, e0⟩
  · have pre5 : ∀ t, Steps p.tables e below (s₁.setTop (mkF m 10 #[.val (.int p0)] [(.int (6 : Int32)), (.int p0)])) t → Steps p.tables e below (s₁.setTop (entryFrame m #[(.int p0)] 1)) t := fun t k => pre2 t (by
      show Steps p.tables e below (s₁.setTop (mkF m 2 #[.val (.int p0)] [(.int (4 : Int32)), (.int p0)])) _
      refine XS.icmpYes X0.here hx rfl (pc0 := 2) (pc' := 7) rfl (hb hby d_method_2_2) rfl (flt hc2_1).2.1 (by decide) (by decide) ?_
      show Steps p.tables e below (s₁.setTop (mkF m 7 #[.val (.int p0)] [])) _
      refine XS.iloadN X0.here hx rfl (hb hby d_method_2_7) rfl ?_
      show Steps p.tables e below (s₁.setTop (mkF m 8 #[.val (.int p0)] [(.int p0)])) _
      refine XS.bipush X0.here hx rfl (hb hby d_method_2_8) ?_
      exact k)
    by_cases hc10_4 : p0 < (6 : Int32)
    · have pre6 : ∀ t, Steps p.tables e below (s₁.setTop (mkF m 14 #[.val (.int p0)] [(.int (1 : Int32))])) t → Steps p.tables e below (s₁.setTop (entryFrame m #[(.int p0)] 1)) t := fun t k => pre5 t (by
        show Steps p.tables e below (s₁.setTop (mkF m 10 #[.val (.int p0)] [(.int (6 : Int32)), (.int p0)])) _
        refine XS.icmpNo X0.here hx rfl (hb hby d_method_2_10) rfl (tlt hc10_4).2.1 ?_
        show Steps p.tables e below (s₁.setTop (mkF m 13 #[.val (.int p0)] [])) _
        refine XS.iconst X0.here hx rfl (hb hby d_method_2_13) ?_
        exact k)
      obtain ⟨fs, hr, hrun, hended, hW, hsame⟩ := X0.leave (v := some (.int (1 : Int32))) (fun h => by rw [Bd.returns] at h; cases h)
      refine ⟨_, _, pre6 _ ?_, hrun, hended, _, _, rfl, ?_, ⟨_, rfl⟩, hW, hsame.mono (by decide) (by decide)⟩
      · show Steps p.tables e below (s₁.setTop (mkF m 14 #[.val (.int p0)] [(.int (1 : Int32))])) _
        exact retI X0 hx Bd.returns (hb hby d_method_2_14) hr
      · exact ⟨congrArg (fun z => some (Value.int z)) (Eq.symm ((if_neg hc2_1).trans (if_pos hc10_4))), N0, e0⟩
    · have pre8 : ∀ t, Steps p.tables e below (s₁.setTop (mkF m 18 #[.val (.int p0)] [(.int (6 : Int32)), (.int p0)])) t → Steps p.tables e below (s₁.setTop (entryFrame m #[(.int p0)] 1)) t := fun t k => pre5 t (by
        show Steps p.tables e below (s₁.setTop (mkF m 10 #[.val (.int p0)] [(.int (6 : Int32)), (.int p0)])) _
        refine XS.icmpYes X0.here hx rfl (pc0 := 10) (pc' := 15) rfl (hb hby d_method_2_10) rfl (flt hc10_4).2.1 (by decide) (by decide) ?_
        show Steps p.tables e below (s₁.setTop (mkF m 15 #[.val (.int p0)] [])) _
        refine XS.iloadN X0.here hx rfl (hb hby d_method_2_15) rfl ?_
        show Steps p.tables e below (s₁.setTop (mkF m 16 #[.val (.int p0)] [(.int p0)])) _
        refine XS.bipush X0.here hx rfl (hb hby d_method_2_16) ?_
        exact k)
      by_cases hc18_7 : p0 = (6 : Int32)
      · have pre9 : ∀ t, Steps p.tables e below (s₁.setTop (mkF m 22 #[.val (.int p0)] [(.int (2 : Int32))])) t → Steps p.tables e below (s₁.setTop (entryFrame m #[(.int p0)] 1)) t := fun t k => pre8 t (by
          show Steps p.tables e below (s₁.setTop (mkF m 18 #[.val (.int p0)] [(.int (6 : Int32)), (.int p0)])) _
          refine XS.icmpNo X0.here hx rfl (hb hby d_method_2_18) rfl (teq hc18_7).2 ?_
          show Steps p.tables e below (s₁.setTop (mkF m 21 #[.val (.int p0)] [])) _
          refine XS.iconst X0.here hx rfl (hb hby d_method_2_21) ?_
          exact k)
        obtain ⟨fs, hr, hrun, hended, hW, hsame⟩ := X0.leave (v := some (.int (2 : Int32))) (fun h => by rw [Bd.returns] at h; cases h)
        refine ⟨_, _, pre9 _ ?_, hrun, hended, _, _, rfl, ?_, ⟨_, rfl⟩, hW, hsame.mono (by decide) (by decide)⟩
        · show Steps p.tables e below (s₁.setTop (mkF m 22 #[.val (.int p0)] [(.int (2 : Int32))])) _
          exact retI X0 hx Bd.returns (hb hby d_method_2_22) hr
        · exact ⟨congrArg (fun z => some (Value.int z)) (Eq.symm ((if_neg hc2_1).trans ((if_neg hc10_4).trans (if_pos hc18_7)))), N0, e0⟩
      · have pre10 : ∀ t, Steps p.tables e below (s₁.setTop (mkF m 24 #[.val (.int p0)] [(.int (3 : Int32))])) t → Steps p.tables e below (s₁.setTop (entryFrame m #[(.int p0)] 1)) t := fun t k => pre8 t (by
          show Steps p.tables e below (s₁.setTop (mkF m 18 #[.val (.int p0)] [(.int (6 : Int32)), (.int p0)])) _
          refine XS.icmpYes X0.here hx rfl (pc0 := 18) (pc' := 23) rfl (hb hby d_method_2_18) rfl (feq hc18_7).2 (by decide) (by decide) ?_
          show Steps p.tables e below (s₁.setTop (mkF m 23 #[.val (.int p0)] [])) _
          refine XS.iconst X0.here hx rfl (hb hby d_method_2_23) ?_
          exact k)
        obtain ⟨fs, hr, hrun, hended, hW, hsame⟩ := X0.leave (v := some (.int (3 : Int32))) (fun h => by rw [Bd.returns] at h; cases h)
        refine ⟨_, _, pre10 _ ?_, hrun, hended, _, _, rfl, ?_, ⟨_, rfl⟩, hW, hsame.mono (by decide) (by decide)⟩
        · show Steps p.tables e below (s₁.setTop (mkF m 24 #[.val (.int p0)] [(.int (3 : Int32))])) _
          exact retI X0 hx Bd.returns (hb hby d_method_2_24) hr
        · exact ⟨congrArg (fun z => some (Value.int z)) (Eq.symm ((if_neg hc2_1).trans ((if_neg hc10_4).trans (if_neg hc18_7)))), N0, e0⟩
theorem d_method_3_0 : decode method_3_code 0 = .ok (.iload_n 0, 1) := by decide +kernel
theorem d_method_3_1 : decode method_3_code 1 = .ok (.ifCond .ne 5, 3) := by decide +kernel
theorem d_method_3_4 : decode method_3_code 4 = .ok (.iconst 1, 1) := by decide +kernel
theorem d_method_3_5 : decode method_3_code 5 = .ok (.ireturn, 1) := by decide +kernel
theorem d_method_3_6 : decode method_3_code 6 = .ok (.iload_n 0, 1) := by decide +kernel
theorem d_method_3_7 : decode method_3_code 7 = .ok (.iconst 4, 1) := by decide +kernel
theorem d_method_3_8 : decode method_3_code 8 = .ok (.if_icmp .ge 27, 3) := by decide +kernel
theorem d_method_3_11 : decode method_3_code 11 = .ok (.iload_n 1, 1) := by decide +kernel
theorem d_method_3_12 : decode method_3_code 12 = .ok (.iload_n 0, 1) := by decide +kernel
theorem d_method_3_13 : decode method_3_code 13 = .ok (.if_icmp .eq 16, 3) := by decide +kernel
theorem d_method_3_29 : decode method_3_code 29 = .ok (.iconst 1, 1) := by decide +kernel
theorem d_method_3_30 : decode method_3_code 30 = .ok (.goto 4, 3) := by decide +kernel
theorem d_method_3_34 : decode method_3_code 34 = .ok (.ireturn, 1) := by decide +kernel
theorem d_method_3_16 : decode method_3_code 16 = .ok (.iload_n 1, 1) := by decide +kernel
theorem d_method_3_17 : decode method_3_code 17 = .ok (.iconst 4, 1) := by decide +kernel
theorem d_method_3_18 : decode method_3_code 18 = .ok (.if_icmp .lt 15, 3) := by decide +kernel
theorem d_method_3_33 : decode method_3_code 33 = .ok (.iconst 0, 1) := by decide +kernel
theorem d_method_3_21 : decode method_3_code 21 = .ok (.iload_n 1, 1) := by decide +kernel
theorem d_method_3_22 : decode method_3_code 22 = .ok (.invokestatic 7, 3) := by decide +kernel
theorem pd_0 : parseMethodDescriptor "(I)I" = some ⟨[.int], some .int⟩ := by decide +kernel
theorem d_method_3_25 : decode method_3_code 25 = .ok (.iload_n 0, 1) := by decide +kernel
theorem d_method_3_26 : decode method_3_code 26 = .ok (.if_icmp .ne 7, 3) := by decide +kernel
theorem d_method_3_35 : decode method_3_code 35 = .ok (.iload_n 1, 1) := by decide +kernel
theorem d_method_3_36 : decode method_3_code 36 = .ok (.iload_n 0, 1) := by decide +kernel
theorem d_method_3_37 : decode method_3_code 37 = .ok (.if_icmp .ne 7, 3) := by decide +kernel
theorem d_method_3_40 : decode method_3_code 40 = .ok (.iconst 1, 1) := by decide +kernel
theorem d_method_3_41 : decode method_3_code 41 = .ok (.goto 4, 3) := by decide +kernel
theorem d_method_3_45 : decode method_3_code 45 = .ok (.ireturn, 1) := by decide +kernel
theorem d_method_3_44 : decode method_3_code 44 = .ok (.iconst 0, 1) := by decide +kernel
theorem ef_expected (m : MethodId) (x0 : Int32) (x1 : Int32) : entryFrame m #[(.int x0), (.int x1)] 2 = mkF m 0 #[.val (.int x0), .val (.int x1)] [] := by first | (simp [entryFrame, mkF, argsToLocals, Value.category]; done) | rfl
set_option maxRecDepth 65536 in
set_option maxHeartbeats 40000000 in
theorem rm_expected (l : Launch) (Z : State) (a0 : Array Value) (hw : ∀ d ∈ tables_1, d.before a0 Z = true) (ws : List Jvm.Cond) (p0 : Int32) (p1 : Int32) (h0 : Heap) (n0 : Nat) :
    MetFree l (⟨"com/example/live_rbac/liverbac/ChangeCommandIncludesPinLaw", "expected", "(II)Z"⟩ : MethodName) (head1 (Jvm.Cond.code (⟨"com/example/live_rbac/liverbac/ChangeCommandIncludesPinLaw", "expected", "(II)Z"⟩ : MethodName) method_3_code 2 (some .boolean) :: ws) ({ frames := 1, cells := 0, slots := 0, locals := 12 } : Room)) (fun a U => a = #[(.int p0), (.int p1)] ∧ Z.Warmed39 U.vm ∧ U.heap = h0) (fun _ _ _ _ _ => True) (fun _ U o U' => ∃ v L, o = .returned v ∧ own_Q (some (.int (if p0 = (0 : Int32) then (1 : Int32) else (if p0 < (4 : Int32) then (if p1 = p0 then (1 : Int32) else (if p1 < (4 : Int32) then (0 : Int32) else (if (if p1 < (4 : Int32) then p1 else (if p1 < (6 : Int32) then (1 : Int32) else (if p1 = (6 : Int32) then (2 : Int32) else (3 : Int32)))) = p0 then (1 : Int32) else (0 : Int32)))) else (if p1 = p0 then (1 : Int32) else (0 : Int32)))))) h0 n0 v U'.heap L ∧ FrameEnd U o U' L ({ frames := 1, cells := 0, slots := 0, locals := 12 } : Room).cells ({ frames := 1, cells := 0, slots := 0, locals := 12 } : Room).slots) := by
  refine MetFree.of_bodySF (plainFor_of_name pn_0) hisR ?_
  intro p e s m args below meth c s₁ Bd hml0 hP hK0
  obtain ⟨rfl, hZ, hh⟩ := hP
  have hx := Bd.exec
  have hby := Bd.bytes
  have hml : c.maxLocals = 2 := hml0
  have hown : s.vm.findClass "com/example/live_rbac/liverbac/ChangeCommandIncludesPinLaw" = some m.cls := findClass_of_methodNamed Bd.named
  have hnm := (name_of_methodNamed Bd.named Bd.method).1
  have X0 : Stand p l e ({ frames := 1, cells := 0, slots := 0, locals := 12 } : Room) s m #[(.int p0), (.int p1)] below meth c s₁ [] 0 0 := Stand.of_body Bd
  have e0 : s₁.heap = h0 := by rw [← hh, Bd.state]; rfl
  have N0 := Fr.nil n0
  have pre0 : ∀ t, Steps p.tables e below (s₁.setTop (mkF m 0 #[.val (.int p0), .val (.int p1)] [])) t → Steps p.tables e below (s₁.setTop (entryFrame m #[(.int p0), (.int p1)] 2)) t := fun t k => castTop (ef_expected m p0 p1) k
  have pre2 : ∀ t, Steps p.tables e below (s₁.setTop (mkF m 1 #[.val (.int p0), .val (.int p1)] [(.int p0)])) t → Steps p.tables e below (s₁.setTop (entryFrame m #[(.int p0), (.int p1)] 2)) t := fun t k => pre0 t (by
    show Steps p.tables e below (s₁.setTop (mkF m 0 #[.val (.int p0), .val (.int p1)] [])) _
    refine XS.iloadN X0.here hx rfl (hb hby d_method_3_0) rfl ?_
    exact k)
  by_cases hc1_1 : p0 = (0 : Int32)
  · have pre3 : ∀ t, Steps p.tables e below (s₁.setTop (mkF m 5 #[.val (.int p0), .val (.int p1)] [(.int (1 : Int32))])) t → Steps p.tables e below (s₁.setTop (entryFrame m #[(.int p0), (.int p1)] 2)) t := fun t k => pre2 t (by
      show Steps p.tables e below (s₁.setTop (mkF m 1 #[.val (.int p0), .val (.int p1)] [(.int p0)])) _
      refine XS.ifNo X0.here hx rfl (hb hby d_method_3_1) rfl ((if0 _ _).trans (teq hc1_1).2) ?_
      show Steps p.tables e below (s₁.setTop (mkF m 4 #[.val (.int p0), .val (.int p1)] [])) _
      refine XS.iconst X0.here hx rfl (hb hby d_method_3_4) ?_
      exact k)
    obtain ⟨fs, hr, hrun, hended, hW, hsame⟩ := X0.leave (v := some (.int (1 : Int32))) (fun h => by rw [Bd.returns] at h; cases h)
    refine ⟨_, _, pre3 _ ?_, hrun, hended, _, _, rfl, ?_, ⟨_, rfl⟩, hW, hsame.mono (by decide) (by decide)⟩
    · show Steps p.tables e below (s₁.setTop (mkF m 5 #[.val (.int p0), .val (.int p1)] [(.int (1 : Int32))])) _
      exact retN X0 hx (t := .boolean) Bd.returns (by simp) (hb hby d_method_3_5) hr
    · exact ⟨congrArg (fun z => some (Value.int z)) (Eq.symm (if_pos hc1_1)), N0, e0⟩
  · have pre5 : ∀ t, Steps p.tables e below (s₁.setTop (mkF m 8 #[.val (.int p0), .val (.int p1)] [(.int (4 : Int32)), (.int p0)])) t → Steps p.tables e below (s₁.setTop (entryFrame m #[(.int p0), (.int p1)] 2)) t := fun t k => pre2 t (by
      show Steps p.tables e below (s₁.setTop (mkF m 1 #[.val (.int p0), .val (.int p1)] [(.int p0)])) _
      refine XS.ifYes X0.here hx rfl (pc0 := 1) (pc' := 6) rfl (hb hby d_method_3_1) rfl ((if0 _ _).trans (feq hc1_1).2) (by decide) (by decide) ?_
      show Steps p.tables e below (s₁.setTop (mkF m 6 #[.val (.int p0), .val (.int p1)] [])) _
      refine XS.iloadN X0.here hx rfl (hb hby d_method_3_6) rfl ?_
      show Steps p.tables e below (s₁.setTop (mkF m 7 #[.val (.int p0), .val (.int p1)] [(.int p0)])) _
      refine XS.iconst X0.here hx rfl (hb hby d_method_3_7) ?_
      exact k)
    by_cases hc8_4 : p0 < (4 : Int32)
    · have pre7 : ∀ t, Steps p.tables e below (s₁.setTop (mkF m 13 #[.val (.int p0), .val (.int p1)] [(.int p0), (.int p1)])) t → Steps p.tables e below (s₁.setTop (entryFrame m #[(.int p0), (.int p1)] 2)) t := fun t k => pre5 t (by
        show Steps p.tables e below (s₁.setTop (mkF m 8 #[.val (.int p0), .val (.int p1)] [(.int (4 : Int32)), (.int p0)])) _
        refine XS.icmpNo X0.here hx rfl (hb hby d_method_3_8) rfl (tlt hc8_4).2.1 ?_
        show Steps p.tables e below (s₁.setTop (mkF m 11 #[.val (.int p0), .val (.int p1)] [])) _
        refine XS.iloadN X0.here hx rfl (hb hby d_method_3_11) rfl ?_
        show Steps p.tables e below (s₁.setTop (mkF m 12 #[.val (.int p0), .val (.int p1)] [(.int p1)])) _
        refine XS.iloadN X0.here hx rfl (hb hby d_method_3_12) rfl ?_
        exact k)
      by_cases hc13_6 : p1 = p0
      · have pre8 : ∀ t, Steps p.tables e below (s₁.setTop (mkF m 34 #[.val (.int p0), .val (.int p1)] [(.int (1 : Int32))])) t → Steps p.tables e below (s₁.setTop (entryFrame m #[(.int p0), (.int p1)] 2)) t := fun t k => pre7 t (by
          show Steps p.tables e below (s₁.setTop (mkF m 13 #[.val (.int p0), .val (.int p1)] [(.int p0), (.int p1)])) _
          refine XS.icmpYes X0.here hx rfl (pc0 := 13) (pc' := 29) rfl (hb hby d_method_3_13) rfl (teq hc13_6).1 (by decide) (by decide) ?_
          show Steps p.tables e below (s₁.setTop (mkF m 29 #[.val (.int p0), .val (.int p1)] [])) _
          refine XS.iconst X0.here hx rfl (hb hby d_method_3_29) ?_
          show Steps p.tables e below (s₁.setTop (mkF m 30 #[.val (.int p0), .val (.int p1)] [(.int (1 : Int32))])) _
          refine XS.goto X0.here hx rfl (pc0 := 30) (pc' := 34) rfl (hb hby d_method_3_30) (by decide) (by decide) ?_
          exact k)
        obtain ⟨fs, hr, hrun, hended, hW, hsame⟩ := X0.leave (v := some (.int (1 : Int32))) (fun h => by rw [Bd.returns] at h; cases h)
        refine ⟨_, _, pre8 _ ?_, hrun, hended, _, _, rfl, ?_, ⟨_, rfl⟩, hW, hsame.mono (by decide) (by decide)⟩
        · show Steps p.tables e below (s₁.setTop (mkF m 34 #[.val (.int p0), .val (.int p1)] [(.int (1 : Int32))])) _
          exact retN X0 hx (t := .boolean) Bd.returns (by simp) (hb hby d_method_3_34) hr
        · exact ⟨congrArg (fun z => some (Value.int z)) (Eq.symm ((if_neg hc1_1).trans ((if_pos hc8_4).trans (if_pos hc13_6)))), N0, e0⟩
      · have pre10 : ∀ t, Steps p.tables e below (s₁.setTop (mkF m 18 #[.val (.int p0), .val (.int p1)] [(.int (4 : Int32)), (.int p1)])) t → Steps p.tables e below (s₁.setTop (entryFrame m #[(.int p0), (.int p1)] 2)) t := fun t k => pre7 t (by
          show Steps p.tables e below (s₁.setTop (mkF m 13 #[.val (.int p0), .val (.int p1)] [(.int p0), (.int p1)])) _
          refine XS.icmpNo X0.here hx rfl (hb hby d_method_3_13) rfl (feq hc13_6).1 ?_
          show Steps p.tables e below (s₁.setTop (mkF m 16 #[.val (.int p0), .val (.int p1)] [])) _
          refine XS.iloadN X0.here hx rfl (hb hby d_method_3_16) rfl ?_
          show Steps p.tables e below (s₁.setTop (mkF m 17 #[.val (.int p0), .val (.int p1)] [(.int p1)])) _
          refine XS.iconst X0.here hx rfl (hb hby d_method_3_17) ?_
          exact k)
        by_cases hc18_9 : p1 < (4 : Int32)
        · have pre11 : ∀ t, Steps p.tables e below (s₁.setTop (mkF m 34 #[.val (.int p0), .val (.int p1)] [(.int (0 : Int32))])) t → Steps p.tables e below (s₁.setTop (entryFrame m #[(.int p0), (.int p1)] 2)) t := fun t k => pre10 t (by
            show Steps p.tables e below (s₁.setTop (mkF m 18 #[.val (.int p0), .val (.int p1)] [(.int (4 : Int32)), (.int p1)])) _
            refine XS.icmpYes X0.here hx rfl (pc0 := 18) (pc' := 33) rfl (hb hby d_method_3_18) rfl (tlt hc18_9).1 (by decide) (by decide) ?_
            show Steps p.tables e below (s₁.setTop (mkF m 33 #[.val (.int p0), .val (.int p1)] [])) _
            refine XS.iconst X0.here hx rfl (hb hby d_method_3_33) ?_
            exact k)
          obtain ⟨fs, hr, hrun, hended, hW, hsame⟩ := X0.leave (v := some (.int (0 : Int32))) (fun h => by rw [Bd.returns] at h; cases h)
          refine ⟨_, _, pre11 _ ?_, hrun, hended, _, _, rfl, ?_, ⟨_, rfl⟩, hW, hsame.mono (by decide) (by decide)⟩
          · show Steps p.tables e below (s₁.setTop (mkF m 34 #[.val (.int p0), .val (.int p1)] [(.int (0 : Int32))])) _
            exact retN X0 hx (t := .boolean) Bd.returns (by simp) (hb hby d_method_3_34) hr
          · exact ⟨congrArg (fun z => some (Value.int z)) (Eq.symm ((if_neg hc1_1).trans ((if_pos hc8_4).trans ((if_neg hc13_6).trans (if_pos hc18_9))))), N0, e0⟩
        · obtain ⟨v12, _, ⟨T12, L12, k12, n12⟩, -, X12, ⟨Lc12, hQ12, l12, y12, z12⟩, st12⟩ := Jvm.LawKit.callS X0 hx (y := (⟨"com/example/live_rbac/liverbac/ChangeCommandIncludesPinLaw", "family", "(I)I"⟩ : MethodName)) hown (mvT hZ (hw _ (ow 32 rfl))) (mvT hZ (hw _ (ow 33 rfl))) (mvT hZ (hw _ (ow 30 rfl))) (mvT hZ (hw _ (ow 34 rfl))) (by decide) (backOf (W := 0) (rm_family l Z a0 hw [] p1 h0 n0) hZ (hw _ (ow 34 rfl)) (hw _ (ow 30 rfl)) (by decide) (by decide)) (g := (mkF m 22 #[.val (.int p0), .val (.int p1)] [(.int p1)])) rfl (by rw [hml]; rfl) (argsL := [(.int p1)]) (rest := []) (lenOf pd_0 rfl) rfl (Nat.le_of_eq rfl) (hb hby d_method_3_22) (fun _ _ => ⟨rfl, e0, (by decide : 0 + 0 ≤ _), (by decide : 0 + 0 ≤ _)⟩)
          dsimp only [Pt.U, Pt.locs, Pt.cells, Pt.slots] at X12 l12 y12 z12 st12 hQ12
          subst l12 y12 z12
          obtain ⟨hv12, Nq12, e12⟩ := hQ12
          obtain rfl : v12 = some (.int (if p1 < (4 : Int32) then p1 else (if p1 < (6 : Int32) then (1 : Int32) else (if p1 = (6 : Int32) then (2 : Int32) else (3 : Int32))))) := hv12
          have N12 := Fr.app N0 Nq12
          have pre14 : ∀ t, Steps p.tables e below (T12.setTop (mkF m 26 #[.val (.int p0), .val (.int p1)] [(.int p0), (.int (if p1 < (4 : Int32) then p1 else (if p1 < (6 : Int32) then (1 : Int32) else (if p1 = (6 : Int32) then (2 : Int32) else (3 : Int32)))))])) t → Steps p.tables e below (s₁.setTop (entryFrame m #[(.int p0), (.int p1)] 2)) t := fun t k => pre10 t (by
            show Steps p.tables e below (s₁.setTop (mkF m 18 #[.val (.int p0), .val (.int p1)] [(.int (4 : Int32)), (.int p1)])) _
            refine XS.icmpNo X0.here hx rfl (hb hby d_method_3_18) rfl (flt hc18_9).1 ?_
            show Steps p.tables e below (s₁.setTop (mkF m 21 #[.val (.int p0), .val (.int p1)] [])) _
            refine XS.iloadN X0.here hx rfl (hb hby d_method_3_21) rfl ?_
            show Steps p.tables e below (s₁.setTop (mkF m 22 #[.val (.int p0), .val (.int p1)] [(.int p1)])) _
            refine st12 _ ?_
            show Steps p.tables e below (T12.setTop (mkF m 25 #[.val (.int p0), .val (.int p1)] [(.int (if p1 < (4 : Int32) then p1 else (if p1 < (6 : Int32) then (1 : Int32) else (if p1 = (6 : Int32) then (2 : Int32) else (3 : Int32)))))])) _
            refine XS.iloadN X12.here hx rfl (hb hby d_method_3_25) rfl ?_
            exact k)
          by_cases hc26_13 : (if p1 < (4 : Int32) then p1 else (if p1 < (6 : Int32) then (1 : Int32) else (if p1 = (6 : Int32) then (2 : Int32) else (3 : Int32)))) = p0
          · have pre15 : ∀ t, Steps p.tables e below (T12.setTop (mkF m 34 #[.val (.int p0), .val (.int p1)] [(.int (1 : Int32))])) t → Steps p.tables e below (s₁.setTop (entryFrame m #[(.int p0), (.int p1)] 2)) t := fun t k => pre14 t (by
              show Steps p.tables e below (T12.setTop (mkF m 26 #[.val (.int p0), .val (.int p1)] [(.int p0), (.int (if p1 < (4 : Int32) then p1 else (if p1 < (6 : Int32) then (1 : Int32) else (if p1 = (6 : Int32) then (2 : Int32) else (3 : Int32)))))])) _
              refine XS.icmpNo X12.here hx rfl (hb hby d_method_3_26) rfl (teq hc26_13).2 ?_
              show Steps p.tables e below (T12.setTop (mkF m 29 #[.val (.int p0), .val (.int p1)] [])) _
              refine XS.iconst X12.here hx rfl (hb hby d_method_3_29) ?_
              show Steps p.tables e below (T12.setTop (mkF m 30 #[.val (.int p0), .val (.int p1)] [(.int (1 : Int32))])) _
              refine XS.goto X12.here hx rfl (pc0 := 30) (pc' := 34) rfl (hb hby d_method_3_30) (by decide) (by decide) ?_
              exact k)
            obtain ⟨fs, hr, hrun, hended, hW, hsame⟩ := X12.leave (v := some (.int (1 : Int32))) (fun h => by rw [Bd.returns] at h; cases h)
            refine ⟨_, _, pre15 _ ?_, hrun, hended, _, _, rfl, ?_, ⟨_, rfl⟩, hW, hsame.mono (by decide) (by decide)⟩
            · show Steps p.tables e below (T12.setTop (mkF m 34 #[.val (.int p0), .val (.int p1)] [(.int (1 : Int32))])) _
              exact retN X12 hx (t := .boolean) Bd.returns (by simp) (hb hby d_method_3_34) hr
            · exact ⟨congrArg (fun z => some (Value.int z)) (Eq.symm ((if_neg hc1_1).trans ((if_pos hc8_4).trans ((if_neg hc13_6).trans ((if_neg hc18_9).trans (if_pos hc26_13)))))), N12, e12⟩
          · have pre16 : ∀ t, Steps p.tables e below (T12.setTop (mkF m 34 #[.val (.int p0), .val (.int p1)] [(.int (0 : Int32))])) t → Steps p.tables e below (s₁.setTop (entryFrame m #[(.int p0), (.int p1)] 2)) t := fun t k => pre14 t (by
              show Steps p.tables e below (T12.setTop (mkF m 26 #[.val (.int p0), .val (.int p1)] [(.int p0), (.int (if p1 < (4 : Int32) then p1 else (if p1 < (6 : Int32) then (1 : Int32) else (if p1 = (6 : Int32) then (2 : Int32) else (3 : Int32)))))])) _
              refine XS.icmpYes X12.here hx rfl (pc0 := 26) (pc' := 33) rfl (hb hby d_method_3_26) rfl (feq hc26_13).2 (by decide) (by decide) ?_
              show Steps p.tables e below (T12.setTop (mkF m 33 #[.val (.int p0), .val (.int p1)] [])) _
              refine XS.iconst X12.here hx rfl (hb hby d_method_3_33) ?_
              exact k)
            obtain ⟨fs, hr, hrun, hended, hW, hsame⟩ := X12.leave (v := some (.int (0 : Int32))) (fun h => by rw [Bd.returns] at h; cases h)
            refine ⟨_, _, pre16 _ ?_, hrun, hended, _, _, rfl, ?_, ⟨_, rfl⟩, hW, hsame.mono (by decide) (by decide)⟩
            · show Steps p.tables e below (T12.setTop (mkF m 34 #[.val (.int p0), .val (.int p1)] [(.int (0 : Int32))])) _
              exact retN X12 hx (t := .boolean) Bd.returns (by simp) (hb hby d_method_3_34) hr
            · exact ⟨congrArg (fun z => some (Value.int z)) (Eq.symm ((if_neg hc1_1).trans ((if_pos hc8_4).trans ((if_neg hc13_6).trans ((if_neg hc18_9).trans (if_neg hc26_13)))))), N12, e12⟩
    · have pre18 : ∀ t, Steps p.tables e below (s₁.setTop (mkF m 37 #[.val (.int p0), .val (.int p1)] [(.int p0), (.int p1)])) t → Steps p.tables e below (s₁.setTop (entryFrame m #[(.int p0), (.int p1)] 2)) t := fun t k => pre5 t (by
        show Steps p.tables e below (s₁.setTop (mkF m 8 #[.val (.int p0), .val (.int p1)] [(.int (4 : Int32)), (.int p0)])) _
        refine XS.icmpYes X0.here hx rfl (pc0 := 8) (pc' := 35) rfl (hb hby d_method_3_8) rfl (flt hc8_4).2.1 (by decide) (by decide) ?_
        show Steps p.tables e below (s₁.setTop (mkF m 35 #[.val (.int p0), .val (.int p1)] [])) _
        refine XS.iloadN X0.here hx rfl (hb hby d_method_3_35) rfl ?_
        show Steps p.tables e below (s₁.setTop (mkF m 36 #[.val (.int p0), .val (.int p1)] [(.int p1)])) _
        refine XS.iloadN X0.here hx rfl (hb hby d_method_3_36) rfl ?_
        exact k)
      by_cases hc37_17 : p1 = p0
      · have pre19 : ∀ t, Steps p.tables e below (s₁.setTop (mkF m 45 #[.val (.int p0), .val (.int p1)] [(.int (1 : Int32))])) t → Steps p.tables e below (s₁.setTop (entryFrame m #[(.int p0), (.int p1)] 2)) t := fun t k => pre18 t (by
          show Steps p.tables e below (s₁.setTop (mkF m 37 #[.val (.int p0), .val (.int p1)] [(.int p0), (.int p1)])) _
          refine XS.icmpNo X0.here hx rfl (hb hby d_method_3_37) rfl (teq hc37_17).2 ?_
          show Steps p.tables e below (s₁.setTop (mkF m 40 #[.val (.int p0), .val (.int p1)] [])) _
          refine XS.iconst X0.here hx rfl (hb hby d_method_3_40) ?_
          show Steps p.tables e below (s₁.setTop (mkF m 41 #[.val (.int p0), .val (.int p1)] [(.int (1 : Int32))])) _
          refine XS.goto X0.here hx rfl (pc0 := 41) (pc' := 45) rfl (hb hby d_method_3_41) (by decide) (by decide) ?_
          exact k)
        obtain ⟨fs, hr, hrun, hended, hW, hsame⟩ := X0.leave (v := some (.int (1 : Int32))) (fun h => by rw [Bd.returns] at h; cases h)
        refine ⟨_, _, pre19 _ ?_, hrun, hended, _, _, rfl, ?_, ⟨_, rfl⟩, hW, hsame.mono (by decide) (by decide)⟩
        · show Steps p.tables e below (s₁.setTop (mkF m 45 #[.val (.int p0), .val (.int p1)] [(.int (1 : Int32))])) _
          exact retN X0 hx (t := .boolean) Bd.returns (by simp) (hb hby d_method_3_45) hr
        · exact ⟨congrArg (fun z => some (Value.int z)) (Eq.symm ((if_neg hc1_1).trans ((if_neg hc8_4).trans (if_pos hc37_17)))), N0, e0⟩
      · have pre20 : ∀ t, Steps p.tables e below (s₁.setTop (mkF m 45 #[.val (.int p0), .val (.int p1)] [(.int (0 : Int32))])) t → Steps p.tables e below (s₁.setTop (entryFrame m #[(.int p0), (.int p1)] 2)) t := fun t k => pre18 t (by
          show Steps p.tables e below (s₁.setTop (mkF m 37 #[.val (.int p0), .val (.int p1)] [(.int p0), (.int p1)])) _
          refine XS.icmpYes X0.here hx rfl (pc0 := 37) (pc' := 44) rfl (hb hby d_method_3_37) rfl (feq hc37_17).2 (by decide) (by decide) ?_
          show Steps p.tables e below (s₁.setTop (mkF m 44 #[.val (.int p0), .val (.int p1)] [])) _
          refine XS.iconst X0.here hx rfl (hb hby d_method_3_44) ?_
          exact k)
        obtain ⟨fs, hr, hrun, hended, hW, hsame⟩ := X0.leave (v := some (.int (0 : Int32))) (fun h => by rw [Bd.returns] at h; cases h)
        refine ⟨_, _, pre20 _ ?_, hrun, hended, _, _, rfl, ?_, ⟨_, rfl⟩, hW, hsame.mono (by decide) (by decide)⟩
        · show Steps p.tables e below (s₁.setTop (mkF m 45 #[.val (.int p0), .val (.int p1)] [(.int (0 : Int32))])) _
          exact retN X0 hx (t := .boolean) Bd.returns (by simp) (hb hby d_method_3_45) hr
        · exact ⟨congrArg (fun z => some (Value.int z)) (Eq.symm ((if_neg hc1_1).trans ((if_neg hc8_4).trans (if_neg hc37_17)))), N0, e0⟩
abbrev own_Inc (l : Launch) (Z : State) (n0 : Nat) (rm : Room) (h : Heap) (a b : Addr) (r : Int32) : Prop := MetFree l (⟨"com/example/live_rbac/liverbac/ChangeCommand", "includes", "(Lcom/example/live_rbac/liverbac/ChangeCommand;)Z"⟩ : MethodName) (head1 [Jvm.Cond.code (⟨"com/example/live_rbac/liverbac/ChangeCommand", "includes", "(Lcom/example/live_rbac/liverbac/ChangeCommand;)Z"⟩ : MethodName) prog_1_method_6_code 2 (some .boolean)] rm) (fun z U => z = #[.ref a, .ref b] ∧ Z.Warmed39 U.vm ∧ U.heap = h) (fun _ _ _ _ _ => True) (fun _ U o U' => ∃ v L, o = .returned v ∧ own_Q (some (.int r)) h n0 v U'.heap L ∧ FrameEnd U o U' L rm.cells rm.slots)
theorem d_prog_1_method_6_0 : decode prog_1_method_6_code 0 = .ok (.aload_n 1, 1) := by decide +kernel
theorem d_prog_1_method_6_1 : decode prog_1_method_6_code 1 = .ok (.aload_n 0, 1) := by decide +kernel
theorem d_prog_1_method_6_2 : decode prog_1_method_6_code 2 = .ok (.if_acmp .eq 21, 3) := by decide +kernel
theorem d_prog_1_method_6_23 : decode prog_1_method_6_code 23 = .ok (.iconst 1, 1) := by decide +kernel
theorem d_prog_1_method_6_24 : decode prog_1_method_6_code 24 = .ok (.goto 4, 3) := by decide +kernel
theorem d_prog_1_method_6_28 : decode prog_1_method_6_code 28 = .ok (.ireturn, 1) := by decide +kernel
theorem pn_1 : plainName "com/example/live_rbac/liverbac/ChangeCommand" = true := by first | (simp [plainName, overriddenIn]; done) | decide +kernel
theorem ef_same0 (m : MethodId) (x0 : Addr) (x1 : Addr) : entryFrame m #[(.ref x0), (.ref x1)] 2 = mkF m 0 #[.val (.ref x0), .val (.ref x1)] [] := by first | (simp [entryFrame, mkF, argsToLocals, Value.category]; done) | rfl
set_option maxRecDepth 65536 in
set_option maxHeartbeats 40000000 in
theorem rm_same0 (l : Launch) (Z : State) (a0 : Array Value) (hw : ∀ d ∈ tables_1, d.before a0 Z = true) (ws : List Jvm.Cond) (a1 : Addr) (h0 : Heap) (n0 : Nat) :
    MetFree l (⟨"com/example/live_rbac/liverbac/ChangeCommand", "includes", "(Lcom/example/live_rbac/liverbac/ChangeCommand;)Z"⟩ : MethodName) (head1 (Jvm.Cond.code (⟨"com/example/live_rbac/liverbac/ChangeCommand", "includes", "(Lcom/example/live_rbac/liverbac/ChangeCommand;)Z"⟩ : MethodName) prog_1_method_6_code 2 (some .boolean) :: ws) ({ frames := 0, cells := 0, slots := 0, locals := 0 } : Room)) (fun a U => a = #[(.ref a1), (.ref a1)] ∧ Z.Warmed39 U.vm ∧ U.heap = h0) (fun _ _ _ _ _ => True) (fun _ U o U' => ∃ v L, o = .returned v ∧ own_Q (some (.int (1 : Int32))) h0 n0 v U'.heap L ∧ FrameEnd U o U' L ({ frames := 0, cells := 0, slots := 0, locals := 0 } : Room).cells ({ frames := 0, cells := 0, slots := 0, locals := 0 } : Room).slots) := by
  refine MetFree.of_bodySF (plainFor_of_name pn_1) hisR ?_
  intro p e s m args below meth c s₁ Bd hml0 hP hK0
  obtain ⟨rfl, hZ, hh⟩ := hP
  have hx := Bd.exec
  have hby := Bd.bytes
  have hml : c.maxLocals = 2 := hml0
  have hown : s.vm.findClass "com/example/live_rbac/liverbac/ChangeCommand" = some m.cls := findClass_of_methodNamed Bd.named
  have hnm := (name_of_methodNamed Bd.named Bd.method).1
  have X0 : Stand p l e ({ frames := 0, cells := 0, slots := 0, locals := 0 } : Room) s m #[(.ref a1), (.ref a1)] below meth c s₁ [] 0 0 := Stand.of_body Bd
  have e0 : s₁.heap = h0 := by rw [← hh, Bd.state]; rfl
  have N0 := Fr.nil n0
  have pre0 : ∀ t, Steps p.tables e below (s₁.setTop (mkF m 0 #[.val (.ref a1), .val (.ref a1)] [])) t → Steps p.tables e below (s₁.setTop (entryFrame m #[(.ref a1), (.ref a1)] 2)) t := fun t k => castTop (ef_same0 m a1 a1) k
  have pre1 : ∀ t, Steps p.tables e below (s₁.setTop (mkF m 28 #[.val (.ref a1), .val (.ref a1)] [(.int (1 : Int32))])) t → Steps p.tables e below (s₁.setTop (entryFrame m #[(.ref a1), (.ref a1)] 2)) t := fun t k => pre0 t (by
    show Steps p.tables e below (s₁.setTop (mkF m 0 #[.val (.ref a1), .val (.ref a1)] [])) _
    refine XS.aloadN X0.here hx rfl (hb hby d_prog_1_method_6_0) rfl rfl ?_
    show Steps p.tables e below (s₁.setTop (mkF m 1 #[.val (.ref a1), .val (.ref a1)] [(.ref a1)])) _
    refine XS.aloadN X0.here hx rfl (hb hby d_prog_1_method_6_1) rfl rfl ?_
    show Steps p.tables e below (s₁.setTop (mkF m 2 #[.val (.ref a1), .val (.ref a1)] [(.ref a1), (.ref a1)])) _
    refine Jvm.RoadKit.acmp (g := (mkF m 2 #[.val (.ref a1), .val (.ref a1)] [(.ref a1), (.ref a1)])) X0 hx rfl rfl rfl (pc0 := 2) (pc' := 23) (same := true) rfl (hb hby d_prog_1_method_6_2) rfl (decide_eq_true rfl) (by decide) (by decide) ?_
    show Steps p.tables e below (s₁.setTop (mkF m 23 #[.val (.ref a1), .val (.ref a1)] [])) _
    refine XS.iconst X0.here hx rfl (hb hby d_prog_1_method_6_23) ?_
    show Steps p.tables e below (s₁.setTop (mkF m 24 #[.val (.ref a1), .val (.ref a1)] [(.int (1 : Int32))])) _
    refine XS.goto X0.here hx rfl (pc0 := 24) (pc' := 28) rfl (hb hby d_prog_1_method_6_24) (by decide) (by decide) ?_
    exact k)
  obtain ⟨fs, hr, hrun, hended, hW, hsame⟩ := X0.leave (v := some (.int (1 : Int32))) (fun h => by rw [Bd.returns] at h; cases h)
  refine ⟨_, _, pre1 _ ?_, hrun, hended, _, _, rfl, ?_, ⟨_, rfl⟩, hW, hsame.mono (by decide) (by decide)⟩
  · show Steps p.tables e below (s₁.setTop (mkF m 28 #[.val (.ref a1), .val (.ref a1)] [(.int (1 : Int32))])) _
    exact retN X0 hx (t := .boolean) Bd.returns (by simp) (hb hby d_prog_1_method_6_28) hr
  · exact ⟨rfl, N0, e0⟩
theorem d_prog_1_method_6_5 : decode prog_1_method_6_code 5 = .ok (.aload_n 1, 1) := by decide +kernel
theorem d_prog_1_method_6_6 : decode prog_1_method_6_code 6 = .ok (.getfield 51, 3) := by decide +kernel
theorem d_prog_1_method_6_9 : decode prog_1_method_6_code 9 = .ok (.ifnull 18, 3) := by decide +kernel
theorem d_prog_1_method_6_27 : decode prog_1_method_6_code 27 = .ok (.iconst 0, 1) := by decide +kernel
theorem ef_root0 (m : MethodId) (x0 : Addr) (x1 : Addr) : entryFrame m #[(.ref x0), (.ref x1)] 2 = mkF m 0 #[.val (.ref x0), .val (.ref x1)] [] := by first | (simp [entryFrame, mkF, argsToLocals, Value.category]; done) | rfl
set_option maxRecDepth 65536 in
set_option maxHeartbeats 40000000 in
theorem rm_root0 (l : Launch) (Z : State) (a0 : Array Value) (hw : ∀ d ∈ tables_1, d.before a0 Z = true) (ws : List Jvm.Cond) (a1 : Addr) (b1 : Addr) (h0 : Heap) (n0 : Nat) (hne : ¬ b1 = a1) (F_p : Fld Z h0 b1 "com/example/live_rbac/liverbac/ChangeCommand" "parent" "Lcom/example/live_rbac/liverbac/ChangeCommand;" .null) :
    MetFree l (⟨"com/example/live_rbac/liverbac/ChangeCommand", "includes", "(Lcom/example/live_rbac/liverbac/ChangeCommand;)Z"⟩ : MethodName) (head1 (Jvm.Cond.code (⟨"com/example/live_rbac/liverbac/ChangeCommand", "includes", "(Lcom/example/live_rbac/liverbac/ChangeCommand;)Z"⟩ : MethodName) prog_1_method_6_code 2 (some .boolean) :: ws) ({ frames := 0, cells := 0, slots := 0, locals := 0 } : Room)) (fun a U => a = #[(.ref a1), (.ref b1)] ∧ Z.Warmed39 U.vm ∧ U.heap = h0) (fun _ _ _ _ _ => True) (fun _ U o U' => ∃ v L, o = .returned v ∧ own_Q (some (.int (0 : Int32))) h0 n0 v U'.heap L ∧ FrameEnd U o U' L ({ frames := 0, cells := 0, slots := 0, locals := 0 } : Room).cells ({ frames := 0, cells := 0, slots := 0, locals := 0 } : Room).slots) := by
  refine MetFree.of_bodySF (plainFor_of_name pn_1) hisR ?_
  intro p e s m args below meth c s₁ Bd hml0 hP hK0
  obtain ⟨rfl, hZ, hh⟩ := hP
  have hx := Bd.exec
  have hby := Bd.bytes
  have hml : c.maxLocals = 2 := hml0
  have hown : s.vm.findClass "com/example/live_rbac/liverbac/ChangeCommand" = some m.cls := findClass_of_methodNamed Bd.named
  have hnm := (name_of_methodNamed Bd.named Bd.method).1
  have X0 : Stand p l e ({ frames := 0, cells := 0, slots := 0, locals := 0 } : Room) s m #[(.ref a1), (.ref b1)] below meth c s₁ [] 0 0 := Stand.of_body Bd
  have e0 : s₁.heap = h0 := by rw [← hh, Bd.state]; rfl
  have N0 := Fr.nil n0
  have pre0 : ∀ t, Steps p.tables e below (s₁.setTop (mkF m 0 #[.val (.ref a1), .val (.ref b1)] [])) t → Steps p.tables e below (s₁.setTop (entryFrame m #[(.ref a1), (.ref b1)] 2)) t := fun t k => castTop (ef_root0 m a1 b1) k
  obtain ⟨T1, X1, e1, st1⟩ := getF X0 hx hZ hown (host := "") (Or.inl (hw _ (ow 25 rfl))) Via.refl e0 F_p (g := (mkF m 6 #[.val (.ref a1), .val (.ref b1)] [(.ref b1)])) rfl rfl (hb hby d_prog_1_method_6_6)
  have pre2 : ∀ t, Steps p.tables e below (T1.setTop (mkF m 28 #[.val (.ref a1), .val (.ref b1)] [(.int (0 : Int32))])) t → Steps p.tables e below (s₁.setTop (entryFrame m #[(.ref a1), (.ref b1)] 2)) t := fun t k => pre0 t (by
    show Steps p.tables e below (s₁.setTop (mkF m 0 #[.val (.ref a1), .val (.ref b1)] [])) _
    refine XS.aloadN X0.here hx rfl (hb hby d_prog_1_method_6_0) rfl rfl ?_
    show Steps p.tables e below (s₁.setTop (mkF m 1 #[.val (.ref a1), .val (.ref b1)] [(.ref b1)])) _
    refine XS.aloadN X0.here hx rfl (hb hby d_prog_1_method_6_1) rfl rfl ?_
    show Steps p.tables e below (s₁.setTop (mkF m 2 #[.val (.ref a1), .val (.ref b1)] [(.ref a1), (.ref b1)])) _
    refine Jvm.RoadKit.acmp (g := (mkF m 2 #[.val (.ref a1), .val (.ref b1)] [(.ref a1), (.ref b1)])) X0 hx rfl rfl rfl (pc0 := 2) (pc' := 5) (same := false) rfl (hb hby d_prog_1_method_6_2) rfl (decide_eq_false fun q => hne (Value.ref.inj q)) (by decide) (by decide) ?_
    show Steps p.tables e below (s₁.setTop (mkF m 5 #[.val (.ref a1), .val (.ref b1)] [])) _
    refine XS.aloadN X0.here hx rfl (hb hby d_prog_1_method_6_5) rfl rfl ?_
    show Steps p.tables e below (s₁.setTop (mkF m 6 #[.val (.ref a1), .val (.ref b1)] [(.ref b1)])) _
    refine st1 _ ?_
    show Steps p.tables e below (T1.setTop (mkF m 9 #[.val (.ref a1), .val (.ref b1)] [.null])) _
    refine XS.ifnullYes X1.here hx rfl (pc0 := 9) (pc' := 27) rfl (hb hby d_prog_1_method_6_9) rfl (by decide) (by decide) ?_
    show Steps p.tables e below (T1.setTop (mkF m 27 #[.val (.ref a1), .val (.ref b1)] [])) _
    refine XS.iconst X1.here hx rfl (hb hby d_prog_1_method_6_27) ?_
    exact k)
  obtain ⟨fs, hr, hrun, hended, hW, hsame⟩ := X1.leave (v := some (.int (0 : Int32))) (fun h => by rw [Bd.returns] at h; cases h)
  refine ⟨_, _, pre2 _ ?_, hrun, hended, _, _, rfl, ?_, ⟨_, rfl⟩, hW, hsame.mono (by decide) (by decide)⟩
  · show Steps p.tables e below (T1.setTop (mkF m 28 #[.val (.ref a1), .val (.ref b1)] [(.int (0 : Int32))])) _
    exact retN X1 hx (t := .boolean) Bd.returns (by simp) (hb hby d_prog_1_method_6_28) hr
  · exact ⟨rfl, N0, e1⟩
theorem ef_same1 (m : MethodId) (x0 : Addr) (x1 : Addr) : entryFrame m #[(.ref x0), (.ref x1)] 2 = mkF m 0 #[.val (.ref x0), .val (.ref x1)] [] := by first | (simp [entryFrame, mkF, argsToLocals, Value.category]; done) | rfl
set_option maxRecDepth 65536 in
set_option maxHeartbeats 40000000 in
theorem rm_same1 (l : Launch) (Z : State) (a0 : Array Value) (hw : ∀ d ∈ tables_1, d.before a0 Z = true) (ws : List Jvm.Cond) (a1 : Addr) (h0 : Heap) (n0 : Nat) :
    MetFree l (⟨"com/example/live_rbac/liverbac/ChangeCommand", "includes", "(Lcom/example/live_rbac/liverbac/ChangeCommand;)Z"⟩ : MethodName) (head1 (Jvm.Cond.code (⟨"com/example/live_rbac/liverbac/ChangeCommand", "includes", "(Lcom/example/live_rbac/liverbac/ChangeCommand;)Z"⟩ : MethodName) prog_1_method_6_code 2 (some .boolean) :: ws) ({ frames := 1, cells := 0, slots := 0, locals := 13 } : Room)) (fun a U => a = #[(.ref a1), (.ref a1)] ∧ Z.Warmed39 U.vm ∧ U.heap = h0) (fun _ _ _ _ _ => True) (fun _ U o U' => ∃ v L, o = .returned v ∧ own_Q (some (.int (1 : Int32))) h0 n0 v U'.heap L ∧ FrameEnd U o U' L ({ frames := 1, cells := 0, slots := 0, locals := 13 } : Room).cells ({ frames := 1, cells := 0, slots := 0, locals := 13 } : Room).slots) := by
  refine MetFree.of_bodySF (plainFor_of_name pn_1) hisR ?_
  intro p e s m args below meth c s₁ Bd hml0 hP hK0
  obtain ⟨rfl, hZ, hh⟩ := hP
  have hx := Bd.exec
  have hby := Bd.bytes
  have hml : c.maxLocals = 2 := hml0
  have hown : s.vm.findClass "com/example/live_rbac/liverbac/ChangeCommand" = some m.cls := findClass_of_methodNamed Bd.named
  have hnm := (name_of_methodNamed Bd.named Bd.method).1
  have X0 : Stand p l e ({ frames := 1, cells := 0, slots := 0, locals := 13 } : Room) s m #[(.ref a1), (.ref a1)] below meth c s₁ [] 0 0 := Stand.of_body Bd
  have e0 : s₁.heap = h0 := by rw [← hh, Bd.state]; rfl
  have N0 := Fr.nil n0
  have pre0 : ∀ t, Steps p.tables e below (s₁.setTop (mkF m 0 #[.val (.ref a1), .val (.ref a1)] [])) t → Steps p.tables e below (s₁.setTop (entryFrame m #[(.ref a1), (.ref a1)] 2)) t := fun t k => castTop (ef_same1 m a1 a1) k
  have pre1 : ∀ t, Steps p.tables e below (s₁.setTop (mkF m 28 #[.val (.ref a1), .val (.ref a1)] [(.int (1 : Int32))])) t → Steps p.tables e below (s₁.setTop (entryFrame m #[(.ref a1), (.ref a1)] 2)) t := fun t k => pre0 t (by
    show Steps p.tables e below (s₁.setTop (mkF m 0 #[.val (.ref a1), .val (.ref a1)] [])) _
    refine XS.aloadN X0.here hx rfl (hb hby d_prog_1_method_6_0) rfl rfl ?_
    show Steps p.tables e below (s₁.setTop (mkF m 1 #[.val (.ref a1), .val (.ref a1)] [(.ref a1)])) _
    refine XS.aloadN X0.here hx rfl (hb hby d_prog_1_method_6_1) rfl rfl ?_
    show Steps p.tables e below (s₁.setTop (mkF m 2 #[.val (.ref a1), .val (.ref a1)] [(.ref a1), (.ref a1)])) _
    refine Jvm.RoadKit.acmp (g := (mkF m 2 #[.val (.ref a1), .val (.ref a1)] [(.ref a1), (.ref a1)])) X0 hx rfl rfl rfl (pc0 := 2) (pc' := 23) (same := true) rfl (hb hby d_prog_1_method_6_2) rfl (decide_eq_true rfl) (by decide) (by decide) ?_
    show Steps p.tables e below (s₁.setTop (mkF m 23 #[.val (.ref a1), .val (.ref a1)] [])) _
    refine XS.iconst X0.here hx rfl (hb hby d_prog_1_method_6_23) ?_
    show Steps p.tables e below (s₁.setTop (mkF m 24 #[.val (.ref a1), .val (.ref a1)] [(.int (1 : Int32))])) _
    refine XS.goto X0.here hx rfl (pc0 := 24) (pc' := 28) rfl (hb hby d_prog_1_method_6_24) (by decide) (by decide) ?_
    exact k)
  obtain ⟨fs, hr, hrun, hended, hW, hsame⟩ := X0.leave (v := some (.int (1 : Int32))) (fun h => by rw [Bd.returns] at h; cases h)
  refine ⟨_, _, pre1 _ ?_, hrun, hended, _, _, rfl, ?_, ⟨_, rfl⟩, hW, hsame.mono (by decide) (by decide)⟩
  · show Steps p.tables e below (s₁.setTop (mkF m 28 #[.val (.ref a1), .val (.ref a1)] [(.int (1 : Int32))])) _
    exact retN X0 hx (t := .boolean) Bd.returns (by simp) (hb hby d_prog_1_method_6_28) hr
  · exact ⟨rfl, N0, e0⟩
theorem ef_root1 (m : MethodId) (x0 : Addr) (x1 : Addr) : entryFrame m #[(.ref x0), (.ref x1)] 2 = mkF m 0 #[.val (.ref x0), .val (.ref x1)] [] := by first | (simp [entryFrame, mkF, argsToLocals, Value.category]; done) | rfl
set_option maxRecDepth 65536 in
set_option maxHeartbeats 40000000 in
theorem rm_root1 (l : Launch) (Z : State) (a0 : Array Value) (hw : ∀ d ∈ tables_1, d.before a0 Z = true) (ws : List Jvm.Cond) (a1 : Addr) (b1 : Addr) (h0 : Heap) (n0 : Nat) (hne : ¬ b1 = a1) (F_p : Fld Z h0 b1 "com/example/live_rbac/liverbac/ChangeCommand" "parent" "Lcom/example/live_rbac/liverbac/ChangeCommand;" .null) :
    MetFree l (⟨"com/example/live_rbac/liverbac/ChangeCommand", "includes", "(Lcom/example/live_rbac/liverbac/ChangeCommand;)Z"⟩ : MethodName) (head1 (Jvm.Cond.code (⟨"com/example/live_rbac/liverbac/ChangeCommand", "includes", "(Lcom/example/live_rbac/liverbac/ChangeCommand;)Z"⟩ : MethodName) prog_1_method_6_code 2 (some .boolean) :: ws) ({ frames := 1, cells := 0, slots := 0, locals := 13 } : Room)) (fun a U => a = #[(.ref a1), (.ref b1)] ∧ Z.Warmed39 U.vm ∧ U.heap = h0) (fun _ _ _ _ _ => True) (fun _ U o U' => ∃ v L, o = .returned v ∧ own_Q (some (.int (0 : Int32))) h0 n0 v U'.heap L ∧ FrameEnd U o U' L ({ frames := 1, cells := 0, slots := 0, locals := 13 } : Room).cells ({ frames := 1, cells := 0, slots := 0, locals := 13 } : Room).slots) := by
  refine MetFree.of_bodySF (plainFor_of_name pn_1) hisR ?_
  intro p e s m args below meth c s₁ Bd hml0 hP hK0
  obtain ⟨rfl, hZ, hh⟩ := hP
  have hx := Bd.exec
  have hby := Bd.bytes
  have hml : c.maxLocals = 2 := hml0
  have hown : s.vm.findClass "com/example/live_rbac/liverbac/ChangeCommand" = some m.cls := findClass_of_methodNamed Bd.named
  have hnm := (name_of_methodNamed Bd.named Bd.method).1
  have X0 : Stand p l e ({ frames := 1, cells := 0, slots := 0, locals := 13 } : Room) s m #[(.ref a1), (.ref b1)] below meth c s₁ [] 0 0 := Stand.of_body Bd
  have e0 : s₁.heap = h0 := by rw [← hh, Bd.state]; rfl
  have N0 := Fr.nil n0
  have pre0 : ∀ t, Steps p.tables e below (s₁.setTop (mkF m 0 #[.val (.ref a1), .val (.ref b1)] [])) t → Steps p.tables e below (s₁.setTop (entryFrame m #[(.ref a1), (.ref b1)] 2)) t := fun t k => castTop (ef_root1 m a1 b1) k
  obtain ⟨T1, X1, e1, st1⟩ := getF X0 hx hZ hown (host := "") (Or.inl (hw _ (ow 25 rfl))) Via.refl e0 F_p (g := (mkF m 6 #[.val (.ref a1), .val (.ref b1)] [(.ref b1)])) rfl rfl (hb hby d_prog_1_method_6_6)
  have pre2 : ∀ t, Steps p.tables e below (T1.setTop (mkF m 28 #[.val (.ref a1), .val (.ref b1)] [(.int (0 : Int32))])) t → Steps p.tables e below (s₁.setTop (entryFrame m #[(.ref a1), (.ref b1)] 2)) t := fun t k => pre0 t (by
    show Steps p.tables e below (s₁.setTop (mkF m 0 #[.val (.ref a1), .val (.ref b1)] [])) _
    refine XS.aloadN X0.here hx rfl (hb hby d_prog_1_method_6_0) rfl rfl ?_
    show Steps p.tables e below (s₁.setTop (mkF m 1 #[.val (.ref a1), .val (.ref b1)] [(.ref b1)])) _
    refine XS.aloadN X0.here hx rfl (hb hby d_prog_1_method_6_1) rfl rfl ?_
    show Steps p.tables e below (s₁.setTop (mkF m 2 #[.val (.ref a1), .val (.ref b1)] [(.ref a1), (.ref b1)])) _
    refine Jvm.RoadKit.acmp (g := (mkF m 2 #[.val (.ref a1), .val (.ref b1)] [(.ref a1), (.ref b1)])) X0 hx rfl rfl rfl (pc0 := 2) (pc' := 5) (same := false) rfl (hb hby d_prog_1_method_6_2) rfl (decide_eq_false fun q => hne (Value.ref.inj q)) (by decide) (by decide) ?_
    show Steps p.tables e below (s₁.setTop (mkF m 5 #[.val (.ref a1), .val (.ref b1)] [])) _
    refine XS.aloadN X0.here hx rfl (hb hby d_prog_1_method_6_5) rfl rfl ?_
    show Steps p.tables e below (s₁.setTop (mkF m 6 #[.val (.ref a1), .val (.ref b1)] [(.ref b1)])) _
    refine st1 _ ?_
    show Steps p.tables e below (T1.setTop (mkF m 9 #[.val (.ref a1), .val (.ref b1)] [.null])) _
    refine XS.ifnullYes X1.here hx rfl (pc0 := 9) (pc' := 27) rfl (hb hby d_prog_1_method_6_9) rfl (by decide) (by decide) ?_
    show Steps p.tables e below (T1.setTop (mkF m 27 #[.val (.ref a1), .val (.ref b1)] [])) _
    refine XS.iconst X1.here hx rfl (hb hby d_prog_1_method_6_27) ?_
    exact k)
  obtain ⟨fs, hr, hrun, hended, hW, hsame⟩ := X1.leave (v := some (.int (0 : Int32))) (fun h => by rw [Bd.returns] at h; cases h)
  refine ⟨_, _, pre2 _ ?_, hrun, hended, _, _, rfl, ?_, ⟨_, rfl⟩, hW, hsame.mono (by decide) (by decide)⟩
  · show Steps p.tables e below (T1.setTop (mkF m 28 #[.val (.ref a1), .val (.ref b1)] [(.int (0 : Int32))])) _
    exact retN X1 hx (t := .boolean) Bd.returns (by simp) (hb hby d_prog_1_method_6_28) hr
  · exact ⟨rfl, N0, e1⟩
theorem d_prog_1_method_6_12 : decode prog_1_method_6_code 12 = .ok (.aload_n 0, 1) := by decide +kernel
theorem d_prog_1_method_6_13 : decode prog_1_method_6_code 13 = .ok (.aload_n 1, 1) := by decide +kernel
theorem d_prog_1_method_6_14 : decode prog_1_method_6_code 14 = .ok (.getfield 51, 3) := by decide +kernel
theorem d_prog_1_method_6_17 : decode prog_1_method_6_code 17 = .ok (.invokevirtual 71, 3) := by decide +kernel
theorem pd_1 : parseMethodDescriptor "(Lcom/example/live_rbac/liverbac/ChangeCommand;)Z" = some ⟨[(.object "com/example/live_rbac/liverbac/ChangeCommand")], some .boolean⟩ := by decide +kernel
theorem d_prog_1_method_6_20 : decode prog_1_method_6_code 20 = .ok (.ifCond .eq 7, 3) := by decide +kernel
theorem ef_step1_0 (m : MethodId) (x0 : Addr) (x1 : Addr) : entryFrame m #[(.ref x0), (.ref x1)] 2 = mkF m 0 #[.val (.ref x0), .val (.ref x1)] [] := by first | (simp [entryFrame, mkF, argsToLocals, Value.category]; done) | rfl
set_option maxRecDepth 65536 in
set_option maxHeartbeats 40000000 in
theorem rm_step1_0 (l : Launch) (Z : State) (a0 : Array Value) (hw : ∀ d ∈ tables_1, d.before a0 Z = true) (ws : List Jvm.Cond) (a1 : Addr) (b1 : Addr) (h0 : Heap) (n0 : Nat) (c1 : Addr) (hne : ¬ b1 = a1) (F_p : Fld Z h0 b1 "com/example/live_rbac/liverbac/ChangeCommand" "parent" "Lcom/example/live_rbac/liverbac/ChangeCommand;" (.ref c1)) (E_a1 : Exa Z h0 a1 "com/example/live_rbac/liverbac/ChangeCommand") (hcall : own_Inc l Z n0 ({ frames := 0, cells := 0, slots := 0, locals := 0 } : Room) h0 a1 c1 (0 : Int32)) :
    MetFree l (⟨"com/example/live_rbac/liverbac/ChangeCommand", "includes", "(Lcom/example/live_rbac/liverbac/ChangeCommand;)Z"⟩ : MethodName) (head1 (Jvm.Cond.code (⟨"com/example/live_rbac/liverbac/ChangeCommand", "includes", "(Lcom/example/live_rbac/liverbac/ChangeCommand;)Z"⟩ : MethodName) prog_1_method_6_code 2 (some .boolean) :: ws) ({ frames := 1, cells := 0, slots := 0, locals := 13 } : Room)) (fun a U => a = #[(.ref a1), (.ref b1)] ∧ Z.Warmed39 U.vm ∧ U.heap = h0) (fun _ _ _ _ _ => True) (fun _ U o U' => ∃ v L, o = .returned v ∧ own_Q (some (.int (0 : Int32))) h0 n0 v U'.heap L ∧ FrameEnd U o U' L ({ frames := 1, cells := 0, slots := 0, locals := 13 } : Room).cells ({ frames := 1, cells := 0, slots := 0, locals := 13 } : Room).slots) := by
  refine MetFree.of_bodySF (plainFor_of_name pn_1) hisR ?_
  intro p e s m args below meth c s₁ Bd hml0 hP hK0
  obtain ⟨rfl, hZ, hh⟩ := hP
  have hx := Bd.exec
  have hby := Bd.bytes
  have hml : c.maxLocals = 2 := hml0
  have hown : s.vm.findClass "com/example/live_rbac/liverbac/ChangeCommand" = some m.cls := findClass_of_methodNamed Bd.named
  have hnm := (name_of_methodNamed Bd.named Bd.method).1
  have X0 : Stand p l e ({ frames := 1, cells := 0, slots := 0, locals := 13 } : Room) s m #[(.ref a1), (.ref b1)] below meth c s₁ [] 0 0 := Stand.of_body Bd
  have e0 : s₁.heap = h0 := by rw [← hh, Bd.state]; rfl
  have N0 := Fr.nil n0
  have pre0 : ∀ t, Steps p.tables e below (s₁.setTop (mkF m 0 #[.val (.ref a1), .val (.ref b1)] [])) t → Steps p.tables e below (s₁.setTop (entryFrame m #[(.ref a1), (.ref b1)] 2)) t := fun t k => castTop (ef_step1_0 m a1 b1) k
  obtain ⟨T1, X1, e1, st1⟩ := getF X0 hx hZ hown (host := "") (Or.inl (hw _ (ow 25 rfl))) Via.refl e0 F_p (g := (mkF m 6 #[.val (.ref a1), .val (.ref b1)] [(.ref b1)])) rfl rfl (hb hby d_prog_1_method_6_6)
  obtain ⟨T2, X2, e2, st2⟩ := getF X1 hx hZ hown (host := "") (Or.inl (hw _ (ow 25 rfl))) Via.refl e1 F_p (g := (mkF m 14 #[.val (.ref a1), .val (.ref b1)] [(.ref b1), (.ref a1)])) rfl rfl (hb hby d_prog_1_method_6_14)
  obtain ⟨cq3, kq3, q3a, q3b, q3c⟩ := isOf hZ e2 E_a1
  obtain ⟨v3, _, ⟨T3, L3, k3, n3⟩, -, X3, ⟨Lc3, hQ3, l3, y3, z3⟩, st3⟩ := X2.virtualBack hx (y := (⟨"com/example/live_rbac/liverbac/ChangeCommand", "includes", "(Lcom/example/live_rbac/liverbac/ChangeCommand;)Z"⟩ : MethodName)) (z := (⟨"com/example/live_rbac/liverbac/ChangeCommand", "includes", "(Lcom/example/live_rbac/liverbac/ChangeCommand;)Z"⟩ : MethodName)) hown (mvT hZ (hw _ (ow 27 rfl))) (mvT hZ (hw _ (ow 21 rfl))) (notFace_of_selects (args := #[]) (mvT hZ (hw _ (ow 23 rfl)))) (mvT hZ (hw _ (ow 23 rfl))) (mvT hZ (hw _ (ow 22 rfl))) (by decide) (backOf (W := 0) hcall hZ (hw _ (ow 24 rfl)) (hw _ (ow 3 rfl)) (by decide) (by decide)) q3a q3c (g := (mkF m 17 #[.val (.ref a1), .val (.ref b1)] [(.ref c1), (.ref a1)])) rfl (by rw [hml]; rfl) (Steps.refl _) (argsL := [(.ref c1)]) (rest := []) (lenOf pd_1 rfl) rfl (Nat.le_of_eq rfl) (hb hby d_prog_1_method_6_17) (fun _ _ => ⟨rfl, e2, (by decide : 0 + 0 ≤ _), (by decide : 0 + 0 ≤ _)⟩)
  dsimp only [Pt.U, Pt.locs, Pt.cells, Pt.slots] at X3 l3 y3 z3 st3 hQ3
  subst l3 y3 z3
  obtain ⟨hv3, Nq3, e3⟩ := hQ3
  obtain rfl : v3 = some (.int (0 : Int32)) := hv3
  have N3 := Fr.app N0 Nq3
  have pre4 : ∀ t, Steps p.tables e below (T3.setTop (mkF m 28 #[.val (.ref a1), .val (.ref b1)] [(.int (0 : Int32))])) t → Steps p.tables e below (s₁.setTop (entryFrame m #[(.ref a1), (.ref b1)] 2)) t := fun t k => pre0 t (by
    show Steps p.tables e below (s₁.setTop (mkF m 0 #[.val (.ref a1), .val (.ref b1)] [])) _
    refine XS.aloadN X0.here hx rfl (hb hby d_prog_1_method_6_0) rfl rfl ?_
    show Steps p.tables e below (s₁.setTop (mkF m 1 #[.val (.ref a1), .val (.ref b1)] [(.ref b1)])) _
    refine XS.aloadN X0.here hx rfl (hb hby d_prog_1_method_6_1) rfl rfl ?_
    show Steps p.tables e below (s₁.setTop (mkF m 2 #[.val (.ref a1), .val (.ref b1)] [(.ref a1), (.ref b1)])) _
    refine Jvm.RoadKit.acmp (g := (mkF m 2 #[.val (.ref a1), .val (.ref b1)] [(.ref a1), (.ref b1)])) X0 hx rfl rfl rfl (pc0 := 2) (pc' := 5) (same := false) rfl (hb hby d_prog_1_method_6_2) rfl (decide_eq_false fun q => hne (Value.ref.inj q)) (by decide) (by decide) ?_
    show Steps p.tables e below (s₁.setTop (mkF m 5 #[.val (.ref a1), .val (.ref b1)] [])) _
    refine XS.aloadN X0.here hx rfl (hb hby d_prog_1_method_6_5) rfl rfl ?_
    show Steps p.tables e below (s₁.setTop (mkF m 6 #[.val (.ref a1), .val (.ref b1)] [(.ref b1)])) _
    refine st1 _ ?_
    show Steps p.tables e below (T1.setTop (mkF m 9 #[.val (.ref a1), .val (.ref b1)] [(.ref c1)])) _
    refine XS.ifnullNo X1.here hx rfl (hb hby d_prog_1_method_6_9) rfl ?_
    show Steps p.tables e below (T1.setTop (mkF m 12 #[.val (.ref a1), .val (.ref b1)] [])) _
    refine XS.aloadN X1.here hx rfl (hb hby d_prog_1_method_6_12) rfl rfl ?_
    show Steps p.tables e below (T1.setTop (mkF m 13 #[.val (.ref a1), .val (.ref b1)] [(.ref a1)])) _
    refine XS.aloadN X1.here hx rfl (hb hby d_prog_1_method_6_13) rfl rfl ?_
    show Steps p.tables e below (T1.setTop (mkF m 14 #[.val (.ref a1), .val (.ref b1)] [(.ref b1), (.ref a1)])) _
    refine st2 _ ?_
    show Steps p.tables e below (T2.setTop (mkF m 17 #[.val (.ref a1), .val (.ref b1)] [(.ref c1), (.ref a1)])) _
    refine st3.trans ?_
    show Steps p.tables e below (T3.setTop (mkF m 20 #[.val (.ref a1), .val (.ref b1)] [(.int (0 : Int32))])) _
    refine XS.ifYes X3.here hx rfl (pc0 := 20) (pc' := 27) rfl (hb hby d_prog_1_method_6_20) rfl ((if0 _ _).trans (teq (by decide)).1) (by decide) (by decide) ?_
    show Steps p.tables e below (T3.setTop (mkF m 27 #[.val (.ref a1), .val (.ref b1)] [])) _
    refine XS.iconst X3.here hx rfl (hb hby d_prog_1_method_6_27) ?_
    exact k)
  obtain ⟨fs, hr, hrun, hended, hW, hsame⟩ := X3.leave (v := some (.int (0 : Int32))) (fun h => by rw [Bd.returns] at h; cases h)
  refine ⟨_, _, pre4 _ ?_, hrun, hended, _, _, rfl, ?_, ⟨_, rfl⟩, hW, hsame.mono (by decide) (by decide)⟩
  · show Steps p.tables e below (T3.setTop (mkF m 28 #[.val (.ref a1), .val (.ref b1)] [(.int (0 : Int32))])) _
    exact retN X3 hx (t := .boolean) Bd.returns (by simp) (hb hby d_prog_1_method_6_28) hr
  · exact ⟨rfl, N3, e3⟩
theorem ef_step1_1 (m : MethodId) (x0 : Addr) (x1 : Addr) : entryFrame m #[(.ref x0), (.ref x1)] 2 = mkF m 0 #[.val (.ref x0), .val (.ref x1)] [] := by first | (simp [entryFrame, mkF, argsToLocals, Value.category]; done) | rfl
set_option maxRecDepth 65536 in
set_option maxHeartbeats 40000000 in
theorem rm_step1_1 (l : Launch) (Z : State) (a0 : Array Value) (hw : ∀ d ∈ tables_1, d.before a0 Z = true) (ws : List Jvm.Cond) (a1 : Addr) (b1 : Addr) (h0 : Heap) (n0 : Nat) (c1 : Addr) (hne : ¬ b1 = a1) (F_p : Fld Z h0 b1 "com/example/live_rbac/liverbac/ChangeCommand" "parent" "Lcom/example/live_rbac/liverbac/ChangeCommand;" (.ref c1)) (E_a1 : Exa Z h0 a1 "com/example/live_rbac/liverbac/ChangeCommand") (hcall : own_Inc l Z n0 ({ frames := 0, cells := 0, slots := 0, locals := 0 } : Room) h0 a1 c1 (1 : Int32)) :
    MetFree l (⟨"com/example/live_rbac/liverbac/ChangeCommand", "includes", "(Lcom/example/live_rbac/liverbac/ChangeCommand;)Z"⟩ : MethodName) (head1 (Jvm.Cond.code (⟨"com/example/live_rbac/liverbac/ChangeCommand", "includes", "(Lcom/example/live_rbac/liverbac/ChangeCommand;)Z"⟩ : MethodName) prog_1_method_6_code 2 (some .boolean) :: ws) ({ frames := 1, cells := 0, slots := 0, locals := 13 } : Room)) (fun a U => a = #[(.ref a1), (.ref b1)] ∧ Z.Warmed39 U.vm ∧ U.heap = h0) (fun _ _ _ _ _ => True) (fun _ U o U' => ∃ v L, o = .returned v ∧ own_Q (some (.int (1 : Int32))) h0 n0 v U'.heap L ∧ FrameEnd U o U' L ({ frames := 1, cells := 0, slots := 0, locals := 13 } : Room).cells ({ frames := 1, cells := 0, slots := 0, locals := 13 } : Room).slots) := by
  refine MetFree.of_bodySF (plainFor_of_name pn_1) hisR ?_
  intro p e s m args below meth c s₁ Bd hml0 hP hK0
  obtain ⟨rfl, hZ, hh⟩ := hP
  have hx := Bd.exec
  have hby := Bd.bytes
  have hml : c.maxLocals = 2 := hml0
  have hown : s.vm.findClass "com/example/live_rbac/liverbac/ChangeCommand" = some m.cls := findClass_of_methodNamed Bd.named
  have hnm := (name_of_methodNamed Bd.named Bd.method).1
  have X0 : Stand p l e ({ frames := 1, cells := 0, slots := 0, locals := 13 } : Room) s m #[(.ref a1), (.ref b1)] below meth c s₁ [] 0 0 := Stand.of_body Bd
  have e0 : s₁.heap = h0 := by rw [← hh, Bd.state]; rfl
  have N0 := Fr.nil n0
  have pre0 : ∀ t, Steps p.tables e below (s₁.setTop (mkF m 0 #[.val (.ref a1), .val (.ref b1)] [])) t → Steps p.tables e below (s₁.setTop (entryFrame m #[(.ref a1), (.ref b1)] 2)) t := fun t k => castTop (ef_step1_1 m a1 b1) k
  obtain ⟨T1, X1, e1, st1⟩ := getF X0 hx hZ hown (host := "") (Or.inl (hw _ (ow 25 rfl))) Via.refl e0 F_p (g := (mkF m 6 #[.val (.ref a1), .val (.ref b1)] [(.ref b1)])) rfl rfl (hb hby d_prog_1_method_6_6)
  obtain ⟨T2, X2, e2, st2⟩ := getF X1 hx hZ hown (host := "") (Or.inl (hw _ (ow 25 rfl))) Via.refl e1 F_p (g := (mkF m 14 #[.val (.ref a1), .val (.ref b1)] [(.ref b1), (.ref a1)])) rfl rfl (hb hby d_prog_1_method_6_14)
  obtain ⟨cq3, kq3, q3a, q3b, q3c⟩ := isOf hZ e2 E_a1
  obtain ⟨v3, _, ⟨T3, L3, k3, n3⟩, -, X3, ⟨Lc3, hQ3, l3, y3, z3⟩, st3⟩ := X2.virtualBack hx (y := (⟨"com/example/live_rbac/liverbac/ChangeCommand", "includes", "(Lcom/example/live_rbac/liverbac/ChangeCommand;)Z"⟩ : MethodName)) (z := (⟨"com/example/live_rbac/liverbac/ChangeCommand", "includes", "(Lcom/example/live_rbac/liverbac/ChangeCommand;)Z"⟩ : MethodName)) hown (mvT hZ (hw _ (ow 27 rfl))) (mvT hZ (hw _ (ow 21 rfl))) (notFace_of_selects (args := #[]) (mvT hZ (hw _ (ow 23 rfl)))) (mvT hZ (hw _ (ow 23 rfl))) (mvT hZ (hw _ (ow 22 rfl))) (by decide) (backOf (W := 0) hcall hZ (hw _ (ow 24 rfl)) (hw _ (ow 3 rfl)) (by decide) (by decide)) q3a q3c (g := (mkF m 17 #[.val (.ref a1), .val (.ref b1)] [(.ref c1), (.ref a1)])) rfl (by rw [hml]; rfl) (Steps.refl _) (argsL := [(.ref c1)]) (rest := []) (lenOf pd_1 rfl) rfl (Nat.le_of_eq rfl) (hb hby d_prog_1_method_6_17) (fun _ _ => ⟨rfl, e2, (by decide : 0 + 0 ≤ _), (by decide : 0 + 0 ≤ _)⟩)
  dsimp only [Pt.U, Pt.locs, Pt.cells, Pt.slots] at X3 l3 y3 z3 st3 hQ3
  subst l3 y3 z3
  obtain ⟨hv3, Nq3, e3⟩ := hQ3
  obtain rfl : v3 = some (.int (1 : Int32)) := hv3
  have N3 := Fr.app N0 Nq3
  have pre4 : ∀ t, Steps p.tables e below (T3.setTop (mkF m 28 #[.val (.ref a1), .val (.ref b1)] [(.int (1 : Int32))])) t → Steps p.tables e below (s₁.setTop (entryFrame m #[(.ref a1), (.ref b1)] 2)) t := fun t k => pre0 t (by
    show Steps p.tables e below (s₁.setTop (mkF m 0 #[.val (.ref a1), .val (.ref b1)] [])) _
    refine XS.aloadN X0.here hx rfl (hb hby d_prog_1_method_6_0) rfl rfl ?_
    show Steps p.tables e below (s₁.setTop (mkF m 1 #[.val (.ref a1), .val (.ref b1)] [(.ref b1)])) _
    refine XS.aloadN X0.here hx rfl (hb hby d_prog_1_method_6_1) rfl rfl ?_
    show Steps p.tables e below (s₁.setTop (mkF m 2 #[.val (.ref a1), .val (.ref b1)] [(.ref a1), (.ref b1)])) _
    refine Jvm.RoadKit.acmp (g := (mkF m 2 #[.val (.ref a1), .val (.ref b1)] [(.ref a1), (.ref b1)])) X0 hx rfl rfl rfl (pc0 := 2) (pc' := 5) (same := false) rfl (hb hby d_prog_1_method_6_2) rfl (decide_eq_false fun q => hne (Value.ref.inj q)) (by decide) (by decide) ?_
    show Steps p.tables e below (s₁.setTop (mkF m 5 #[.val (.ref a1), .val (.ref b1)] [])) _
    refine XS.aloadN X0.here hx rfl (hb hby d_prog_1_method_6_5) rfl rfl ?_
    show Steps p.tables e below (s₁.setTop (mkF m 6 #[.val (.ref a1), .val (.ref b1)] [(.ref b1)])) _
    refine st1 _ ?_
    show Steps p.tables e below (T1.setTop (mkF m 9 #[.val (.ref a1), .val (.ref b1)] [(.ref c1)])) _
    refine XS.ifnullNo X1.here hx rfl (hb hby d_prog_1_method_6_9) rfl ?_
    show Steps p.tables e below (T1.setTop (mkF m 12 #[.val (.ref a1), .val (.ref b1)] [])) _
    refine XS.aloadN X1.here hx rfl (hb hby d_prog_1_method_6_12) rfl rfl ?_
    show Steps p.tables e below (T1.setTop (mkF m 13 #[.val (.ref a1), .val (.ref b1)] [(.ref a1)])) _
    refine XS.aloadN X1.here hx rfl (hb hby d_prog_1_method_6_13) rfl rfl ?_
    show Steps p.tables e below (T1.setTop (mkF m 14 #[.val (.ref a1), .val (.ref b1)] [(.ref b1), (.ref a1)])) _
    refine st2 _ ?_
    show Steps p.tables e below (T2.setTop (mkF m 17 #[.val (.ref a1), .val (.ref b1)] [(.ref c1), (.ref a1)])) _
    refine st3.trans ?_
    show Steps p.tables e below (T3.setTop (mkF m 20 #[.val (.ref a1), .val (.ref b1)] [(.int (1 : Int32))])) _
    refine XS.ifNo X3.here hx rfl (hb hby d_prog_1_method_6_20) rfl ((if0 _ _).trans (feq (by decide)).1) ?_
    show Steps p.tables e below (T3.setTop (mkF m 23 #[.val (.ref a1), .val (.ref b1)] [])) _
    refine XS.iconst X3.here hx rfl (hb hby d_prog_1_method_6_23) ?_
    show Steps p.tables e below (T3.setTop (mkF m 24 #[.val (.ref a1), .val (.ref b1)] [(.int (1 : Int32))])) _
    refine XS.goto X3.here hx rfl (pc0 := 24) (pc' := 28) rfl (hb hby d_prog_1_method_6_24) (by decide) (by decide) ?_
    exact k)
  obtain ⟨fs, hr, hrun, hended, hW, hsame⟩ := X3.leave (v := some (.int (1 : Int32))) (fun h => by rw [Bd.returns] at h; cases h)
  refine ⟨_, _, pre4 _ ?_, hrun, hended, _, _, rfl, ?_, ⟨_, rfl⟩, hW, hsame.mono (by decide) (by decide)⟩
  · show Steps p.tables e below (T3.setTop (mkF m 28 #[.val (.ref a1), .val (.ref b1)] [(.int (1 : Int32))])) _
    exact retN X3 hx (t := .boolean) Bd.returns (by simp) (hb hby d_prog_1_method_6_28) hr
  · exact ⟨rfl, N3, e3⟩
theorem ef_same2 (m : MethodId) (x0 : Addr) (x1 : Addr) : entryFrame m #[(.ref x0), (.ref x1)] 2 = mkF m 0 #[.val (.ref x0), .val (.ref x1)] [] := by first | (simp [entryFrame, mkF, argsToLocals, Value.category]; done) | rfl
set_option maxRecDepth 65536 in
set_option maxHeartbeats 40000000 in
theorem rm_same2 (l : Launch) (Z : State) (a0 : Array Value) (hw : ∀ d ∈ tables_1, d.before a0 Z = true) (ws : List Jvm.Cond) (a1 : Addr) (h0 : Heap) (n0 : Nat) :
    MetFree l (⟨"com/example/live_rbac/liverbac/ChangeCommand", "includes", "(Lcom/example/live_rbac/liverbac/ChangeCommand;)Z"⟩ : MethodName) (head1 (Jvm.Cond.code (⟨"com/example/live_rbac/liverbac/ChangeCommand", "includes", "(Lcom/example/live_rbac/liverbac/ChangeCommand;)Z"⟩ : MethodName) prog_1_method_6_code 2 (some .boolean) :: ws) ({ frames := 2, cells := 0, slots := 0, locals := 26 } : Room)) (fun a U => a = #[(.ref a1), (.ref a1)] ∧ Z.Warmed39 U.vm ∧ U.heap = h0) (fun _ _ _ _ _ => True) (fun _ U o U' => ∃ v L, o = .returned v ∧ own_Q (some (.int (1 : Int32))) h0 n0 v U'.heap L ∧ FrameEnd U o U' L ({ frames := 2, cells := 0, slots := 0, locals := 26 } : Room).cells ({ frames := 2, cells := 0, slots := 0, locals := 26 } : Room).slots) := by
  refine MetFree.of_bodySF (plainFor_of_name pn_1) hisR ?_
  intro p e s m args below meth c s₁ Bd hml0 hP hK0
  obtain ⟨rfl, hZ, hh⟩ := hP
  have hx := Bd.exec
  have hby := Bd.bytes
  have hml : c.maxLocals = 2 := hml0
  have hown : s.vm.findClass "com/example/live_rbac/liverbac/ChangeCommand" = some m.cls := findClass_of_methodNamed Bd.named
  have hnm := (name_of_methodNamed Bd.named Bd.method).1
  have X0 : Stand p l e ({ frames := 2, cells := 0, slots := 0, locals := 26 } : Room) s m #[(.ref a1), (.ref a1)] below meth c s₁ [] 0 0 := Stand.of_body Bd
  have e0 : s₁.heap = h0 := by rw [← hh, Bd.state]; rfl
  have N0 := Fr.nil n0
  have pre0 : ∀ t, Steps p.tables e below (s₁.setTop (mkF m 0 #[.val (.ref a1), .val (.ref a1)] [])) t → Steps p.tables e below (s₁.setTop (entryFrame m #[(.ref a1), (.ref a1)] 2)) t := fun t k => castTop (ef_same2 m a1 a1) k
  have pre1 : ∀ t, Steps p.tables e below (s₁.setTop (mkF m 28 #[.val (.ref a1), .val (.ref a1)] [(.int (1 : Int32))])) t → Steps p.tables e below (s₁.setTop (entryFrame m #[(.ref a1), (.ref a1)] 2)) t := fun t k => pre0 t (by
    show Steps p.tables e below (s₁.setTop (mkF m 0 #[.val (.ref a1), .val (.ref a1)] [])) _
    refine XS.aloadN X0.here hx rfl (hb hby d_prog_1_method_6_0) rfl rfl ?_
    show Steps p.tables e below (s₁.setTop (mkF m 1 #[.val (.ref a1), .val (.ref a1)] [(.ref a1)])) _
    refine XS.aloadN X0.here hx rfl (hb hby d_prog_1_method_6_1) rfl rfl ?_
    show Steps p.tables e below (s₁.setTop (mkF m 2 #[.val (.ref a1), .val (.ref a1)] [(.ref a1), (.ref a1)])) _
    refine Jvm.RoadKit.acmp (g := (mkF m 2 #[.val (.ref a1), .val (.ref a1)] [(.ref a1), (.ref a1)])) X0 hx rfl rfl rfl (pc0 := 2) (pc' := 23) (same := true) rfl (hb hby d_prog_1_method_6_2) rfl (decide_eq_true rfl) (by decide) (by decide) ?_
    show Steps p.tables e below (s₁.setTop (mkF m 23 #[.val (.ref a1), .val (.ref a1)] [])) _
    refine XS.iconst X0.here hx rfl (hb hby d_prog_1_method_6_23) ?_
    show Steps p.tables e below (s₁.setTop (mkF m 24 #[.val (.ref a1), .val (.ref a1)] [(.int (1 : Int32))])) _
    refine XS.goto X0.here hx rfl (pc0 := 24) (pc' := 28) rfl (hb hby d_prog_1_method_6_24) (by decide) (by decide) ?_
    exact k)
  obtain ⟨fs, hr, hrun, hended, hW, hsame⟩ := X0.leave (v := some (.int (1 : Int32))) (fun h => by rw [Bd.returns] at h; cases h)
  refine ⟨_, _, pre1 _ ?_, hrun, hended, _, _, rfl, ?_, ⟨_, rfl⟩, hW, hsame.mono (by decide) (by decide)⟩
  · show Steps p.tables e below (s₁.setTop (mkF m 28 #[.val (.ref a1), .val (.ref a1)] [(.int (1 : Int32))])) _
    exact retN X0 hx (t := .boolean) Bd.returns (by simp) (hb hby d_prog_1_method_6_28) hr
  · exact ⟨rfl, N0, e0⟩
theorem ef_root2 (m : MethodId) (x0 : Addr) (x1 : Addr) : entryFrame m #[(.ref x0), (.ref x1)] 2 = mkF m 0 #[.val (.ref x0), .val (.ref x1)] [] := by first | (simp [entryFrame, mkF, argsToLocals, Value.category]; done) | rfl
set_option maxRecDepth 65536 in
set_option maxHeartbeats 40000000 in
theorem rm_root2 (l : Launch) (Z : State) (a0 : Array Value) (hw : ∀ d ∈ tables_1, d.before a0 Z = true) (ws : List Jvm.Cond) (a1 : Addr) (b1 : Addr) (h0 : Heap) (n0 : Nat) (hne : ¬ b1 = a1) (F_p : Fld Z h0 b1 "com/example/live_rbac/liverbac/ChangeCommand" "parent" "Lcom/example/live_rbac/liverbac/ChangeCommand;" .null) :
    MetFree l (⟨"com/example/live_rbac/liverbac/ChangeCommand", "includes", "(Lcom/example/live_rbac/liverbac/ChangeCommand;)Z"⟩ : MethodName) (head1 (Jvm.Cond.code (⟨"com/example/live_rbac/liverbac/ChangeCommand", "includes", "(Lcom/example/live_rbac/liverbac/ChangeCommand;)Z"⟩ : MethodName) prog_1_method_6_code 2 (some .boolean) :: ws) ({ frames := 2, cells := 0, slots := 0, locals := 26 } : Room)) (fun a U => a = #[(.ref a1), (.ref b1)] ∧ Z.Warmed39 U.vm ∧ U.heap = h0) (fun _ _ _ _ _ => True) (fun _ U o U' => ∃ v L, o = .returned v ∧ own_Q (some (.int (0 : Int32))) h0 n0 v U'.heap L ∧ FrameEnd U o U' L ({ frames := 2, cells := 0, slots := 0, locals := 26 } : Room).cells ({ frames := 2, cells := 0, slots := 0, locals := 26 } : Room).slots) := by
  refine MetFree.of_bodySF (plainFor_of_name pn_1) hisR ?_
  intro p e s m args below meth c s₁ Bd hml0 hP hK0
  obtain ⟨rfl, hZ, hh⟩ := hP
  have hx := Bd.exec
  have hby := Bd.bytes
  have hml : c.maxLocals = 2 := hml0
  have hown : s.vm.findClass "com/example/live_rbac/liverbac/ChangeCommand" = some m.cls := findClass_of_methodNamed Bd.named
  have hnm := (name_of_methodNamed Bd.named Bd.method).1
  have X0 : Stand p l e ({ frames := 2, cells := 0, slots := 0, locals := 26 } : Room) s m #[(.ref a1), (.ref b1)] below meth c s₁ [] 0 0 := Stand.of_body Bd
  have e0 : s₁.heap = h0 := by rw [← hh, Bd.state]; rfl
  have N0 := Fr.nil n0
  have pre0 : ∀ t, Steps p.tables e below (s₁.setTop (mkF m 0 #[.val (.ref a1), .val (.ref b1)] [])) t → Steps p.tables e below (s₁.setTop (entryFrame m #[(.ref a1), (.ref b1)] 2)) t := fun t k => castTop (ef_root2 m a1 b1) k
  obtain ⟨T1, X1, e1, st1⟩ := getF X0 hx hZ hown (host := "") (Or.inl (hw _ (ow 25 rfl))) Via.refl e0 F_p (g := (mkF m 6 #[.val (.ref a1), .val (.ref b1)] [(.ref b1)])) rfl rfl (hb hby d_prog_1_method_6_6)
  have pre2 : ∀ t, Steps p.tables e below (T1.setTop (mkF m 28 #[.val (.ref a1), .val (.ref b1)] [(.int (0 : Int32))])) t → Steps p.tables e below (s₁.setTop (entryFrame m #[(.ref a1), (.ref b1)] 2)) t := fun t k => pre0 t (by
    show Steps p.tables e below (s₁.setTop (mkF m 0 #[.val (.ref a1), .val (.ref b1)] [])) _
    refine XS.aloadN X0.here hx rfl (hb hby d_prog_1_method_6_0) rfl rfl ?_
    show Steps p.tables e below (s₁.setTop (mkF m 1 #[.val (.ref a1), .val (.ref b1)] [(.ref b1)])) _
    refine XS.aloadN X0.here hx rfl (hb hby d_prog_1_method_6_1) rfl rfl ?_
    show Steps p.tables e below (s₁.setTop (mkF m 2 #[.val (.ref a1), .val (.ref b1)] [(.ref a1), (.ref b1)])) _
    refine Jvm.RoadKit.acmp (g := (mkF m 2 #[.val (.ref a1), .val (.ref b1)] [(.ref a1), (.ref b1)])) X0 hx rfl rfl rfl (pc0 := 2) (pc' := 5) (same := false) rfl (hb hby d_prog_1_method_6_2) rfl (decide_eq_false fun q => hne (Value.ref.inj q)) (by decide) (by decide) ?_
    show Steps p.tables e below (s₁.setTop (mkF m 5 #[.val (.ref a1), .val (.ref b1)] [])) _
    refine XS.aloadN X0.here hx rfl (hb hby d_prog_1_method_6_5) rfl rfl ?_
    show Steps p.tables e below (s₁.setTop (mkF m 6 #[.val (.ref a1), .val (.ref b1)] [(.ref b1)])) _
    refine st1 _ ?_
    show Steps p.tables e below (T1.setTop (mkF m 9 #[.val (.ref a1), .val (.ref b1)] [.null])) _
    refine XS.ifnullYes X1.here hx rfl (pc0 := 9) (pc' := 27) rfl (hb hby d_prog_1_method_6_9) rfl (by decide) (by decide) ?_
    show Steps p.tables e below (T1.setTop (mkF m 27 #[.val (.ref a1), .val (.ref b1)] [])) _
    refine XS.iconst X1.here hx rfl (hb hby d_prog_1_method_6_27) ?_
    exact k)
  obtain ⟨fs, hr, hrun, hended, hW, hsame⟩ := X1.leave (v := some (.int (0 : Int32))) (fun h => by rw [Bd.returns] at h; cases h)
  refine ⟨_, _, pre2 _ ?_, hrun, hended, _, _, rfl, ?_, ⟨_, rfl⟩, hW, hsame.mono (by decide) (by decide)⟩
  · show Steps p.tables e below (T1.setTop (mkF m 28 #[.val (.ref a1), .val (.ref b1)] [(.int (0 : Int32))])) _
    exact retN X1 hx (t := .boolean) Bd.returns (by simp) (hb hby d_prog_1_method_6_28) hr
  · exact ⟨rfl, N0, e1⟩
theorem ef_step2_0 (m : MethodId) (x0 : Addr) (x1 : Addr) : entryFrame m #[(.ref x0), (.ref x1)] 2 = mkF m 0 #[.val (.ref x0), .val (.ref x1)] [] := by first | (simp [entryFrame, mkF, argsToLocals, Value.category]; done) | rfl
set_option maxRecDepth 65536 in
set_option maxHeartbeats 40000000 in
theorem rm_step2_0 (l : Launch) (Z : State) (a0 : Array Value) (hw : ∀ d ∈ tables_1, d.before a0 Z = true) (ws : List Jvm.Cond) (a1 : Addr) (b1 : Addr) (h0 : Heap) (n0 : Nat) (c1 : Addr) (hne : ¬ b1 = a1) (F_p : Fld Z h0 b1 "com/example/live_rbac/liverbac/ChangeCommand" "parent" "Lcom/example/live_rbac/liverbac/ChangeCommand;" (.ref c1)) (E_a1 : Exa Z h0 a1 "com/example/live_rbac/liverbac/ChangeCommand") (hcall : own_Inc l Z n0 ({ frames := 1, cells := 0, slots := 0, locals := 13 } : Room) h0 a1 c1 (0 : Int32)) :
    MetFree l (⟨"com/example/live_rbac/liverbac/ChangeCommand", "includes", "(Lcom/example/live_rbac/liverbac/ChangeCommand;)Z"⟩ : MethodName) (head1 (Jvm.Cond.code (⟨"com/example/live_rbac/liverbac/ChangeCommand", "includes", "(Lcom/example/live_rbac/liverbac/ChangeCommand;)Z"⟩ : MethodName) prog_1_method_6_code 2 (some .boolean) :: ws) ({ frames := 2, cells := 0, slots := 0, locals := 26 } : Room)) (fun a U => a = #[(.ref a1), (.ref b1)] ∧ Z.Warmed39 U.vm ∧ U.heap = h0) (fun _ _ _ _ _ => True) (fun _ U o U' => ∃ v L, o = .returned v ∧ own_Q (some (.int (0 : Int32))) h0 n0 v U'.heap L ∧ FrameEnd U o U' L ({ frames := 2, cells := 0, slots := 0, locals := 26 } : Room).cells ({ frames := 2, cells := 0, slots := 0, locals := 26 } : Room).slots) := by
  refine MetFree.of_bodySF (plainFor_of_name pn_1) hisR ?_
  intro p e s m args below meth c s₁ Bd hml0 hP hK0
  obtain ⟨rfl, hZ, hh⟩ := hP
  have hx := Bd.exec
  have hby := Bd.bytes
  have hml : c.maxLocals = 2 := hml0
  have hown : s.vm.findClass "com/example/live_rbac/liverbac/ChangeCommand" = some m.cls := findClass_of_methodNamed Bd.named
  have hnm := (name_of_methodNamed Bd.named Bd.method).1
  have X0 : Stand p l e ({ frames := 2, cells := 0, slots := 0, locals := 26 } : Room) s m #[(.ref a1), (.ref b1)] below meth c s₁ [] 0 0 := Stand.of_body Bd
  have e0 : s₁.heap = h0 := by rw [← hh, Bd.state]; rfl
  have N0 := Fr.nil n0
  have pre0 : ∀ t, Steps p.tables e below (s₁.setTop (mkF m 0 #[.val (.ref a1), .val (.ref b1)] [])) t → Steps p.tables e below (s₁.setTop (entryFrame m #[(.ref a1), (.ref b1)] 2)) t := fun t k => castTop (ef_step2_0 m a1 b1) k
  obtain ⟨T1, X1, e1, st1⟩ := getF X0 hx hZ hown (host := "") (Or.inl (hw _ (ow 25 rfl))) Via.refl e0 F_p (g := (mkF m 6 #[.val (.ref a1), .val (.ref b1)] [(.ref b1)])) rfl rfl (hb hby d_prog_1_method_6_6)
  obtain ⟨T2, X2, e2, st2⟩ := getF X1 hx hZ hown (host := "") (Or.inl (hw _ (ow 25 rfl))) Via.refl e1 F_p (g := (mkF m 14 #[.val (.ref a1), .val (.ref b1)] [(.ref b1), (.ref a1)])) rfl rfl (hb hby d_prog_1_method_6_14)
  obtain ⟨cq3, kq3, q3a, q3b, q3c⟩ := isOf hZ e2 E_a1
  obtain ⟨v3, _, ⟨T3, L3, k3, n3⟩, -, X3, ⟨Lc3, hQ3, l3, y3, z3⟩, st3⟩ := X2.virtualBack hx (y := (⟨"com/example/live_rbac/liverbac/ChangeCommand", "includes", "(Lcom/example/live_rbac/liverbac/ChangeCommand;)Z"⟩ : MethodName)) (z := (⟨"com/example/live_rbac/liverbac/ChangeCommand", "includes", "(Lcom/example/live_rbac/liverbac/ChangeCommand;)Z"⟩ : MethodName)) hown (mvT hZ (hw _ (ow 27 rfl))) (mvT hZ (hw _ (ow 21 rfl))) (notFace_of_selects (args := #[]) (mvT hZ (hw _ (ow 23 rfl)))) (mvT hZ (hw _ (ow 23 rfl))) (mvT hZ (hw _ (ow 22 rfl))) (by decide) (backOf (W := 0) hcall hZ (hw _ (ow 24 rfl)) (hw _ (ow 3 rfl)) (by decide) (by decide)) q3a q3c (g := (mkF m 17 #[.val (.ref a1), .val (.ref b1)] [(.ref c1), (.ref a1)])) rfl (by rw [hml]; rfl) (Steps.refl _) (argsL := [(.ref c1)]) (rest := []) (lenOf pd_1 rfl) rfl (Nat.le_of_eq rfl) (hb hby d_prog_1_method_6_17) (fun _ _ => ⟨rfl, e2, (by decide : 0 + 0 ≤ _), (by decide : 0 + 0 ≤ _)⟩)
  dsimp only [Pt.U, Pt.locs, Pt.cells, Pt.slots] at X3 l3 y3 z3 st3 hQ3
  subst l3 y3 z3
  obtain ⟨hv3, Nq3, e3⟩ := hQ3
  obtain rfl : v3 = some (.int (0 : Int32)) := hv3
  have N3 := Fr.app N0 Nq3
  have pre4 : ∀ t, Steps p.tables e below (T3.setTop (mkF m 28 #[.val (.ref a1), .val (.ref b1)] [(.int (0 : Int32))])) t → Steps p.tables e below (s₁.setTop (entryFrame m #[(.ref a1), (.ref b1)] 2)) t := fun t k => pre0 t (by
    show Steps p.tables e below (s₁.setTop (mkF m 0 #[.val (.ref a1), .val (.ref b1)] [])) _
    refine XS.aloadN X0.here hx rfl (hb hby d_prog_1_method_6_0) rfl rfl ?_
    show Steps p.tables e below (s₁.setTop (mkF m 1 #[.val (.ref a1), .val (.ref b1)] [(.ref b1)])) _
    refine XS.aloadN X0.here hx rfl (hb hby d_prog_1_method_6_1) rfl rfl ?_
    show Steps p.tables e below (s₁.setTop (mkF m 2 #[.val (.ref a1), .val (.ref b1)] [(.ref a1), (.ref b1)])) _
    refine Jvm.RoadKit.acmp (g := (mkF m 2 #[.val (.ref a1), .val (.ref b1)] [(.ref a1), (.ref b1)])) X0 hx rfl rfl rfl (pc0 := 2) (pc' := 5) (same := false) rfl (hb hby d_prog_1_method_6_2) rfl (decide_eq_false fun q => hne (Value.ref.inj q)) (by decide) (by decide) ?_
    show Steps p.tables e below (s₁.setTop (mkF m 5 #[.val (.ref a1), .val (.ref b1)] [])) _
    refine XS.aloadN X0.here hx rfl (hb hby d_prog_1_method_6_5) rfl rfl ?_
    show Steps p.tables e below (s₁.setTop (mkF m 6 #[.val (.ref a1), .val (.ref b1)] [(.ref b1)])) _
    refine st1 _ ?_
    show Steps p.tables e below (T1.setTop (mkF m 9 #[.val (.ref a1), .val (.ref b1)] [(.ref c1)])) _
    refine XS.ifnullNo X1.here hx rfl (hb hby d_prog_1_method_6_9) rfl ?_
    show Steps p.tables e below (T1.setTop (mkF m 12 #[.val (.ref a1), .val (.ref b1)] [])) _
    refine XS.aloadN X1.here hx rfl (hb hby d_prog_1_method_6_12) rfl rfl ?_
    show Steps p.tables e below (T1.setTop (mkF m 13 #[.val (.ref a1), .val (.ref b1)] [(.ref a1)])) _
    refine XS.aloadN X1.here hx rfl (hb hby d_prog_1_method_6_13) rfl rfl ?_
    show Steps p.tables e below (T1.setTop (mkF m 14 #[.val (.ref a1), .val (.ref b1)] [(.ref b1), (.ref a1)])) _
    refine st2 _ ?_
    show Steps p.tables e below (T2.setTop (mkF m 17 #[.val (.ref a1), .val (.ref b1)] [(.ref c1), (.ref a1)])) _
    refine st3.trans ?_
    show Steps p.tables e below (T3.setTop (mkF m 20 #[.val (.ref a1), .val (.ref b1)] [(.int (0 : Int32))])) _
    refine XS.ifYes X3.here hx rfl (pc0 := 20) (pc' := 27) rfl (hb hby d_prog_1_method_6_20) rfl ((if0 _ _).trans (teq (by decide)).1) (by decide) (by decide) ?_
    show Steps p.tables e below (T3.setTop (mkF m 27 #[.val (.ref a1), .val (.ref b1)] [])) _
    refine XS.iconst X3.here hx rfl (hb hby d_prog_1_method_6_27) ?_
    exact k)
  obtain ⟨fs, hr, hrun, hended, hW, hsame⟩ := X3.leave (v := some (.int (0 : Int32))) (fun h => by rw [Bd.returns] at h; cases h)
  refine ⟨_, _, pre4 _ ?_, hrun, hended, _, _, rfl, ?_, ⟨_, rfl⟩, hW, hsame.mono (by decide) (by decide)⟩
  · show Steps p.tables e below (T3.setTop (mkF m 28 #[.val (.ref a1), .val (.ref b1)] [(.int (0 : Int32))])) _
    exact retN X3 hx (t := .boolean) Bd.returns (by simp) (hb hby d_prog_1_method_6_28) hr
  · exact ⟨rfl, N3, e3⟩
theorem ef_step2_1 (m : MethodId) (x0 : Addr) (x1 : Addr) : entryFrame m #[(.ref x0), (.ref x1)] 2 = mkF m 0 #[.val (.ref x0), .val (.ref x1)] [] := by first | (simp [entryFrame, mkF, argsToLocals, Value.category]; done) | rfl
set_option maxRecDepth 65536 in
set_option maxHeartbeats 40000000 in
theorem rm_step2_1 (l : Launch) (Z : State) (a0 : Array Value) (hw : ∀ d ∈ tables_1, d.before a0 Z = true) (ws : List Jvm.Cond) (a1 : Addr) (b1 : Addr) (h0 : Heap) (n0 : Nat) (c1 : Addr) (hne : ¬ b1 = a1) (F_p : Fld Z h0 b1 "com/example/live_rbac/liverbac/ChangeCommand" "parent" "Lcom/example/live_rbac/liverbac/ChangeCommand;" (.ref c1)) (E_a1 : Exa Z h0 a1 "com/example/live_rbac/liverbac/ChangeCommand") (hcall : own_Inc l Z n0 ({ frames := 1, cells := 0, slots := 0, locals := 13 } : Room) h0 a1 c1 (1 : Int32)) :
    MetFree l (⟨"com/example/live_rbac/liverbac/ChangeCommand", "includes", "(Lcom/example/live_rbac/liverbac/ChangeCommand;)Z"⟩ : MethodName) (head1 (Jvm.Cond.code (⟨"com/example/live_rbac/liverbac/ChangeCommand", "includes", "(Lcom/example/live_rbac/liverbac/ChangeCommand;)Z"⟩ : MethodName) prog_1_method_6_code 2 (some .boolean) :: ws) ({ frames := 2, cells := 0, slots := 0, locals := 26 } : Room)) (fun a U => a = #[(.ref a1), (.ref b1)] ∧ Z.Warmed39 U.vm ∧ U.heap = h0) (fun _ _ _ _ _ => True) (fun _ U o U' => ∃ v L, o = .returned v ∧ own_Q (some (.int (1 : Int32))) h0 n0 v U'.heap L ∧ FrameEnd U o U' L ({ frames := 2, cells := 0, slots := 0, locals := 26 } : Room).cells ({ frames := 2, cells := 0, slots := 0, locals := 26 } : Room).slots) := by
  refine MetFree.of_bodySF (plainFor_of_name pn_1) hisR ?_
  intro p e s m args below meth c s₁ Bd hml0 hP hK0
  obtain ⟨rfl, hZ, hh⟩ := hP
  have hx := Bd.exec
  have hby := Bd.bytes
  have hml : c.maxLocals = 2 := hml0
  have hown : s.vm.findClass "com/example/live_rbac/liverbac/ChangeCommand" = some m.cls := findClass_of_methodNamed Bd.named
  have hnm := (name_of_methodNamed Bd.named Bd.method).1
  have X0 : Stand p l e ({ frames := 2, cells := 0, slots := 0, locals := 26 } : Room) s m #[(.ref a1), (.ref b1)] below meth c s₁ [] 0 0 := Stand.of_body Bd
  have e0 : s₁.heap = h0 := by rw [← hh, Bd.state]; rfl
  have N0 := Fr.nil n0
  have pre0 : ∀ t, Steps p.tables e below (s₁.setTop (mkF m 0 #[.val (.ref a1), .val (.ref b1)] [])) t → Steps p.tables e below (s₁.setTop (entryFrame m #[(.ref a1), (.ref b1)] 2)) t := fun t k => castTop (ef_step2_1 m a1 b1) k
  obtain ⟨T1, X1, e1, st1⟩ := getF X0 hx hZ hown (host := "") (Or.inl (hw _ (ow 25 rfl))) Via.refl e0 F_p (g := (mkF m 6 #[.val (.ref a1), .val (.ref b1)] [(.ref b1)])) rfl rfl (hb hby d_prog_1_method_6_6)
  obtain ⟨T2, X2, e2, st2⟩ := getF X1 hx hZ hown (host := "") (Or.inl (hw _ (ow 25 rfl))) Via.refl e1 F_p (g := (mkF m 14 #[.val (.ref a1), .val (.ref b1)] [(.ref b1), (.ref a1)])) rfl rfl (hb hby d_prog_1_method_6_14)
  obtain ⟨cq3, kq3, q3a, q3b, q3c⟩ := isOf hZ e2 E_a1
  obtain ⟨v3, _, ⟨T3, L3, k3, n3⟩, -, X3, ⟨Lc3, hQ3, l3, y3, z3⟩, st3⟩ := X2.virtualBack hx (y := (⟨"com/example/live_rbac/liverbac/ChangeCommand", "includes", "(Lcom/example/live_rbac/liverbac/ChangeCommand;)Z"⟩ : MethodName)) (z := (⟨"com/example/live_rbac/liverbac/ChangeCommand", "includes", "(Lcom/example/live_rbac/liverbac/ChangeCommand;)Z"⟩ : MethodName)) hown (mvT hZ (hw _ (ow 27 rfl))) (mvT hZ (hw _ (ow 21 rfl))) (notFace_of_selects (args := #[]) (mvT hZ (hw _ (ow 23 rfl)))) (mvT hZ (hw _ (ow 23 rfl))) (mvT hZ (hw _ (ow 22 rfl))) (by decide) (backOf (W := 0) hcall hZ (hw _ (ow 24 rfl)) (hw _ (ow 3 rfl)) (by decide) (by decide)) q3a q3c (g := (mkF m 17 #[.val (.ref a1), .val (.ref b1)] [(.ref c1), (.ref a1)])) rfl (by rw [hml]; rfl) (Steps.refl _) (argsL := [(.ref c1)]) (rest := []) (lenOf pd_1 rfl) rfl (Nat.le_of_eq rfl) (hb hby d_prog_1_method_6_17) (fun _ _ => ⟨rfl, e2, (by decide : 0 + 0 ≤ _), (by decide : 0 + 0 ≤ _)⟩)
  dsimp only [Pt.U, Pt.locs, Pt.cells, Pt.slots] at X3 l3 y3 z3 st3 hQ3
  subst l3 y3 z3
  obtain ⟨hv3, Nq3, e3⟩ := hQ3
  obtain rfl : v3 = some (.int (1 : Int32)) := hv3
  have N3 := Fr.app N0 Nq3
  have pre4 : ∀ t, Steps p.tables e below (T3.setTop (mkF m 28 #[.val (.ref a1), .val (.ref b1)] [(.int (1 : Int32))])) t → Steps p.tables e below (s₁.setTop (entryFrame m #[(.ref a1), (.ref b1)] 2)) t := fun t k => pre0 t (by
    show Steps p.tables e below (s₁.setTop (mkF m 0 #[.val (.ref a1), .val (.ref b1)] [])) _
    refine XS.aloadN X0.here hx rfl (hb hby d_prog_1_method_6_0) rfl rfl ?_
    show Steps p.tables e below (s₁.setTop (mkF m 1 #[.val (.ref a1), .val (.ref b1)] [(.ref b1)])) _
    refine XS.aloadN X0.here hx rfl (hb hby d_prog_1_method_6_1) rfl rfl ?_
    show Steps p.tables e below (s₁.setTop (mkF m 2 #[.val (.ref a1), .val (.ref b1)] [(.ref a1), (.ref b1)])) _
    refine Jvm.RoadKit.acmp (g := (mkF m 2 #[.val (.ref a1), .val (.ref b1)] [(.ref a1), (.ref b1)])) X0 hx rfl rfl rfl (pc0 := 2) (pc' := 5) (same := false) rfl (hb hby d_prog_1_method_6_2) rfl (decide_eq_false fun q => hne (Value.ref.inj q)) (by decide) (by decide) ?_
    show Steps p.tables e below (s₁.setTop (mkF m 5 #[.val (.ref a1), .val (.ref b1)] [])) _
    refine XS.aloadN X0.here hx rfl (hb hby d_prog_1_method_6_5) rfl rfl ?_
    show Steps p.tables e below (s₁.setTop (mkF m 6 #[.val (.ref a1), .val (.ref b1)] [(.ref b1)])) _
    refine st1 _ ?_
    show Steps p.tables e below (T1.setTop (mkF m 9 #[.val (.ref a1), .val (.ref b1)] [(.ref c1)])) _
    refine XS.ifnullNo X1.here hx rfl (hb hby d_prog_1_method_6_9) rfl ?_
    show Steps p.tables e below (T1.setTop (mkF m 12 #[.val (.ref a1), .val (.ref b1)] [])) _
    refine XS.aloadN X1.here hx rfl (hb hby d_prog_1_method_6_12) rfl rfl ?_
    show Steps p.tables e below (T1.setTop (mkF m 13 #[.val (.ref a1), .val (.ref b1)] [(.ref a1)])) _
    refine XS.aloadN X1.here hx rfl (hb hby d_prog_1_method_6_13) rfl rfl ?_
    show Steps p.tables e below (T1.setTop (mkF m 14 #[.val (.ref a1), .val (.ref b1)] [(.ref b1), (.ref a1)])) _
    refine st2 _ ?_
    show Steps p.tables e below (T2.setTop (mkF m 17 #[.val (.ref a1), .val (.ref b1)] [(.ref c1), (.ref a1)])) _
    refine st3.trans ?_
    show Steps p.tables e below (T3.setTop (mkF m 20 #[.val (.ref a1), .val (.ref b1)] [(.int (1 : Int32))])) _
    refine XS.ifNo X3.here hx rfl (hb hby d_prog_1_method_6_20) rfl ((if0 _ _).trans (feq (by decide)).1) ?_
    show Steps p.tables e below (T3.setTop (mkF m 23 #[.val (.ref a1), .val (.ref b1)] [])) _
    refine XS.iconst X3.here hx rfl (hb hby d_prog_1_method_6_23) ?_
    show Steps p.tables e below (T3.setTop (mkF m 24 #[.val (.ref a1), .val (.ref b1)] [(.int (1 : Int32))])) _
    refine XS.goto X3.here hx rfl (pc0 := 24) (pc' := 28) rfl (hb hby d_prog_1_method_6_24) (by decide) (by decide) ?_
    exact k)
  obtain ⟨fs, hr, hrun, hended, hW, hsame⟩ := X3.leave (v := some (.int (1 : Int32))) (fun h => by rw [Bd.returns] at h; cases h)
  refine ⟨_, _, pre4 _ ?_, hrun, hended, _, _, rfl, ?_, ⟨_, rfl⟩, hW, hsame.mono (by decide) (by decide)⟩
  · show Steps p.tables e below (T3.setTop (mkF m 28 #[.val (.ref a1), .val (.ref b1)] [(.int (1 : Int32))])) _
    exact retN X3 hx (t := .boolean) Bd.returns (by simp) (hb hby d_prog_1_method_6_28) hr
  · exact ⟨rfl, N3, e3⟩
theorem pd_2 : parseMethodDescriptor "(II)Z" = some ⟨[.int, .int], some .boolean⟩ := by decide +kernel
theorem ef_lawS (m : MethodId) (x0 : Int32) (x1 : Int32) : entryFrame m #[(.int x0), (.int x1)] maxLocals = mkF m 0 #[.val (.int x0), .val (.int x1), .unset, .unset, .unset, .unset] [] := by first | (simp [entryFrame, mkF, argsToLocals, Value.category, maxLocals]; done) | rfl
set_option maxRecDepth 65536 in
set_option maxHeartbeats 40000000 in
theorem rm_lawS (l : Launch) (Z : State) (a0 : Array Value) (hw : ∀ d ∈ tables_1, d.before a0 Z = true) (ws : List Jvm.Cond) (p1 : Int32) (p2 : Int32) (h0 : Heap) (n0 : Nat) (Z0 : n0 ≤ h0.size) (w_ALL w_ADDITIVE_CHANGE w_SUBTRACTIVE_CHANGE w_ORDER_CHANGING_CHANGE w_SERIAL_INSERT w_PARALLEL_INSERT w_DELETE_ACTIVITY w_MOVE_ACTIVITY : Addr) (hK : own_K Z h0 w_ALL w_ADDITIVE_CHANGE w_SUBTRACTIVE_CHANGE w_ORDER_CHANGING_CHANGE w_SERIAL_INSERT w_PARALLEL_INSERT w_DELETE_ACTIVITY w_MOVE_ACTIVITY) (ii jj : Int32) (A B : Addr) (r : Int32) (hi : (p1 &&& (7 : Int32)) = ii) (hj : (p2 &&& (7 : Int32)) = jj) (hi0 : ¬ ii < 0) (hj0 : ¬ jj < 0) (hA : [Value.ref w_ALL, Value.ref w_ADDITIVE_CHANGE, Value.ref w_SUBTRACTIVE_CHANGE, Value.ref w_ORDER_CHANGING_CHANGE, Value.ref w_SERIAL_INSERT, Value.ref w_PARALLEL_INSERT, Value.ref w_DELETE_ACTIVITY, Value.ref w_MOVE_ACTIVITY][ii.toNatClampNeg]? = some (Value.ref A)) (hB : [Value.ref w_ALL, Value.ref w_ADDITIVE_CHANGE, Value.ref w_SUBTRACTIVE_CHANGE, Value.ref w_ORDER_CHANGING_CHANGE, Value.ref w_SERIAL_INSERT, Value.ref w_PARALLEL_INSERT, Value.ref w_DELETE_ACTIVITY, Value.ref w_MOVE_ACTIVITY][jj.toNatClampNeg]? = some (Value.ref B)) (E_A : Exa Z h0 A "com/example/live_rbac/liverbac/ChangeCommand") (hexp : (if ii = (0 : Int32) then (1 : Int32) else (if ii < (4 : Int32) then (if jj = ii then (1 : Int32) else (if jj < (4 : Int32) then (0 : Int32) else (if (if jj < (4 : Int32) then jj else (if jj < (6 : Int32) then (1 : Int32) else (if jj = (6 : Int32) then (2 : Int32) else (3 : Int32)))) = ii then (1 : Int32) else (0 : Int32)))) else (if jj = ii then (1 : Int32) else (0 : Int32)))) = r) (hinc : ∀ h', Ext h0 h' → own_Inc l Z n0 ({ frames := 2, cells := 0, slots := 0, locals := 26 } : Room) h' A B r) :
    MetFree l x (head1 (Jvm.Cond.code x code maxLocals ret :: ws) room_1) (fun a U => a = #[(.int p1), (.int p2)] ∧ Z.Warmed39 U.vm ∧ U.heap = h0) (fun _ _ _ _ _ => True) (fun _ U o U' => ∃ v L, o = .returned v ∧ own_QH (some (.int (1 : Int32))) n0 v U'.heap L ∧ FrameEnd U o U' L room_1.cells room_1.slots) := by
  refine MetFree.of_bodySF (plainFor_of_name pn_0) hisR ?_
  intro p e s m args below meth c s₁ Bd hml0 hP hK0
  obtain ⟨rfl, hZ, hh⟩ := hP
  have hx := Bd.exec
  have hby := Bd.bytes
  have hml : c.maxLocals = 6 := hml0
  have hown : s.vm.findClass "com/example/live_rbac/liverbac/ChangeCommandIncludesPinLaw" = some m.cls := findClass_of_methodNamed Bd.named
  have hnm := (name_of_methodNamed Bd.named Bd.method).1
  have X0 : Stand p l e room_1 s m #[(.int p1), (.int p2)] below meth c s₁ [] 0 0 := Stand.of_body Bd
  have e0 : s₁.heap = h0 := by rw [← hh, Bd.state]; rfl
  have N0 := Fr.nil n0
  have pre0 : ∀ t, Steps p.tables e below (s₁.setTop (mkF m 0 #[.val (.int p1), .val (.int p2), .unset, .unset, .unset, .unset] [])) t → Steps p.tables e below (s₁.setTop (entryFrame m #[(.int p1), (.int p2)] maxLocals)) t := fun t k => castTop (ef_lawS m p1 p2) k
  have hK' := hK
  obtain ⟨S_w_ALL, E_w_ALL, S_w_ADDITIVE_CHANGE, E_w_ADDITIVE_CHANGE, S_w_SUBTRACTIVE_CHANGE, E_w_SUBTRACTIVE_CHANGE, S_w_ORDER_CHANGING_CHANGE, E_w_ORDER_CHANGING_CHANGE, S_w_SERIAL_INSERT, E_w_SERIAL_INSERT, S_w_PARALLEL_INSERT, E_w_PARALLEL_INSERT, S_w_DELETE_ACTIVITY, E_w_DELETE_ACTIVITY, S_w_MOVE_ACTIVITY, E_w_MOVE_ACTIVITY, F_ordinal_w_ORDER_CHANGING_CHANGE, F_ordinal_w_ALL, F_parent_w_ORDER_CHANGING_CHANGE, F_ordinal_w_ADDITIVE_CHANGE, F_ordinal_w_DELETE_ACTIVITY, F_parent_w_ADDITIVE_CHANGE, F_parent_w_ALL, F_ordinal_w_SERIAL_INSERT, F_parent_w_SERIAL_INSERT, F_ordinal_w_MOVE_ACTIVITY, F_parent_w_MOVE_ACTIVITY, F_ordinal_w_PARALLEL_INSERT, F_parent_w_PARALLEL_INSERT, F_parent_w_DELETE_ACTIVITY, F_ordinal_w_SUBTRACTIVE_CHANGE, F_parent_w_SUBTRACTIVE_CHANGE⟩ := hK'
  obtain ⟨T1, h1, k1, X1, e1, Eq1, A1, O1, st1⟩ := newR X0 hx hZ hown (hw _ (ow 0 rfl)) (hw _ (ow 1 rfl)) e0 (g := (mkF m 2 #[.val (.int p1), .val (.int p2), .unset, .unset, .unset, .unset] [(.int (8 : Int32))])) rfl (hb hby at_2) rfl (by decide) (cap := 8) (by decide) (by decide) (by decide) (by decide)
  obtain ⟨b1, gb1⟩ : ∃ z, z = h0.size := ⟨_, rfl⟩
  rw [← gb1] at A1 st1
  have B1 : own_ArrK Z h1 b1 k1 (.object "com/example/live_rbac/liverbac/ChangeCommand") [.null, .null, .null, .null, .null, .null, .null, .null] := ⟨_, A1, rfl, rfl⟩
  have sz_b1 : h0.size ≤ b1 := Nat.le_of_eq gb1.symm
  have g_b1 : n0 ≤ b1 := Nat.le_trans Z0 sz_b1
  have EX1 : Ext h0 h1 := Eq1
  obtain ⟨T2, X2, e2, st2⟩ := getS2 X1 hx hZ hown (host := "") (Or.inl (hw _ (ow 2 rfl))) Via.refl e1 (S_w_ALL.ext EX1) (g := (mkF m 7 #[.val (.int p1), .val (.int p2), .unset, .unset, .unset, .unset] [(.int (0 : Int32)), (.ref b1), (.ref b1)])) rfl (hb hby at_7)
  obtain ⟨cl3, Ar3, qk3, hs3⟩ := id B1
  obtain ⟨T3, h3, X3, e3, W3, st3⟩ := stR X2 hx hZ e2 Ar3 (j := (0 : Int32)) (own_inb 8 hs3 rfl (by decide) (by decide)) rfl (Sto.ofV Ar3 qk3 O1 (Ins.self (E_w_ALL.ext EX1))) (g := (mkF m 10 #[.val (.int p1), .val (.int p2), .unset, .unset, .unset, .unset] [(.ref w_ALL), (.int (0 : Int32)), (.ref b1), (.ref b1)])) rfl rfl (hb hby at_10)
  have B3 : own_ArrK Z h3 b1 k1 (.object "com/example/live_rbac/liverbac/ChangeCommand") [(.ref w_ALL), .null, .null, .null, .null, .null, .null, .null] := own_set W3 Ar3 qk3 hs3
  have N3 := Fr.snoc X3 N0 g_b1
  have EX3 : Ext h0 h3 := own_ext_wr EX1 W3 sz_b1
  obtain ⟨T4, X4, e4, st4⟩ := getS2 X3 hx hZ hown (host := "") (Or.inl (hw _ (ow 6 rfl))) Via.refl e3 (S_w_ADDITIVE_CHANGE.ext EX3) (g := (mkF m 13 #[.val (.int p1), .val (.int p2), .unset, .unset, .unset, .unset] [(.int (1 : Int32)), (.ref b1), (.ref b1)])) rfl (hb hby at_13)
  obtain ⟨cl5, Ar5, qk5, hs5⟩ := id B3
  obtain ⟨T5, h5, X5, e5, W5, st5⟩ := stR X4 hx hZ e4 Ar5 (j := (1 : Int32)) (own_inb 8 hs5 rfl (by decide) (by decide)) rfl (Sto.ofV Ar5 qk5 O1 (Ins.self (E_w_ADDITIVE_CHANGE.ext EX3))) (g := (mkF m 16 #[.val (.int p1), .val (.int p2), .unset, .unset, .unset, .unset] [(.ref w_ADDITIVE_CHANGE), (.int (1 : Int32)), (.ref b1), (.ref b1)])) rfl rfl (hb hby at_16)
  have B5 : own_ArrK Z h5 b1 k1 (.object "com/example/live_rbac/liverbac/ChangeCommand") [(.ref w_ALL), (.ref w_ADDITIVE_CHANGE), .null, .null, .null, .null, .null, .null] := own_set W5 Ar5 qk5 hs5
  have N5 := Fr.snoc X5 N3 g_b1
  have EX5 : Ext h0 h5 := own_ext_wr EX3 W5 sz_b1
  obtain ⟨T6, X6, e6, st6⟩ := getS2 X5 hx hZ hown (host := "") (Or.inl (hw _ (ow 8 rfl))) Via.refl e5 (S_w_SUBTRACTIVE_CHANGE.ext EX5) (g := (mkF m 19 #[.val (.int p1), .val (.int p2), .unset, .unset, .unset, .unset] [(.int (2 : Int32)), (.ref b1), (.ref b1)])) rfl (hb hby at_19)
  obtain ⟨cl7, Ar7, qk7, hs7⟩ := id B5
  obtain ⟨T7, h7, X7, e7, W7, st7⟩ := stR X6 hx hZ e6 Ar7 (j := (2 : Int32)) (own_inb 8 hs7 rfl (by decide) (by decide)) rfl (Sto.ofV Ar7 qk7 O1 (Ins.self (E_w_SUBTRACTIVE_CHANGE.ext EX5))) (g := (mkF m 22 #[.val (.int p1), .val (.int p2), .unset, .unset, .unset, .unset] [(.ref w_SUBTRACTIVE_CHANGE), (.int (2 : Int32)), (.ref b1), (.ref b1)])) rfl rfl (hb hby at_22)
  have B7 : own_ArrK Z h7 b1 k1 (.object "com/example/live_rbac/liverbac/ChangeCommand") [(.ref w_ALL), (.ref w_ADDITIVE_CHANGE), (.ref w_SUBTRACTIVE_CHANGE), .null, .null, .null, .null, .null] := own_set W7 Ar7 qk7 hs7
  have N7 := Fr.snoc X7 N5 g_b1
  have EX7 : Ext h0 h7 := own_ext_wr EX5 W7 sz_b1
  obtain ⟨T8, X8, e8, st8⟩ := getS2 X7 hx hZ hown (host := "") (Or.inl (hw _ (ow 10 rfl))) Via.refl e7 (S_w_ORDER_CHANGING_CHANGE.ext EX7) (g := (mkF m 25 #[.val (.int p1), .val (.int p2), .unset, .unset, .unset, .unset] [(.int (3 : Int32)), (.ref b1), (.ref b1)])) rfl (hb hby at_25)
  obtain ⟨cl9, Ar9, qk9, hs9⟩ := id B7
  obtain ⟨T9, h9, X9, e9, W9, st9⟩ := stR X8 hx hZ e8 Ar9 (j := (3 : Int32)) (own_inb 8 hs9 rfl (by decide) (by decide)) rfl (Sto.ofV Ar9 qk9 O1 (Ins.self (E_w_ORDER_CHANGING_CHANGE.ext EX7))) (g := (mkF m 28 #[.val (.int p1), .val (.int p2), .unset, .unset, .unset, .unset] [(.ref w_ORDER_CHANGING_CHANGE), (.int (3 : Int32)), (.ref b1), (.ref b1)])) rfl rfl (hb hby at_28)
  have B9 : own_ArrK Z h9 b1 k1 (.object "com/example/live_rbac/liverbac/ChangeCommand") [(.ref w_ALL), (.ref w_ADDITIVE_CHANGE), (.ref w_SUBTRACTIVE_CHANGE), (.ref w_ORDER_CHANGING_CHANGE), .null, .null, .null, .null] := own_set W9 Ar9 qk9 hs9
  have N9 := Fr.snoc X9 N7 g_b1
  have EX9 : Ext h0 h9 := own_ext_wr EX7 W9 sz_b1
  obtain ⟨T10, X10, e10, st10⟩ := getS2 X9 hx hZ hown (host := "") (Or.inl (hw _ (ow 12 rfl))) Via.refl e9 (S_w_SERIAL_INSERT.ext EX9) (g := (mkF m 31 #[.val (.int p1), .val (.int p2), .unset, .unset, .unset, .unset] [(.int (4 : Int32)), (.ref b1), (.ref b1)])) rfl (hb hby at_31)
  obtain ⟨cl11, Ar11, qk11, hs11⟩ := id B9
  obtain ⟨T11, h11, X11, e11, W11, st11⟩ := stR X10 hx hZ e10 Ar11 (j := (4 : Int32)) (own_inb 8 hs11 rfl (by decide) (by decide)) rfl (Sto.ofV Ar11 qk11 O1 (Ins.self (E_w_SERIAL_INSERT.ext EX9))) (g := (mkF m 34 #[.val (.int p1), .val (.int p2), .unset, .unset, .unset, .unset] [(.ref w_SERIAL_INSERT), (.int (4 : Int32)), (.ref b1), (.ref b1)])) rfl rfl (hb hby at_34)
  have B11 : own_ArrK Z h11 b1 k1 (.object "com/example/live_rbac/liverbac/ChangeCommand") [(.ref w_ALL), (.ref w_ADDITIVE_CHANGE), (.ref w_SUBTRACTIVE_CHANGE), (.ref w_ORDER_CHANGING_CHANGE), (.ref w_SERIAL_INSERT), .null, .null, .null] := own_set W11 Ar11 qk11 hs11
  have N11 := Fr.snoc X11 N9 g_b1
  have EX11 : Ext h0 h11 := own_ext_wr EX9 W11 sz_b1
  obtain ⟨T12, X12, e12, st12⟩ := getS2 X11 hx hZ hown (host := "") (Or.inl (hw _ (ow 14 rfl))) Via.refl e11 (S_w_PARALLEL_INSERT.ext EX11) (g := (mkF m 37 #[.val (.int p1), .val (.int p2), .unset, .unset, .unset, .unset] [(.int (5 : Int32)), (.ref b1), (.ref b1)])) rfl (hb hby at_37)
  obtain ⟨cl13, Ar13, qk13, hs13⟩ := id B11
  obtain ⟨T13, h13, X13, e13, W13, st13⟩ := stR X12 hx hZ e12 Ar13 (j := (5 : Int32)) (own_inb 8 hs13 rfl (by decide) (by decide)) rfl (Sto.ofV Ar13 qk13 O1 (Ins.self (E_w_PARALLEL_INSERT.ext EX11))) (g := (mkF m 40 #[.val (.int p1), .val (.int p2), .unset, .unset, .unset, .unset] [(.ref w_PARALLEL_INSERT), (.int (5 : Int32)), (.ref b1), (.ref b1)])) rfl rfl (hb hby at_40)
  have B13 : own_ArrK Z h13 b1 k1 (.object "com/example/live_rbac/liverbac/ChangeCommand") [(.ref w_ALL), (.ref w_ADDITIVE_CHANGE), (.ref w_SUBTRACTIVE_CHANGE), (.ref w_ORDER_CHANGING_CHANGE), (.ref w_SERIAL_INSERT), (.ref w_PARALLEL_INSERT), .null, .null] := own_set W13 Ar13 qk13 hs13
  have N13 := Fr.snoc X13 N11 g_b1
  have EX13 : Ext h0 h13 := own_ext_wr EX11 W13 sz_b1
  obtain ⟨T14, X14, e14, st14⟩ := getS2 X13 hx hZ hown (host := "") (Or.inl (hw _ (ow 16 rfl))) Via.refl e13 (S_w_DELETE_ACTIVITY.ext EX13) (g := (mkF m 44 #[.val (.int p1), .val (.int p2), .unset, .unset, .unset, .unset] [(.int (6 : Int32)), (.ref b1), (.ref b1)])) rfl (hb hby at_44)
  obtain ⟨cl15, Ar15, qk15, hs15⟩ := id B13
  obtain ⟨T15, h15, X15, e15, W15, st15⟩ := stR X14 hx hZ e14 Ar15 (j := (6 : Int32)) (own_inb 8 hs15 rfl (by decide) (by decide)) rfl (Sto.ofV Ar15 qk15 O1 (Ins.self (E_w_DELETE_ACTIVITY.ext EX13))) (g := (mkF m 47 #[.val (.int p1), .val (.int p2), .unset, .unset, .unset, .unset] [(.ref w_DELETE_ACTIVITY), (.int (6 : Int32)), (.ref b1), (.ref b1)])) rfl rfl (hb hby at_47)
  have B15 : own_ArrK Z h15 b1 k1 (.object "com/example/live_rbac/liverbac/ChangeCommand") [(.ref w_ALL), (.ref w_ADDITIVE_CHANGE), (.ref w_SUBTRACTIVE_CHANGE), (.ref w_ORDER_CHANGING_CHANGE), (.ref w_SERIAL_INSERT), (.ref w_PARALLEL_INSERT), (.ref w_DELETE_ACTIVITY), .null] := own_set W15 Ar15 qk15 hs15
  have N15 := Fr.snoc X15 N13 g_b1
  have EX15 : Ext h0 h15 := own_ext_wr EX13 W15 sz_b1
  obtain ⟨T16, X16, e16, st16⟩ := getS2 X15 hx hZ hown (host := "") (Or.inl (hw _ (ow 18 rfl))) Via.refl e15 (S_w_MOVE_ACTIVITY.ext EX15) (g := (mkF m 51 #[.val (.int p1), .val (.int p2), .unset, .unset, .unset, .unset] [(.int (7 : Int32)), (.ref b1), (.ref b1)])) rfl (hb hby at_51)
  obtain ⟨cl17, Ar17, qk17, hs17⟩ := id B15
  obtain ⟨T17, h17, X17, e17, W17, st17⟩ := stR X16 hx hZ e16 Ar17 (j := (7 : Int32)) (own_inb 8 hs17 rfl (by decide) (by decide)) rfl (Sto.ofV Ar17 qk17 O1 (Ins.self (E_w_MOVE_ACTIVITY.ext EX15))) (g := (mkF m 54 #[.val (.int p1), .val (.int p2), .unset, .unset, .unset, .unset] [(.ref w_MOVE_ACTIVITY), (.int (7 : Int32)), (.ref b1), (.ref b1)])) rfl rfl (hb hby at_54)
  have B17 : own_ArrK Z h17 b1 k1 (.object "com/example/live_rbac/liverbac/ChangeCommand") [(.ref w_ALL), (.ref w_ADDITIVE_CHANGE), (.ref w_SUBTRACTIVE_CHANGE), (.ref w_ORDER_CHANGING_CHANGE), (.ref w_SERIAL_INSERT), (.ref w_PARALLEL_INSERT), (.ref w_DELETE_ACTIVITY), (.ref w_MOVE_ACTIVITY)] := own_set W17 Ar17 qk17 hs17
  have N17 := Fr.snoc X17 N15 g_b1
  have EX17 : Ext h0 h17 := own_ext_wr EX15 W17 sz_b1
  obtain ⟨cl18, Ar18, qk18, hs18⟩ := id B17
  have gt18 := own_get hs18 hi0 hA
  obtain ⟨cl19, Ar19, qk19, hs19⟩ := id B17
  have gt19 := own_get hs19 hj0 hB
  obtain ⟨cq20, kq20, q20a, q20b, q20c⟩ := isOf hZ e17 (E_A.ext EX17)
  obtain ⟨v20, _, ⟨T20, L20, k20, n20⟩, -, X20, ⟨Lc20, hQ20, l20, y20, z20⟩, st20⟩ := X17.virtualBack hx (y := (⟨"com/example/live_rbac/liverbac/ChangeCommand", "includes", "(Lcom/example/live_rbac/liverbac/ChangeCommand;)Z"⟩ : MethodName)) (z := (⟨"com/example/live_rbac/liverbac/ChangeCommand", "includes", "(Lcom/example/live_rbac/liverbac/ChangeCommand;)Z"⟩ : MethodName)) hown (mvT hZ (hw _ (ow 20 rfl))) (mvT hZ (hw _ (ow 21 rfl))) (notFace_of_selects (args := #[]) (mvT hZ (hw _ (ow 23 rfl)))) (mvT hZ (hw _ (ow 23 rfl))) (mvT hZ (hw _ (ow 22 rfl))) (by decide) (backOf (W := 0) (hinc h17 EX17) hZ (hw _ (ow 24 rfl)) (hw _ (ow 3 rfl)) (by decide) (by decide)) q20a q20c (g := (mkF m 74 #[.val (.int p1), .val (.int p2), .val (.ref b1), .val (.int ii), .val (.int jj), .unset] [(.ref B), (.ref A)])) rfl (by rw [hml]; rfl) (Steps.refl _) (argsL := [(.ref B)]) (rest := []) (lenOf pd_1 rfl) rfl (Nat.le_of_eq rfl) (hb hby at_74) (fun _ _ => ⟨rfl, e17, (by decide : 1 + 0 ≤ _), (by decide : 8 + 0 ≤ _)⟩)
  dsimp only [Pt.U, Pt.locs, Pt.cells, Pt.slots] at X20 l20 y20 z20 st20 hQ20
  subst l20 y20 z20
  obtain ⟨hv20, Nq20, e20⟩ := hQ20
  obtain rfl : v20 = some (.int r) := hv20
  have N20 := Fr.app N17 Nq20
  obtain ⟨v21, _, ⟨T21, L21, k21, n21⟩, -, X21, ⟨Lc21, hQ21, l21, y21, z21⟩, st21⟩ := Jvm.LawKit.callS X20 hx (y := (⟨"com/example/live_rbac/liverbac/ChangeCommandIncludesPinLaw", "expected", "(II)Z"⟩ : MethodName)) hown (mvT hZ (hw _ (ow 28 rfl))) (mvT hZ (hw _ (ow 29 rfl))) (mvT hZ (hw _ (ow 30 rfl))) (mvT hZ (hw _ (ow 31 rfl))) (by decide) (backOf (W := 1) (rm_expected l Z a0 hw [] ii jj h17 n0) hZ (hw _ (ow 31 rfl)) (hw _ (ow 30 rfl)) (by decide) (by decide)) (g := (mkF m 84 #[.val (.int p1), .val (.int p2), .val (.ref b1), .val (.int ii), .val (.int jj), .val (.int r)] [(.int jj), (.int ii), (.int r)])) rfl (by rw [hml]; rfl) (argsL := [(.int ii), (.int jj)]) (rest := [(.int r)]) (lenOf pd_2 rfl) rfl (Nat.le_of_eq rfl) (hb hby at_84) (fun _ _ => ⟨rfl, e20, (by decide : 1 + 0 ≤ _), (by decide : 8 + 0 ≤ _)⟩)
  dsimp only [Pt.U, Pt.locs, Pt.cells, Pt.slots] at X21 l21 y21 z21 st21 hQ21
  subst l21 y21 z21
  obtain ⟨hv21, Nq21, e21⟩ := hQ21
  obtain rfl : v21 = some (.int r) := hv21.trans (congrArg some (congrArg Value.int hexp))
  have N21 := Fr.app N20 Nq21
  have pre22 : ∀ t, Steps p.tables e below (T21.setTop (mkF m 95 #[.val (.int p1), .val (.int p2), .val (.ref b1), .val (.int ii), .val (.int jj), .val (.int r)] [(.int (1 : Int32))])) t → Steps p.tables e below (s₁.setTop (entryFrame m #[(.int p1), (.int p2)] maxLocals)) t := fun t k => pre0 t (by
    show Steps p.tables e below (s₁.setTop (mkF m 0 #[.val (.int p1), .val (.int p2), .unset, .unset, .unset, .unset] [])) _
    refine XS.bipush X0.here hx rfl (hb hby at_0) ?_
    show Steps p.tables e below (s₁.setTop (mkF m 2 #[.val (.int p1), .val (.int p2), .unset, .unset, .unset, .unset] [(.int (8 : Int32))])) _
    refine st1 _ ?_
    show Steps p.tables e below (T1.setTop (mkF m 5 #[.val (.int p1), .val (.int p2), .unset, .unset, .unset, .unset] [(.ref b1)])) _
    refine XS.dup X1.here hx rfl (hb hby at_5) rfl rfl ?_
    show Steps p.tables e below (T1.setTop (mkF m 6 #[.val (.int p1), .val (.int p2), .unset, .unset, .unset, .unset] [(.ref b1), (.ref b1)])) _
    refine XS.iconst X1.here hx rfl (hb hby at_6) ?_
    show Steps p.tables e below (T1.setTop (mkF m 7 #[.val (.int p1), .val (.int p2), .unset, .unset, .unset, .unset] [(.int (0 : Int32)), (.ref b1), (.ref b1)])) _
    refine st2 _ ?_
    show Steps p.tables e below (T2.setTop (mkF m 10 #[.val (.int p1), .val (.int p2), .unset, .unset, .unset, .unset] [(.ref w_ALL), (.int (0 : Int32)), (.ref b1), (.ref b1)])) _
    refine st3 _ ?_
    show Steps p.tables e below (T3.setTop (mkF m 11 #[.val (.int p1), .val (.int p2), .unset, .unset, .unset, .unset] [(.ref b1)])) _
    refine XS.dup X3.here hx rfl (hb hby at_11) rfl rfl ?_
    show Steps p.tables e below (T3.setTop (mkF m 12 #[.val (.int p1), .val (.int p2), .unset, .unset, .unset, .unset] [(.ref b1), (.ref b1)])) _
    refine XS.iconst X3.here hx rfl (hb hby at_12) ?_
    show Steps p.tables e below (T3.setTop (mkF m 13 #[.val (.int p1), .val (.int p2), .unset, .unset, .unset, .unset] [(.int (1 : Int32)), (.ref b1), (.ref b1)])) _
    refine st4 _ ?_
    show Steps p.tables e below (T4.setTop (mkF m 16 #[.val (.int p1), .val (.int p2), .unset, .unset, .unset, .unset] [(.ref w_ADDITIVE_CHANGE), (.int (1 : Int32)), (.ref b1), (.ref b1)])) _
    refine st5 _ ?_
    show Steps p.tables e below (T5.setTop (mkF m 17 #[.val (.int p1), .val (.int p2), .unset, .unset, .unset, .unset] [(.ref b1)])) _
    refine XS.dup X5.here hx rfl (hb hby at_17) rfl rfl ?_
    show Steps p.tables e below (T5.setTop (mkF m 18 #[.val (.int p1), .val (.int p2), .unset, .unset, .unset, .unset] [(.ref b1), (.ref b1)])) _
    refine XS.iconst X5.here hx rfl (hb hby at_18) ?_
    show Steps p.tables e below (T5.setTop (mkF m 19 #[.val (.int p1), .val (.int p2), .unset, .unset, .unset, .unset] [(.int (2 : Int32)), (.ref b1), (.ref b1)])) _
    refine st6 _ ?_
    show Steps p.tables e below (T6.setTop (mkF m 22 #[.val (.int p1), .val (.int p2), .unset, .unset, .unset, .unset] [(.ref w_SUBTRACTIVE_CHANGE), (.int (2 : Int32)), (.ref b1), (.ref b1)])) _
    refine st7 _ ?_
    show Steps p.tables e below (T7.setTop (mkF m 23 #[.val (.int p1), .val (.int p2), .unset, .unset, .unset, .unset] [(.ref b1)])) _
    refine XS.dup X7.here hx rfl (hb hby at_23) rfl rfl ?_
    show Steps p.tables e below (T7.setTop (mkF m 24 #[.val (.int p1), .val (.int p2), .unset, .unset, .unset, .unset] [(.ref b1), (.ref b1)])) _
    refine XS.iconst X7.here hx rfl (hb hby at_24) ?_
    show Steps p.tables e below (T7.setTop (mkF m 25 #[.val (.int p1), .val (.int p2), .unset, .unset, .unset, .unset] [(.int (3 : Int32)), (.ref b1), (.ref b1)])) _
    refine st8 _ ?_
    show Steps p.tables e below (T8.setTop (mkF m 28 #[.val (.int p1), .val (.int p2), .unset, .unset, .unset, .unset] [(.ref w_ORDER_CHANGING_CHANGE), (.int (3 : Int32)), (.ref b1), (.ref b1)])) _
    refine st9 _ ?_
    show Steps p.tables e below (T9.setTop (mkF m 29 #[.val (.int p1), .val (.int p2), .unset, .unset, .unset, .unset] [(.ref b1)])) _
    refine XS.dup X9.here hx rfl (hb hby at_29) rfl rfl ?_
    show Steps p.tables e below (T9.setTop (mkF m 30 #[.val (.int p1), .val (.int p2), .unset, .unset, .unset, .unset] [(.ref b1), (.ref b1)])) _
    refine XS.iconst X9.here hx rfl (hb hby at_30) ?_
    show Steps p.tables e below (T9.setTop (mkF m 31 #[.val (.int p1), .val (.int p2), .unset, .unset, .unset, .unset] [(.int (4 : Int32)), (.ref b1), (.ref b1)])) _
    refine st10 _ ?_
    show Steps p.tables e below (T10.setTop (mkF m 34 #[.val (.int p1), .val (.int p2), .unset, .unset, .unset, .unset] [(.ref w_SERIAL_INSERT), (.int (4 : Int32)), (.ref b1), (.ref b1)])) _
    refine st11 _ ?_
    show Steps p.tables e below (T11.setTop (mkF m 35 #[.val (.int p1), .val (.int p2), .unset, .unset, .unset, .unset] [(.ref b1)])) _
    refine XS.dup X11.here hx rfl (hb hby at_35) rfl rfl ?_
    show Steps p.tables e below (T11.setTop (mkF m 36 #[.val (.int p1), .val (.int p2), .unset, .unset, .unset, .unset] [(.ref b1), (.ref b1)])) _
    refine XS.iconst X11.here hx rfl (hb hby at_36) ?_
    show Steps p.tables e below (T11.setTop (mkF m 37 #[.val (.int p1), .val (.int p2), .unset, .unset, .unset, .unset] [(.int (5 : Int32)), (.ref b1), (.ref b1)])) _
    refine st12 _ ?_
    show Steps p.tables e below (T12.setTop (mkF m 40 #[.val (.int p1), .val (.int p2), .unset, .unset, .unset, .unset] [(.ref w_PARALLEL_INSERT), (.int (5 : Int32)), (.ref b1), (.ref b1)])) _
    refine st13 _ ?_
    show Steps p.tables e below (T13.setTop (mkF m 41 #[.val (.int p1), .val (.int p2), .unset, .unset, .unset, .unset] [(.ref b1)])) _
    refine XS.dup X13.here hx rfl (hb hby at_41) rfl rfl ?_
    show Steps p.tables e below (T13.setTop (mkF m 42 #[.val (.int p1), .val (.int p2), .unset, .unset, .unset, .unset] [(.ref b1), (.ref b1)])) _
    refine XS.bipush X13.here hx rfl (hb hby at_42) ?_
    show Steps p.tables e below (T13.setTop (mkF m 44 #[.val (.int p1), .val (.int p2), .unset, .unset, .unset, .unset] [(.int (6 : Int32)), (.ref b1), (.ref b1)])) _
    refine st14 _ ?_
    show Steps p.tables e below (T14.setTop (mkF m 47 #[.val (.int p1), .val (.int p2), .unset, .unset, .unset, .unset] [(.ref w_DELETE_ACTIVITY), (.int (6 : Int32)), (.ref b1), (.ref b1)])) _
    refine st15 _ ?_
    show Steps p.tables e below (T15.setTop (mkF m 48 #[.val (.int p1), .val (.int p2), .unset, .unset, .unset, .unset] [(.ref b1)])) _
    refine XS.dup X15.here hx rfl (hb hby at_48) rfl rfl ?_
    show Steps p.tables e below (T15.setTop (mkF m 49 #[.val (.int p1), .val (.int p2), .unset, .unset, .unset, .unset] [(.ref b1), (.ref b1)])) _
    refine XS.bipush X15.here hx rfl (hb hby at_49) ?_
    show Steps p.tables e below (T15.setTop (mkF m 51 #[.val (.int p1), .val (.int p2), .unset, .unset, .unset, .unset] [(.int (7 : Int32)), (.ref b1), (.ref b1)])) _
    refine st16 _ ?_
    show Steps p.tables e below (T16.setTop (mkF m 54 #[.val (.int p1), .val (.int p2), .unset, .unset, .unset, .unset] [(.ref w_MOVE_ACTIVITY), (.int (7 : Int32)), (.ref b1), (.ref b1)])) _
    refine st17 _ ?_
    show Steps p.tables e below (T17.setTop (mkF m 55 #[.val (.int p1), .val (.int p2), .unset, .unset, .unset, .unset] [(.ref b1)])) _
    refine XS.astoreN X17.here hx rfl (hb hby at_55) rfl rfl (l' := #[.val (.int p1), .val (.int p2), .val (.ref b1), .unset, .unset, .unset]) rfl ?_
    show Steps p.tables e below (T17.setTop (mkF m 56 #[.val (.int p1), .val (.int p2), .val (.ref b1), .unset, .unset, .unset] [])) _
    refine XS.iloadN X17.here hx rfl (hb hby at_56) rfl ?_
    show Steps p.tables e below (T17.setTop (mkF m 57 #[.val (.int p1), .val (.int p2), .val (.ref b1), .unset, .unset, .unset] [(.int p1)])) _
    refine XS.bipush X17.here hx rfl (hb hby at_57) ?_
    show Steps p.tables e below (T17.setTop (mkF m 59 #[.val (.int p1), .val (.int p2), .val (.ref b1), .unset, .unset, .unset] [(.int (7 : Int32)), (.int p1)])) _
    refine XS.iand X17.here hx rfl (hb hby at_59) rfl ?_
    show Steps p.tables e below (T17.setTop (mkF m 60 #[.val (.int p1), .val (.int p2), .val (.ref b1), .unset, .unset, .unset] [(.int (p1 &&& (7 : Int32)))])) _
    rw [hi]
    show Steps p.tables e below (T17.setTop (mkF m 60 #[.val (.int p1), .val (.int p2), .val (.ref b1), .unset, .unset, .unset] [(.int ii)])) _
    refine XS.istoreN X17.here hx rfl (hb hby at_60) rfl (l' := #[.val (.int p1), .val (.int p2), .val (.ref b1), .val (.int ii), .unset, .unset]) rfl ?_
    show Steps p.tables e below (T17.setTop (mkF m 61 #[.val (.int p1), .val (.int p2), .val (.ref b1), .val (.int ii), .unset, .unset] [])) _
    refine XS.iloadN X17.here hx rfl (hb hby at_61) rfl ?_
    show Steps p.tables e below (T17.setTop (mkF m 62 #[.val (.int p1), .val (.int p2), .val (.ref b1), .val (.int ii), .unset, .unset] [(.int p2)])) _
    refine XS.bipush X17.here hx rfl (hb hby at_62) ?_
    show Steps p.tables e below (T17.setTop (mkF m 64 #[.val (.int p1), .val (.int p2), .val (.ref b1), .val (.int ii), .unset, .unset] [(.int (7 : Int32)), (.int p2)])) _
    refine XS.iand X17.here hx rfl (hb hby at_64) rfl ?_
    show Steps p.tables e below (T17.setTop (mkF m 65 #[.val (.int p1), .val (.int p2), .val (.ref b1), .val (.int ii), .unset, .unset] [(.int (p2 &&& (7 : Int32)))])) _
    rw [hj]
    show Steps p.tables e below (T17.setTop (mkF m 65 #[.val (.int p1), .val (.int p2), .val (.ref b1), .val (.int ii), .unset, .unset] [(.int jj)])) _
    refine XS.istore X17.here hx rfl (hb hby at_65) rfl (l' := #[.val (.int p1), .val (.int p2), .val (.ref b1), .val (.int ii), .val (.int jj), .unset]) rfl ?_
    show Steps p.tables e below (T17.setTop (mkF m 67 #[.val (.int p1), .val (.int p2), .val (.ref b1), .val (.int ii), .val (.int jj), .unset] [])) _
    refine XS.aloadN X17.here hx rfl (hb hby at_67) rfl rfl ?_
    show Steps p.tables e below (T17.setTop (mkF m 68 #[.val (.int p1), .val (.int p2), .val (.ref b1), .val (.int ii), .val (.int jj), .unset] [(.ref b1)])) _
    refine XS.iloadN X17.here hx rfl (hb hby at_68) rfl ?_
    show Steps p.tables e below (T17.setTop (mkF m 69 #[.val (.int p1), .val (.int p2), .val (.ref b1), .val (.int ii), .val (.int jj), .unset] [(.int ii), (.ref b1)])) _
    refine X17.aaload hx (j := ii) (v := (.ref A)) (by rw [e17]; exact Ar18.1) (State.isArrayOf_alike hZ.alike Ar18.2.1) rfl Ar18.2.2 gt18.1 gt18.2 (g := (mkF m 69 #[.val (.int p1), .val (.int p2), .val (.ref b1), .val (.int ii), .val (.int jj), .unset] [(.int ii), (.ref b1)])) rfl rfl (hb hby at_69) _ ?_
    show Steps p.tables e below (T17.setTop (mkF m 70 #[.val (.int p1), .val (.int p2), .val (.ref b1), .val (.int ii), .val (.int jj), .unset] [(.ref A)])) _
    refine XS.aloadN X17.here hx rfl (hb hby at_70) rfl rfl ?_
    show Steps p.tables e below (T17.setTop (mkF m 71 #[.val (.int p1), .val (.int p2), .val (.ref b1), .val (.int ii), .val (.int jj), .unset] [(.ref b1), (.ref A)])) _
    refine XS.iload X17.here hx rfl (hb hby at_71) rfl ?_
    show Steps p.tables e below (T17.setTop (mkF m 73 #[.val (.int p1), .val (.int p2), .val (.ref b1), .val (.int ii), .val (.int jj), .unset] [(.int jj), (.ref b1), (.ref A)])) _
    refine X17.aaload hx (j := jj) (v := (.ref B)) (by rw [e17]; exact Ar19.1) (State.isArrayOf_alike hZ.alike Ar19.2.1) rfl Ar19.2.2 gt19.1 gt19.2 (g := (mkF m 73 #[.val (.int p1), .val (.int p2), .val (.ref b1), .val (.int ii), .val (.int jj), .unset] [(.int jj), (.ref b1), (.ref A)])) rfl rfl (hb hby at_73) _ ?_
    show Steps p.tables e below (T17.setTop (mkF m 74 #[.val (.int p1), .val (.int p2), .val (.ref b1), .val (.int ii), .val (.int jj), .unset] [(.ref B), (.ref A)])) _
    refine st20.trans ?_
    show Steps p.tables e below (T20.setTop (mkF m 77 #[.val (.int p1), .val (.int p2), .val (.ref b1), .val (.int ii), .val (.int jj), .unset] [(.int r)])) _
    refine XS.istore X20.here hx rfl (hb hby at_77) rfl (l' := #[.val (.int p1), .val (.int p2), .val (.ref b1), .val (.int ii), .val (.int jj), .val (.int r)]) rfl ?_
    show Steps p.tables e below (T20.setTop (mkF m 79 #[.val (.int p1), .val (.int p2), .val (.ref b1), .val (.int ii), .val (.int jj), .val (.int r)] [])) _
    refine XS.iload X20.here hx rfl (hb hby at_79) rfl ?_
    show Steps p.tables e below (T20.setTop (mkF m 81 #[.val (.int p1), .val (.int p2), .val (.ref b1), .val (.int ii), .val (.int jj), .val (.int r)] [(.int r)])) _
    refine XS.iloadN X20.here hx rfl (hb hby at_81) rfl ?_
    show Steps p.tables e below (T20.setTop (mkF m 82 #[.val (.int p1), .val (.int p2), .val (.ref b1), .val (.int ii), .val (.int jj), .val (.int r)] [(.int ii), (.int r)])) _
    refine XS.iload X20.here hx rfl (hb hby at_82) rfl ?_
    show Steps p.tables e below (T20.setTop (mkF m 84 #[.val (.int p1), .val (.int p2), .val (.ref b1), .val (.int ii), .val (.int jj), .val (.int r)] [(.int jj), (.int ii), (.int r)])) _
    refine st21 _ ?_
    show Steps p.tables e below (T21.setTop (mkF m 87 #[.val (.int p1), .val (.int p2), .val (.ref b1), .val (.int ii), .val (.int jj), .val (.int r)] [(.int r), (.int r)])) _
    refine XS.icmpNo X21.here hx rfl (hb hby at_87) rfl (teq rfl).2 ?_
    show Steps p.tables e below (T21.setTop (mkF m 90 #[.val (.int p1), .val (.int p2), .val (.ref b1), .val (.int ii), .val (.int jj), .val (.int r)] [])) _
    refine XS.iconst X21.here hx rfl (hb hby at_90) ?_
    show Steps p.tables e below (T21.setTop (mkF m 91 #[.val (.int p1), .val (.int p2), .val (.ref b1), .val (.int ii), .val (.int jj), .val (.int r)] [(.int (1 : Int32))])) _
    refine XS.goto X21.here hx rfl (pc0 := 91) (pc' := 95) rfl (hb hby at_91) (by decide) (by decide) ?_
    exact k)
  obtain ⟨fs, hr, hrun, hended, hW, hsame⟩ := X21.leave (v := some (.int (1 : Int32))) (fun h => by rw [Bd.returns] at h; cases h)
  refine ⟨_, _, pre22 _ ?_, hrun, hended, _, _, rfl, ?_, ⟨_, rfl⟩, hW, hsame.mono (by decide) (by decide)⟩
  · show Steps p.tables e below (T21.setTop (mkF m 95 #[.val (.int p1), .val (.int p2), .val (.ref b1), .val (.int ii), .val (.int jj), .val (.int r)] [(.int (1 : Int32))])) _
    exact retN X21 hx (t := .boolean) Bd.returns (by simp) (hb hby at_95) hr
  · exact ⟨rfl, N21, trivial⟩
theorem own_cases (y : Int32) (h0 : 0 ≤ y.toInt) (h1 : y.toInt < 8) : y = (0 : Int32) ∨ y = (1 : Int32) ∨ y = (2 : Int32) ∨ y = (3 : Int32) ∨ y = (4 : Int32) ∨ y = (5 : Int32) ∨ y = (6 : Int32) ∨ y = (7 : Int32) := by
  have q : y.toInt = 0 ∨ y.toInt = 1 ∨ y.toInt = 2 ∨ y.toInt = 3 ∨ y.toInt = 4 ∨ y.toInt = 5 ∨ y.toInt = 6 ∨ y.toInt = 7 := by omega
  rcases q with q | q | q | q | q | q | q | q
  · exact Or.inl (Int32.toInt_inj.mp q)
  · exact Or.inr (Or.inl (Int32.toInt_inj.mp q))
  · exact Or.inr (Or.inr (Or.inl (Int32.toInt_inj.mp q)))
  · exact Or.inr (Or.inr (Or.inr (Or.inl (Int32.toInt_inj.mp q))))
  · exact Or.inr (Or.inr (Or.inr (Or.inr (Or.inl (Int32.toInt_inj.mp q)))))
  · exact Or.inr (Or.inr (Or.inr (Or.inr (Or.inr (Or.inl (Int32.toInt_inj.mp q))))))
  · exact Or.inr (Or.inr (Or.inr (Or.inr (Or.inr (Or.inr (Or.inl (Int32.toInt_inj.mp q)))))))
  · exact Or.inr (Or.inr (Or.inr (Or.inr (Or.inr (Or.inr (Or.inr (Int32.toInt_inj.mp q)))))))
theorem rm_law (l : Launch) (Z : State) (a0 : Array Value) (hw : ∀ d ∈ tables_1, d.before a0 Z = true) (ws : List Jvm.Cond) (p1 : Int32) (p2 : Int32) (h0 : Heap) (n0 : Nat) (Z0 : n0 ≤ h0.size) (w_ALL w_ADDITIVE_CHANGE w_SUBTRACTIVE_CHANGE w_ORDER_CHANGING_CHANGE w_SERIAL_INSERT w_PARALLEL_INSERT w_DELETE_ACTIVITY w_MOVE_ACTIVITY : Addr) (hK : own_K Z h0 w_ALL w_ADDITIVE_CHANGE w_SUBTRACTIVE_CHANGE w_ORDER_CHANGING_CHANGE w_SERIAL_INSERT w_PARALLEL_INSERT w_DELETE_ACTIVITY w_MOVE_ACTIVITY) :
    MetFree l x (head1 (Jvm.Cond.code x code maxLocals ret :: ws) room_1) (fun a U => a = #[(.int p1), (.int p2)] ∧ Z.Warmed39 U.vm ∧ U.heap = h0) (fun _ _ _ _ _ => True) (fun _ U o U' => ∃ v L, o = .returned v ∧ own_QH (some (.int (1 : Int32))) n0 v U'.heap L ∧ FrameEnd U o U' L room_1.cells room_1.slots) := by
  have hK' := hK
  obtain ⟨S_w_ALL, E_w_ALL, S_w_ADDITIVE_CHANGE, E_w_ADDITIVE_CHANGE, S_w_SUBTRACTIVE_CHANGE, E_w_SUBTRACTIVE_CHANGE, S_w_ORDER_CHANGING_CHANGE, E_w_ORDER_CHANGING_CHANGE, S_w_SERIAL_INSERT, E_w_SERIAL_INSERT, S_w_PARALLEL_INSERT, E_w_PARALLEL_INSERT, S_w_DELETE_ACTIVITY, E_w_DELETE_ACTIVITY, S_w_MOVE_ACTIVITY, E_w_MOVE_ACTIVITY, F_ordinal_w_ORDER_CHANGING_CHANGE, F_ordinal_w_ALL, F_parent_w_ORDER_CHANGING_CHANGE, F_ordinal_w_ADDITIVE_CHANGE, F_ordinal_w_DELETE_ACTIVITY, F_parent_w_ADDITIVE_CHANGE, F_parent_w_ALL, F_ordinal_w_SERIAL_INSERT, F_parent_w_SERIAL_INSERT, F_ordinal_w_MOVE_ACTIVITY, F_parent_w_MOVE_ACTIVITY, F_ordinal_w_PARALLEL_INSERT, F_parent_w_PARALLEL_INSERT, F_parent_w_DELETE_ACTIVITY, F_ordinal_w_SUBTRACTIVE_CHANGE, F_parent_w_SUBTRACTIVE_CHANGE⟩ := hK'
  have q := c_mask p1 7 3 (by decide) (by decide)
  have q2 := c_mask p2 7 3 (by decide) (by decide)
  rcases own_cases (p1 &&& (7 : Int32)) (by omega) (by omega) with hi | hi | hi | hi | hi | hi | hi | hi <;> rcases own_cases (p2 &&& (7 : Int32)) (by omega) (by omega) with hj | hj | hj | hj | hj | hj | hj | hj
  · exact rm_lawS l Z a0 hw ws p1 p2 h0 n0 Z0 w_ALL w_ADDITIVE_CHANGE w_SUBTRACTIVE_CHANGE w_ORDER_CHANGING_CHANGE w_SERIAL_INSERT w_PARALLEL_INSERT w_DELETE_ACTIVITY w_MOVE_ACTIVITY hK 0 0 w_ALL w_ALL 1 hi hj (by decide) (by decide) rfl rfl E_w_ALL (by decide) (fun h' E' => (rm_same2 l Z a0 hw [] w_ALL h' n0))
  · exact rm_lawS l Z a0 hw ws p1 p2 h0 n0 Z0 w_ALL w_ADDITIVE_CHANGE w_SUBTRACTIVE_CHANGE w_ORDER_CHANGING_CHANGE w_SERIAL_INSERT w_PARALLEL_INSERT w_DELETE_ACTIVITY w_MOVE_ACTIVITY hK 0 1 w_ALL w_ADDITIVE_CHANGE 1 hi hj (by decide) (by decide) rfl rfl E_w_ALL (by decide) (fun h' E' => (rm_step2_1 l Z a0 hw [] w_ALL w_ADDITIVE_CHANGE h' n0 w_ALL (Fld.ne F_ordinal_w_ADDITIVE_CHANGE F_ordinal_w_ALL (by decide)) (F_parent_w_ADDITIVE_CHANGE.ext E') (E_w_ALL.ext E') (rm_same1 l Z a0 hw [] w_ALL h' n0)))
  · exact rm_lawS l Z a0 hw ws p1 p2 h0 n0 Z0 w_ALL w_ADDITIVE_CHANGE w_SUBTRACTIVE_CHANGE w_ORDER_CHANGING_CHANGE w_SERIAL_INSERT w_PARALLEL_INSERT w_DELETE_ACTIVITY w_MOVE_ACTIVITY hK 0 2 w_ALL w_SUBTRACTIVE_CHANGE 1 hi hj (by decide) (by decide) rfl rfl E_w_ALL (by decide) (fun h' E' => (rm_step2_1 l Z a0 hw [] w_ALL w_SUBTRACTIVE_CHANGE h' n0 w_ALL (Fld.ne F_ordinal_w_SUBTRACTIVE_CHANGE F_ordinal_w_ALL (by decide)) (F_parent_w_SUBTRACTIVE_CHANGE.ext E') (E_w_ALL.ext E') (rm_same1 l Z a0 hw [] w_ALL h' n0)))
  · exact rm_lawS l Z a0 hw ws p1 p2 h0 n0 Z0 w_ALL w_ADDITIVE_CHANGE w_SUBTRACTIVE_CHANGE w_ORDER_CHANGING_CHANGE w_SERIAL_INSERT w_PARALLEL_INSERT w_DELETE_ACTIVITY w_MOVE_ACTIVITY hK 0 3 w_ALL w_ORDER_CHANGING_CHANGE 1 hi hj (by decide) (by decide) rfl rfl E_w_ALL (by decide) (fun h' E' => (rm_step2_1 l Z a0 hw [] w_ALL w_ORDER_CHANGING_CHANGE h' n0 w_ALL (Fld.ne F_ordinal_w_ORDER_CHANGING_CHANGE F_ordinal_w_ALL (by decide)) (F_parent_w_ORDER_CHANGING_CHANGE.ext E') (E_w_ALL.ext E') (rm_same1 l Z a0 hw [] w_ALL h' n0)))
  · exact rm_lawS l Z a0 hw ws p1 p2 h0 n0 Z0 w_ALL w_ADDITIVE_CHANGE w_SUBTRACTIVE_CHANGE w_ORDER_CHANGING_CHANGE w_SERIAL_INSERT w_PARALLEL_INSERT w_DELETE_ACTIVITY w_MOVE_ACTIVITY hK 0 4 w_ALL w_SERIAL_INSERT 1 hi hj (by decide) (by decide) rfl rfl E_w_ALL (by decide) (fun h' E' => (rm_step2_1 l Z a0 hw [] w_ALL w_SERIAL_INSERT h' n0 w_ADDITIVE_CHANGE (Fld.ne F_ordinal_w_SERIAL_INSERT F_ordinal_w_ALL (by decide)) (F_parent_w_SERIAL_INSERT.ext E') (E_w_ALL.ext E') (rm_step1_1 l Z a0 hw [] w_ALL w_ADDITIVE_CHANGE h' n0 w_ALL (Fld.ne F_ordinal_w_ADDITIVE_CHANGE F_ordinal_w_ALL (by decide)) (F_parent_w_ADDITIVE_CHANGE.ext E') (E_w_ALL.ext E') (rm_same0 l Z a0 hw [] w_ALL h' n0))))
  · exact rm_lawS l Z a0 hw ws p1 p2 h0 n0 Z0 w_ALL w_ADDITIVE_CHANGE w_SUBTRACTIVE_CHANGE w_ORDER_CHANGING_CHANGE w_SERIAL_INSERT w_PARALLEL_INSERT w_DELETE_ACTIVITY w_MOVE_ACTIVITY hK 0 5 w_ALL w_PARALLEL_INSERT 1 hi hj (by decide) (by decide) rfl rfl E_w_ALL (by decide) (fun h' E' => (rm_step2_1 l Z a0 hw [] w_ALL w_PARALLEL_INSERT h' n0 w_ADDITIVE_CHANGE (Fld.ne F_ordinal_w_PARALLEL_INSERT F_ordinal_w_ALL (by decide)) (F_parent_w_PARALLEL_INSERT.ext E') (E_w_ALL.ext E') (rm_step1_1 l Z a0 hw [] w_ALL w_ADDITIVE_CHANGE h' n0 w_ALL (Fld.ne F_ordinal_w_ADDITIVE_CHANGE F_ordinal_w_ALL (by decide)) (F_parent_w_ADDITIVE_CHANGE.ext E') (E_w_ALL.ext E') (rm_same0 l Z a0 hw [] w_ALL h' n0))))
  · exact rm_lawS l Z a0 hw ws p1 p2 h0 n0 Z0 w_ALL w_ADDITIVE_CHANGE w_SUBTRACTIVE_CHANGE w_ORDER_CHANGING_CHANGE w_SERIAL_INSERT w_PARALLEL_INSERT w_DELETE_ACTIVITY w_MOVE_ACTIVITY hK 0 6 w_ALL w_DELETE_ACTIVITY 1 hi hj (by decide) (by decide) rfl rfl E_w_ALL (by decide) (fun h' E' => (rm_step2_1 l Z a0 hw [] w_ALL w_DELETE_ACTIVITY h' n0 w_SUBTRACTIVE_CHANGE (Fld.ne F_ordinal_w_DELETE_ACTIVITY F_ordinal_w_ALL (by decide)) (F_parent_w_DELETE_ACTIVITY.ext E') (E_w_ALL.ext E') (rm_step1_1 l Z a0 hw [] w_ALL w_SUBTRACTIVE_CHANGE h' n0 w_ALL (Fld.ne F_ordinal_w_SUBTRACTIVE_CHANGE F_ordinal_w_ALL (by decide)) (F_parent_w_SUBTRACTIVE_CHANGE.ext E') (E_w_ALL.ext E') (rm_same0 l Z a0 hw [] w_ALL h' n0))))
  · exact rm_lawS l Z a0 hw ws p1 p2 h0 n0 Z0 w_ALL w_ADDITIVE_CHANGE w_SUBTRACTIVE_CHANGE w_ORDER_CHANGING_CHANGE w_SERIAL_INSERT w_PARALLEL_INSERT w_DELETE_ACTIVITY w_MOVE_ACTIVITY hK 0 7 w_ALL w_MOVE_ACTIVITY 1 hi hj (by decide) (by decide) rfl rfl E_w_ALL (by decide) (fun h' E' => (rm_step2_1 l Z a0 hw [] w_ALL w_MOVE_ACTIVITY h' n0 w_ORDER_CHANGING_CHANGE (Fld.ne F_ordinal_w_MOVE_ACTIVITY F_ordinal_w_ALL (by decide)) (F_parent_w_MOVE_ACTIVITY.ext E') (E_w_ALL.ext E') (rm_step1_1 l Z a0 hw [] w_ALL w_ORDER_CHANGING_CHANGE h' n0 w_ALL (Fld.ne F_ordinal_w_ORDER_CHANGING_CHANGE F_ordinal_w_ALL (by decide)) (F_parent_w_ORDER_CHANGING_CHANGE.ext E') (E_w_ALL.ext E') (rm_same0 l Z a0 hw [] w_ALL h' n0))))
  · exact rm_lawS l Z a0 hw ws p1 p2 h0 n0 Z0 w_ALL w_ADDITIVE_CHANGE w_SUBTRACTIVE_CHANGE w_ORDER_CHANGING_CHANGE w_SERIAL_INSERT w_PARALLEL_INSERT w_DELETE_ACTIVITY w_MOVE_ACTIVITY hK 1 0 w_ADDITIVE_CHANGE w_ALL 0 hi hj (by decide) (by decide) rfl rfl E_w_ADDITIVE_CHANGE (by decide) (fun h' E' => (rm_root2 l Z a0 hw [] w_ADDITIVE_CHANGE w_ALL h' n0 (Fld.ne F_ordinal_w_ALL F_ordinal_w_ADDITIVE_CHANGE (by decide)) (F_parent_w_ALL.ext E')))
  · exact rm_lawS l Z a0 hw ws p1 p2 h0 n0 Z0 w_ALL w_ADDITIVE_CHANGE w_SUBTRACTIVE_CHANGE w_ORDER_CHANGING_CHANGE w_SERIAL_INSERT w_PARALLEL_INSERT w_DELETE_ACTIVITY w_MOVE_ACTIVITY hK 1 1 w_ADDITIVE_CHANGE w_ADDITIVE_CHANGE 1 hi hj (by decide) (by decide) rfl rfl E_w_ADDITIVE_CHANGE (by decide) (fun h' E' => (rm_same2 l Z a0 hw [] w_ADDITIVE_CHANGE h' n0))
  · exact rm_lawS l Z a0 hw ws p1 p2 h0 n0 Z0 w_ALL w_ADDITIVE_CHANGE w_SUBTRACTIVE_CHANGE w_ORDER_CHANGING_CHANGE w_SERIAL_INSERT w_PARALLEL_INSERT w_DELETE_ACTIVITY w_MOVE_ACTIVITY hK 1 2 w_ADDITIVE_CHANGE w_SUBTRACTIVE_CHANGE 0 hi hj (by decide) (by decide) rfl rfl E_w_ADDITIVE_CHANGE (by decide) (fun h' E' => (rm_step2_0 l Z a0 hw [] w_ADDITIVE_CHANGE w_SUBTRACTIVE_CHANGE h' n0 w_ALL (Fld.ne F_ordinal_w_SUBTRACTIVE_CHANGE F_ordinal_w_ADDITIVE_CHANGE (by decide)) (F_parent_w_SUBTRACTIVE_CHANGE.ext E') (E_w_ADDITIVE_CHANGE.ext E') (rm_root1 l Z a0 hw [] w_ADDITIVE_CHANGE w_ALL h' n0 (Fld.ne F_ordinal_w_ALL F_ordinal_w_ADDITIVE_CHANGE (by decide)) (F_parent_w_ALL.ext E'))))
  · exact rm_lawS l Z a0 hw ws p1 p2 h0 n0 Z0 w_ALL w_ADDITIVE_CHANGE w_SUBTRACTIVE_CHANGE w_ORDER_CHANGING_CHANGE w_SERIAL_INSERT w_PARALLEL_INSERT w_DELETE_ACTIVITY w_MOVE_ACTIVITY hK 1 3 w_ADDITIVE_CHANGE w_ORDER_CHANGING_CHANGE 0 hi hj (by decide) (by decide) rfl rfl E_w_ADDITIVE_CHANGE (by decide) (fun h' E' => (rm_step2_0 l Z a0 hw [] w_ADDITIVE_CHANGE w_ORDER_CHANGING_CHANGE h' n0 w_ALL (Fld.ne F_ordinal_w_ORDER_CHANGING_CHANGE F_ordinal_w_ADDITIVE_CHANGE (by decide)) (F_parent_w_ORDER_CHANGING_CHANGE.ext E') (E_w_ADDITIVE_CHANGE.ext E') (rm_root1 l Z a0 hw [] w_ADDITIVE_CHANGE w_ALL h' n0 (Fld.ne F_ordinal_w_ALL F_ordinal_w_ADDITIVE_CHANGE (by decide)) (F_parent_w_ALL.ext E'))))
  · exact rm_lawS l Z a0 hw ws p1 p2 h0 n0 Z0 w_ALL w_ADDITIVE_CHANGE w_SUBTRACTIVE_CHANGE w_ORDER_CHANGING_CHANGE w_SERIAL_INSERT w_PARALLEL_INSERT w_DELETE_ACTIVITY w_MOVE_ACTIVITY hK 1 4 w_ADDITIVE_CHANGE w_SERIAL_INSERT 1 hi hj (by decide) (by decide) rfl rfl E_w_ADDITIVE_CHANGE (by decide) (fun h' E' => (rm_step2_1 l Z a0 hw [] w_ADDITIVE_CHANGE w_SERIAL_INSERT h' n0 w_ADDITIVE_CHANGE (Fld.ne F_ordinal_w_SERIAL_INSERT F_ordinal_w_ADDITIVE_CHANGE (by decide)) (F_parent_w_SERIAL_INSERT.ext E') (E_w_ADDITIVE_CHANGE.ext E') (rm_same1 l Z a0 hw [] w_ADDITIVE_CHANGE h' n0)))
  · exact rm_lawS l Z a0 hw ws p1 p2 h0 n0 Z0 w_ALL w_ADDITIVE_CHANGE w_SUBTRACTIVE_CHANGE w_ORDER_CHANGING_CHANGE w_SERIAL_INSERT w_PARALLEL_INSERT w_DELETE_ACTIVITY w_MOVE_ACTIVITY hK 1 5 w_ADDITIVE_CHANGE w_PARALLEL_INSERT 1 hi hj (by decide) (by decide) rfl rfl E_w_ADDITIVE_CHANGE (by decide) (fun h' E' => (rm_step2_1 l Z a0 hw [] w_ADDITIVE_CHANGE w_PARALLEL_INSERT h' n0 w_ADDITIVE_CHANGE (Fld.ne F_ordinal_w_PARALLEL_INSERT F_ordinal_w_ADDITIVE_CHANGE (by decide)) (F_parent_w_PARALLEL_INSERT.ext E') (E_w_ADDITIVE_CHANGE.ext E') (rm_same1 l Z a0 hw [] w_ADDITIVE_CHANGE h' n0)))
  · exact rm_lawS l Z a0 hw ws p1 p2 h0 n0 Z0 w_ALL w_ADDITIVE_CHANGE w_SUBTRACTIVE_CHANGE w_ORDER_CHANGING_CHANGE w_SERIAL_INSERT w_PARALLEL_INSERT w_DELETE_ACTIVITY w_MOVE_ACTIVITY hK 1 6 w_ADDITIVE_CHANGE w_DELETE_ACTIVITY 0 hi hj (by decide) (by decide) rfl rfl E_w_ADDITIVE_CHANGE (by decide) (fun h' E' => (rm_step2_0 l Z a0 hw [] w_ADDITIVE_CHANGE w_DELETE_ACTIVITY h' n0 w_SUBTRACTIVE_CHANGE (Fld.ne F_ordinal_w_DELETE_ACTIVITY F_ordinal_w_ADDITIVE_CHANGE (by decide)) (F_parent_w_DELETE_ACTIVITY.ext E') (E_w_ADDITIVE_CHANGE.ext E') (rm_step1_0 l Z a0 hw [] w_ADDITIVE_CHANGE w_SUBTRACTIVE_CHANGE h' n0 w_ALL (Fld.ne F_ordinal_w_SUBTRACTIVE_CHANGE F_ordinal_w_ADDITIVE_CHANGE (by decide)) (F_parent_w_SUBTRACTIVE_CHANGE.ext E') (E_w_ADDITIVE_CHANGE.ext E') (rm_root0 l Z a0 hw [] w_ADDITIVE_CHANGE w_ALL h' n0 (Fld.ne F_ordinal_w_ALL F_ordinal_w_ADDITIVE_CHANGE (by decide)) (F_parent_w_ALL.ext E')))))
  · exact rm_lawS l Z a0 hw ws p1 p2 h0 n0 Z0 w_ALL w_ADDITIVE_CHANGE w_SUBTRACTIVE_CHANGE w_ORDER_CHANGING_CHANGE w_SERIAL_INSERT w_PARALLEL_INSERT w_DELETE_ACTIVITY w_MOVE_ACTIVITY hK 1 7 w_ADDITIVE_CHANGE w_MOVE_ACTIVITY 0 hi hj (by decide) (by decide) rfl rfl E_w_ADDITIVE_CHANGE (by decide) (fun h' E' => (rm_step2_0 l Z a0 hw [] w_ADDITIVE_CHANGE w_MOVE_ACTIVITY h' n0 w_ORDER_CHANGING_CHANGE (Fld.ne F_ordinal_w_MOVE_ACTIVITY F_ordinal_w_ADDITIVE_CHANGE (by decide)) (F_parent_w_MOVE_ACTIVITY.ext E') (E_w_ADDITIVE_CHANGE.ext E') (rm_step1_0 l Z a0 hw [] w_ADDITIVE_CHANGE w_ORDER_CHANGING_CHANGE h' n0 w_ALL (Fld.ne F_ordinal_w_ORDER_CHANGING_CHANGE F_ordinal_w_ADDITIVE_CHANGE (by decide)) (F_parent_w_ORDER_CHANGING_CHANGE.ext E') (E_w_ADDITIVE_CHANGE.ext E') (rm_root0 l Z a0 hw [] w_ADDITIVE_CHANGE w_ALL h' n0 (Fld.ne F_ordinal_w_ALL F_ordinal_w_ADDITIVE_CHANGE (by decide)) (F_parent_w_ALL.ext E')))))
  · exact rm_lawS l Z a0 hw ws p1 p2 h0 n0 Z0 w_ALL w_ADDITIVE_CHANGE w_SUBTRACTIVE_CHANGE w_ORDER_CHANGING_CHANGE w_SERIAL_INSERT w_PARALLEL_INSERT w_DELETE_ACTIVITY w_MOVE_ACTIVITY hK 2 0 w_SUBTRACTIVE_CHANGE w_ALL 0 hi hj (by decide) (by decide) rfl rfl E_w_SUBTRACTIVE_CHANGE (by decide) (fun h' E' => (rm_root2 l Z a0 hw [] w_SUBTRACTIVE_CHANGE w_ALL h' n0 (Fld.ne F_ordinal_w_ALL F_ordinal_w_SUBTRACTIVE_CHANGE (by decide)) (F_parent_w_ALL.ext E')))
  · exact rm_lawS l Z a0 hw ws p1 p2 h0 n0 Z0 w_ALL w_ADDITIVE_CHANGE w_SUBTRACTIVE_CHANGE w_ORDER_CHANGING_CHANGE w_SERIAL_INSERT w_PARALLEL_INSERT w_DELETE_ACTIVITY w_MOVE_ACTIVITY hK 2 1 w_SUBTRACTIVE_CHANGE w_ADDITIVE_CHANGE 0 hi hj (by decide) (by decide) rfl rfl E_w_SUBTRACTIVE_CHANGE (by decide) (fun h' E' => (rm_step2_0 l Z a0 hw [] w_SUBTRACTIVE_CHANGE w_ADDITIVE_CHANGE h' n0 w_ALL (Fld.ne F_ordinal_w_ADDITIVE_CHANGE F_ordinal_w_SUBTRACTIVE_CHANGE (by decide)) (F_parent_w_ADDITIVE_CHANGE.ext E') (E_w_SUBTRACTIVE_CHANGE.ext E') (rm_root1 l Z a0 hw [] w_SUBTRACTIVE_CHANGE w_ALL h' n0 (Fld.ne F_ordinal_w_ALL F_ordinal_w_SUBTRACTIVE_CHANGE (by decide)) (F_parent_w_ALL.ext E'))))
  · exact rm_lawS l Z a0 hw ws p1 p2 h0 n0 Z0 w_ALL w_ADDITIVE_CHANGE w_SUBTRACTIVE_CHANGE w_ORDER_CHANGING_CHANGE w_SERIAL_INSERT w_PARALLEL_INSERT w_DELETE_ACTIVITY w_MOVE_ACTIVITY hK 2 2 w_SUBTRACTIVE_CHANGE w_SUBTRACTIVE_CHANGE 1 hi hj (by decide) (by decide) rfl rfl E_w_SUBTRACTIVE_CHANGE (by decide) (fun h' E' => (rm_same2 l Z a0 hw [] w_SUBTRACTIVE_CHANGE h' n0))
  · exact rm_lawS l Z a0 hw ws p1 p2 h0 n0 Z0 w_ALL w_ADDITIVE_CHANGE w_SUBTRACTIVE_CHANGE w_ORDER_CHANGING_CHANGE w_SERIAL_INSERT w_PARALLEL_INSERT w_DELETE_ACTIVITY w_MOVE_ACTIVITY hK 2 3 w_SUBTRACTIVE_CHANGE w_ORDER_CHANGING_CHANGE 0 hi hj (by decide) (by decide) rfl rfl E_w_SUBTRACTIVE_CHANGE (by decide) (fun h' E' => (rm_step2_0 l Z a0 hw [] w_SUBTRACTIVE_CHANGE w_ORDER_CHANGING_CHANGE h' n0 w_ALL (Fld.ne F_ordinal_w_ORDER_CHANGING_CHANGE F_ordinal_w_SUBTRACTIVE_CHANGE (by decide)) (F_parent_w_ORDER_CHANGING_CHANGE.ext E') (E_w_SUBTRACTIVE_CHANGE.ext E') (rm_root1 l Z a0 hw [] w_SUBTRACTIVE_CHANGE w_ALL h' n0 (Fld.ne F_ordinal_w_ALL F_ordinal_w_SUBTRACTIVE_CHANGE (by decide)) (F_parent_w_ALL.ext E'))))
  · exact rm_lawS l Z a0 hw ws p1 p2 h0 n0 Z0 w_ALL w_ADDITIVE_CHANGE w_SUBTRACTIVE_CHANGE w_ORDER_CHANGING_CHANGE w_SERIAL_INSERT w_PARALLEL_INSERT w_DELETE_ACTIVITY w_MOVE_ACTIVITY hK 2 4 w_SUBTRACTIVE_CHANGE w_SERIAL_INSERT 0 hi hj (by decide) (by decide) rfl rfl E_w_SUBTRACTIVE_CHANGE (by decide) (fun h' E' => (rm_step2_0 l Z a0 hw [] w_SUBTRACTIVE_CHANGE w_SERIAL_INSERT h' n0 w_ADDITIVE_CHANGE (Fld.ne F_ordinal_w_SERIAL_INSERT F_ordinal_w_SUBTRACTIVE_CHANGE (by decide)) (F_parent_w_SERIAL_INSERT.ext E') (E_w_SUBTRACTIVE_CHANGE.ext E') (rm_step1_0 l Z a0 hw [] w_SUBTRACTIVE_CHANGE w_ADDITIVE_CHANGE h' n0 w_ALL (Fld.ne F_ordinal_w_ADDITIVE_CHANGE F_ordinal_w_SUBTRACTIVE_CHANGE (by decide)) (F_parent_w_ADDITIVE_CHANGE.ext E') (E_w_SUBTRACTIVE_CHANGE.ext E') (rm_root0 l Z a0 hw [] w_SUBTRACTIVE_CHANGE w_ALL h' n0 (Fld.ne F_ordinal_w_ALL F_ordinal_w_SUBTRACTIVE_CHANGE (by decide)) (F_parent_w_ALL.ext E')))))
  · exact rm_lawS l Z a0 hw ws p1 p2 h0 n0 Z0 w_ALL w_ADDITIVE_CHANGE w_SUBTRACTIVE_CHANGE w_ORDER_CHANGING_CHANGE w_SERIAL_INSERT w_PARALLEL_INSERT w_DELETE_ACTIVITY w_MOVE_ACTIVITY hK 2 5 w_SUBTRACTIVE_CHANGE w_PARALLEL_INSERT 0 hi hj (by decide) (by decide) rfl rfl E_w_SUBTRACTIVE_CHANGE (by decide) (fun h' E' => (rm_step2_0 l Z a0 hw [] w_SUBTRACTIVE_CHANGE w_PARALLEL_INSERT h' n0 w_ADDITIVE_CHANGE (Fld.ne F_ordinal_w_PARALLEL_INSERT F_ordinal_w_SUBTRACTIVE_CHANGE (by decide)) (F_parent_w_PARALLEL_INSERT.ext E') (E_w_SUBTRACTIVE_CHANGE.ext E') (rm_step1_0 l Z a0 hw [] w_SUBTRACTIVE_CHANGE w_ADDITIVE_CHANGE h' n0 w_ALL (Fld.ne F_ordinal_w_ADDITIVE_CHANGE F_ordinal_w_SUBTRACTIVE_CHANGE (by decide)) (F_parent_w_ADDITIVE_CHANGE.ext E') (E_w_SUBTRACTIVE_CHANGE.ext E') (rm_root0 l Z a0 hw [] w_SUBTRACTIVE_CHANGE w_ALL h' n0 (Fld.ne F_ordinal_w_ALL F_ordinal_w_SUBTRACTIVE_CHANGE (by decide)) (F_parent_w_ALL.ext E')))))
  · exact rm_lawS l Z a0 hw ws p1 p2 h0 n0 Z0 w_ALL w_ADDITIVE_CHANGE w_SUBTRACTIVE_CHANGE w_ORDER_CHANGING_CHANGE w_SERIAL_INSERT w_PARALLEL_INSERT w_DELETE_ACTIVITY w_MOVE_ACTIVITY hK 2 6 w_SUBTRACTIVE_CHANGE w_DELETE_ACTIVITY 1 hi hj (by decide) (by decide) rfl rfl E_w_SUBTRACTIVE_CHANGE (by decide) (fun h' E' => (rm_step2_1 l Z a0 hw [] w_SUBTRACTIVE_CHANGE w_DELETE_ACTIVITY h' n0 w_SUBTRACTIVE_CHANGE (Fld.ne F_ordinal_w_DELETE_ACTIVITY F_ordinal_w_SUBTRACTIVE_CHANGE (by decide)) (F_parent_w_DELETE_ACTIVITY.ext E') (E_w_SUBTRACTIVE_CHANGE.ext E') (rm_same1 l Z a0 hw [] w_SUBTRACTIVE_CHANGE h' n0)))
  · exact rm_lawS l Z a0 hw ws p1 p2 h0 n0 Z0 w_ALL w_ADDITIVE_CHANGE w_SUBTRACTIVE_CHANGE w_ORDER_CHANGING_CHANGE w_SERIAL_INSERT w_PARALLEL_INSERT w_DELETE_ACTIVITY w_MOVE_ACTIVITY hK 2 7 w_SUBTRACTIVE_CHANGE w_MOVE_ACTIVITY 0 hi hj (by decide) (by decide) rfl rfl E_w_SUBTRACTIVE_CHANGE (by decide) (fun h' E' => (rm_step2_0 l Z a0 hw [] w_SUBTRACTIVE_CHANGE w_MOVE_ACTIVITY h' n0 w_ORDER_CHANGING_CHANGE (Fld.ne F_ordinal_w_MOVE_ACTIVITY F_ordinal_w_SUBTRACTIVE_CHANGE (by decide)) (F_parent_w_MOVE_ACTIVITY.ext E') (E_w_SUBTRACTIVE_CHANGE.ext E') (rm_step1_0 l Z a0 hw [] w_SUBTRACTIVE_CHANGE w_ORDER_CHANGING_CHANGE h' n0 w_ALL (Fld.ne F_ordinal_w_ORDER_CHANGING_CHANGE F_ordinal_w_SUBTRACTIVE_CHANGE (by decide)) (F_parent_w_ORDER_CHANGING_CHANGE.ext E') (E_w_SUBTRACTIVE_CHANGE.ext E') (rm_root0 l Z a0 hw [] w_SUBTRACTIVE_CHANGE w_ALL h' n0 (Fld.ne F_ordinal_w_ALL F_ordinal_w_SUBTRACTIVE_CHANGE (by decide)) (F_parent_w_ALL.ext E')))))
  · exact rm_lawS l Z a0 hw ws p1 p2 h0 n0 Z0 w_ALL w_ADDITIVE_CHANGE w_SUBTRACTIVE_CHANGE w_ORDER_CHANGING_CHANGE w_SERIAL_INSERT w_PARALLEL_INSERT w_DELETE_ACTIVITY w_MOVE_ACTIVITY hK 3 0 w_ORDER_CHANGING_CHANGE w_ALL 0 hi hj (by decide) (by decide) rfl rfl E_w_ORDER_CHANGING_CHANGE (by decide) (fun h' E' => (rm_root2 l Z a0 hw [] w_ORDER_CHANGING_CHANGE w_ALL h' n0 (Fld.ne F_ordinal_w_ALL F_ordinal_w_ORDER_CHANGING_CHANGE (by decide)) (F_parent_w_ALL.ext E')))
  · exact rm_lawS l Z a0 hw ws p1 p2 h0 n0 Z0 w_ALL w_ADDITIVE_CHANGE w_SUBTRACTIVE_CHANGE w_ORDER_CHANGING_CHANGE w_SERIAL_INSERT w_PARALLEL_INSERT w_DELETE_ACTIVITY w_MOVE_ACTIVITY hK 3 1 w_ORDER_CHANGING_CHANGE w_ADDITIVE_CHANGE 0 hi hj (by decide) (by decide) rfl rfl E_w_ORDER_CHANGING_CHANGE (by decide) (fun h' E' => (rm_step2_0 l Z a0 hw [] w_ORDER_CHANGING_CHANGE w_ADDITIVE_CHANGE h' n0 w_ALL (Fld.ne F_ordinal_w_ADDITIVE_CHANGE F_ordinal_w_ORDER_CHANGING_CHANGE (by decide)) (F_parent_w_ADDITIVE_CHANGE.ext E') (E_w_ORDER_CHANGING_CHANGE.ext E') (rm_root1 l Z a0 hw [] w_ORDER_CHANGING_CHANGE w_ALL h' n0 (Fld.ne F_ordinal_w_ALL F_ordinal_w_ORDER_CHANGING_CHANGE (by decide)) (F_parent_w_ALL.ext E'))))
  · exact rm_lawS l Z a0 hw ws p1 p2 h0 n0 Z0 w_ALL w_ADDITIVE_CHANGE w_SUBTRACTIVE_CHANGE w_ORDER_CHANGING_CHANGE w_SERIAL_INSERT w_PARALLEL_INSERT w_DELETE_ACTIVITY w_MOVE_ACTIVITY hK 3 2 w_ORDER_CHANGING_CHANGE w_SUBTRACTIVE_CHANGE 0 hi hj (by decide) (by decide) rfl rfl E_w_ORDER_CHANGING_CHANGE (by decide) (fun h' E' => (rm_step2_0 l Z a0 hw [] w_ORDER_CHANGING_CHANGE w_SUBTRACTIVE_CHANGE h' n0 w_ALL (Fld.ne F_ordinal_w_SUBTRACTIVE_CHANGE F_ordinal_w_ORDER_CHANGING_CHANGE (by decide)) (F_parent_w_SUBTRACTIVE_CHANGE.ext E') (E_w_ORDER_CHANGING_CHANGE.ext E') (rm_root1 l Z a0 hw [] w_ORDER_CHANGING_CHANGE w_ALL h' n0 (Fld.ne F_ordinal_w_ALL F_ordinal_w_ORDER_CHANGING_CHANGE (by decide)) (F_parent_w_ALL.ext E'))))
  · exact rm_lawS l Z a0 hw ws p1 p2 h0 n0 Z0 w_ALL w_ADDITIVE_CHANGE w_SUBTRACTIVE_CHANGE w_ORDER_CHANGING_CHANGE w_SERIAL_INSERT w_PARALLEL_INSERT w_DELETE_ACTIVITY w_MOVE_ACTIVITY hK 3 3 w_ORDER_CHANGING_CHANGE w_ORDER_CHANGING_CHANGE 1 hi hj (by decide) (by decide) rfl rfl E_w_ORDER_CHANGING_CHANGE (by decide) (fun h' E' => (rm_same2 l Z a0 hw [] w_ORDER_CHANGING_CHANGE h' n0))
  · exact rm_lawS l Z a0 hw ws p1 p2 h0 n0 Z0 w_ALL w_ADDITIVE_CHANGE w_SUBTRACTIVE_CHANGE w_ORDER_CHANGING_CHANGE w_SERIAL_INSERT w_PARALLEL_INSERT w_DELETE_ACTIVITY w_MOVE_ACTIVITY hK 3 4 w_ORDER_CHANGING_CHANGE w_SERIAL_INSERT 0 hi hj (by decide) (by decide) rfl rfl E_w_ORDER_CHANGING_CHANGE (by decide) (fun h' E' => (rm_step2_0 l Z a0 hw [] w_ORDER_CHANGING_CHANGE w_SERIAL_INSERT h' n0 w_ADDITIVE_CHANGE (Fld.ne F_ordinal_w_SERIAL_INSERT F_ordinal_w_ORDER_CHANGING_CHANGE (by decide)) (F_parent_w_SERIAL_INSERT.ext E') (E_w_ORDER_CHANGING_CHANGE.ext E') (rm_step1_0 l Z a0 hw [] w_ORDER_CHANGING_CHANGE w_ADDITIVE_CHANGE h' n0 w_ALL (Fld.ne F_ordinal_w_ADDITIVE_CHANGE F_ordinal_w_ORDER_CHANGING_CHANGE (by decide)) (F_parent_w_ADDITIVE_CHANGE.ext E') (E_w_ORDER_CHANGING_CHANGE.ext E') (rm_root0 l Z a0 hw [] w_ORDER_CHANGING_CHANGE w_ALL h' n0 (Fld.ne F_ordinal_w_ALL F_ordinal_w_ORDER_CHANGING_CHANGE (by decide)) (F_parent_w_ALL.ext E')))))
  · exact rm_lawS l Z a0 hw ws p1 p2 h0 n0 Z0 w_ALL w_ADDITIVE_CHANGE w_SUBTRACTIVE_CHANGE w_ORDER_CHANGING_CHANGE w_SERIAL_INSERT w_PARALLEL_INSERT w_DELETE_ACTIVITY w_MOVE_ACTIVITY hK 3 5 w_ORDER_CHANGING_CHANGE w_PARALLEL_INSERT 0 hi hj (by decide) (by decide) rfl rfl E_w_ORDER_CHANGING_CHANGE (by decide) (fun h' E' => (rm_step2_0 l Z a0 hw [] w_ORDER_CHANGING_CHANGE w_PARALLEL_INSERT h' n0 w_ADDITIVE_CHANGE (Fld.ne F_ordinal_w_PARALLEL_INSERT F_ordinal_w_ORDER_CHANGING_CHANGE (by decide)) (F_parent_w_PARALLEL_INSERT.ext E') (E_w_ORDER_CHANGING_CHANGE.ext E') (rm_step1_0 l Z a0 hw [] w_ORDER_CHANGING_CHANGE w_ADDITIVE_CHANGE h' n0 w_ALL (Fld.ne F_ordinal_w_ADDITIVE_CHANGE F_ordinal_w_ORDER_CHANGING_CHANGE (by decide)) (F_parent_w_ADDITIVE_CHANGE.ext E') (E_w_ORDER_CHANGING_CHANGE.ext E') (rm_root0 l Z a0 hw [] w_ORDER_CHANGING_CHANGE w_ALL h' n0 (Fld.ne F_ordinal_w_ALL F_ordinal_w_ORDER_CHANGING_CHANGE (by decide)) (F_parent_w_ALL.ext E')))))
  · exact rm_lawS l Z a0 hw ws p1 p2 h0 n0 Z0 w_ALL w_ADDITIVE_CHANGE w_SUBTRACTIVE_CHANGE w_ORDER_CHANGING_CHANGE w_SERIAL_INSERT w_PARALLEL_INSERT w_DELETE_ACTIVITY w_MOVE_ACTIVITY hK 3 6 w_ORDER_CHANGING_CHANGE w_DELETE_ACTIVITY 0 hi hj (by decide) (by decide) rfl rfl E_w_ORDER_CHANGING_CHANGE (by decide) (fun h' E' => (rm_step2_0 l Z a0 hw [] w_ORDER_CHANGING_CHANGE w_DELETE_ACTIVITY h' n0 w_SUBTRACTIVE_CHANGE (Fld.ne F_ordinal_w_DELETE_ACTIVITY F_ordinal_w_ORDER_CHANGING_CHANGE (by decide)) (F_parent_w_DELETE_ACTIVITY.ext E') (E_w_ORDER_CHANGING_CHANGE.ext E') (rm_step1_0 l Z a0 hw [] w_ORDER_CHANGING_CHANGE w_SUBTRACTIVE_CHANGE h' n0 w_ALL (Fld.ne F_ordinal_w_SUBTRACTIVE_CHANGE F_ordinal_w_ORDER_CHANGING_CHANGE (by decide)) (F_parent_w_SUBTRACTIVE_CHANGE.ext E') (E_w_ORDER_CHANGING_CHANGE.ext E') (rm_root0 l Z a0 hw [] w_ORDER_CHANGING_CHANGE w_ALL h' n0 (Fld.ne F_ordinal_w_ALL F_ordinal_w_ORDER_CHANGING_CHANGE (by decide)) (F_parent_w_ALL.ext E')))))
  · exact rm_lawS l Z a0 hw ws p1 p2 h0 n0 Z0 w_ALL w_ADDITIVE_CHANGE w_SUBTRACTIVE_CHANGE w_ORDER_CHANGING_CHANGE w_SERIAL_INSERT w_PARALLEL_INSERT w_DELETE_ACTIVITY w_MOVE_ACTIVITY hK 3 7 w_ORDER_CHANGING_CHANGE w_MOVE_ACTIVITY 1 hi hj (by decide) (by decide) rfl rfl E_w_ORDER_CHANGING_CHANGE (by decide) (fun h' E' => (rm_step2_1 l Z a0 hw [] w_ORDER_CHANGING_CHANGE w_MOVE_ACTIVITY h' n0 w_ORDER_CHANGING_CHANGE (Fld.ne F_ordinal_w_MOVE_ACTIVITY F_ordinal_w_ORDER_CHANGING_CHANGE (by decide)) (F_parent_w_MOVE_ACTIVITY.ext E') (E_w_ORDER_CHANGING_CHANGE.ext E') (rm_same1 l Z a0 hw [] w_ORDER_CHANGING_CHANGE h' n0)))
  · exact rm_lawS l Z a0 hw ws p1 p2 h0 n0 Z0 w_ALL w_ADDITIVE_CHANGE w_SUBTRACTIVE_CHANGE w_ORDER_CHANGING_CHANGE w_SERIAL_INSERT w_PARALLEL_INSERT w_DELETE_ACTIVITY w_MOVE_ACTIVITY hK 4 0 w_SERIAL_INSERT w_ALL 0 hi hj (by decide) (by decide) rfl rfl E_w_SERIAL_INSERT (by decide) (fun h' E' => (rm_root2 l Z a0 hw [] w_SERIAL_INSERT w_ALL h' n0 (Fld.ne F_ordinal_w_ALL F_ordinal_w_SERIAL_INSERT (by decide)) (F_parent_w_ALL.ext E')))
  · exact rm_lawS l Z a0 hw ws p1 p2 h0 n0 Z0 w_ALL w_ADDITIVE_CHANGE w_SUBTRACTIVE_CHANGE w_ORDER_CHANGING_CHANGE w_SERIAL_INSERT w_PARALLEL_INSERT w_DELETE_ACTIVITY w_MOVE_ACTIVITY hK 4 1 w_SERIAL_INSERT w_ADDITIVE_CHANGE 0 hi hj (by decide) (by decide) rfl rfl E_w_SERIAL_INSERT (by decide) (fun h' E' => (rm_step2_0 l Z a0 hw [] w_SERIAL_INSERT w_ADDITIVE_CHANGE h' n0 w_ALL (Fld.ne F_ordinal_w_ADDITIVE_CHANGE F_ordinal_w_SERIAL_INSERT (by decide)) (F_parent_w_ADDITIVE_CHANGE.ext E') (E_w_SERIAL_INSERT.ext E') (rm_root1 l Z a0 hw [] w_SERIAL_INSERT w_ALL h' n0 (Fld.ne F_ordinal_w_ALL F_ordinal_w_SERIAL_INSERT (by decide)) (F_parent_w_ALL.ext E'))))
  · exact rm_lawS l Z a0 hw ws p1 p2 h0 n0 Z0 w_ALL w_ADDITIVE_CHANGE w_SUBTRACTIVE_CHANGE w_ORDER_CHANGING_CHANGE w_SERIAL_INSERT w_PARALLEL_INSERT w_DELETE_ACTIVITY w_MOVE_ACTIVITY hK 4 2 w_SERIAL_INSERT w_SUBTRACTIVE_CHANGE 0 hi hj (by decide) (by decide) rfl rfl E_w_SERIAL_INSERT (by decide) (fun h' E' => (rm_step2_0 l Z a0 hw [] w_SERIAL_INSERT w_SUBTRACTIVE_CHANGE h' n0 w_ALL (Fld.ne F_ordinal_w_SUBTRACTIVE_CHANGE F_ordinal_w_SERIAL_INSERT (by decide)) (F_parent_w_SUBTRACTIVE_CHANGE.ext E') (E_w_SERIAL_INSERT.ext E') (rm_root1 l Z a0 hw [] w_SERIAL_INSERT w_ALL h' n0 (Fld.ne F_ordinal_w_ALL F_ordinal_w_SERIAL_INSERT (by decide)) (F_parent_w_ALL.ext E'))))
  · exact rm_lawS l Z a0 hw ws p1 p2 h0 n0 Z0 w_ALL w_ADDITIVE_CHANGE w_SUBTRACTIVE_CHANGE w_ORDER_CHANGING_CHANGE w_SERIAL_INSERT w_PARALLEL_INSERT w_DELETE_ACTIVITY w_MOVE_ACTIVITY hK 4 3 w_SERIAL_INSERT w_ORDER_CHANGING_CHANGE 0 hi hj (by decide) (by decide) rfl rfl E_w_SERIAL_INSERT (by decide) (fun h' E' => (rm_step2_0 l Z a0 hw [] w_SERIAL_INSERT w_ORDER_CHANGING_CHANGE h' n0 w_ALL (Fld.ne F_ordinal_w_ORDER_CHANGING_CHANGE F_ordinal_w_SERIAL_INSERT (by decide)) (F_parent_w_ORDER_CHANGING_CHANGE.ext E') (E_w_SERIAL_INSERT.ext E') (rm_root1 l Z a0 hw [] w_SERIAL_INSERT w_ALL h' n0 (Fld.ne F_ordinal_w_ALL F_ordinal_w_SERIAL_INSERT (by decide)) (F_parent_w_ALL.ext E'))))
  · exact rm_lawS l Z a0 hw ws p1 p2 h0 n0 Z0 w_ALL w_ADDITIVE_CHANGE w_SUBTRACTIVE_CHANGE w_ORDER_CHANGING_CHANGE w_SERIAL_INSERT w_PARALLEL_INSERT w_DELETE_ACTIVITY w_MOVE_ACTIVITY hK 4 4 w_SERIAL_INSERT w_SERIAL_INSERT 1 hi hj (by decide) (by decide) rfl rfl E_w_SERIAL_INSERT (by decide) (fun h' E' => (rm_same2 l Z a0 hw [] w_SERIAL_INSERT h' n0))
  · exact rm_lawS l Z a0 hw ws p1 p2 h0 n0 Z0 w_ALL w_ADDITIVE_CHANGE w_SUBTRACTIVE_CHANGE w_ORDER_CHANGING_CHANGE w_SERIAL_INSERT w_PARALLEL_INSERT w_DELETE_ACTIVITY w_MOVE_ACTIVITY hK 4 5 w_SERIAL_INSERT w_PARALLEL_INSERT 0 hi hj (by decide) (by decide) rfl rfl E_w_SERIAL_INSERT (by decide) (fun h' E' => (rm_step2_0 l Z a0 hw [] w_SERIAL_INSERT w_PARALLEL_INSERT h' n0 w_ADDITIVE_CHANGE (Fld.ne F_ordinal_w_PARALLEL_INSERT F_ordinal_w_SERIAL_INSERT (by decide)) (F_parent_w_PARALLEL_INSERT.ext E') (E_w_SERIAL_INSERT.ext E') (rm_step1_0 l Z a0 hw [] w_SERIAL_INSERT w_ADDITIVE_CHANGE h' n0 w_ALL (Fld.ne F_ordinal_w_ADDITIVE_CHANGE F_ordinal_w_SERIAL_INSERT (by decide)) (F_parent_w_ADDITIVE_CHANGE.ext E') (E_w_SERIAL_INSERT.ext E') (rm_root0 l Z a0 hw [] w_SERIAL_INSERT w_ALL h' n0 (Fld.ne F_ordinal_w_ALL F_ordinal_w_SERIAL_INSERT (by decide)) (F_parent_w_ALL.ext E')))))
  · exact rm_lawS l Z a0 hw ws p1 p2 h0 n0 Z0 w_ALL w_ADDITIVE_CHANGE w_SUBTRACTIVE_CHANGE w_ORDER_CHANGING_CHANGE w_SERIAL_INSERT w_PARALLEL_INSERT w_DELETE_ACTIVITY w_MOVE_ACTIVITY hK 4 6 w_SERIAL_INSERT w_DELETE_ACTIVITY 0 hi hj (by decide) (by decide) rfl rfl E_w_SERIAL_INSERT (by decide) (fun h' E' => (rm_step2_0 l Z a0 hw [] w_SERIAL_INSERT w_DELETE_ACTIVITY h' n0 w_SUBTRACTIVE_CHANGE (Fld.ne F_ordinal_w_DELETE_ACTIVITY F_ordinal_w_SERIAL_INSERT (by decide)) (F_parent_w_DELETE_ACTIVITY.ext E') (E_w_SERIAL_INSERT.ext E') (rm_step1_0 l Z a0 hw [] w_SERIAL_INSERT w_SUBTRACTIVE_CHANGE h' n0 w_ALL (Fld.ne F_ordinal_w_SUBTRACTIVE_CHANGE F_ordinal_w_SERIAL_INSERT (by decide)) (F_parent_w_SUBTRACTIVE_CHANGE.ext E') (E_w_SERIAL_INSERT.ext E') (rm_root0 l Z a0 hw [] w_SERIAL_INSERT w_ALL h' n0 (Fld.ne F_ordinal_w_ALL F_ordinal_w_SERIAL_INSERT (by decide)) (F_parent_w_ALL.ext E')))))
  · exact rm_lawS l Z a0 hw ws p1 p2 h0 n0 Z0 w_ALL w_ADDITIVE_CHANGE w_SUBTRACTIVE_CHANGE w_ORDER_CHANGING_CHANGE w_SERIAL_INSERT w_PARALLEL_INSERT w_DELETE_ACTIVITY w_MOVE_ACTIVITY hK 4 7 w_SERIAL_INSERT w_MOVE_ACTIVITY 0 hi hj (by decide) (by decide) rfl rfl E_w_SERIAL_INSERT (by decide) (fun h' E' => (rm_step2_0 l Z a0 hw [] w_SERIAL_INSERT w_MOVE_ACTIVITY h' n0 w_ORDER_CHANGING_CHANGE (Fld.ne F_ordinal_w_MOVE_ACTIVITY F_ordinal_w_SERIAL_INSERT (by decide)) (F_parent_w_MOVE_ACTIVITY.ext E') (E_w_SERIAL_INSERT.ext E') (rm_step1_0 l Z a0 hw [] w_SERIAL_INSERT w_ORDER_CHANGING_CHANGE h' n0 w_ALL (Fld.ne F_ordinal_w_ORDER_CHANGING_CHANGE F_ordinal_w_SERIAL_INSERT (by decide)) (F_parent_w_ORDER_CHANGING_CHANGE.ext E') (E_w_SERIAL_INSERT.ext E') (rm_root0 l Z a0 hw [] w_SERIAL_INSERT w_ALL h' n0 (Fld.ne F_ordinal_w_ALL F_ordinal_w_SERIAL_INSERT (by decide)) (F_parent_w_ALL.ext E')))))
  · exact rm_lawS l Z a0 hw ws p1 p2 h0 n0 Z0 w_ALL w_ADDITIVE_CHANGE w_SUBTRACTIVE_CHANGE w_ORDER_CHANGING_CHANGE w_SERIAL_INSERT w_PARALLEL_INSERT w_DELETE_ACTIVITY w_MOVE_ACTIVITY hK 5 0 w_PARALLEL_INSERT w_ALL 0 hi hj (by decide) (by decide) rfl rfl E_w_PARALLEL_INSERT (by decide) (fun h' E' => (rm_root2 l Z a0 hw [] w_PARALLEL_INSERT w_ALL h' n0 (Fld.ne F_ordinal_w_ALL F_ordinal_w_PARALLEL_INSERT (by decide)) (F_parent_w_ALL.ext E')))
  · exact rm_lawS l Z a0 hw ws p1 p2 h0 n0 Z0 w_ALL w_ADDITIVE_CHANGE w_SUBTRACTIVE_CHANGE w_ORDER_CHANGING_CHANGE w_SERIAL_INSERT w_PARALLEL_INSERT w_DELETE_ACTIVITY w_MOVE_ACTIVITY hK 5 1 w_PARALLEL_INSERT w_ADDITIVE_CHANGE 0 hi hj (by decide) (by decide) rfl rfl E_w_PARALLEL_INSERT (by decide) (fun h' E' => (rm_step2_0 l Z a0 hw [] w_PARALLEL_INSERT w_ADDITIVE_CHANGE h' n0 w_ALL (Fld.ne F_ordinal_w_ADDITIVE_CHANGE F_ordinal_w_PARALLEL_INSERT (by decide)) (F_parent_w_ADDITIVE_CHANGE.ext E') (E_w_PARALLEL_INSERT.ext E') (rm_root1 l Z a0 hw [] w_PARALLEL_INSERT w_ALL h' n0 (Fld.ne F_ordinal_w_ALL F_ordinal_w_PARALLEL_INSERT (by decide)) (F_parent_w_ALL.ext E'))))
  · exact rm_lawS l Z a0 hw ws p1 p2 h0 n0 Z0 w_ALL w_ADDITIVE_CHANGE w_SUBTRACTIVE_CHANGE w_ORDER_CHANGING_CHANGE w_SERIAL_INSERT w_PARALLEL_INSERT w_DELETE_ACTIVITY w_MOVE_ACTIVITY hK 5 2 w_PARALLEL_INSERT w_SUBTRACTIVE_CHANGE 0 hi hj (by decide) (by decide) rfl rfl E_w_PARALLEL_INSERT (by decide) (fun h' E' => (rm_step2_0 l Z a0 hw [] w_PARALLEL_INSERT w_SUBTRACTIVE_CHANGE h' n0 w_ALL (Fld.ne F_ordinal_w_SUBTRACTIVE_CHANGE F_ordinal_w_PARALLEL_INSERT (by decide)) (F_parent_w_SUBTRACTIVE_CHANGE.ext E') (E_w_PARALLEL_INSERT.ext E') (rm_root1 l Z a0 hw [] w_PARALLEL_INSERT w_ALL h' n0 (Fld.ne F_ordinal_w_ALL F_ordinal_w_PARALLEL_INSERT (by decide)) (F_parent_w_ALL.ext E'))))
  · exact rm_lawS l Z a0 hw ws p1 p2 h0 n0 Z0 w_ALL w_ADDITIVE_CHANGE w_SUBTRACTIVE_CHANGE w_ORDER_CHANGING_CHANGE w_SERIAL_INSERT w_PARALLEL_INSERT w_DELETE_ACTIVITY w_MOVE_ACTIVITY hK 5 3 w_PARALLEL_INSERT w_ORDER_CHANGING_CHANGE 0 hi hj (by decide) (by decide) rfl rfl E_w_PARALLEL_INSERT (by decide) (fun h' E' => (rm_step2_0 l Z a0 hw [] w_PARALLEL_INSERT w_ORDER_CHANGING_CHANGE h' n0 w_ALL (Fld.ne F_ordinal_w_ORDER_CHANGING_CHANGE F_ordinal_w_PARALLEL_INSERT (by decide)) (F_parent_w_ORDER_CHANGING_CHANGE.ext E') (E_w_PARALLEL_INSERT.ext E') (rm_root1 l Z a0 hw [] w_PARALLEL_INSERT w_ALL h' n0 (Fld.ne F_ordinal_w_ALL F_ordinal_w_PARALLEL_INSERT (by decide)) (F_parent_w_ALL.ext E'))))
  · exact rm_lawS l Z a0 hw ws p1 p2 h0 n0 Z0 w_ALL w_ADDITIVE_CHANGE w_SUBTRACTIVE_CHANGE w_ORDER_CHANGING_CHANGE w_SERIAL_INSERT w_PARALLEL_INSERT w_DELETE_ACTIVITY w_MOVE_ACTIVITY hK 5 4 w_PARALLEL_INSERT w_SERIAL_INSERT 0 hi hj (by decide) (by decide) rfl rfl E_w_PARALLEL_INSERT (by decide) (fun h' E' => (rm_step2_0 l Z a0 hw [] w_PARALLEL_INSERT w_SERIAL_INSERT h' n0 w_ADDITIVE_CHANGE (Fld.ne F_ordinal_w_SERIAL_INSERT F_ordinal_w_PARALLEL_INSERT (by decide)) (F_parent_w_SERIAL_INSERT.ext E') (E_w_PARALLEL_INSERT.ext E') (rm_step1_0 l Z a0 hw [] w_PARALLEL_INSERT w_ADDITIVE_CHANGE h' n0 w_ALL (Fld.ne F_ordinal_w_ADDITIVE_CHANGE F_ordinal_w_PARALLEL_INSERT (by decide)) (F_parent_w_ADDITIVE_CHANGE.ext E') (E_w_PARALLEL_INSERT.ext E') (rm_root0 l Z a0 hw [] w_PARALLEL_INSERT w_ALL h' n0 (Fld.ne F_ordinal_w_ALL F_ordinal_w_PARALLEL_INSERT (by decide)) (F_parent_w_ALL.ext E')))))
  · exact rm_lawS l Z a0 hw ws p1 p2 h0 n0 Z0 w_ALL w_ADDITIVE_CHANGE w_SUBTRACTIVE_CHANGE w_ORDER_CHANGING_CHANGE w_SERIAL_INSERT w_PARALLEL_INSERT w_DELETE_ACTIVITY w_MOVE_ACTIVITY hK 5 5 w_PARALLEL_INSERT w_PARALLEL_INSERT 1 hi hj (by decide) (by decide) rfl rfl E_w_PARALLEL_INSERT (by decide) (fun h' E' => (rm_same2 l Z a0 hw [] w_PARALLEL_INSERT h' n0))
  · exact rm_lawS l Z a0 hw ws p1 p2 h0 n0 Z0 w_ALL w_ADDITIVE_CHANGE w_SUBTRACTIVE_CHANGE w_ORDER_CHANGING_CHANGE w_SERIAL_INSERT w_PARALLEL_INSERT w_DELETE_ACTIVITY w_MOVE_ACTIVITY hK 5 6 w_PARALLEL_INSERT w_DELETE_ACTIVITY 0 hi hj (by decide) (by decide) rfl rfl E_w_PARALLEL_INSERT (by decide) (fun h' E' => (rm_step2_0 l Z a0 hw [] w_PARALLEL_INSERT w_DELETE_ACTIVITY h' n0 w_SUBTRACTIVE_CHANGE (Fld.ne F_ordinal_w_DELETE_ACTIVITY F_ordinal_w_PARALLEL_INSERT (by decide)) (F_parent_w_DELETE_ACTIVITY.ext E') (E_w_PARALLEL_INSERT.ext E') (rm_step1_0 l Z a0 hw [] w_PARALLEL_INSERT w_SUBTRACTIVE_CHANGE h' n0 w_ALL (Fld.ne F_ordinal_w_SUBTRACTIVE_CHANGE F_ordinal_w_PARALLEL_INSERT (by decide)) (F_parent_w_SUBTRACTIVE_CHANGE.ext E') (E_w_PARALLEL_INSERT.ext E') (rm_root0 l Z a0 hw [] w_PARALLEL_INSERT w_ALL h' n0 (Fld.ne F_ordinal_w_ALL F_ordinal_w_PARALLEL_INSERT (by decide)) (F_parent_w_ALL.ext E')))))
  · exact rm_lawS l Z a0 hw ws p1 p2 h0 n0 Z0 w_ALL w_ADDITIVE_CHANGE w_SUBTRACTIVE_CHANGE w_ORDER_CHANGING_CHANGE w_SERIAL_INSERT w_PARALLEL_INSERT w_DELETE_ACTIVITY w_MOVE_ACTIVITY hK 5 7 w_PARALLEL_INSERT w_MOVE_ACTIVITY 0 hi hj (by decide) (by decide) rfl rfl E_w_PARALLEL_INSERT (by decide) (fun h' E' => (rm_step2_0 l Z a0 hw [] w_PARALLEL_INSERT w_MOVE_ACTIVITY h' n0 w_ORDER_CHANGING_CHANGE (Fld.ne F_ordinal_w_MOVE_ACTIVITY F_ordinal_w_PARALLEL_INSERT (by decide)) (F_parent_w_MOVE_ACTIVITY.ext E') (E_w_PARALLEL_INSERT.ext E') (rm_step1_0 l Z a0 hw [] w_PARALLEL_INSERT w_ORDER_CHANGING_CHANGE h' n0 w_ALL (Fld.ne F_ordinal_w_ORDER_CHANGING_CHANGE F_ordinal_w_PARALLEL_INSERT (by decide)) (F_parent_w_ORDER_CHANGING_CHANGE.ext E') (E_w_PARALLEL_INSERT.ext E') (rm_root0 l Z a0 hw [] w_PARALLEL_INSERT w_ALL h' n0 (Fld.ne F_ordinal_w_ALL F_ordinal_w_PARALLEL_INSERT (by decide)) (F_parent_w_ALL.ext E')))))
  · exact rm_lawS l Z a0 hw ws p1 p2 h0 n0 Z0 w_ALL w_ADDITIVE_CHANGE w_SUBTRACTIVE_CHANGE w_ORDER_CHANGING_CHANGE w_SERIAL_INSERT w_PARALLEL_INSERT w_DELETE_ACTIVITY w_MOVE_ACTIVITY hK 6 0 w_DELETE_ACTIVITY w_ALL 0 hi hj (by decide) (by decide) rfl rfl E_w_DELETE_ACTIVITY (by decide) (fun h' E' => (rm_root2 l Z a0 hw [] w_DELETE_ACTIVITY w_ALL h' n0 (Fld.ne F_ordinal_w_ALL F_ordinal_w_DELETE_ACTIVITY (by decide)) (F_parent_w_ALL.ext E')))
  · exact rm_lawS l Z a0 hw ws p1 p2 h0 n0 Z0 w_ALL w_ADDITIVE_CHANGE w_SUBTRACTIVE_CHANGE w_ORDER_CHANGING_CHANGE w_SERIAL_INSERT w_PARALLEL_INSERT w_DELETE_ACTIVITY w_MOVE_ACTIVITY hK 6 1 w_DELETE_ACTIVITY w_ADDITIVE_CHANGE 0 hi hj (by decide) (by decide) rfl rfl E_w_DELETE_ACTIVITY (by decide) (fun h' E' => (rm_step2_0 l Z a0 hw [] w_DELETE_ACTIVITY w_ADDITIVE_CHANGE h' n0 w_ALL (Fld.ne F_ordinal_w_ADDITIVE_CHANGE F_ordinal_w_DELETE_ACTIVITY (by decide)) (F_parent_w_ADDITIVE_CHANGE.ext E') (E_w_DELETE_ACTIVITY.ext E') (rm_root1 l Z a0 hw [] w_DELETE_ACTIVITY w_ALL h' n0 (Fld.ne F_ordinal_w_ALL F_ordinal_w_DELETE_ACTIVITY (by decide)) (F_parent_w_ALL.ext E'))))
  · exact rm_lawS l Z a0 hw ws p1 p2 h0 n0 Z0 w_ALL w_ADDITIVE_CHANGE w_SUBTRACTIVE_CHANGE w_ORDER_CHANGING_CHANGE w_SERIAL_INSERT w_PARALLEL_INSERT w_DELETE_ACTIVITY w_MOVE_ACTIVITY hK 6 2 w_DELETE_ACTIVITY w_SUBTRACTIVE_CHANGE 0 hi hj (by decide) (by decide) rfl rfl E_w_DELETE_ACTIVITY (by decide) (fun h' E' => (rm_step2_0 l Z a0 hw [] w_DELETE_ACTIVITY w_SUBTRACTIVE_CHANGE h' n0 w_ALL (Fld.ne F_ordinal_w_SUBTRACTIVE_CHANGE F_ordinal_w_DELETE_ACTIVITY (by decide)) (F_parent_w_SUBTRACTIVE_CHANGE.ext E') (E_w_DELETE_ACTIVITY.ext E') (rm_root1 l Z a0 hw [] w_DELETE_ACTIVITY w_ALL h' n0 (Fld.ne F_ordinal_w_ALL F_ordinal_w_DELETE_ACTIVITY (by decide)) (F_parent_w_ALL.ext E'))))
  · exact rm_lawS l Z a0 hw ws p1 p2 h0 n0 Z0 w_ALL w_ADDITIVE_CHANGE w_SUBTRACTIVE_CHANGE w_ORDER_CHANGING_CHANGE w_SERIAL_INSERT w_PARALLEL_INSERT w_DELETE_ACTIVITY w_MOVE_ACTIVITY hK 6 3 w_DELETE_ACTIVITY w_ORDER_CHANGING_CHANGE 0 hi hj (by decide) (by decide) rfl rfl E_w_DELETE_ACTIVITY (by decide) (fun h' E' => (rm_step2_0 l Z a0 hw [] w_DELETE_ACTIVITY w_ORDER_CHANGING_CHANGE h' n0 w_ALL (Fld.ne F_ordinal_w_ORDER_CHANGING_CHANGE F_ordinal_w_DELETE_ACTIVITY (by decide)) (F_parent_w_ORDER_CHANGING_CHANGE.ext E') (E_w_DELETE_ACTIVITY.ext E') (rm_root1 l Z a0 hw [] w_DELETE_ACTIVITY w_ALL h' n0 (Fld.ne F_ordinal_w_ALL F_ordinal_w_DELETE_ACTIVITY (by decide)) (F_parent_w_ALL.ext E'))))
  · exact rm_lawS l Z a0 hw ws p1 p2 h0 n0 Z0 w_ALL w_ADDITIVE_CHANGE w_SUBTRACTIVE_CHANGE w_ORDER_CHANGING_CHANGE w_SERIAL_INSERT w_PARALLEL_INSERT w_DELETE_ACTIVITY w_MOVE_ACTIVITY hK 6 4 w_DELETE_ACTIVITY w_SERIAL_INSERT 0 hi hj (by decide) (by decide) rfl rfl E_w_DELETE_ACTIVITY (by decide) (fun h' E' => (rm_step2_0 l Z a0 hw [] w_DELETE_ACTIVITY w_SERIAL_INSERT h' n0 w_ADDITIVE_CHANGE (Fld.ne F_ordinal_w_SERIAL_INSERT F_ordinal_w_DELETE_ACTIVITY (by decide)) (F_parent_w_SERIAL_INSERT.ext E') (E_w_DELETE_ACTIVITY.ext E') (rm_step1_0 l Z a0 hw [] w_DELETE_ACTIVITY w_ADDITIVE_CHANGE h' n0 w_ALL (Fld.ne F_ordinal_w_ADDITIVE_CHANGE F_ordinal_w_DELETE_ACTIVITY (by decide)) (F_parent_w_ADDITIVE_CHANGE.ext E') (E_w_DELETE_ACTIVITY.ext E') (rm_root0 l Z a0 hw [] w_DELETE_ACTIVITY w_ALL h' n0 (Fld.ne F_ordinal_w_ALL F_ordinal_w_DELETE_ACTIVITY (by decide)) (F_parent_w_ALL.ext E')))))
  · exact rm_lawS l Z a0 hw ws p1 p2 h0 n0 Z0 w_ALL w_ADDITIVE_CHANGE w_SUBTRACTIVE_CHANGE w_ORDER_CHANGING_CHANGE w_SERIAL_INSERT w_PARALLEL_INSERT w_DELETE_ACTIVITY w_MOVE_ACTIVITY hK 6 5 w_DELETE_ACTIVITY w_PARALLEL_INSERT 0 hi hj (by decide) (by decide) rfl rfl E_w_DELETE_ACTIVITY (by decide) (fun h' E' => (rm_step2_0 l Z a0 hw [] w_DELETE_ACTIVITY w_PARALLEL_INSERT h' n0 w_ADDITIVE_CHANGE (Fld.ne F_ordinal_w_PARALLEL_INSERT F_ordinal_w_DELETE_ACTIVITY (by decide)) (F_parent_w_PARALLEL_INSERT.ext E') (E_w_DELETE_ACTIVITY.ext E') (rm_step1_0 l Z a0 hw [] w_DELETE_ACTIVITY w_ADDITIVE_CHANGE h' n0 w_ALL (Fld.ne F_ordinal_w_ADDITIVE_CHANGE F_ordinal_w_DELETE_ACTIVITY (by decide)) (F_parent_w_ADDITIVE_CHANGE.ext E') (E_w_DELETE_ACTIVITY.ext E') (rm_root0 l Z a0 hw [] w_DELETE_ACTIVITY w_ALL h' n0 (Fld.ne F_ordinal_w_ALL F_ordinal_w_DELETE_ACTIVITY (by decide)) (F_parent_w_ALL.ext E')))))
  · exact rm_lawS l Z a0 hw ws p1 p2 h0 n0 Z0 w_ALL w_ADDITIVE_CHANGE w_SUBTRACTIVE_CHANGE w_ORDER_CHANGING_CHANGE w_SERIAL_INSERT w_PARALLEL_INSERT w_DELETE_ACTIVITY w_MOVE_ACTIVITY hK 6 6 w_DELETE_ACTIVITY w_DELETE_ACTIVITY 1 hi hj (by decide) (by decide) rfl rfl E_w_DELETE_ACTIVITY (by decide) (fun h' E' => (rm_same2 l Z a0 hw [] w_DELETE_ACTIVITY h' n0))
  · exact rm_lawS l Z a0 hw ws p1 p2 h0 n0 Z0 w_ALL w_ADDITIVE_CHANGE w_SUBTRACTIVE_CHANGE w_ORDER_CHANGING_CHANGE w_SERIAL_INSERT w_PARALLEL_INSERT w_DELETE_ACTIVITY w_MOVE_ACTIVITY hK 6 7 w_DELETE_ACTIVITY w_MOVE_ACTIVITY 0 hi hj (by decide) (by decide) rfl rfl E_w_DELETE_ACTIVITY (by decide) (fun h' E' => (rm_step2_0 l Z a0 hw [] w_DELETE_ACTIVITY w_MOVE_ACTIVITY h' n0 w_ORDER_CHANGING_CHANGE (Fld.ne F_ordinal_w_MOVE_ACTIVITY F_ordinal_w_DELETE_ACTIVITY (by decide)) (F_parent_w_MOVE_ACTIVITY.ext E') (E_w_DELETE_ACTIVITY.ext E') (rm_step1_0 l Z a0 hw [] w_DELETE_ACTIVITY w_ORDER_CHANGING_CHANGE h' n0 w_ALL (Fld.ne F_ordinal_w_ORDER_CHANGING_CHANGE F_ordinal_w_DELETE_ACTIVITY (by decide)) (F_parent_w_ORDER_CHANGING_CHANGE.ext E') (E_w_DELETE_ACTIVITY.ext E') (rm_root0 l Z a0 hw [] w_DELETE_ACTIVITY w_ALL h' n0 (Fld.ne F_ordinal_w_ALL F_ordinal_w_DELETE_ACTIVITY (by decide)) (F_parent_w_ALL.ext E')))))
  · exact rm_lawS l Z a0 hw ws p1 p2 h0 n0 Z0 w_ALL w_ADDITIVE_CHANGE w_SUBTRACTIVE_CHANGE w_ORDER_CHANGING_CHANGE w_SERIAL_INSERT w_PARALLEL_INSERT w_DELETE_ACTIVITY w_MOVE_ACTIVITY hK 7 0 w_MOVE_ACTIVITY w_ALL 0 hi hj (by decide) (by decide) rfl rfl E_w_MOVE_ACTIVITY (by decide) (fun h' E' => (rm_root2 l Z a0 hw [] w_MOVE_ACTIVITY w_ALL h' n0 (Fld.ne F_ordinal_w_ALL F_ordinal_w_MOVE_ACTIVITY (by decide)) (F_parent_w_ALL.ext E')))
  · exact rm_lawS l Z a0 hw ws p1 p2 h0 n0 Z0 w_ALL w_ADDITIVE_CHANGE w_SUBTRACTIVE_CHANGE w_ORDER_CHANGING_CHANGE w_SERIAL_INSERT w_PARALLEL_INSERT w_DELETE_ACTIVITY w_MOVE_ACTIVITY hK 7 1 w_MOVE_ACTIVITY w_ADDITIVE_CHANGE 0 hi hj (by decide) (by decide) rfl rfl E_w_MOVE_ACTIVITY (by decide) (fun h' E' => (rm_step2_0 l Z a0 hw [] w_MOVE_ACTIVITY w_ADDITIVE_CHANGE h' n0 w_ALL (Fld.ne F_ordinal_w_ADDITIVE_CHANGE F_ordinal_w_MOVE_ACTIVITY (by decide)) (F_parent_w_ADDITIVE_CHANGE.ext E') (E_w_MOVE_ACTIVITY.ext E') (rm_root1 l Z a0 hw [] w_MOVE_ACTIVITY w_ALL h' n0 (Fld.ne F_ordinal_w_ALL F_ordinal_w_MOVE_ACTIVITY (by decide)) (F_parent_w_ALL.ext E'))))
  · exact rm_lawS l Z a0 hw ws p1 p2 h0 n0 Z0 w_ALL w_ADDITIVE_CHANGE w_SUBTRACTIVE_CHANGE w_ORDER_CHANGING_CHANGE w_SERIAL_INSERT w_PARALLEL_INSERT w_DELETE_ACTIVITY w_MOVE_ACTIVITY hK 7 2 w_MOVE_ACTIVITY w_SUBTRACTIVE_CHANGE 0 hi hj (by decide) (by decide) rfl rfl E_w_MOVE_ACTIVITY (by decide) (fun h' E' => (rm_step2_0 l Z a0 hw [] w_MOVE_ACTIVITY w_SUBTRACTIVE_CHANGE h' n0 w_ALL (Fld.ne F_ordinal_w_SUBTRACTIVE_CHANGE F_ordinal_w_MOVE_ACTIVITY (by decide)) (F_parent_w_SUBTRACTIVE_CHANGE.ext E') (E_w_MOVE_ACTIVITY.ext E') (rm_root1 l Z a0 hw [] w_MOVE_ACTIVITY w_ALL h' n0 (Fld.ne F_ordinal_w_ALL F_ordinal_w_MOVE_ACTIVITY (by decide)) (F_parent_w_ALL.ext E'))))
  · exact rm_lawS l Z a0 hw ws p1 p2 h0 n0 Z0 w_ALL w_ADDITIVE_CHANGE w_SUBTRACTIVE_CHANGE w_ORDER_CHANGING_CHANGE w_SERIAL_INSERT w_PARALLEL_INSERT w_DELETE_ACTIVITY w_MOVE_ACTIVITY hK 7 3 w_MOVE_ACTIVITY w_ORDER_CHANGING_CHANGE 0 hi hj (by decide) (by decide) rfl rfl E_w_MOVE_ACTIVITY (by decide) (fun h' E' => (rm_step2_0 l Z a0 hw [] w_MOVE_ACTIVITY w_ORDER_CHANGING_CHANGE h' n0 w_ALL (Fld.ne F_ordinal_w_ORDER_CHANGING_CHANGE F_ordinal_w_MOVE_ACTIVITY (by decide)) (F_parent_w_ORDER_CHANGING_CHANGE.ext E') (E_w_MOVE_ACTIVITY.ext E') (rm_root1 l Z a0 hw [] w_MOVE_ACTIVITY w_ALL h' n0 (Fld.ne F_ordinal_w_ALL F_ordinal_w_MOVE_ACTIVITY (by decide)) (F_parent_w_ALL.ext E'))))
  · exact rm_lawS l Z a0 hw ws p1 p2 h0 n0 Z0 w_ALL w_ADDITIVE_CHANGE w_SUBTRACTIVE_CHANGE w_ORDER_CHANGING_CHANGE w_SERIAL_INSERT w_PARALLEL_INSERT w_DELETE_ACTIVITY w_MOVE_ACTIVITY hK 7 4 w_MOVE_ACTIVITY w_SERIAL_INSERT 0 hi hj (by decide) (by decide) rfl rfl E_w_MOVE_ACTIVITY (by decide) (fun h' E' => (rm_step2_0 l Z a0 hw [] w_MOVE_ACTIVITY w_SERIAL_INSERT h' n0 w_ADDITIVE_CHANGE (Fld.ne F_ordinal_w_SERIAL_INSERT F_ordinal_w_MOVE_ACTIVITY (by decide)) (F_parent_w_SERIAL_INSERT.ext E') (E_w_MOVE_ACTIVITY.ext E') (rm_step1_0 l Z a0 hw [] w_MOVE_ACTIVITY w_ADDITIVE_CHANGE h' n0 w_ALL (Fld.ne F_ordinal_w_ADDITIVE_CHANGE F_ordinal_w_MOVE_ACTIVITY (by decide)) (F_parent_w_ADDITIVE_CHANGE.ext E') (E_w_MOVE_ACTIVITY.ext E') (rm_root0 l Z a0 hw [] w_MOVE_ACTIVITY w_ALL h' n0 (Fld.ne F_ordinal_w_ALL F_ordinal_w_MOVE_ACTIVITY (by decide)) (F_parent_w_ALL.ext E')))))
  · exact rm_lawS l Z a0 hw ws p1 p2 h0 n0 Z0 w_ALL w_ADDITIVE_CHANGE w_SUBTRACTIVE_CHANGE w_ORDER_CHANGING_CHANGE w_SERIAL_INSERT w_PARALLEL_INSERT w_DELETE_ACTIVITY w_MOVE_ACTIVITY hK 7 5 w_MOVE_ACTIVITY w_PARALLEL_INSERT 0 hi hj (by decide) (by decide) rfl rfl E_w_MOVE_ACTIVITY (by decide) (fun h' E' => (rm_step2_0 l Z a0 hw [] w_MOVE_ACTIVITY w_PARALLEL_INSERT h' n0 w_ADDITIVE_CHANGE (Fld.ne F_ordinal_w_PARALLEL_INSERT F_ordinal_w_MOVE_ACTIVITY (by decide)) (F_parent_w_PARALLEL_INSERT.ext E') (E_w_MOVE_ACTIVITY.ext E') (rm_step1_0 l Z a0 hw [] w_MOVE_ACTIVITY w_ADDITIVE_CHANGE h' n0 w_ALL (Fld.ne F_ordinal_w_ADDITIVE_CHANGE F_ordinal_w_MOVE_ACTIVITY (by decide)) (F_parent_w_ADDITIVE_CHANGE.ext E') (E_w_MOVE_ACTIVITY.ext E') (rm_root0 l Z a0 hw [] w_MOVE_ACTIVITY w_ALL h' n0 (Fld.ne F_ordinal_w_ALL F_ordinal_w_MOVE_ACTIVITY (by decide)) (F_parent_w_ALL.ext E')))))
  · exact rm_lawS l Z a0 hw ws p1 p2 h0 n0 Z0 w_ALL w_ADDITIVE_CHANGE w_SUBTRACTIVE_CHANGE w_ORDER_CHANGING_CHANGE w_SERIAL_INSERT w_PARALLEL_INSERT w_DELETE_ACTIVITY w_MOVE_ACTIVITY hK 7 6 w_MOVE_ACTIVITY w_DELETE_ACTIVITY 0 hi hj (by decide) (by decide) rfl rfl E_w_MOVE_ACTIVITY (by decide) (fun h' E' => (rm_step2_0 l Z a0 hw [] w_MOVE_ACTIVITY w_DELETE_ACTIVITY h' n0 w_SUBTRACTIVE_CHANGE (Fld.ne F_ordinal_w_DELETE_ACTIVITY F_ordinal_w_MOVE_ACTIVITY (by decide)) (F_parent_w_DELETE_ACTIVITY.ext E') (E_w_MOVE_ACTIVITY.ext E') (rm_step1_0 l Z a0 hw [] w_MOVE_ACTIVITY w_SUBTRACTIVE_CHANGE h' n0 w_ALL (Fld.ne F_ordinal_w_SUBTRACTIVE_CHANGE F_ordinal_w_MOVE_ACTIVITY (by decide)) (F_parent_w_SUBTRACTIVE_CHANGE.ext E') (E_w_MOVE_ACTIVITY.ext E') (rm_root0 l Z a0 hw [] w_MOVE_ACTIVITY w_ALL h' n0 (Fld.ne F_ordinal_w_ALL F_ordinal_w_MOVE_ACTIVITY (by decide)) (F_parent_w_ALL.ext E')))))
  · exact rm_lawS l Z a0 hw ws p1 p2 h0 n0 Z0 w_ALL w_ADDITIVE_CHANGE w_SUBTRACTIVE_CHANGE w_ORDER_CHANGING_CHANGE w_SERIAL_INSERT w_PARALLEL_INSERT w_DELETE_ACTIVITY w_MOVE_ACTIVITY hK 7 7 w_MOVE_ACTIVITY w_MOVE_ACTIVITY 1 hi hj (by decide) (by decide) rfl rfl E_w_MOVE_ACTIVITY (by decide) (fun h' E' => (rm_same2 l Z a0 hw [] w_MOVE_ACTIVITY h' n0))
set_option maxRecDepth 65536 in
set_option maxHeartbeats 40000000 in
theorem comes_1 {Post : Tables → Env → Array Value → State → Outcome → State → Prop} (hpost : ∀ tb e args s v u, (limb_1_1.after args s (.returned v) u = true ∧ limb_1_2.after args s (.returned v) u = true ∧ True) → FrameEnd s (.returned v) u (Jvm.fieldLocs frame_1_writes args s ++ Jvm.arrayLocs frame_1_arrays args s ++ Jvm.staticLocs frame_1_statics s) 16 128 → Post tb e args s (.returned v) u) :
    ArmFor flags0 classFile x code maxLocals ret World_1 tables_1 room_1 Calls_1 rest_1 Pre_1 Post := by
  intro l hfl _ _ p e ha hc hk s m args below hf hA hF happ hP
  obtain ⟨hcalls, hrest, hpre⟩ := hP
  obtain ⟨-, -, -, hnamed, -, -, -, hat⟩ := (Spec.applies_iff hf).mp happ
  obtain ⟨hg, hn⟩ := and_e (Cond.before_iff.mp (show (Jvm.Cond.and given_1 narrow_1).before args s = true from hpre))
  obtain ⟨g0, hg⟩ := and_e hg
  obtain ⟨g1, hg⟩ := and_e hg
  obtain ⟨w0, w1, rfl⟩ : ∃ w0 w1 : Value, args = #[w0, w1] := by
    have hs : args.size = 2 := by simpa [Cond.value, given_1] using g0
    obtain ⟨L⟩ := args
    match L, hs with
    | [w0, w1], _ => exact ⟨w0, w1, rfl⟩
  have hw := fun d (hd : d ∈ tables_1) => atoms_spec (ws := Jvm.Cond.code x code maxLocals ret :: tables_1) hat d (List.mem_cons_of_mem _ hd)
  have hfit : Fit s := fun {y c} hc i hi => by
    obtain ⟨ha, rfl⟩ := Array.getElem?_eq_some_iff.mp hc
    have q := List.all_eq_true.mp ((Array.all_eq_true_iff_forall_mem.mp hF) _ (Array.getElem_mem ha)) i (List.mem_range.mpr hi)
    simpa [Array.getElem?_eq_getElem hi] using q
  obtain ⟨i0, ei0⟩ := is_v g1
  obtain rfl : w0 = (.int i0) := Option.some.inj ei0
  obtain ⟨i1, ei1⟩ := is_v hg
  obtain rfl : w1 = (.int i1) := Option.some.inj ei1
  obtain ⟨c0, hn⟩ := and_e hn
  obtain ⟨w_ALL, v_w_ALL⟩ := exa_v c0
  have S_w_ALL := Sta.start v_w_ALL (Or.inr ⟨(hw _ (ow 3 rfl)), (hw _ (ow 4 rfl))⟩)
  have E_w_ALL := Exa.start v_w_ALL c0
  obtain ⟨c1, hn⟩ := and_e hn
  obtain ⟨w_ADDITIVE_CHANGE, v_w_ADDITIVE_CHANGE⟩ := exa_v c1
  have S_w_ADDITIVE_CHANGE := Sta.start v_w_ADDITIVE_CHANGE (Or.inr ⟨(hw _ (ow 3 rfl)), (hw _ (ow 7 rfl))⟩)
  have E_w_ADDITIVE_CHANGE := Exa.start v_w_ADDITIVE_CHANGE c1
  obtain ⟨c2, hn⟩ := and_e hn
  obtain ⟨w_SUBTRACTIVE_CHANGE, v_w_SUBTRACTIVE_CHANGE⟩ := exa_v c2
  have S_w_SUBTRACTIVE_CHANGE := Sta.start v_w_SUBTRACTIVE_CHANGE (Or.inr ⟨(hw _ (ow 3 rfl)), (hw _ (ow 9 rfl))⟩)
  have E_w_SUBTRACTIVE_CHANGE := Exa.start v_w_SUBTRACTIVE_CHANGE c2
  obtain ⟨c3, hn⟩ := and_e hn
  obtain ⟨w_ORDER_CHANGING_CHANGE, v_w_ORDER_CHANGING_CHANGE⟩ := exa_v c3
  have S_w_ORDER_CHANGING_CHANGE := Sta.start v_w_ORDER_CHANGING_CHANGE (Or.inr ⟨(hw _ (ow 3 rfl)), (hw _ (ow 11 rfl))⟩)
  have E_w_ORDER_CHANGING_CHANGE := Exa.start v_w_ORDER_CHANGING_CHANGE c3
  obtain ⟨c4, hn⟩ := and_e hn
  obtain ⟨w_SERIAL_INSERT, v_w_SERIAL_INSERT⟩ := exa_v c4
  have S_w_SERIAL_INSERT := Sta.start v_w_SERIAL_INSERT (Or.inr ⟨(hw _ (ow 3 rfl)), (hw _ (ow 13 rfl))⟩)
  have E_w_SERIAL_INSERT := Exa.start v_w_SERIAL_INSERT c4
  obtain ⟨c5, hn⟩ := and_e hn
  obtain ⟨w_PARALLEL_INSERT, v_w_PARALLEL_INSERT⟩ := exa_v c5
  have S_w_PARALLEL_INSERT := Sta.start v_w_PARALLEL_INSERT (Or.inr ⟨(hw _ (ow 3 rfl)), (hw _ (ow 15 rfl))⟩)
  have E_w_PARALLEL_INSERT := Exa.start v_w_PARALLEL_INSERT c5
  obtain ⟨c6, hn⟩ := and_e hn
  obtain ⟨w_DELETE_ACTIVITY, v_w_DELETE_ACTIVITY⟩ := exa_v c6
  have S_w_DELETE_ACTIVITY := Sta.start v_w_DELETE_ACTIVITY (Or.inr ⟨(hw _ (ow 3 rfl)), (hw _ (ow 17 rfl))⟩)
  have E_w_DELETE_ACTIVITY := Exa.start v_w_DELETE_ACTIVITY c6
  obtain ⟨c7, hn⟩ := and_e hn
  obtain ⟨w_MOVE_ACTIVITY, v_w_MOVE_ACTIVITY⟩ := exa_v c7
  have S_w_MOVE_ACTIVITY := Sta.start v_w_MOVE_ACTIVITY (Or.inr ⟨(hw _ (ow 3 rfl)), (hw _ (ow 19 rfl))⟩)
  have E_w_MOVE_ACTIVITY := Exa.start v_w_MOVE_ACTIVITY c7
  obtain ⟨c8, hn⟩ := and_e hn
  have F_ordinal_w_ORDER_CHANGING_CHANGE := Fld.start ((fld_at v_w_ORDER_CHANGING_CHANGE).symm.trans (own_eqI c8))
  obtain ⟨c9, hn⟩ := and_e hn
  have F_ordinal_w_ALL := Fld.start ((fld_at v_w_ALL).symm.trans (own_eqI c9))
  obtain ⟨c10, hn⟩ := and_e hn
  have F_parent_w_ORDER_CHANGING_CHANGE := Fld.start ((fld_at v_w_ORDER_CHANGING_CHANGE).symm.trans (own_eqR c10 v_w_ALL))
  obtain ⟨c11, hn⟩ := and_e hn
  have F_ordinal_w_ADDITIVE_CHANGE := Fld.start ((fld_at v_w_ADDITIVE_CHANGE).symm.trans (own_eqI c11))
  obtain ⟨c12, hn⟩ := and_e hn
  have F_ordinal_w_DELETE_ACTIVITY := Fld.start ((fld_at v_w_DELETE_ACTIVITY).symm.trans (own_eqI c12))
  obtain ⟨c13, hn⟩ := and_e hn
  have F_parent_w_ADDITIVE_CHANGE := Fld.start ((fld_at v_w_ADDITIVE_CHANGE).symm.trans (own_eqR c13 v_w_ALL))
  obtain ⟨c14, hn⟩ := and_e hn
  have F_parent_w_ALL := Fld.start ((fld_at v_w_ALL).symm.trans (null_v c14))
  obtain ⟨c15, hn⟩ := and_e hn
  have F_ordinal_w_SERIAL_INSERT := Fld.start ((fld_at v_w_SERIAL_INSERT).symm.trans (own_eqI c15))
  obtain ⟨c16, hn⟩ := and_e hn
  have F_parent_w_SERIAL_INSERT := Fld.start ((fld_at v_w_SERIAL_INSERT).symm.trans (own_eqR c16 v_w_ADDITIVE_CHANGE))
  obtain ⟨c17, hn⟩ := and_e hn
  have F_ordinal_w_MOVE_ACTIVITY := Fld.start ((fld_at v_w_MOVE_ACTIVITY).symm.trans (own_eqI c17))
  obtain ⟨c18, hn⟩ := and_e hn
  have F_parent_w_MOVE_ACTIVITY := Fld.start ((fld_at v_w_MOVE_ACTIVITY).symm.trans (own_eqR c18 v_w_ORDER_CHANGING_CHANGE))
  obtain ⟨c19, hn⟩ := and_e hn
  have F_ordinal_w_PARALLEL_INSERT := Fld.start ((fld_at v_w_PARALLEL_INSERT).symm.trans (own_eqI c19))
  obtain ⟨c20, hn⟩ := and_e hn
  have F_parent_w_PARALLEL_INSERT := Fld.start ((fld_at v_w_PARALLEL_INSERT).symm.trans (own_eqR c20 v_w_ADDITIVE_CHANGE))
  obtain ⟨c21, hn⟩ := and_e hn
  have F_parent_w_DELETE_ACTIVITY := Fld.start ((fld_at v_w_DELETE_ACTIVITY).symm.trans (own_eqR c21 v_w_SUBTRACTIVE_CHANGE))
  obtain ⟨c22, hn⟩ := and_e hn
  have F_ordinal_w_SUBTRACTIVE_CHANGE := Fld.start ((fld_at v_w_SUBTRACTIVE_CHANGE).symm.trans (own_eqI c22))
  have F_parent_w_SUBTRACTIVE_CHANGE := Fld.start ((fld_at v_w_SUBTRACTIVE_CHANGE).symm.trans (own_eqR hn v_w_ALL))
  have hK : own_K s s.heap w_ALL w_ADDITIVE_CHANGE w_SUBTRACTIVE_CHANGE w_ORDER_CHANGING_CHANGE w_SERIAL_INSERT w_PARALLEL_INSERT w_DELETE_ACTIVITY w_MOVE_ACTIVITY := ⟨S_w_ALL, E_w_ALL, S_w_ADDITIVE_CHANGE, E_w_ADDITIVE_CHANGE, S_w_SUBTRACTIVE_CHANGE, E_w_SUBTRACTIVE_CHANGE, S_w_ORDER_CHANGING_CHANGE, E_w_ORDER_CHANGING_CHANGE, S_w_SERIAL_INSERT, E_w_SERIAL_INSERT, S_w_PARALLEL_INSERT, E_w_PARALLEL_INSERT, S_w_DELETE_ACTIVITY, E_w_DELETE_ACTIVITY, S_w_MOVE_ACTIVITY, E_w_MOVE_ACTIVITY, F_ordinal_w_ORDER_CHANGING_CHANGE, F_ordinal_w_ALL, F_parent_w_ORDER_CHANGING_CHANGE, F_ordinal_w_ADDITIVE_CHANGE, F_ordinal_w_DELETE_ACTIVITY, F_parent_w_ADDITIVE_CHANGE, F_parent_w_ALL, F_ordinal_w_SERIAL_INSERT, F_parent_w_SERIAL_INSERT, F_ordinal_w_MOVE_ACTIVITY, F_parent_w_MOVE_ACTIVITY, F_ordinal_w_PARALLEL_INSERT, F_parent_w_PARALLEL_INSERT, F_parent_w_DELETE_ACTIVITY, F_ordinal_w_SUBTRACTIVE_CHANGE, F_parent_w_SUBTRACTIVE_CHANGE⟩
  obtain ⟨n, o, h1, h2, h3, _, L, rfl, ⟨rfl, N, -⟩, hq⟩ := rm_law l s _ hw tables_1 i0 i1 s.heap s.heap.size (Nat.le_refl _) w_ALL w_ADDITIVE_CHANGE w_SUBTRACTIVE_CHANGE w_ORDER_CHANGING_CHANGE w_SERIAL_INSERT w_PARALLEL_INSERT w_DELETE_ACTIVITY w_MOVE_ACTIVITY hK p e ha hc hk s m _ below hf ((Spec.applies_iff_loose hf).mp happ).1 ⟨rfl, State.Warmed39.refl s, rfl⟩ trivial
  refine ⟨n, _, h1, h2, h3, hpost _ _ _ _ _ _ ⟨Cond.after_iff.mpr rfl, Cond.after_iff.mpr (eq_i res_at (Term.int_eval (1)) rfl), trivial⟩ ⟨hq.1, hq.2.1, (hq.2.2.sift fun y hy => Or.inr (N y hy)).mono (by decide) (by decide)⟩⟩
theorem main_1_1 : Claimed_1_1 := comes_1 fun _ _ _ _ _ _ h hF => ⟨h.1, hF⟩
theorem main_1_2 : Claimed_1_2 := comes_1 fun _ _ _ _ _ _ h hF => ⟨h.2.1, hF⟩
end Jvm.Pilot.@@N@@
namespace Jvm.Pilot.@@N@@
open Jvm Jvm.ClassFile Sem Op Lib Jvm.Free Jvm.Stand Jvm.Pilot.@@N@@.Jvm.D
/-! MADE BY PROGRAM (witnessworld.py) out of the Statement's table words and the real class files: 13 classes; the members and pool entries that the words name. The judged class is class 1, her method 3. -/
namespace start1
open Jvm.ClassFile
def u (s : String) : CpInfo := .utf8 (stringToUtf16 s)
/-- a pool by its gaps: so many unusable entries, then the entry; so many at the end -/
def gap : Nat → List CpInfo → List CpInfo
  | 0, r => r
  | n + 1, r => .unusable :: gap n r
def poolList (es : List (Nat × CpInfo)) (last : Nat) : List CpInfo := es.foldr (fun e r => gap e.1 (e.2 :: r)) (gap last [])
def pool (es : List (Nat × CpInfo)) (last : Nat) : Array CpInfo := ⟨poolList es last⟩
def fileOf (pool : Array CpInfo) (this : Nat) (attrs : Array Attribute := #[]) (ms : Array MethodInfo := #[]) (fl : Nat := 33) (sup : Nat := 0) (ifs : Array Nat := #[]) (fds : Array FieldInfo := #[]) : ClassFile where
  minorVersion := 0
  majorVersion := 65
  constantPool := pool
  accessFlags := fl
  thisClass := this
  superClass := sup
  interfaces := ifs
  fields := fds
  methods := ms
  attributes := attrs
def plain (name : String) (sup : Option ClassId) : Class where
  name := name
  kind := .ordinary
  loader := none
  accessFlags := 33
  super := sup
  interfaces := #[]
  cf := none
  fields := #[]
  methods := #[]
  instanceTypes := #[]
  staticTypes := #[]
  resolved := #[]
  callSites := []
  init := .initialized
  statics := none
  mirror := none

def pool0 : Array CpInfo := pool [(5, u "<init>"), (0, u "()V"), (1, .class_ 10), (1, u "java/lang/Object")] 113

def k0m0 : Method := { name := "<init>", desc := "()V", sig := { parameters := [], returnType := none }, accessFlags := 1, code := none }
/-- java/lang/Object -/
def k0 : Class := { plain "java/lang/Object" none with
  accessFlags := 33
  interfaces := #[]
  cf := some (fileOf pool0 8 #[] #[{ accessFlags := 1, nameIndex := 5, descriptorIndex := 6, attributes := #[] }] 33 0 #[] #[])
  fields := #[]
  methods := #[k0m0]
  instanceTypes := #[]
  staticTypes := #[]
  resolved := Array.replicate 124 none
  statics := none }

def pool1 : Array CpInfo := pool [(2, .class_ 4), (1, u "java/lang/Object"), (0, u "<init>"), (0, u "()V"), (0, .methodref 8 9), (0, .class_ 10), (0, .nameAndType 11 12), (0, u "com/example/live_rbac/liverbac/ChangeCommandIncludesPinLaw"), (0, u "family"), (0, u "(I)I"), (0, .class_ 14), (0, u "com/example/live_rbac/liverbac/ChangeCommand"), (0, .fieldref 13 16), (0, .nameAndType 17 18), (0, u "ALL"), (0, u "Lcom/example/live_rbac/liverbac/ChangeCommand;"), (0, .fieldref 13 20), (0, .nameAndType 21 18), (0, u "ADDITIVE_CHANGE"), (0, .fieldref 13 23), (0, .nameAndType 24 18), (0, u "SUBTRACTIVE_CHANGE"), (0, .fieldref 13 26), (0, .nameAndType 27 18), (0, u "ORDER_CHANGING_CHANGE"), (0, .fieldref 13 29), (0, .nameAndType 30 18), (0, u "SERIAL_INSERT"), (0, .fieldref 13 32), (0, .nameAndType 33 18), (0, u "PARALLEL_INSERT"), (0, .fieldref 13 35), (0, .nameAndType 36 18), (0, u "DELETE_ACTIVITY"), (0, .fieldref 13 38), (0, .nameAndType 39 18), (0, u "MOVE_ACTIVITY"), (0, .methodref 13 41), (0, .nameAndType 42 43), (0, u "includes"), (0, u "(Lcom/example/live_rbac/liverbac/ChangeCommand;)Z"), (0, .methodref 8 45), (0, .nameAndType 46 47), (0, u "expected"), (0, u "(II)Z"), (3, u "law")] 4

def k1m0 : Method := { name := "<init>", desc := "()V", sig := { parameters := [], returnType := none }, accessFlags := 1, code := none }
def k1c1 : Code := { maxStack := 2, maxLocals := 1, code := method_2_code, exceptionTable := #[], attributes := #[] }
def k1m1 : Method := { name := "family", desc := "(I)I", sig := { parameters := [.int], returnType := some .int }, accessFlags := 10, code := some k1c1 }
def k1c2 : Code := { maxStack := 2, maxLocals := 2, code := method_3_code, exceptionTable := #[], attributes := #[] }
def k1m2 : Method := { name := "expected", desc := "(II)Z", sig := { parameters := [.int, .int], returnType := some .boolean }, accessFlags := 10, code := some k1c2 }
def k1c3 : Code := { maxStack := 4, maxLocals := 6, code := code, exceptionTable := #[], attributes := #[] }
def k1m3 : Method := { name := "law", desc := "(II)Z", sig := { parameters := [.int, .int], returnType := some .boolean }, accessFlags := 9, code := some k1c3 }
/-- com/example/live_rbac/liverbac/ChangeCommandIncludesPinLaw -/
def k1 : Class := { plain "com/example/live_rbac/liverbac/ChangeCommandIncludesPinLaw" (some 0) with
  accessFlags := 49
  interfaces := #[]
  cf := some (fileOf pool1 8 #[] #[{ accessFlags := 1, nameIndex := 5, descriptorIndex := 6, attributes := #[] }, { accessFlags := 10, nameIndex := 11, descriptorIndex := 12, attributes := #[] }, { accessFlags := 10, nameIndex := 46, descriptorIndex := 47, attributes := #[] }, { accessFlags := 9, nameIndex := 51, descriptorIndex := 47, attributes := #[] }] 49 2 #[] #[])
  fields := #[]
  methods := #[k1m0, k1m1, k1m2, k1m3]
  instanceTypes := #[]
  staticTypes := #[]
  resolved := Array.replicate 56 none
  statics := none }

def pool2 : Array CpInfo := pool [(1, .class_ 2), (0, u "java/lang/constant/Constable"), (0, .class_ 4), (0, u "java/lang/Object")] 6

/-- java/lang/constant/Constable -/
def k2 : Class := { plain "java/lang/constant/Constable" (some 0) with
  accessFlags := 1537
  interfaces := #[]
  cf := some (fileOf pool2 1 #[] #[] 1537 3 #[] #[])
  fields := #[]
  methods := #[]
  instanceTypes := #[]
  staticTypes := #[]
  resolved := Array.replicate 11 none
  statics := none }

def pool3 : Array CpInfo := pool [(1, .class_ 2), (0, u "java/lang/Comparable"), (0, .class_ 4), (0, u "java/lang/Object")] 7

/-- java/lang/Comparable -/
def k3 : Class := { plain "java/lang/Comparable" (some 0) with
  accessFlags := 1537
  interfaces := #[]
  cf := some (fileOf pool3 1 #[] #[] 1537 3 #[] #[])
  fields := #[]
  methods := #[]
  instanceTypes := #[]
  staticTypes := #[]
  resolved := Array.replicate 12 none
  statics := none }

def pool4 : Array CpInfo := pool [(1, .class_ 2), (0, u "java/io/Serializable"), (0, .class_ 4), (0, u "java/lang/Object")] 2

/-- java/io/Serializable -/
def k4 : Class := { plain "java/io/Serializable" (some 0) with
  accessFlags := 1537
  interfaces := #[]
  cf := some (fileOf pool4 1 #[] #[] 1537 3 #[] #[])
  fields := #[]
  methods := #[]
  instanceTypes := #[]
  staticTypes := #[]
  resolved := Array.replicate 7 none
  statics := none }

def pool5 : Array CpInfo := pool [(2, .class_ 4), (1, u "java/lang/Enum"), (0, u "name"), (0, u "Ljava/lang/String;"), (2, u "ordinal"), (0, u "I"), (1, .class_ 14), (1, u "java/lang/Object"), (4, u "hash"), (86, .class_ 108), (1, u "java/lang/Enum$EnumDesc"), (2, .class_ 112), (0, u "java/lang/constant/Constable"), (0, .class_ 114), (0, u "java/lang/Comparable"), (0, .class_ 116), (0, u "java/io/Serializable")] 87

/-- java/lang/Enum -/
def k5 : Class := { plain "java/lang/Enum" (some 0) with
  accessFlags := 1057
  interfaces := #[2, 3, 4]
  cf := some (fileOf pool5 2 #[.nestMembers #[106]] #[] 1057 12 #[111, 113, 115] #[{ accessFlags := 18, nameIndex := 5, descriptorIndex := 6, attributes := #[] }, { accessFlags := 18, nameIndex := 9, descriptorIndex := 10, attributes := #[] }, { accessFlags := 2, nameIndex := 19, descriptorIndex := 10, attributes := #[] }])
  fields := #[{ name := "name", type := (.object "java/lang/String"), accessFlags := 18, slot := 0, constantValue := 0 }, { name := "ordinal", type := .int, accessFlags := 18, slot := 1, constantValue := 0 }, { name := "hash", type := .int, accessFlags := 2, slot := 2, constantValue := 0 }]
  methods := #[]
  instanceTypes := #[(.object "java/lang/String"), .int, .int]
  staticTypes := #[]
  resolved := Array.replicate 204 none
  statics := none }

def pool6 : Array CpInfo := pool [(1, .class_ 2), (0, u "com/example/live_rbac/liverbac/ChangeCommand"), (2, u "ALL"), (0, u "Lcom/example/live_rbac/liverbac/ChangeCommand;"), (2, u "ADDITIVE_CHANGE"), (2, u "SUBTRACTIVE_CHANGE"), (2, u "ORDER_CHANGING_CHANGE"), (2, u "SERIAL_INSERT"), (2, u "PARALLEL_INSERT"), (2, u "DELETE_ACTIVITY"), (2, u "MOVE_ACTIVITY"), (2, u "$VALUES"), (0, u "[Lcom/example/live_rbac/liverbac/ChangeCommand;"), (6, .class_ 40), (1, u "java/lang/Enum"), (8, u "word"), (0, u "Ljava/lang/String;"), (0, .fieldref 1 52), (0, .nameAndType 53 6), (0, u "parent"), (2, u "family"), (0, u "Ljava/util/Set;"), (12, u "LEAVES"), (0, .methodref 1 72), (0, .nameAndType 73 74), (0, u "includes"), (0, u "(Lcom/example/live_rbac/liverbac/ChangeCommand;)Z"), (2, u "KINDS"), (0, u "Ljava/util/Map;")] 182

def k6c0 : Code := { maxStack := 2, maxLocals := 2, code := prog_1_method_6_code, exceptionTable := #[], attributes := #[] }
def k6m0 : Method := { name := "includes", desc := "(Lcom/example/live_rbac/liverbac/ChangeCommand;)Z", sig := { parameters := [(.object "com/example/live_rbac/liverbac/ChangeCommand")], returnType := some .boolean }, accessFlags := 1, code := some k6c0 }
/-- com/example/live_rbac/liverbac/ChangeCommand -/
def k6 : Class := { plain "com/example/live_rbac/liverbac/ChangeCommand" (some 5) with
  accessFlags := 16433
  interfaces := #[]
  cf := some (fileOf pool6 1 #[] #[{ accessFlags := 1, nameIndex := 73, descriptorIndex := 74, attributes := #[] }] 16433 38 #[] #[{ accessFlags := 16409, nameIndex := 5, descriptorIndex := 6, attributes := #[] }, { accessFlags := 16409, nameIndex := 9, descriptorIndex := 6, attributes := #[] }, { accessFlags := 16409, nameIndex := 12, descriptorIndex := 6, attributes := #[] }, { accessFlags := 16409, nameIndex := 15, descriptorIndex := 6, attributes := #[] }, { accessFlags := 16409, nameIndex := 18, descriptorIndex := 6, attributes := #[] }, { accessFlags := 16409, nameIndex := 21, descriptorIndex := 6, attributes := #[] }, { accessFlags := 16409, nameIndex := 24, descriptorIndex := 6, attributes := #[] }, { accessFlags := 16409, nameIndex := 27, descriptorIndex := 6, attributes := #[] }, { accessFlags := 26, nameIndex := 77, descriptorIndex := 78, attributes := #[] }, { accessFlags := 26, nameIndex := 70, descriptorIndex := 57, attributes := #[] }, { accessFlags := 18, nameIndex := 49, descriptorIndex := 50, attributes := #[] }, { accessFlags := 18, nameIndex := 53, descriptorIndex := 6, attributes := #[] }, { accessFlags := 18, nameIndex := 56, descriptorIndex := 57, attributes := #[] }, { accessFlags := 4122, nameIndex := 30, descriptorIndex := 31, attributes := #[] }])
  fields := #[{ name := "ALL", type := (.object "com/example/live_rbac/liverbac/ChangeCommand"), accessFlags := 16409, slot := 0, constantValue := 0 }, { name := "ADDITIVE_CHANGE", type := (.object "com/example/live_rbac/liverbac/ChangeCommand"), accessFlags := 16409, slot := 1, constantValue := 0 }, { name := "SUBTRACTIVE_CHANGE", type := (.object "com/example/live_rbac/liverbac/ChangeCommand"), accessFlags := 16409, slot := 2, constantValue := 0 }, { name := "ORDER_CHANGING_CHANGE", type := (.object "com/example/live_rbac/liverbac/ChangeCommand"), accessFlags := 16409, slot := 3, constantValue := 0 }, { name := "SERIAL_INSERT", type := (.object "com/example/live_rbac/liverbac/ChangeCommand"), accessFlags := 16409, slot := 4, constantValue := 0 }, { name := "PARALLEL_INSERT", type := (.object "com/example/live_rbac/liverbac/ChangeCommand"), accessFlags := 16409, slot := 5, constantValue := 0 }, { name := "DELETE_ACTIVITY", type := (.object "com/example/live_rbac/liverbac/ChangeCommand"), accessFlags := 16409, slot := 6, constantValue := 0 }, { name := "MOVE_ACTIVITY", type := (.object "com/example/live_rbac/liverbac/ChangeCommand"), accessFlags := 16409, slot := 7, constantValue := 0 }, { name := "KINDS", type := (.object "java/util/Map"), accessFlags := 26, slot := 8, constantValue := 0 }, { name := "LEAVES", type := (.object "java/util/Set"), accessFlags := 26, slot := 9, constantValue := 0 }, { name := "word", type := (.object "java/lang/String"), accessFlags := 18, slot := 3, constantValue := 0 }, { name := "parent", type := (.object "com/example/live_rbac/liverbac/ChangeCommand"), accessFlags := 18, slot := 4, constantValue := 0 }, { name := "family", type := (.object "java/util/Set"), accessFlags := 18, slot := 5, constantValue := 0 }, { name := "$VALUES", type := (.array (.object "com/example/live_rbac/liverbac/ChangeCommand")), accessFlags := 4122, slot := 10, constantValue := 0 }]
  methods := #[k6m0]
  instanceTypes := #[(.object "java/lang/String"), .int, .int, (.object "java/lang/String"), (.object "com/example/live_rbac/liverbac/ChangeCommand"), (.object "java/util/Set")]
  staticTypes := #[(.object "com/example/live_rbac/liverbac/ChangeCommand"), (.object "com/example/live_rbac/liverbac/ChangeCommand"), (.object "com/example/live_rbac/liverbac/ChangeCommand"), (.object "com/example/live_rbac/liverbac/ChangeCommand"), (.object "com/example/live_rbac/liverbac/ChangeCommand"), (.object "com/example/live_rbac/liverbac/ChangeCommand"), (.object "com/example/live_rbac/liverbac/ChangeCommand"), (.object "com/example/live_rbac/liverbac/ChangeCommand"), (.object "java/util/Map"), (.object "java/util/Set"), (.array (.object "com/example/live_rbac/liverbac/ChangeCommand"))]
  resolved := Array.replicate 261 none
  statics := some 0 }

def pool7 : Array CpInfo := pool [(1, u "java/lang/Cloneable"), (0, .class_ 1), (0, u "java/lang/Object"), (0, .class_ 3)] 3

/-- java/lang/Cloneable -/
def k7 : Class := { plain "java/lang/Cloneable" (some 0) with
  accessFlags := 1537
  interfaces := #[]
  cf := some (fileOf pool7 2 #[] #[] 1537 4 #[] #[])
  fields := #[]
  methods := #[]
  instanceTypes := #[]
  staticTypes := #[]
  resolved := Array.replicate 8 none
  statics := none }

/-- the primitive byte -/
def k8 : Class := { plain "byte" none with kind := .primitive 'B', accessFlags := 0x411 }
/-- [B -/
def k9 : Class := { plain "[B" (some 0) with kind := .array 8 .byte, interfaces := #[7, 4], accessFlags := 1041 }

/-- the primitive int -/
def k10 : Class := { plain "int" none with kind := .primitive 'I', accessFlags := 0x411 }
/-- [I -/
def k11 : Class := { plain "[I" (some 0) with kind := .array 10 .int, interfaces := #[7, 4], accessFlags := 1041 }

/-- [Lcom/example/live_rbac/liverbac/ChangeCommand; -/
def k12 : Class := { plain "[Lcom/example/live_rbac/liverbac/ChangeCommand;" (some 0) with kind := .array 6 (.object "com/example/live_rbac/liverbac/ChangeCommand"), interfaces := #[7, 4], accessFlags := 1041 }

def heap : Heap := #[{ cls := 6, slots := #[.ref 1, .ref 2, .ref 3, .ref 4, .ref 5, .ref 6, .ref 7, .ref 8, .null, .null, .null], vm := .statics 6 },
  { cls := 6, slots := #[.null, .int 0, .int 0, .null, .null, .null], vm := .none },
  { cls := 6, slots := #[.null, .int 1, .int 0, .null, .ref 1, .null], vm := .none },
  { cls := 6, slots := #[.null, .int 2, .int 0, .null, .ref 1, .null], vm := .none },
  { cls := 6, slots := #[.null, .int 3, .int 0, .null, .ref 1, .null], vm := .none },
  { cls := 6, slots := #[.null, .int 4, .int 0, .null, .ref 2, .null], vm := .none },
  { cls := 6, slots := #[.null, .int 5, .int 0, .null, .ref 2, .null], vm := .none },
  { cls := 6, slots := #[.null, .int 6, .int 0, .null, .ref 3, .null], vm := .none },
  { cls := 6, slots := #[.null, .int 7, .int 0, .null, .ref 4, .null], vm := .none }]
def classes : Array Class := #[k0, k1, k2, k3, k4, k5, k6, k7, k8, k9, k10, k11, k12]
def interned : List (Array UInt16 × Addr) := []
def slotsUsed : Nat := 59
def theMethod : MethodId := ⟨1, 3⟩
def args0 : Array Value := #[.int 5, .int 4]
def aboutOver (below : List Frame) : State where
  vm := { classes := classes, interned := interned.toArray }
  heap := heap
  slotsUsed := slotsUsed
  threads := #[{ frames := .invoking theMethod args0 :: below }]
def below0 : List Frame := [.native { method := ⟨0, 0⟩, args := #[] }]
def about1 : State := aboutOver below0
def p0 : Program := .bare "" "" ""
def e0 : Env := launch0.env 0 0 0
theorem w_frames : about1.frames = Frame.invoking theMethod args0 :: below0 := rfl
set_option maxRecDepth 65536 in
theorem w_args : argsFit about1.vm theMethod args0 = true := by decide +kernel
set_option maxRecDepth 65536 in
theorem w_heap : heapFits about1 = true := by decide +kernel
set_option maxRecDepth 65536 in
theorem w_runnable : about1.curStatus? = some .runnable := by decide +kernel
set_option maxRecDepth 65536 in
theorem w_alone : about1.alone = true := by decide +kernel
set_option maxRecDepth 65536 in
theorem w_named : about1.methodNamed? x = some theMethod := by decide +kernel
set_option maxRecDepth 65536 in
theorem w_hears : about1.hears theMethod below0 = true := by decide +kernel
set_option maxRecDepth 65536 in
theorem w_ripe : about1.ripe theMethod args0 below0 = true := by decide +kernel
theorem w_running : about1.status = .running := rfl
set_option maxRecDepth 65536 in
theorem w_room : about1.hasRoom e0.platform room_1 = true :=
  launch0.hasRoom_least _ room_1 (by decide +kernel) (by decide +kernel) (by decide +kernel) (by decide +kernel) (by decide +kernel) (by decide +kernel)
theorem allAtoms_all (ts : List Jvm.Cond) (a : Array Jvm.Value) (st : Jvm.State) : (allAtoms ts).before a st = ts.all (fun c => c.before a st) := by
  induction ts with
  | nil => rfl
  | cons c t ih =>
    show (Jvm.Cond.and c (allAtoms t)).before a st = _
    rw [Jvm.Cond.before_and, ih, List.all_cons]
def words1 : List Jvm.Cond := Jvm.Cond.code x code maxLocals ret :: tables_1
/-- a 'code' word, met by the world's own term for the bytes: nothing is compared byte by byte -/
theorem code_word {y : MethodName} {bytes : ByteArray} {mx : Nat} {rt : Option FieldType} {a : Array Value} {s : State} {m : MethodId} {meth : Method} {c : Code} (h1 : s.methodNamed? y = some m) (h2 : s.vm.method? m = some meth) (h3 : meth.code = some c) (h4 : c.code = bytes)
    (h5 : (c.maxLocals == mx && c.exceptionTable.isEmpty && decide (c.maxStack ≤ mostOperands) && decide (meth.sig.returnType = rt) && !meth.locks && decide (parseMethodDescriptor y.desc = some meth.sig)) = true) : (Jvm.Cond.code y bytes mx rt).before a s = true := by
  simp only [Bool.and_eq_true, beq_iff_eq, Bool.not_eq_true', decide_eq_true_eq] at h5
  obtain ⟨⟨⟨⟨⟨g1, g2⟩, g3⟩, g4⟩, g5⟩, g6⟩ := h5
  simp [Cond.before, Cond.holds, Cond.value, h1, h2, h3, h4, g1, g2, g3, g4, g5, g6]
def isCode : Jvm.Cond → Bool
  | .code _ _ _ _ => true
  | _ => false
theorem all_split {L : List Jvm.Cond} {P : Jvm.Cond → Bool} (h1 : L.all (fun c => isCode c || P c) = true) (h2 : ∀ c ∈ L.filter isCode, P c = true) : L.all P = true := by
  refine List.all_eq_true.mpr fun c hc => ?_
  have h := List.all_eq_true.mp h1 c hc
  rcases Bool.eq_false_or_eq_true (isCode c) with hi | hi
  · exact h2 c (List.mem_filter.mpr ⟨hc, hi⟩)
  · simpa [hi] using h
set_option maxRecDepth 65536 in
theorem w_c0 : (Jvm.Cond.code x code maxLocals ret).before args0 about1 = true := code_word (m := ⟨1, 3⟩) (meth := k1m3) (c := k1c3) (by decide +kernel) rfl rfl rfl (by decide +kernel)
set_option maxRecDepth 65536 in
theorem w_c1 : (Jvm.Cond.code ({ cls := "com/example/live_rbac/liverbac/ChangeCommand", name := "includes", desc := "(Lcom/example/live_rbac/liverbac/ChangeCommand;)Z" } : Jvm.MethodName) prog_1_method_6_code (2 : Nat) (Option.some Jvm.ClassFile.FieldType.boolean)).before args0 about1 = true := code_word (m := ⟨6, 0⟩) (meth := k6m0) (c := k6c0) (by decide +kernel) rfl rfl rfl (by decide +kernel)
set_option maxRecDepth 65536 in
theorem w_c2 : (Jvm.Cond.code ({ cls := "com/example/live_rbac/liverbac/ChangeCommandIncludesPinLaw", name := "expected", desc := "(II)Z" } : Jvm.MethodName) method_3_code (2 : Nat) (Option.some Jvm.ClassFile.FieldType.boolean)).before args0 about1 = true := code_word (m := ⟨1, 2⟩) (meth := k1m2) (c := k1c2) (by decide +kernel) rfl rfl rfl (by decide +kernel)
set_option maxRecDepth 65536 in
theorem w_c3 : (Jvm.Cond.code ({ cls := "com/example/live_rbac/liverbac/ChangeCommandIncludesPinLaw", name := "family", desc := "(I)I" } : Jvm.MethodName) method_2_code (1 : Nat) (Option.some Jvm.ClassFile.FieldType.int)).before args0 about1 = true := code_word (m := ⟨1, 1⟩) (meth := k1m1) (c := k1c1) (by decide +kernel) rfl rfl rfl (by decide +kernel)
def codes1 : List Jvm.Cond := [Jvm.Cond.code x code maxLocals ret, Jvm.Cond.code ({ cls := "com/example/live_rbac/liverbac/ChangeCommand", name := "includes", desc := "(Lcom/example/live_rbac/liverbac/ChangeCommand;)Z" } : Jvm.MethodName) prog_1_method_6_code (2 : Nat) (Option.some Jvm.ClassFile.FieldType.boolean), Jvm.Cond.code ({ cls := "com/example/live_rbac/liverbac/ChangeCommandIncludesPinLaw", name := "expected", desc := "(II)Z" } : Jvm.MethodName) method_3_code (2 : Nat) (Option.some Jvm.ClassFile.FieldType.boolean), Jvm.Cond.code ({ cls := "com/example/live_rbac/liverbac/ChangeCommandIncludesPinLaw", name := "family", desc := "(I)I" } : Jvm.MethodName) method_2_code (1 : Nat) (Option.some Jvm.ClassFile.FieldType.int)]
set_option maxRecDepth 65536 in
theorem codes_eq : words1.filter isCode = codes1 := rfl
theorem w_codes : ∀ c ∈ words1.filter isCode, c.before args0 about1 = true := by
  rw [codes_eq]
  intro c hc
  simp only [codes1, List.mem_cons, List.not_mem_nil, or_false] at hc
  rcases hc with rfl | rfl | rfl | rfl
  · exact w_c0
  · exact w_c1
  · exact w_c2
  · exact w_c3
set_option maxRecDepth 65536 in
theorem w_t1 : (words1.take 24).all (fun c => isCode c || c.before args0 about1) = true := by decide +kernel
set_option maxRecDepth 65536 in
theorem w_t2 : (words1.drop 24).all (fun c => isCode c || c.before args0 about1) = true := by decide +kernel
theorem w_tables : (allAtoms (Jvm.Cond.code x code maxLocals ret :: tables_1)).before args0 about1 = true := by
  rw [allAtoms_all]
  show words1.all (fun c => c.before args0 about1) = true
  refine all_split ?_ w_codes
  rw [← List.take_append_drop 24 words1, List.all_append, w_t1, w_t2]
  rfl
set_option maxRecDepth 65536 in
theorem w_case : (Jvm.Cond.and given_1 narrow_1).before args0 about1 = true := by decide +kernel
theorem w_applies : (headSpec (Jvm.Cond.code x code maxLocals ret :: tables_1) room_1).applies x e0.platform about1 = true :=
  (Spec.applies_iff w_frames).mpr ⟨w_running, w_runnable, w_alone, w_named, w_hears, w_ripe, w_room, w_tables⟩
theorem atStart : AtStart classFile x code maxLocals ret World_1 tables_1 room_1 Calls_1 rest_1 Pre_1 launch0 p0 e0 about1 theMethod args0 below0 :=
  ⟨lists_1, trivial, launch0.admits_env _ _ _, launch0.least_env, fairChoices_fair.cas, fairChoices_fair.clock, w_frames, w_args, w_heap, w_applies, trivial, trivial, w_case⟩
end start1
theorem witness_1 : WitnessClaimed_1 := ⟨start1.p0, start1.e0, start1.about1, start1.theMethod, start1.args0, start1.below0, start1.atStart⟩
end Jvm.Pilot.@@N@@
