import JvmDerived
import JvmDerived.Pilot.@@N@@Statement
import JvmDerived.Pilot.@@N@@Code
set_option linter.unusedVariables false
set_option linter.unusedSimpArgs false
namespace Jvm.RoadKit
open Sem ClassFile Op Lib Jvm.Stand Jvm.Free Jvm.LawKit
section New
variable {p : Program} {l : Launch} {e : Env} {R : Room} {s : State} {m : MethodId} {args : Array Value} {below : List Frame} {meth : Method} {c : Code} {T : State} {locs : List Loc} {cells slots : Nat}
theorem retI (X : Stand p l e R s m args below meth c T locs cells slots) (hx : p.tables.exec = Jvm.exec) {pc : Nat} {Ls : Array Slot} {z : Int32} {rest : List Value} (hret : meth.sig.returnType = some .int) (hd : decode c.code pc = .ok (.ireturn, 1)) {fs : List Frame}
    (hl : ∀ (f : JFrame) (acts : List Action), f.method = m → f.locked = none → f.entered = [] → (doReturn e (T.setTop f) acts (some (.int z))).1 = T.setFrames fs) : Steps p.tables e below (T.setTop (mkF m pc Ls (.int z :: rest))) (T.setFrames fs) :=
  retOut X hx hret rfl (Or.inl ⟨rfl, Or.inl rfl, z, rfl⟩) hd hl
end New
end Jvm.RoadKit
namespace Jvm.Pilot.@@N@@
open Jvm Jvm.ClassFile Sem Op Lib Jvm.Free Jvm.Stand Jvm.LawKit Jvm.RoadKit Bundle Jvm.Pilot.@@N@@.Jvm.D
theorem ow {d : Jvm.Cond} (i : Nat) (h : tables_1[i]? = some d) : d ∈ tables_1 := List.mem_of_getElem? h
/-- what a body that only reads leaves: its answer, nothing written, the heap as it was -/
def own_Q (r : Option Value) (h0 : Heap) (n0 : Nat) (v : Option Value) (h : Heap) (L : List Loc) : Prop := v = r ∧ Fr n0 L ∧ h = h0
section OwnWords
variable {args : Array Value} {first s : State} {o : Option Outcome} {idx : List Nat} {a b : Term}
theorem own_eqI {k : Int32} (h : (Jvm.Cond.eq a (.int k)).value args first o s idx = some true) : a.eval args first o idx s = some (.int k) := by
  obtain ⟨x, y, hx, hy, k1, -⟩ := cmp_v (r := true) (Or.inl h)
  have hy' : y = .int k := (Option.some.inj hy).symm
  subst hy'
  cases x <;> simp [Kin, Value.isRef] at k1
  simp [Jvm.Cond.value, hx, Term.eval] at h
  rw [hx, h]
theorem own_eqR {y : Addr} (h : (Jvm.Cond.eq a b).value args first o s idx = some true) (hb : b.eval args first o idx s = some (.ref y)) : a.eval args first o idx s = some (.ref y) := by
  obtain ⟨x, z, hx, hy, k1, -⟩ := cmp_v (r := true) (Or.inl h)
  cases hb.symm.trans hy
  cases x <;> simp [Kin, Value.isRef] at k1
  · simp [Jvm.Cond.value, hx, hb] at h
  · simp [Jvm.Cond.value, hx, hb] at h
    rw [hx, h]
theorem own_len {y : Addr} {c : Cell} {n : Int32} (h : (Term.length a).eval args first o idx s = some (.int n)) (ht : a.eval args first o idx s = some (.ref y)) (hc : s.heap[y]? = some c) : (c.slots.size : Int) = n.toInt := by
  simp only [Term.eval, Option.bind_eq_bind, ht, Option.bind_some] at h
  obtain ⟨cell, hcell, h⟩ := Option.bind_eq_some_iff.mp h
  cases hc.symm.trans (State.arrayAt?_spec hcell).1
  by_cases hn : c.slots.size < 2147483648
  · rw [if_pos hn] at h; cases h; exact (len_toInt hn).symm
  · rw [if_neg hn] at h; cases h
end OwnWords
/-- an array that stands in the heap, with all that lies in it -/
def own_Arr (Z : State) (h : Heap) (a : Addr) (ty : FieldType) (vs : List Value) : Prop := ∃ c : Cell, Arr Z h a c ty ∧ c.slots = vs.toArray
/-- what a law leaves that makes arrays of its own -/
def own_QH (r : Option Value) (n0 : Nat) (v : Option Value) (h : Heap) (L : List Loc) : Prop := v = r ∧ Fr n0 L ∧ True
/-- the same of an array whose class is known -/
def own_ArrK (Z : State) (h : Heap) (a : Addr) (k : ClassId) (ty : FieldType) (vs : List Value) : Prop := ∃ c : Cell, Arr Z h a c ty ∧ c.cls = k ∧ c.slots = vs.toArray
section OwnArr
variable {Z : State} {h0 h h' : Heap} {a b : Addr} {k : ClassId} {ty : FieldType} {vs : List Value} {v : Value} {sl : Nat} {c : Cell}
theorem own_Arr.ext (F : own_Arr Z h a ty vs) (E : Ext h h') : own_Arr Z h' a ty vs := by obtain ⟨c, A, r⟩ := F; exact ⟨c, A.ext E, r⟩
theorem own_ArrK.lt (F : own_ArrK Z h a k ty vs) : a < h.size := by obtain ⟨c, A, -⟩ := F; exact A.lt
theorem own_ArrK.ext (F : own_ArrK Z h a k ty vs) (E : Ext h h') : own_ArrK Z h' a k ty vs := by obtain ⟨c, A, r⟩ := F; exact ⟨c, A.ext E, r⟩
theorem own_ArrK.other (F : own_ArrK Z h b k ty vs) (W : Wr h h' a sl v) (q : b ≠ a) : own_ArrK Z h' b k ty vs := by obtain ⟨c, A, r⟩ := F; exact ⟨c, A.other W q, r⟩
theorem own_set (W : Wr h h' a sl v) (A : Arr Z h a c ty) (q : c.cls = k) (e : c.slots = vs.toArray) : own_ArrK Z h' a k ty (vs.set sl v) := ⟨_, A.same W, q, by simp [Cell.setSlot, e]⟩
theorem own_get {j : Int32} (e : c.slots = vs.toArray) (hj : ¬ j < 0) (q : vs[j.toNatClampNeg]? = some v) : (¬ (j < 0 ∨ c.slots.size ≤ j.toNatClampNeg)) ∧ c.slots[j.toNatClampNeg]? = some v := by
  have hl := (List.getElem?_eq_some_iff.mp q).1
  rw [e]
  refine ⟨?_, by simpa using q⟩
  rintro (h | h)
  · exact hj h
  · simp at h; omega
theorem own_ext_trans {h'' : Heap} (E : Ext h h') (E' : Ext h' h'') : Ext h h'' := ⟨Nat.le_trans E.1 E'.1, fun x y q => E'.2 x y (E.2 x y q)⟩
theorem own_ext_wr (E : Ext h0 h) (W : Wr h h' a sl v) (q : h0.size ≤ a) : Ext h0 h' := by
  refine ⟨Nat.le_trans E.1 (Nat.le_of_eq W.size.symm), fun x y hx => ?_⟩
  have hlt := (Array.getElem?_eq_some_iff.mp hx).1
  obtain ⟨c', e1, -, -, -, e5, -⟩ := wr_at W (E.2 x y hx)
  rw [← e5 (Nat.ne_of_lt (Nat.lt_of_lt_of_le hlt q))]; exact e1
theorem own_ext_keep (E : Ext h0 h) (K : Keep h h' [a]) (q : h0.size ≤ a) : Ext h0 h' := ⟨Nat.le_trans E.1 K.1, fun x y hx => K.2.1 x y (E.2 x y hx) (ninS (Nat.ne_of_lt (Nat.lt_of_lt_of_le (Array.getElem?_eq_some_iff.mp hx).1 q)) nin0)⟩
end OwnArr
def own_K (Z : State) (h : Heap) (w_CHANGE_PROCESS w_NEW_PROCESS_INSTANCE_CHANGE w_PROCESS_INSTANCE_CHANGE w_PROCESS_TYPE_CHANGE w_MONITOR_PROCESS_INSTANCE w_NOTIFY_USER w_CREATE_SCHEMA w_EXECUTE_ACTIVITY w_INSTANTIATE_SCHEMA w_GRANT_PRIVILEGE w_REUSE_EXISTING_PROCESS_INSTANCE_CHANGE : Addr) : Prop := Sta Z h "com/example/live_rbac/liverbac/ProcessOperation" "CHANGE_PROCESS" "Lcom/example/live_rbac/liverbac/ProcessOperation;" (.ref w_CHANGE_PROCESS) ∧ Exa Z h w_CHANGE_PROCESS "com/example/live_rbac/liverbac/ProcessOperation" ∧ Sta Z h "com/example/live_rbac/liverbac/ProcessOperation" "NEW_PROCESS_INSTANCE_CHANGE" "Lcom/example/live_rbac/liverbac/ProcessOperation;" (.ref w_NEW_PROCESS_INSTANCE_CHANGE) ∧ Exa Z h w_NEW_PROCESS_INSTANCE_CHANGE "com/example/live_rbac/liverbac/ProcessOperation" ∧ Fld Z h w_NEW_PROCESS_INSTANCE_CHANGE "java/lang/Enum" "ordinal" "I" (.int (3 : Int32)) ∧ Fld Z h w_CHANGE_PROCESS "java/lang/Enum" "ordinal" "I" (.int (0 : Int32)) ∧ Sta Z h "com/example/live_rbac/liverbac/ProcessOperation" "PROCESS_INSTANCE_CHANGE" "Lcom/example/live_rbac/liverbac/ProcessOperation;" (.ref w_PROCESS_INSTANCE_CHANGE) ∧ Exa Z h w_PROCESS_INSTANCE_CHANGE "com/example/live_rbac/liverbac/ProcessOperation" ∧ Fld Z h w_NEW_PROCESS_INSTANCE_CHANGE "com/example/live_rbac/liverbac/ProcessOperation" "parent" "Lcom/example/live_rbac/liverbac/ProcessOperation;" (.ref w_PROCESS_INSTANCE_CHANGE) ∧ Fld Z h w_PROCESS_INSTANCE_CHANGE "java/lang/Enum" "ordinal" "I" (.int (2 : Int32)) ∧ Fld Z h w_PROCESS_INSTANCE_CHANGE "com/example/live_rbac/liverbac/ProcessOperation" "parent" "Lcom/example/live_rbac/liverbac/ProcessOperation;" (.ref w_CHANGE_PROCESS) ∧ Sta Z h "com/example/live_rbac/liverbac/ProcessOperation" "PROCESS_TYPE_CHANGE" "Lcom/example/live_rbac/liverbac/ProcessOperation;" (.ref w_PROCESS_TYPE_CHANGE) ∧ Exa Z h w_PROCESS_TYPE_CHANGE "com/example/live_rbac/liverbac/ProcessOperation" ∧ Fld Z h w_PROCESS_TYPE_CHANGE "java/lang/Enum" "ordinal" "I" (.int (1 : Int32)) ∧ Fld Z h w_PROCESS_TYPE_CHANGE "com/example/live_rbac/liverbac/ProcessOperation" "parent" "Lcom/example/live_rbac/liverbac/ProcessOperation;" (.ref w_CHANGE_PROCESS) ∧ Fld Z h w_CHANGE_PROCESS "com/example/live_rbac/liverbac/ProcessOperation" "parent" "Lcom/example/live_rbac/liverbac/ProcessOperation;" .null ∧ Sta Z h "com/example/live_rbac/liverbac/ProcessOperation" "MONITOR_PROCESS_INSTANCE" "Lcom/example/live_rbac/liverbac/ProcessOperation;" (.ref w_MONITOR_PROCESS_INSTANCE) ∧ Exa Z h w_MONITOR_PROCESS_INSTANCE "com/example/live_rbac/liverbac/ProcessOperation" ∧ Sta Z h "com/example/live_rbac/liverbac/ProcessOperation" "NOTIFY_USER" "Lcom/example/live_rbac/liverbac/ProcessOperation;" (.ref w_NOTIFY_USER) ∧ Exa Z h w_NOTIFY_USER "com/example/live_rbac/liverbac/ProcessOperation" ∧ Fld Z h w_NOTIFY_USER "java/lang/Enum" "ordinal" "I" (.int (10 : Int32)) ∧ Fld Z h w_MONITOR_PROCESS_INSTANCE "java/lang/Enum" "ordinal" "I" (.int (9 : Int32)) ∧ Fld Z h w_NOTIFY_USER "com/example/live_rbac/liverbac/ProcessOperation" "parent" "Lcom/example/live_rbac/liverbac/ProcessOperation;" .null ∧ Sta Z h "com/example/live_rbac/liverbac/ProcessOperation" "CREATE_SCHEMA" "Lcom/example/live_rbac/liverbac/ProcessOperation;" (.ref w_CREATE_SCHEMA) ∧ Exa Z h w_CREATE_SCHEMA "com/example/live_rbac/liverbac/ProcessOperation" ∧ Fld Z h w_CREATE_SCHEMA "java/lang/Enum" "ordinal" "I" (.int (5 : Int32)) ∧ Sta Z h "com/example/live_rbac/liverbac/ProcessOperation" "EXECUTE_ACTIVITY" "Lcom/example/live_rbac/liverbac/ProcessOperation;" (.ref w_EXECUTE_ACTIVITY) ∧ Exa Z h w_EXECUTE_ACTIVITY "com/example/live_rbac/liverbac/ProcessOperation" ∧ Fld Z h w_EXECUTE_ACTIVITY "java/lang/Enum" "ordinal" "I" (.int (6 : Int32)) ∧ Sta Z h "com/example/live_rbac/liverbac/ProcessOperation" "INSTANTIATE_SCHEMA" "Lcom/example/live_rbac/liverbac/ProcessOperation;" (.ref w_INSTANTIATE_SCHEMA) ∧ Exa Z h w_INSTANTIATE_SCHEMA "com/example/live_rbac/liverbac/ProcessOperation" ∧ Fld Z h w_INSTANTIATE_SCHEMA "java/lang/Enum" "ordinal" "I" (.int (8 : Int32)) ∧ Fld Z h w_CREATE_SCHEMA "com/example/live_rbac/liverbac/ProcessOperation" "parent" "Lcom/example/live_rbac/liverbac/ProcessOperation;" .null ∧ Fld Z h w_EXECUTE_ACTIVITY "com/example/live_rbac/liverbac/ProcessOperation" "parent" "Lcom/example/live_rbac/liverbac/ProcessOperation;" .null ∧ Sta Z h "com/example/live_rbac/liverbac/ProcessOperation" "GRANT_PRIVILEGE" "Lcom/example/live_rbac/liverbac/ProcessOperation;" (.ref w_GRANT_PRIVILEGE) ∧ Exa Z h w_GRANT_PRIVILEGE "com/example/live_rbac/liverbac/ProcessOperation" ∧ Fld Z h w_GRANT_PRIVILEGE "java/lang/Enum" "ordinal" "I" (.int (7 : Int32)) ∧ Fld Z h w_GRANT_PRIVILEGE "com/example/live_rbac/liverbac/ProcessOperation" "parent" "Lcom/example/live_rbac/liverbac/ProcessOperation;" .null ∧ Fld Z h w_INSTANTIATE_SCHEMA "com/example/live_rbac/liverbac/ProcessOperation" "parent" "Lcom/example/live_rbac/liverbac/ProcessOperation;" .null ∧ Sta Z h "com/example/live_rbac/liverbac/ProcessOperation" "REUSE_EXISTING_PROCESS_INSTANCE_CHANGE" "Lcom/example/live_rbac/liverbac/ProcessOperation;" (.ref w_REUSE_EXISTING_PROCESS_INSTANCE_CHANGE) ∧ Exa Z h w_REUSE_EXISTING_PROCESS_INSTANCE_CHANGE "com/example/live_rbac/liverbac/ProcessOperation" ∧ Fld Z h w_REUSE_EXISTING_PROCESS_INSTANCE_CHANGE "java/lang/Enum" "ordinal" "I" (.int (4 : Int32)) ∧ Fld Z h w_REUSE_EXISTING_PROCESS_INSTANCE_CHANGE "com/example/live_rbac/liverbac/ProcessOperation" "parent" "Lcom/example/live_rbac/liverbac/ProcessOperation;" (.ref w_PROCESS_INSTANCE_CHANGE) ∧ Fld Z h w_MONITOR_PROCESS_INSTANCE "com/example/live_rbac/liverbac/ProcessOperation" "parent" "Lcom/example/live_rbac/liverbac/ProcessOperation;" .null
theorem d_method_3_0 : decode method_3_code 0 = .ok (.iload_n 0, 1) := by decide +kernel
theorem d_method_3_1 : decode method_3_code 1 = .ok (.ifCond .ne 7, 3) := by decide +kernel
theorem d_method_3_4 : decode method_3_code 4 = .ok (.getstatic 20, 3) := by decide +kernel
theorem d_method_3_7 : decode method_3_code 7 = .ok (.areturn, 1) := by decide +kernel
theorem d_method_3_8 : decode method_3_code 8 = .ok (.iload_n 0, 1) := by decide +kernel
theorem d_method_3_9 : decode method_3_code 9 = .ok (.iconst 1, 1) := by decide +kernel
theorem d_method_3_10 : decode method_3_code 10 = .ok (.if_icmp .ne 7, 3) := by decide +kernel
theorem d_method_3_13 : decode method_3_code 13 = .ok (.getstatic 24, 3) := by decide +kernel
theorem d_method_3_16 : decode method_3_code 16 = .ok (.areturn, 1) := by decide +kernel
theorem d_method_3_17 : decode method_3_code 17 = .ok (.iload_n 0, 1) := by decide +kernel
theorem d_method_3_18 : decode method_3_code 18 = .ok (.iconst 2, 1) := by decide +kernel
theorem d_method_3_19 : decode method_3_code 19 = .ok (.if_icmp .ne 7, 3) := by decide +kernel
theorem d_method_3_22 : decode method_3_code 22 = .ok (.getstatic 27, 3) := by decide +kernel
theorem d_method_3_25 : decode method_3_code 25 = .ok (.areturn, 1) := by decide +kernel
theorem d_method_3_26 : decode method_3_code 26 = .ok (.iload_n 0, 1) := by decide +kernel
theorem d_method_3_27 : decode method_3_code 27 = .ok (.iconst 3, 1) := by decide +kernel
theorem d_method_3_28 : decode method_3_code 28 = .ok (.if_icmp .ne 7, 3) := by decide +kernel
theorem d_method_3_31 : decode method_3_code 31 = .ok (.getstatic 30, 3) := by decide +kernel
theorem d_method_3_34 : decode method_3_code 34 = .ok (.areturn, 1) := by decide +kernel
theorem d_method_3_35 : decode method_3_code 35 = .ok (.iload_n 0, 1) := by decide +kernel
theorem d_method_3_36 : decode method_3_code 36 = .ok (.iconst 4, 1) := by decide +kernel
theorem d_method_3_37 : decode method_3_code 37 = .ok (.if_icmp .ne 7, 3) := by decide +kernel
theorem d_method_3_40 : decode method_3_code 40 = .ok (.getstatic 33, 3) := by decide +kernel
theorem d_method_3_43 : decode method_3_code 43 = .ok (.areturn, 1) := by decide +kernel
theorem d_method_3_44 : decode method_3_code 44 = .ok (.iload_n 0, 1) := by decide +kernel
theorem d_method_3_45 : decode method_3_code 45 = .ok (.iconst 5, 1) := by decide +kernel
theorem d_method_3_46 : decode method_3_code 46 = .ok (.if_icmp .ne 7, 3) := by decide +kernel
theorem d_method_3_49 : decode method_3_code 49 = .ok (.getstatic 36, 3) := by decide +kernel
theorem d_method_3_52 : decode method_3_code 52 = .ok (.areturn, 1) := by decide +kernel
theorem d_method_3_53 : decode method_3_code 53 = .ok (.iload_n 0, 1) := by decide +kernel
theorem d_method_3_54 : decode method_3_code 54 = .ok (.bipush 6, 2) := by decide +kernel
theorem d_method_3_56 : decode method_3_code 56 = .ok (.if_icmp .ne 7, 3) := by decide +kernel
theorem d_method_3_59 : decode method_3_code 59 = .ok (.getstatic 39, 3) := by decide +kernel
theorem d_method_3_62 : decode method_3_code 62 = .ok (.areturn, 1) := by decide +kernel
theorem d_method_3_63 : decode method_3_code 63 = .ok (.iload_n 0, 1) := by decide +kernel
theorem d_method_3_64 : decode method_3_code 64 = .ok (.bipush 7, 2) := by decide +kernel
theorem d_method_3_66 : decode method_3_code 66 = .ok (.if_icmp .ne 7, 3) := by decide +kernel
theorem d_method_3_69 : decode method_3_code 69 = .ok (.getstatic 42, 3) := by decide +kernel
theorem d_method_3_72 : decode method_3_code 72 = .ok (.areturn, 1) := by decide +kernel
theorem d_method_3_73 : decode method_3_code 73 = .ok (.iload_n 0, 1) := by decide +kernel
theorem d_method_3_74 : decode method_3_code 74 = .ok (.bipush 8, 2) := by decide +kernel
theorem d_method_3_76 : decode method_3_code 76 = .ok (.if_icmp .ne 7, 3) := by decide +kernel
theorem d_method_3_79 : decode method_3_code 79 = .ok (.getstatic 45, 3) := by decide +kernel
theorem d_method_3_82 : decode method_3_code 82 = .ok (.areturn, 1) := by decide +kernel
theorem d_method_3_83 : decode method_3_code 83 = .ok (.iload_n 0, 1) := by decide +kernel
theorem d_method_3_84 : decode method_3_code 84 = .ok (.bipush 9, 2) := by decide +kernel
theorem d_method_3_86 : decode method_3_code 86 = .ok (.if_icmp .ne 7, 3) := by decide +kernel
theorem d_method_3_89 : decode method_3_code 89 = .ok (.getstatic 48, 3) := by decide +kernel
theorem d_method_3_92 : decode method_3_code 92 = .ok (.areturn, 1) := by decide +kernel
theorem d_method_3_93 : decode method_3_code 93 = .ok (.getstatic 51, 3) := by decide +kernel
theorem d_method_3_96 : decode method_3_code 96 = .ok (.areturn, 1) := by decide +kernel
theorem pn_0 : plainName "com/example/live_rbac/liverbac/ProcessOperationIncludesPinLaw" = true := by first | (simp [plainName, overriddenIn]; done) | decide +kernel
theorem ef_op (m : MethodId) (x0 : Int32) : entryFrame m #[(.int x0)] 1 = mkF m 0 #[.val (.int x0)] [] := by first | (simp [entryFrame, mkF, argsToLocals, Value.category]; done) | rfl
set_option maxRecDepth 65536 in
set_option maxHeartbeats 40000000 in
theorem rm_op (l : Launch) (Z : State) (a0 : Array Value) (hw : ∀ d ∈ tables_1, d.before a0 Z = true) (ws : List Jvm.Cond) (p0 : Int32) (h0 : Heap) (n0 : Nat) (w_CHANGE_PROCESS w_NEW_PROCESS_INSTANCE_CHANGE w_PROCESS_INSTANCE_CHANGE w_PROCESS_TYPE_CHANGE w_MONITOR_PROCESS_INSTANCE w_NOTIFY_USER w_CREATE_SCHEMA w_EXECUTE_ACTIVITY w_INSTANTIATE_SCHEMA w_GRANT_PRIVILEGE w_REUSE_EXISTING_PROCESS_INSTANCE_CHANGE : Addr) (hK : own_K Z h0 w_CHANGE_PROCESS w_NEW_PROCESS_INSTANCE_CHANGE w_PROCESS_INSTANCE_CHANGE w_PROCESS_TYPE_CHANGE w_MONITOR_PROCESS_INSTANCE w_NOTIFY_USER w_CREATE_SCHEMA w_EXECUTE_ACTIVITY w_INSTANTIATE_SCHEMA w_GRANT_PRIVILEGE w_REUSE_EXISTING_PROCESS_INSTANCE_CHANGE) :
    MetFree l (⟨"com/example/live_rbac/liverbac/ProcessOperationIncludesPinLaw", "op", "(I)Lcom/example/live_rbac/liverbac/ProcessOperation;"⟩ : MethodName) (head1 (Jvm.Cond.code (⟨"com/example/live_rbac/liverbac/ProcessOperationIncludesPinLaw", "op", "(I)Lcom/example/live_rbac/liverbac/ProcessOperation;"⟩ : MethodName) method_3_code 1 (some (.object "com/example/live_rbac/liverbac/ProcessOperation")) :: ws) ({ frames := 0, cells := 0, slots := 0, locals := 0 } : Room)) (fun a U => a = #[(.int p0)] ∧ Z.Warmed39 U.vm ∧ U.heap = h0) (fun _ _ _ _ _ => True) (fun _ U o U' => ∃ v L, o = .returned v ∧ own_Q (some (.ref (if p0 = (0 : Int32) then w_CHANGE_PROCESS else (if p0 = (1 : Int32) then w_PROCESS_TYPE_CHANGE else (if p0 = (2 : Int32) then w_PROCESS_INSTANCE_CHANGE else (if p0 = (3 : Int32) then w_NEW_PROCESS_INSTANCE_CHANGE else (if p0 = (4 : Int32) then w_REUSE_EXISTING_PROCESS_INSTANCE_CHANGE else (if p0 = (5 : Int32) then w_CREATE_SCHEMA else (if p0 = (6 : Int32) then w_EXECUTE_ACTIVITY else (if p0 = (7 : Int32) then w_GRANT_PRIVILEGE else (if p0 = (8 : Int32) then w_INSTANTIATE_SCHEMA else (if p0 = (9 : Int32) then w_MONITOR_PROCESS_INSTANCE else w_NOTIFY_USER)))))))))))) h0 n0 v U'.heap L ∧ FrameEnd U o U' L ({ frames := 0, cells := 0, slots := 0, locals := 0 } : Room).cells ({ frames := 0, cells := 0, slots := 0, locals := 0 } : Room).slots) := by
  refine MetFree.of_bodySF (plainFor_of_name pn_0) hisR ?_
  intro p e s m args below meth c s₁ Bd hml0 hP hK0
  obtain ⟨rfl, hZ, hh⟩ := hP
  have hx := Bd.exec
  have hby := Bd.bytes
  have hml : c.maxLocals = 1 := hml0
  have hown : s.vm.findClass "com/example/live_rbac/liverbac/ProcessOperationIncludesPinLaw" = some m.cls := findClass_of_methodNamed Bd.named
  have hnm := (name_of_methodNamed Bd.named Bd.method).1
  have X0 : Stand p l e ({ frames := 0, cells := 0, slots := 0, locals := 0 } : Room) s m #[(.int p0)] below meth c s₁ [] 0 0 := Stand.of_body Bd
  have e0 : s₁.heap = h0 := by rw [← hh, Bd.state]; rfl
  have N0 := Fr.nil n0
  have pre0 : ∀ t, Steps p.tables e below (s₁.setTop (mkF m 0 #[.val (.int p0)] [])) t → Steps p.tables e below (s₁.setTop (entryFrame m #[(.int p0)] 1)) t := fun t k => castTop (ef_op m p0) k
  have hK' := hK
  obtain ⟨S_w_CHANGE_PROCESS, E_w_CHANGE_PROCESS, S_w_NEW_PROCESS_INSTANCE_CHANGE, E_w_NEW_PROCESS_INSTANCE_CHANGE, F_ordinal_w_NEW_PROCESS_INSTANCE_CHANGE, F_ordinal_w_CHANGE_PROCESS, S_w_PROCESS_INSTANCE_CHANGE, E_w_PROCESS_INSTANCE_CHANGE, F_parent_w_NEW_PROCESS_INSTANCE_CHANGE, F_ordinal_w_PROCESS_INSTANCE_CHANGE, F_parent_w_PROCESS_INSTANCE_CHANGE, S_w_PROCESS_TYPE_CHANGE, E_w_PROCESS_TYPE_CHANGE, F_ordinal_w_PROCESS_TYPE_CHANGE, F_parent_w_PROCESS_TYPE_CHANGE, F_parent_w_CHANGE_PROCESS, S_w_MONITOR_PROCESS_INSTANCE, E_w_MONITOR_PROCESS_INSTANCE, S_w_NOTIFY_USER, E_w_NOTIFY_USER, F_ordinal_w_NOTIFY_USER, F_ordinal_w_MONITOR_PROCESS_INSTANCE, F_parent_w_NOTIFY_USER, S_w_CREATE_SCHEMA, E_w_CREATE_SCHEMA, F_ordinal_w_CREATE_SCHEMA, S_w_EXECUTE_ACTIVITY, E_w_EXECUTE_ACTIVITY, F_ordinal_w_EXECUTE_ACTIVITY, S_w_INSTANTIATE_SCHEMA, E_w_INSTANTIATE_SCHEMA, F_ordinal_w_INSTANTIATE_SCHEMA, F_parent_w_CREATE_SCHEMA, F_parent_w_EXECUTE_ACTIVITY, S_w_GRANT_PRIVILEGE, E_w_GRANT_PRIVILEGE, F_ordinal_w_GRANT_PRIVILEGE, F_parent_w_GRANT_PRIVILEGE, F_parent_w_INSTANTIATE_SCHEMA, S_w_REUSE_EXISTING_PROCESS_INSTANCE_CHANGE, E_w_REUSE_EXISTING_PROCESS_INSTANCE_CHANGE, F_ordinal_w_REUSE_EXISTING_PROCESS_INSTANCE_CHANGE, F_parent_w_REUSE_EXISTING_PROCESS_INSTANCE_CHANGE, F_parent_w_MONITOR_PROCESS_INSTANCE⟩ := hK'
  have pre2 : ∀ t, Steps p.tables e below (s₁.setTop (mkF m 1 #[.val (.int p0)] [(.int p0)])) t → Steps p.tables e below (s₁.setTop (entryFrame m #[(.int p0)] 1)) t := fun t k => pre0 t (by
    show Steps p.tables e below (s₁.setTop (mkF m 0 #[.val (.int p0)] [])) _
    refine XS.iloadN X0.here hx rfl (hb hby d_method_3_0) rfl ?_
    exact k)
  by_cases hc1_1 : p0 = (0 : Int32)
  · obtain ⟨T3, X3, e3, st3⟩ := getS2 X0 hx hZ hown (host := "") (Or.inl (hw _ (ow 5 rfl))) Via.refl e0 S_w_CHANGE_PROCESS (g := (mkF m 4 #[.val (.int p0)] [])) rfl (hb hby d_method_3_4)
    have pre4 : ∀ t, Steps p.tables e below (T3.setTop (mkF m 7 #[.val (.int p0)] [(.ref w_CHANGE_PROCESS)])) t → Steps p.tables e below (s₁.setTop (entryFrame m #[(.int p0)] 1)) t := fun t k => pre2 t (by
      show Steps p.tables e below (s₁.setTop (mkF m 1 #[.val (.int p0)] [(.int p0)])) _
      refine XS.ifNo X0.here hx rfl (hb hby d_method_3_1) rfl ((if0 _ _).trans (teq hc1_1).2) ?_
      show Steps p.tables e below (s₁.setTop (mkF m 4 #[.val (.int p0)] [])) _
      refine st3 _ ?_
      exact k)
    obtain ⟨fs, hr, hrun, hended, hW, hsame⟩ := X3.leave (v := some (.ref w_CHANGE_PROCESS)) (fun h => by rw [Bd.returns] at h; cases h)
    refine ⟨_, _, pre4 _ ?_, hrun, hended, _, _, rfl, ?_, ⟨_, rfl⟩, hW, hsame.mono (by decide) (by decide)⟩
    · show Steps p.tables e below (T3.setTop (mkF m 7 #[.val (.int p0)] [(.ref w_CHANGE_PROCESS)])) _
      exact retOut X3 hx Bd.returns rfl (Or.inr (Or.inr (Or.inr (Or.inr ⟨rfl, rfl, rfl⟩)))) (hb hby d_method_3_7) hr
    · exact ⟨congrArg (fun z => some (Value.ref z)) (Eq.symm (if_pos hc1_1)), N0, e3⟩
  · have pre6 : ∀ t, Steps p.tables e below (s₁.setTop (mkF m 10 #[.val (.int p0)] [(.int (1 : Int32)), (.int p0)])) t → Steps p.tables e below (s₁.setTop (entryFrame m #[(.int p0)] 1)) t := fun t k => pre2 t (by
      show Steps p.tables e below (s₁.setTop (mkF m 1 #[.val (.int p0)] [(.int p0)])) _
      refine XS.ifYes X0.here hx rfl (pc0 := 1) (pc' := 8) rfl (hb hby d_method_3_1) rfl ((if0 _ _).trans (feq hc1_1).2) (by decide) (by decide) ?_
      show Steps p.tables e below (s₁.setTop (mkF m 8 #[.val (.int p0)] [])) _
      refine XS.iloadN X0.here hx rfl (hb hby d_method_3_8) rfl ?_
      show Steps p.tables e below (s₁.setTop (mkF m 9 #[.val (.int p0)] [(.int p0)])) _
      refine XS.iconst X0.here hx rfl (hb hby d_method_3_9) ?_
      exact k)
    by_cases hc10_5 : p0 = (1 : Int32)
    · obtain ⟨T7, X7, e7, st7⟩ := getS2 X0 hx hZ hown (host := "") (Or.inl (hw _ (ow 19 rfl))) Via.refl e0 S_w_PROCESS_TYPE_CHANGE (g := (mkF m 13 #[.val (.int p0)] [])) rfl (hb hby d_method_3_13)
      have pre8 : ∀ t, Steps p.tables e below (T7.setTop (mkF m 16 #[.val (.int p0)] [(.ref w_PROCESS_TYPE_CHANGE)])) t → Steps p.tables e below (s₁.setTop (entryFrame m #[(.int p0)] 1)) t := fun t k => pre6 t (by
        show Steps p.tables e below (s₁.setTop (mkF m 10 #[.val (.int p0)] [(.int (1 : Int32)), (.int p0)])) _
        refine XS.icmpNo X0.here hx rfl (hb hby d_method_3_10) rfl (teq hc10_5).2 ?_
        show Steps p.tables e below (s₁.setTop (mkF m 13 #[.val (.int p0)] [])) _
        refine st7 _ ?_
        exact k)
      obtain ⟨fs, hr, hrun, hended, hW, hsame⟩ := X7.leave (v := some (.ref w_PROCESS_TYPE_CHANGE)) (fun h => by rw [Bd.returns] at h; cases h)
      refine ⟨_, _, pre8 _ ?_, hrun, hended, _, _, rfl, ?_, ⟨_, rfl⟩, hW, hsame.mono (by decide) (by decide)⟩
      · show Steps p.tables e below (T7.setTop (mkF m 16 #[.val (.int p0)] [(.ref w_PROCESS_TYPE_CHANGE)])) _
        exact retOut X7 hx Bd.returns rfl (Or.inr (Or.inr (Or.inr (Or.inr ⟨rfl, rfl, rfl⟩)))) (hb hby d_method_3_16) hr
      · exact ⟨congrArg (fun z => some (Value.ref z)) (Eq.symm ((if_neg hc1_1).trans (if_pos hc10_5))), N0, e7⟩
    · have pre10 : ∀ t, Steps p.tables e below (s₁.setTop (mkF m 19 #[.val (.int p0)] [(.int (2 : Int32)), (.int p0)])) t → Steps p.tables e below (s₁.setTop (entryFrame m #[(.int p0)] 1)) t := fun t k => pre6 t (by
        show Steps p.tables e below (s₁.setTop (mkF m 10 #[.val (.int p0)] [(.int (1 : Int32)), (.int p0)])) _
        refine XS.icmpYes X0.here hx rfl (pc0 := 10) (pc' := 17) rfl (hb hby d_method_3_10) rfl (feq hc10_5).2 (by decide) (by decide) ?_
        show Steps p.tables e below (s₁.setTop (mkF m 17 #[.val (.int p0)] [])) _
        refine XS.iloadN X0.here hx rfl (hb hby d_method_3_17) rfl ?_
        show Steps p.tables e below (s₁.setTop (mkF m 18 #[.val (.int p0)] [(.int p0)])) _
        refine XS.iconst X0.here hx rfl (hb hby d_method_3_18) ?_
        exact k)
      by_cases hc19_9 : p0 = (2 : Int32)
      · obtain ⟨T11, X11, e11, st11⟩ := getS2 X0 hx hZ hown (host := "") (Or.inl (hw _ (ow 27 rfl))) Via.refl e0 S_w_PROCESS_INSTANCE_CHANGE (g := (mkF m 22 #[.val (.int p0)] [])) rfl (hb hby d_method_3_22)
        have pre12 : ∀ t, Steps p.tables e below (T11.setTop (mkF m 25 #[.val (.int p0)] [(.ref w_PROCESS_INSTANCE_CHANGE)])) t → Steps p.tables e below (s₁.setTop (entryFrame m #[(.int p0)] 1)) t := fun t k => pre10 t (by
          show Steps p.tables e below (s₁.setTop (mkF m 19 #[.val (.int p0)] [(.int (2 : Int32)), (.int p0)])) _
          refine XS.icmpNo X0.here hx rfl (hb hby d_method_3_19) rfl (teq hc19_9).2 ?_
          show Steps p.tables e below (s₁.setTop (mkF m 22 #[.val (.int p0)] [])) _
          refine st11 _ ?_
          exact k)
        obtain ⟨fs, hr, hrun, hended, hW, hsame⟩ := X11.leave (v := some (.ref w_PROCESS_INSTANCE_CHANGE)) (fun h => by rw [Bd.returns] at h; cases h)
        refine ⟨_, _, pre12 _ ?_, hrun, hended, _, _, rfl, ?_, ⟨_, rfl⟩, hW, hsame.mono (by decide) (by decide)⟩
        · show Steps p.tables e below (T11.setTop (mkF m 25 #[.val (.int p0)] [(.ref w_PROCESS_INSTANCE_CHANGE)])) _
          exact retOut X11 hx Bd.returns rfl (Or.inr (Or.inr (Or.inr (Or.inr ⟨rfl, rfl, rfl⟩)))) (hb hby d_method_3_25) hr
        · exact ⟨congrArg (fun z => some (Value.ref z)) (Eq.symm ((if_neg hc1_1).trans ((if_neg hc10_5).trans (if_pos hc19_9)))), N0, e11⟩
      · have pre14 : ∀ t, Steps p.tables e below (s₁.setTop (mkF m 28 #[.val (.int p0)] [(.int (3 : Int32)), (.int p0)])) t → Steps p.tables e below (s₁.setTop (entryFrame m #[(.int p0)] 1)) t := fun t k => pre10 t (by
          show Steps p.tables e below (s₁.setTop (mkF m 19 #[.val (.int p0)] [(.int (2 : Int32)), (.int p0)])) _
          refine XS.icmpYes X0.here hx rfl (pc0 := 19) (pc' := 26) rfl (hb hby d_method_3_19) rfl (feq hc19_9).2 (by decide) (by decide) ?_
          show Steps p.tables e below (s₁.setTop (mkF m 26 #[.val (.int p0)] [])) _
          refine XS.iloadN X0.here hx rfl (hb hby d_method_3_26) rfl ?_
          show Steps p.tables e below (s₁.setTop (mkF m 27 #[.val (.int p0)] [(.int p0)])) _
          refine XS.iconst X0.here hx rfl (hb hby d_method_3_27) ?_
          exact k)
        by_cases hc28_13 : p0 = (3 : Int32)
        · obtain ⟨T15, X15, e15, st15⟩ := getS2 X0 hx hZ hown (host := "") (Or.inl (hw _ (ow 8 rfl))) Via.refl e0 S_w_NEW_PROCESS_INSTANCE_CHANGE (g := (mkF m 31 #[.val (.int p0)] [])) rfl (hb hby d_method_3_31)
          have pre16 : ∀ t, Steps p.tables e below (T15.setTop (mkF m 34 #[.val (.int p0)] [(.ref w_NEW_PROCESS_INSTANCE_CHANGE)])) t → Steps p.tables e below (s₁.setTop (entryFrame m #[(.int p0)] 1)) t := fun t k => pre14 t (by
            show Steps p.tables e below (s₁.setTop (mkF m 28 #[.val (.int p0)] [(.int (3 : Int32)), (.int p0)])) _
            refine XS.icmpNo X0.here hx rfl (hb hby d_method_3_28) rfl (teq hc28_13).2 ?_
            show Steps p.tables e below (s₁.setTop (mkF m 31 #[.val (.int p0)] [])) _
            refine st15 _ ?_
            exact k)
          obtain ⟨fs, hr, hrun, hended, hW, hsame⟩ := X15.leave (v := some (.ref w_NEW_PROCESS_INSTANCE_CHANGE)) (fun h => by rw [Bd.returns] at h; cases h)
          refine ⟨_, _, pre16 _ ?_, hrun, hended, _, _, rfl, ?_, ⟨_, rfl⟩, hW, hsame.mono (by decide) (by decide)⟩
          · show Steps p.tables e below (T15.setTop (mkF m 34 #[.val (.int p0)] [(.ref w_NEW_PROCESS_INSTANCE_CHANGE)])) _
            exact retOut X15 hx Bd.returns rfl (Or.inr (Or.inr (Or.inr (Or.inr ⟨rfl, rfl, rfl⟩)))) (hb hby d_method_3_34) hr
          · exact ⟨congrArg (fun z => some (Value.ref z)) (Eq.symm ((if_neg hc1_1).trans ((if_neg hc10_5).trans ((if_neg hc19_9).trans (if_pos hc28_13))))), N0, e15⟩
        · have pre18 : ∀ t, Steps p.tables e below (s₁.setTop (mkF m 37 #[.val (.int p0)] [(.int (4 : Int32)), (.int p0)])) t → Steps p.tables e below (s₁.setTop (entryFrame m #[(.int p0)] 1)) t := fun t k => pre14 t (by
            show Steps p.tables e below (s₁.setTop (mkF m 28 #[.val (.int p0)] [(.int (3 : Int32)), (.int p0)])) _
            refine XS.icmpYes X0.here hx rfl (pc0 := 28) (pc' := 35) rfl (hb hby d_method_3_28) rfl (feq hc28_13).2 (by decide) (by decide) ?_
            show Steps p.tables e below (s₁.setTop (mkF m 35 #[.val (.int p0)] [])) _
            refine XS.iloadN X0.here hx rfl (hb hby d_method_3_35) rfl ?_
            show Steps p.tables e below (s₁.setTop (mkF m 36 #[.val (.int p0)] [(.int p0)])) _
            refine XS.iconst X0.here hx rfl (hb hby d_method_3_36) ?_
            exact k)
          by_cases hc37_17 : p0 = (4 : Int32)
          · obtain ⟨T19, X19, e19, st19⟩ := getS2 X0 hx hZ hown (host := "") (Or.inl (hw _ (ow 34 rfl))) Via.refl e0 S_w_REUSE_EXISTING_PROCESS_INSTANCE_CHANGE (g := (mkF m 40 #[.val (.int p0)] [])) rfl (hb hby d_method_3_40)
            have pre20 : ∀ t, Steps p.tables e below (T19.setTop (mkF m 43 #[.val (.int p0)] [(.ref w_REUSE_EXISTING_PROCESS_INSTANCE_CHANGE)])) t → Steps p.tables e below (s₁.setTop (entryFrame m #[(.int p0)] 1)) t := fun t k => pre18 t (by
              show Steps p.tables e below (s₁.setTop (mkF m 37 #[.val (.int p0)] [(.int (4 : Int32)), (.int p0)])) _
              refine XS.icmpNo X0.here hx rfl (hb hby d_method_3_37) rfl (teq hc37_17).2 ?_
              show Steps p.tables e below (s₁.setTop (mkF m 40 #[.val (.int p0)] [])) _
              refine st19 _ ?_
              exact k)
            obtain ⟨fs, hr, hrun, hended, hW, hsame⟩ := X19.leave (v := some (.ref w_REUSE_EXISTING_PROCESS_INSTANCE_CHANGE)) (fun h => by rw [Bd.returns] at h; cases h)
            refine ⟨_, _, pre20 _ ?_, hrun, hended, _, _, rfl, ?_, ⟨_, rfl⟩, hW, hsame.mono (by decide) (by decide)⟩
            · show Steps p.tables e below (T19.setTop (mkF m 43 #[.val (.int p0)] [(.ref w_REUSE_EXISTING_PROCESS_INSTANCE_CHANGE)])) _
              exact retOut X19 hx Bd.returns rfl (Or.inr (Or.inr (Or.inr (Or.inr ⟨rfl, rfl, rfl⟩)))) (hb hby d_method_3_43) hr
            · exact ⟨congrArg (fun z => some (Value.ref z)) (Eq.symm ((if_neg hc1_1).trans ((if_neg hc10_5).trans ((if_neg hc19_9).trans ((if_neg hc28_13).trans (if_pos hc37_17)))))), N0, e19⟩
          · have pre22 : ∀ t, Steps p.tables e below (s₁.setTop (mkF m 46 #[.val (.int p0)] [(.int (5 : Int32)), (.int p0)])) t → Steps p.tables e below (s₁.setTop (entryFrame m #[(.int p0)] 1)) t := fun t k => pre18 t (by
              show Steps p.tables e below (s₁.setTop (mkF m 37 #[.val (.int p0)] [(.int (4 : Int32)), (.int p0)])) _
              refine XS.icmpYes X0.here hx rfl (pc0 := 37) (pc' := 44) rfl (hb hby d_method_3_37) rfl (feq hc37_17).2 (by decide) (by decide) ?_
              show Steps p.tables e below (s₁.setTop (mkF m 44 #[.val (.int p0)] [])) _
              refine XS.iloadN X0.here hx rfl (hb hby d_method_3_44) rfl ?_
              show Steps p.tables e below (s₁.setTop (mkF m 45 #[.val (.int p0)] [(.int p0)])) _
              refine XS.iconst X0.here hx rfl (hb hby d_method_3_45) ?_
              exact k)
            by_cases hc46_21 : p0 = (5 : Int32)
            · obtain ⟨T23, X23, e23, st23⟩ := getS2 X0 hx hZ hown (host := "") (Or.inl (hw _ (ow 25 rfl))) Via.refl e0 S_w_CREATE_SCHEMA (g := (mkF m 49 #[.val (.int p0)] [])) rfl (hb hby d_method_3_49)
              have pre24 : ∀ t, Steps p.tables e below (T23.setTop (mkF m 52 #[.val (.int p0)] [(.ref w_CREATE_SCHEMA)])) t → Steps p.tables e below (s₁.setTop (entryFrame m #[(.int p0)] 1)) t := fun t k => pre22 t (by
                show Steps p.tables e below (s₁.setTop (mkF m 46 #[.val (.int p0)] [(.int (5 : Int32)), (.int p0)])) _
                refine XS.icmpNo X0.here hx rfl (hb hby d_method_3_46) rfl (teq hc46_21).2 ?_
                show Steps p.tables e below (s₁.setTop (mkF m 49 #[.val (.int p0)] [])) _
                refine st23 _ ?_
                exact k)
              obtain ⟨fs, hr, hrun, hended, hW, hsame⟩ := X23.leave (v := some (.ref w_CREATE_SCHEMA)) (fun h => by rw [Bd.returns] at h; cases h)
              refine ⟨_, _, pre24 _ ?_, hrun, hended, _, _, rfl, ?_, ⟨_, rfl⟩, hW, hsame.mono (by decide) (by decide)⟩
              · show Steps p.tables e below (T23.setTop (mkF m 52 #[.val (.int p0)] [(.ref w_CREATE_SCHEMA)])) _
                exact retOut X23 hx Bd.returns rfl (Or.inr (Or.inr (Or.inr (Or.inr ⟨rfl, rfl, rfl⟩)))) (hb hby d_method_3_52) hr
              · exact ⟨congrArg (fun z => some (Value.ref z)) (Eq.symm ((if_neg hc1_1).trans ((if_neg hc10_5).trans ((if_neg hc19_9).trans ((if_neg hc28_13).trans ((if_neg hc37_17).trans (if_pos hc46_21))))))), N0, e23⟩
            · have pre26 : ∀ t, Steps p.tables e below (s₁.setTop (mkF m 56 #[.val (.int p0)] [(.int (6 : Int32)), (.int p0)])) t → Steps p.tables e below (s₁.setTop (entryFrame m #[(.int p0)] 1)) t := fun t k => pre22 t (by
                show Steps p.tables e below (s₁.setTop (mkF m 46 #[.val (.int p0)] [(.int (5 : Int32)), (.int p0)])) _
                refine XS.icmpYes X0.here hx rfl (pc0 := 46) (pc' := 53) rfl (hb hby d_method_3_46) rfl (feq hc46_21).2 (by decide) (by decide) ?_
                show Steps p.tables e below (s₁.setTop (mkF m 53 #[.val (.int p0)] [])) _
                refine XS.iloadN X0.here hx rfl (hb hby d_method_3_53) rfl ?_
                show Steps p.tables e below (s₁.setTop (mkF m 54 #[.val (.int p0)] [(.int p0)])) _
                refine XS.bipush X0.here hx rfl (hb hby d_method_3_54) ?_
                exact k)
              by_cases hc56_25 : p0 = (6 : Int32)
              · obtain ⟨T27, X27, e27, st27⟩ := getS2 X0 hx hZ hown (host := "") (Or.inl (hw _ (ow 28 rfl))) Via.refl e0 S_w_EXECUTE_ACTIVITY (g := (mkF m 59 #[.val (.int p0)] [])) rfl (hb hby d_method_3_59)
                have pre28 : ∀ t, Steps p.tables e below (T27.setTop (mkF m 62 #[.val (.int p0)] [(.ref w_EXECUTE_ACTIVITY)])) t → Steps p.tables e below (s₁.setTop (entryFrame m #[(.int p0)] 1)) t := fun t k => pre26 t (by
                  show Steps p.tables e below (s₁.setTop (mkF m 56 #[.val (.int p0)] [(.int (6 : Int32)), (.int p0)])) _
                  refine XS.icmpNo X0.here hx rfl (hb hby d_method_3_56) rfl (teq hc56_25).2 ?_
                  show Steps p.tables e below (s₁.setTop (mkF m 59 #[.val (.int p0)] [])) _
                  refine st27 _ ?_
                  exact k)
                obtain ⟨fs, hr, hrun, hended, hW, hsame⟩ := X27.leave (v := some (.ref w_EXECUTE_ACTIVITY)) (fun h => by rw [Bd.returns] at h; cases h)
                refine ⟨_, _, pre28 _ ?_, hrun, hended, _, _, rfl, ?_, ⟨_, rfl⟩, hW, hsame.mono (by decide) (by decide)⟩
                · show Steps p.tables e below (T27.setTop (mkF m 62 #[.val (.int p0)] [(.ref w_EXECUTE_ACTIVITY)])) _
                  exact retOut X27 hx Bd.returns rfl (Or.inr (Or.inr (Or.inr (Or.inr ⟨rfl, rfl, rfl⟩)))) (hb hby d_method_3_62) hr
                · exact ⟨congrArg (fun z => some (Value.ref z)) (Eq.symm ((if_neg hc1_1).trans ((if_neg hc10_5).trans ((if_neg hc19_9).trans ((if_neg hc28_13).trans ((if_neg hc37_17).trans ((if_neg hc46_21).trans (if_pos hc56_25)))))))), N0, e27⟩
              · have pre30 : ∀ t, Steps p.tables e below (s₁.setTop (mkF m 66 #[.val (.int p0)] [(.int (7 : Int32)), (.int p0)])) t → Steps p.tables e below (s₁.setTop (entryFrame m #[(.int p0)] 1)) t := fun t k => pre26 t (by
                  show Steps p.tables e below (s₁.setTop (mkF m 56 #[.val (.int p0)] [(.int (6 : Int32)), (.int p0)])) _
                  refine XS.icmpYes X0.here hx rfl (pc0 := 56) (pc' := 63) rfl (hb hby d_method_3_56) rfl (feq hc56_25).2 (by decide) (by decide) ?_
                  show Steps p.tables e below (s₁.setTop (mkF m 63 #[.val (.int p0)] [])) _
                  refine XS.iloadN X0.here hx rfl (hb hby d_method_3_63) rfl ?_
                  show Steps p.tables e below (s₁.setTop (mkF m 64 #[.val (.int p0)] [(.int p0)])) _
                  refine XS.bipush X0.here hx rfl (hb hby d_method_3_64) ?_
                  exact k)
                by_cases hc66_29 : p0 = (7 : Int32)
                · obtain ⟨T31, X31, e31, st31⟩ := getS2 X0 hx hZ hown (host := "") (Or.inl (hw _ (ow 32 rfl))) Via.refl e0 S_w_GRANT_PRIVILEGE (g := (mkF m 69 #[.val (.int p0)] [])) rfl (hb hby d_method_3_69)
                  have pre32 : ∀ t, Steps p.tables e below (T31.setTop (mkF m 72 #[.val (.int p0)] [(.ref w_GRANT_PRIVILEGE)])) t → Steps p.tables e below (s₁.setTop (entryFrame m #[(.int p0)] 1)) t := fun t k => pre30 t (by
                    show Steps p.tables e below (s₁.setTop (mkF m 66 #[.val (.int p0)] [(.int (7 : Int32)), (.int p0)])) _
                    refine XS.icmpNo X0.here hx rfl (hb hby d_method_3_66) rfl (teq hc66_29).2 ?_
                    show Steps p.tables e below (s₁.setTop (mkF m 69 #[.val (.int p0)] [])) _
                    refine st31 _ ?_
                    exact k)
                  obtain ⟨fs, hr, hrun, hended, hW, hsame⟩ := X31.leave (v := some (.ref w_GRANT_PRIVILEGE)) (fun h => by rw [Bd.returns] at h; cases h)
                  refine ⟨_, _, pre32 _ ?_, hrun, hended, _, _, rfl, ?_, ⟨_, rfl⟩, hW, hsame.mono (by decide) (by decide)⟩
                  · show Steps p.tables e below (T31.setTop (mkF m 72 #[.val (.int p0)] [(.ref w_GRANT_PRIVILEGE)])) _
                    exact retOut X31 hx Bd.returns rfl (Or.inr (Or.inr (Or.inr (Or.inr ⟨rfl, rfl, rfl⟩)))) (hb hby d_method_3_72) hr
                  · exact ⟨congrArg (fun z => some (Value.ref z)) (Eq.symm ((if_neg hc1_1).trans ((if_neg hc10_5).trans ((if_neg hc19_9).trans ((if_neg hc28_13).trans ((if_neg hc37_17).trans ((if_neg hc46_21).trans ((if_neg hc56_25).trans (if_pos hc66_29))))))))), N0, e31⟩
                · have pre34 : ∀ t, Steps p.tables e below (s₁.setTop (mkF m 76 #[.val (.int p0)] [(.int (8 : Int32)), (.int p0)])) t → Steps p.tables e below (s₁.setTop (entryFrame m #[(.int p0)] 1)) t := fun t k => pre30 t (by
                    show Steps p.tables e below (s₁.setTop (mkF m 66 #[.val (.int p0)] [(.int (7 : Int32)), (.int p0)])) _
                    refine XS.icmpYes X0.here hx rfl (pc0 := 66) (pc' := 73) rfl (hb hby d_method_3_66) rfl (feq hc66_29).2 (by decide) (by decide) ?_
                    show Steps p.tables e below (s₁.setTop (mkF m 73 #[.val (.int p0)] [])) _
                    refine XS.iloadN X0.here hx rfl (hb hby d_method_3_73) rfl ?_
                    show Steps p.tables e below (s₁.setTop (mkF m 74 #[.val (.int p0)] [(.int p0)])) _
                    refine XS.bipush X0.here hx rfl (hb hby d_method_3_74) ?_
                    exact k)
                  by_cases hc76_33 : p0 = (8 : Int32)
                  · obtain ⟨T35, X35, e35, st35⟩ := getS2 X0 hx hZ hown (host := "") (Or.inl (hw _ (ow 30 rfl))) Via.refl e0 S_w_INSTANTIATE_SCHEMA (g := (mkF m 79 #[.val (.int p0)] [])) rfl (hb hby d_method_3_79)
                    have pre36 : ∀ t, Steps p.tables e below (T35.setTop (mkF m 82 #[.val (.int p0)] [(.ref w_INSTANTIATE_SCHEMA)])) t → Steps p.tables e below (s₁.setTop (entryFrame m #[(.int p0)] 1)) t := fun t k => pre34 t (by
                      show Steps p.tables e below (s₁.setTop (mkF m 76 #[.val (.int p0)] [(.int (8 : Int32)), (.int p0)])) _
                      refine XS.icmpNo X0.here hx rfl (hb hby d_method_3_76) rfl (teq hc76_33).2 ?_
                      show Steps p.tables e below (s₁.setTop (mkF m 79 #[.val (.int p0)] [])) _
                      refine st35 _ ?_
                      exact k)
                    obtain ⟨fs, hr, hrun, hended, hW, hsame⟩ := X35.leave (v := some (.ref w_INSTANTIATE_SCHEMA)) (fun h => by rw [Bd.returns] at h; cases h)
                    refine ⟨_, _, pre36 _ ?_, hrun, hended, _, _, rfl, ?_, ⟨_, rfl⟩, hW, hsame.mono (by decide) (by decide)⟩
                    · show Steps p.tables e below (T35.setTop (mkF m 82 #[.val (.int p0)] [(.ref w_INSTANTIATE_SCHEMA)])) _
                      exact retOut X35 hx Bd.returns rfl (Or.inr (Or.inr (Or.inr (Or.inr ⟨rfl, rfl, rfl⟩)))) (hb hby d_method_3_82) hr
                    · exact ⟨congrArg (fun z => some (Value.ref z)) (Eq.symm ((if_neg hc1_1).trans ((if_neg hc10_5).trans ((if_neg hc19_9).trans ((if_neg hc28_13).trans ((if_neg hc37_17).trans ((if_neg hc46_21).trans ((if_neg hc56_25).trans ((if_neg hc66_29).trans (if_pos hc76_33)))))))))), N0, e35⟩
                  · have pre38 : ∀ t, Steps p.tables e below (s₁.setTop (mkF m 86 #[.val (.int p0)] [(.int (9 : Int32)), (.int p0)])) t → Steps p.tables e below (s₁.setTop (entryFrame m #[(.int p0)] 1)) t := fun t k => pre34 t (by
                      show Steps p.tables e below (s₁.setTop (mkF m 76 #[.val (.int p0)] [(.int (8 : Int32)), (.int p0)])) _
                      refine XS.icmpYes X0.here hx rfl (pc0 := 76) (pc' := 83) rfl (hb hby d_method_3_76) rfl (feq hc76_33).2 (by decide) (by decide) ?_
                      show Steps p.tables e below (s₁.setTop (mkF m 83 #[.val (.int p0)] [])) _
                      refine XS.iloadN X0.here hx rfl (hb hby d_method_3_83) rfl ?_
                      show Steps p.tables e below (s₁.setTop (mkF m 84 #[.val (.int p0)] [(.int p0)])) _
                      refine XS.bipush X0.here hx rfl (hb hby d_method_3_84) ?_
                      exact k)
                    by_cases hc86_37 : p0 = (9 : Int32)
                    · obtain ⟨T39, X39, e39, st39⟩ := getS2 X0 hx hZ hown (host := "") (Or.inl (hw _ (ow 21 rfl))) Via.refl e0 S_w_MONITOR_PROCESS_INSTANCE (g := (mkF m 89 #[.val (.int p0)] [])) rfl (hb hby d_method_3_89)
                      have pre40 : ∀ t, Steps p.tables e below (T39.setTop (mkF m 92 #[.val (.int p0)] [(.ref w_MONITOR_PROCESS_INSTANCE)])) t → Steps p.tables e below (s₁.setTop (entryFrame m #[(.int p0)] 1)) t := fun t k => pre38 t (by
                        show Steps p.tables e below (s₁.setTop (mkF m 86 #[.val (.int p0)] [(.int (9 : Int32)), (.int p0)])) _
                        refine XS.icmpNo X0.here hx rfl (hb hby d_method_3_86) rfl (teq hc86_37).2 ?_
                        show Steps p.tables e below (s₁.setTop (mkF m 89 #[.val (.int p0)] [])) _
                        refine st39 _ ?_
                        exact k)
                      obtain ⟨fs, hr, hrun, hended, hW, hsame⟩ := X39.leave (v := some (.ref w_MONITOR_PROCESS_INSTANCE)) (fun h => by rw [Bd.returns] at h; cases h)
                      refine ⟨_, _, pre40 _ ?_, hrun, hended, _, _, rfl, ?_, ⟨_, rfl⟩, hW, hsame.mono (by decide) (by decide)⟩
                      · show Steps p.tables e below (T39.setTop (mkF m 92 #[.val (.int p0)] [(.ref w_MONITOR_PROCESS_INSTANCE)])) _
                        exact retOut X39 hx Bd.returns rfl (Or.inr (Or.inr (Or.inr (Or.inr ⟨rfl, rfl, rfl⟩)))) (hb hby d_method_3_92) hr
                      · exact ⟨congrArg (fun z => some (Value.ref z)) (Eq.symm ((if_neg hc1_1).trans ((if_neg hc10_5).trans ((if_neg hc19_9).trans ((if_neg hc28_13).trans ((if_neg hc37_17).trans ((if_neg hc46_21).trans ((if_neg hc56_25).trans ((if_neg hc66_29).trans ((if_neg hc76_33).trans (if_pos hc86_37))))))))))), N0, e39⟩
                    · obtain ⟨T41, X41, e41, st41⟩ := getS2 X0 hx hZ hown (host := "") (Or.inl (hw _ (ow 23 rfl))) Via.refl e0 S_w_NOTIFY_USER (g := (mkF m 93 #[.val (.int p0)] [])) rfl (hb hby d_method_3_93)
                      have pre42 : ∀ t, Steps p.tables e below (T41.setTop (mkF m 96 #[.val (.int p0)] [(.ref w_NOTIFY_USER)])) t → Steps p.tables e below (s₁.setTop (entryFrame m #[(.int p0)] 1)) t := fun t k => pre38 t (by
                        show Steps p.tables e below (s₁.setTop (mkF m 86 #[.val (.int p0)] [(.int (9 : Int32)), (.int p0)])) _
                        refine XS.icmpYes X0.here hx rfl (pc0 := 86) (pc' := 93) rfl (hb hby d_method_3_86) rfl (feq hc86_37).2 (by decide) (by decide) ?_
                        show Steps p.tables e below (s₁.setTop (mkF m 93 #[.val (.int p0)] [])) _
                        refine st41 _ ?_
                        exact k)
                      obtain ⟨fs, hr, hrun, hended, hW, hsame⟩ := X41.leave (v := some (.ref w_NOTIFY_USER)) (fun h => by rw [Bd.returns] at h; cases h)
                      refine ⟨_, _, pre42 _ ?_, hrun, hended, _, _, rfl, ?_, ⟨_, rfl⟩, hW, hsame.mono (by decide) (by decide)⟩
                      · show Steps p.tables e below (T41.setTop (mkF m 96 #[.val (.int p0)] [(.ref w_NOTIFY_USER)])) _
                        exact retOut X41 hx Bd.returns rfl (Or.inr (Or.inr (Or.inr (Or.inr ⟨rfl, rfl, rfl⟩)))) (hb hby d_method_3_96) hr
                      · exact ⟨congrArg (fun z => some (Value.ref z)) (Eq.symm ((if_neg hc1_1).trans ((if_neg hc10_5).trans ((if_neg hc19_9).trans ((if_neg hc28_13).trans ((if_neg hc37_17).trans ((if_neg hc46_21).trans ((if_neg hc56_25).trans ((if_neg hc66_29).trans ((if_neg hc76_33).trans (if_neg hc86_37))))))))))), N0, e41⟩
abbrev own_Inc (l : Launch) (Z : State) (n0 : Nat) (rm : Room) (h : Heap) (a b : Addr) (r : Int32) : Prop := MetFree l (⟨"com/example/live_rbac/liverbac/ProcessOperation", "includes", "(Lcom/example/live_rbac/liverbac/ProcessOperation;)Z"⟩ : MethodName) (head1 [Jvm.Cond.code (⟨"com/example/live_rbac/liverbac/ProcessOperation", "includes", "(Lcom/example/live_rbac/liverbac/ProcessOperation;)Z"⟩ : MethodName) prog_25_method_5_code 2 (some .boolean)] rm) (fun z U => z = #[.ref a, .ref b] ∧ Z.Warmed39 U.vm ∧ U.heap = h) (fun _ _ _ _ _ => True) (fun _ U o U' => ∃ v L, o = .returned v ∧ own_Q (some (.int r)) h n0 v U'.heap L ∧ FrameEnd U o U' L rm.cells rm.slots)
theorem d_prog_25_method_5_0 : decode prog_25_method_5_code 0 = .ok (.aload_n 1, 1) := by decide +kernel
theorem d_prog_25_method_5_1 : decode prog_25_method_5_code 1 = .ok (.aload_n 0, 1) := by decide +kernel
theorem d_prog_25_method_5_2 : decode prog_25_method_5_code 2 = .ok (.if_acmp .eq 21, 3) := by decide +kernel
theorem d_prog_25_method_5_23 : decode prog_25_method_5_code 23 = .ok (.iconst 1, 1) := by decide +kernel
theorem d_prog_25_method_5_24 : decode prog_25_method_5_code 24 = .ok (.goto 4, 3) := by decide +kernel
theorem d_prog_25_method_5_28 : decode prog_25_method_5_code 28 = .ok (.ireturn, 1) := by decide +kernel
theorem pn_1 : plainName "com/example/live_rbac/liverbac/ProcessOperation" = true := by first | (simp [plainName, overriddenIn]; done) | decide +kernel
theorem ef_same0 (m : MethodId) (x0 : Addr) (x1 : Addr) : entryFrame m #[(.ref x0), (.ref x1)] 2 = mkF m 0 #[.val (.ref x0), .val (.ref x1)] [] := by first | (simp [entryFrame, mkF, argsToLocals, Value.category]; done) | rfl
set_option maxRecDepth 65536 in
set_option maxHeartbeats 40000000 in
theorem rm_same0 (l : Launch) (Z : State) (a0 : Array Value) (hw : ∀ d ∈ tables_1, d.before a0 Z = true) (ws : List Jvm.Cond) (a1 : Addr) (h0 : Heap) (n0 : Nat) :
    MetFree l (⟨"com/example/live_rbac/liverbac/ProcessOperation", "includes", "(Lcom/example/live_rbac/liverbac/ProcessOperation;)Z"⟩ : MethodName) (head1 (Jvm.Cond.code (⟨"com/example/live_rbac/liverbac/ProcessOperation", "includes", "(Lcom/example/live_rbac/liverbac/ProcessOperation;)Z"⟩ : MethodName) prog_25_method_5_code 2 (some .boolean) :: ws) ({ frames := 0, cells := 0, slots := 0, locals := 0 } : Room)) (fun a U => a = #[(.ref a1), (.ref a1)] ∧ Z.Warmed39 U.vm ∧ U.heap = h0) (fun _ _ _ _ _ => True) (fun _ U o U' => ∃ v L, o = .returned v ∧ own_Q (some (.int (1 : Int32))) h0 n0 v U'.heap L ∧ FrameEnd U o U' L ({ frames := 0, cells := 0, slots := 0, locals := 0 } : Room).cells ({ frames := 0, cells := 0, slots := 0, locals := 0 } : Room).slots) := by
  refine MetFree.of_bodySF (plainFor_of_name pn_1) hisR ?_
  intro p e s m args below meth c s₁ Bd hml0 hP hK0
  obtain ⟨rfl, hZ, hh⟩ := hP
  have hx := Bd.exec
  have hby := Bd.bytes
  have hml : c.maxLocals = 2 := hml0
  have hown : s.vm.findClass "com/example/live_rbac/liverbac/ProcessOperation" = some m.cls := findClass_of_methodNamed Bd.named
  have hnm := (name_of_methodNamed Bd.named Bd.method).1
  have X0 : Stand p l e ({ frames := 0, cells := 0, slots := 0, locals := 0 } : Room) s m #[(.ref a1), (.ref a1)] below meth c s₁ [] 0 0 := Stand.of_body Bd
  have e0 : s₁.heap = h0 := by rw [← hh, Bd.state]; rfl
  have N0 := Fr.nil n0
  have pre0 : ∀ t, Steps p.tables e below (s₁.setTop (mkF m 0 #[.val (.ref a1), .val (.ref a1)] [])) t → Steps p.tables e below (s₁.setTop (entryFrame m #[(.ref a1), (.ref a1)] 2)) t := fun t k => castTop (ef_same0 m a1 a1) k
  have pre1 : ∀ t, Steps p.tables e below (s₁.setTop (mkF m 28 #[.val (.ref a1), .val (.ref a1)] [(.int (1 : Int32))])) t → Steps p.tables e below (s₁.setTop (entryFrame m #[(.ref a1), (.ref a1)] 2)) t := fun t k => pre0 t (by
    show Steps p.tables e below (s₁.setTop (mkF m 0 #[.val (.ref a1), .val (.ref a1)] [])) _
    refine XS.aloadN X0.here hx rfl (hb hby d_prog_25_method_5_0) rfl rfl ?_
    show Steps p.tables e below (s₁.setTop (mkF m 1 #[.val (.ref a1), .val (.ref a1)] [(.ref a1)])) _
    refine XS.aloadN X0.here hx rfl (hb hby d_prog_25_method_5_1) rfl rfl ?_
    show Steps p.tables e below (s₁.setTop (mkF m 2 #[.val (.ref a1), .val (.ref a1)] [(.ref a1), (.ref a1)])) _
    refine Jvm.RoadKit.acmp (g := (mkF m 2 #[.val (.ref a1), .val (.ref a1)] [(.ref a1), (.ref a1)])) X0 hx rfl rfl rfl (pc0 := 2) (pc' := 23) (same := true) rfl (hb hby d_prog_25_method_5_2) rfl (decide_eq_true rfl) (by decide) (by decide) ?_
    show Steps p.tables e below (s₁.setTop (mkF m 23 #[.val (.ref a1), .val (.ref a1)] [])) _
    refine XS.iconst X0.here hx rfl (hb hby d_prog_25_method_5_23) ?_
    show Steps p.tables e below (s₁.setTop (mkF m 24 #[.val (.ref a1), .val (.ref a1)] [(.int (1 : Int32))])) _
    refine XS.goto X0.here hx rfl (pc0 := 24) (pc' := 28) rfl (hb hby d_prog_25_method_5_24) (by decide) (by decide) ?_
    exact k)
  obtain ⟨fs, hr, hrun, hended, hW, hsame⟩ := X0.leave (v := some (.int (1 : Int32))) (fun h => by rw [Bd.returns] at h; cases h)
  refine ⟨_, _, pre1 _ ?_, hrun, hended, _, _, rfl, ?_, ⟨_, rfl⟩, hW, hsame.mono (by decide) (by decide)⟩
  · show Steps p.tables e below (s₁.setTop (mkF m 28 #[.val (.ref a1), .val (.ref a1)] [(.int (1 : Int32))])) _
    exact retN X0 hx (t := .boolean) Bd.returns (by simp) (hb hby d_prog_25_method_5_28) hr
  · exact ⟨rfl, N0, e0⟩
theorem d_prog_25_method_5_5 : decode prog_25_method_5_code 5 = .ok (.aload_n 1, 1) := by decide +kernel
theorem d_prog_25_method_5_6 : decode prog_25_method_5_code 6 = .ok (.getfield 60, 3) := by decide +kernel
theorem d_prog_25_method_5_9 : decode prog_25_method_5_code 9 = .ok (.ifnull 18, 3) := by decide +kernel
theorem d_prog_25_method_5_27 : decode prog_25_method_5_code 27 = .ok (.iconst 0, 1) := by decide +kernel
theorem ef_root0 (m : MethodId) (x0 : Addr) (x1 : Addr) : entryFrame m #[(.ref x0), (.ref x1)] 2 = mkF m 0 #[.val (.ref x0), .val (.ref x1)] [] := by first | (simp [entryFrame, mkF, argsToLocals, Value.category]; done) | rfl
set_option maxRecDepth 65536 in
set_option maxHeartbeats 40000000 in
theorem rm_root0 (l : Launch) (Z : State) (a0 : Array Value) (hw : ∀ d ∈ tables_1, d.before a0 Z = true) (ws : List Jvm.Cond) (a1 : Addr) (b1 : Addr) (h0 : Heap) (n0 : Nat) (hne : ¬ b1 = a1) (F_p : Fld Z h0 b1 "com/example/live_rbac/liverbac/ProcessOperation" "parent" "Lcom/example/live_rbac/liverbac/ProcessOperation;" .null) :
    MetFree l (⟨"com/example/live_rbac/liverbac/ProcessOperation", "includes", "(Lcom/example/live_rbac/liverbac/ProcessOperation;)Z"⟩ : MethodName) (head1 (Jvm.Cond.code (⟨"com/example/live_rbac/liverbac/ProcessOperation", "includes", "(Lcom/example/live_rbac/liverbac/ProcessOperation;)Z"⟩ : MethodName) prog_25_method_5_code 2 (some .boolean) :: ws) ({ frames := 0, cells := 0, slots := 0, locals := 0 } : Room)) (fun a U => a = #[(.ref a1), (.ref b1)] ∧ Z.Warmed39 U.vm ∧ U.heap = h0) (fun _ _ _ _ _ => True) (fun _ U o U' => ∃ v L, o = .returned v ∧ own_Q (some (.int (0 : Int32))) h0 n0 v U'.heap L ∧ FrameEnd U o U' L ({ frames := 0, cells := 0, slots := 0, locals := 0 } : Room).cells ({ frames := 0, cells := 0, slots := 0, locals := 0 } : Room).slots) := by
  refine MetFree.of_bodySF (plainFor_of_name pn_1) hisR ?_
  intro p e s m args below meth c s₁ Bd hml0 hP hK0
  obtain ⟨rfl, hZ, hh⟩ := hP
  have hx := Bd.exec
  have hby := Bd.bytes
  have hml : c.maxLocals = 2 := hml0
  have hown : s.vm.findClass "com/example/live_rbac/liverbac/ProcessOperation" = some m.cls := findClass_of_methodNamed Bd.named
  have hnm := (name_of_methodNamed Bd.named Bd.method).1
  have X0 : Stand p l e ({ frames := 0, cells := 0, slots := 0, locals := 0 } : Room) s m #[(.ref a1), (.ref b1)] below meth c s₁ [] 0 0 := Stand.of_body Bd
  have e0 : s₁.heap = h0 := by rw [← hh, Bd.state]; rfl
  have N0 := Fr.nil n0
  have pre0 : ∀ t, Steps p.tables e below (s₁.setTop (mkF m 0 #[.val (.ref a1), .val (.ref b1)] [])) t → Steps p.tables e below (s₁.setTop (entryFrame m #[(.ref a1), (.ref b1)] 2)) t := fun t k => castTop (ef_root0 m a1 b1) k
  obtain ⟨T1, X1, e1, st1⟩ := getF X0 hx hZ hown (host := "") (Or.inl (hw _ (ow 15 rfl))) Via.refl e0 F_p (g := (mkF m 6 #[.val (.ref a1), .val (.ref b1)] [(.ref b1)])) rfl rfl (hb hby d_prog_25_method_5_6)
  have pre2 : ∀ t, Steps p.tables e below (T1.setTop (mkF m 28 #[.val (.ref a1), .val (.ref b1)] [(.int (0 : Int32))])) t → Steps p.tables e below (s₁.setTop (entryFrame m #[(.ref a1), (.ref b1)] 2)) t := fun t k => pre0 t (by
    show Steps p.tables e below (s₁.setTop (mkF m 0 #[.val (.ref a1), .val (.ref b1)] [])) _
    refine XS.aloadN X0.here hx rfl (hb hby d_prog_25_method_5_0) rfl rfl ?_
    show Steps p.tables e below (s₁.setTop (mkF m 1 #[.val (.ref a1), .val (.ref b1)] [(.ref b1)])) _
    refine XS.aloadN X0.here hx rfl (hb hby d_prog_25_method_5_1) rfl rfl ?_
    show Steps p.tables e below (s₁.setTop (mkF m 2 #[.val (.ref a1), .val (.ref b1)] [(.ref a1), (.ref b1)])) _
    refine Jvm.RoadKit.acmp (g := (mkF m 2 #[.val (.ref a1), .val (.ref b1)] [(.ref a1), (.ref b1)])) X0 hx rfl rfl rfl (pc0 := 2) (pc' := 5) (same := false) rfl (hb hby d_prog_25_method_5_2) rfl (decide_eq_false fun q => hne (Value.ref.inj q)) (by decide) (by decide) ?_
    show Steps p.tables e below (s₁.setTop (mkF m 5 #[.val (.ref a1), .val (.ref b1)] [])) _
    refine XS.aloadN X0.here hx rfl (hb hby d_prog_25_method_5_5) rfl rfl ?_
    show Steps p.tables e below (s₁.setTop (mkF m 6 #[.val (.ref a1), .val (.ref b1)] [(.ref b1)])) _
    refine st1 _ ?_
    show Steps p.tables e below (T1.setTop (mkF m 9 #[.val (.ref a1), .val (.ref b1)] [.null])) _
    refine XS.ifnullYes X1.here hx rfl (pc0 := 9) (pc' := 27) rfl (hb hby d_prog_25_method_5_9) rfl (by decide) (by decide) ?_
    show Steps p.tables e below (T1.setTop (mkF m 27 #[.val (.ref a1), .val (.ref b1)] [])) _
    refine XS.iconst X1.here hx rfl (hb hby d_prog_25_method_5_27) ?_
    exact k)
  obtain ⟨fs, hr, hrun, hended, hW, hsame⟩ := X1.leave (v := some (.int (0 : Int32))) (fun h => by rw [Bd.returns] at h; cases h)
  refine ⟨_, _, pre2 _ ?_, hrun, hended, _, _, rfl, ?_, ⟨_, rfl⟩, hW, hsame.mono (by decide) (by decide)⟩
  · show Steps p.tables e below (T1.setTop (mkF m 28 #[.val (.ref a1), .val (.ref b1)] [(.int (0 : Int32))])) _
    exact retN X1 hx (t := .boolean) Bd.returns (by simp) (hb hby d_prog_25_method_5_28) hr
  · exact ⟨rfl, N0, e1⟩
theorem ef_same1 (m : MethodId) (x0 : Addr) (x1 : Addr) : entryFrame m #[(.ref x0), (.ref x1)] 2 = mkF m 0 #[.val (.ref x0), .val (.ref x1)] [] := by first | (simp [entryFrame, mkF, argsToLocals, Value.category]; done) | rfl
set_option maxRecDepth 65536 in
set_option maxHeartbeats 40000000 in
theorem rm_same1 (l : Launch) (Z : State) (a0 : Array Value) (hw : ∀ d ∈ tables_1, d.before a0 Z = true) (ws : List Jvm.Cond) (a1 : Addr) (h0 : Heap) (n0 : Nat) :
    MetFree l (⟨"com/example/live_rbac/liverbac/ProcessOperation", "includes", "(Lcom/example/live_rbac/liverbac/ProcessOperation;)Z"⟩ : MethodName) (head1 (Jvm.Cond.code (⟨"com/example/live_rbac/liverbac/ProcessOperation", "includes", "(Lcom/example/live_rbac/liverbac/ProcessOperation;)Z"⟩ : MethodName) prog_25_method_5_code 2 (some .boolean) :: ws) ({ frames := 1, cells := 0, slots := 0, locals := 13 } : Room)) (fun a U => a = #[(.ref a1), (.ref a1)] ∧ Z.Warmed39 U.vm ∧ U.heap = h0) (fun _ _ _ _ _ => True) (fun _ U o U' => ∃ v L, o = .returned v ∧ own_Q (some (.int (1 : Int32))) h0 n0 v U'.heap L ∧ FrameEnd U o U' L ({ frames := 1, cells := 0, slots := 0, locals := 13 } : Room).cells ({ frames := 1, cells := 0, slots := 0, locals := 13 } : Room).slots) := by
  refine MetFree.of_bodySF (plainFor_of_name pn_1) hisR ?_
  intro p e s m args below meth c s₁ Bd hml0 hP hK0
  obtain ⟨rfl, hZ, hh⟩ := hP
  have hx := Bd.exec
  have hby := Bd.bytes
  have hml : c.maxLocals = 2 := hml0
  have hown : s.vm.findClass "com/example/live_rbac/liverbac/ProcessOperation" = some m.cls := findClass_of_methodNamed Bd.named
  have hnm := (name_of_methodNamed Bd.named Bd.method).1
  have X0 : Stand p l e ({ frames := 1, cells := 0, slots := 0, locals := 13 } : Room) s m #[(.ref a1), (.ref a1)] below meth c s₁ [] 0 0 := Stand.of_body Bd
  have e0 : s₁.heap = h0 := by rw [← hh, Bd.state]; rfl
  have N0 := Fr.nil n0
  have pre0 : ∀ t, Steps p.tables e below (s₁.setTop (mkF m 0 #[.val (.ref a1), .val (.ref a1)] [])) t → Steps p.tables e below (s₁.setTop (entryFrame m #[(.ref a1), (.ref a1)] 2)) t := fun t k => castTop (ef_same1 m a1 a1) k
  have pre1 : ∀ t, Steps p.tables e below (s₁.setTop (mkF m 28 #[.val (.ref a1), .val (.ref a1)] [(.int (1 : Int32))])) t → Steps p.tables e below (s₁.setTop (entryFrame m #[(.ref a1), (.ref a1)] 2)) t := fun t k => pre0 t (by
    show Steps p.tables e below (s₁.setTop (mkF m 0 #[.val (.ref a1), .val (.ref a1)] [])) _
    refine XS.aloadN X0.here hx rfl (hb hby d_prog_25_method_5_0) rfl rfl ?_
    show Steps p.tables e below (s₁.setTop (mkF m 1 #[.val (.ref a1), .val (.ref a1)] [(.ref a1)])) _
    refine XS.aloadN X0.here hx rfl (hb hby d_prog_25_method_5_1) rfl rfl ?_
    show Steps p.tables e below (s₁.setTop (mkF m 2 #[.val (.ref a1), .val (.ref a1)] [(.ref a1), (.ref a1)])) _
    refine Jvm.RoadKit.acmp (g := (mkF m 2 #[.val (.ref a1), .val (.ref a1)] [(.ref a1), (.ref a1)])) X0 hx rfl rfl rfl (pc0 := 2) (pc' := 23) (same := true) rfl (hb hby d_prog_25_method_5_2) rfl (decide_eq_true rfl) (by decide) (by decide) ?_
    show Steps p.tables e below (s₁.setTop (mkF m 23 #[.val (.ref a1), .val (.ref a1)] [])) _
    refine XS.iconst X0.here hx rfl (hb hby d_prog_25_method_5_23) ?_
    show Steps p.tables e below (s₁.setTop (mkF m 24 #[.val (.ref a1), .val (.ref a1)] [(.int (1 : Int32))])) _
    refine XS.goto X0.here hx rfl (pc0 := 24) (pc' := 28) rfl (hb hby d_prog_25_method_5_24) (by decide) (by decide) ?_
    exact k)
  obtain ⟨fs, hr, hrun, hended, hW, hsame⟩ := X0.leave (v := some (.int (1 : Int32))) (fun h => by rw [Bd.returns] at h; cases h)
  refine ⟨_, _, pre1 _ ?_, hrun, hended, _, _, rfl, ?_, ⟨_, rfl⟩, hW, hsame.mono (by decide) (by decide)⟩
  · show Steps p.tables e below (s₁.setTop (mkF m 28 #[.val (.ref a1), .val (.ref a1)] [(.int (1 : Int32))])) _
    exact retN X0 hx (t := .boolean) Bd.returns (by simp) (hb hby d_prog_25_method_5_28) hr
  · exact ⟨rfl, N0, e0⟩
theorem ef_root1 (m : MethodId) (x0 : Addr) (x1 : Addr) : entryFrame m #[(.ref x0), (.ref x1)] 2 = mkF m 0 #[.val (.ref x0), .val (.ref x1)] [] := by first | (simp [entryFrame, mkF, argsToLocals, Value.category]; done) | rfl
set_option maxRecDepth 65536 in
set_option maxHeartbeats 40000000 in
theorem rm_root1 (l : Launch) (Z : State) (a0 : Array Value) (hw : ∀ d ∈ tables_1, d.before a0 Z = true) (ws : List Jvm.Cond) (a1 : Addr) (b1 : Addr) (h0 : Heap) (n0 : Nat) (hne : ¬ b1 = a1) (F_p : Fld Z h0 b1 "com/example/live_rbac/liverbac/ProcessOperation" "parent" "Lcom/example/live_rbac/liverbac/ProcessOperation;" .null) :
    MetFree l (⟨"com/example/live_rbac/liverbac/ProcessOperation", "includes", "(Lcom/example/live_rbac/liverbac/ProcessOperation;)Z"⟩ : MethodName) (head1 (Jvm.Cond.code (⟨"com/example/live_rbac/liverbac/ProcessOperation", "includes", "(Lcom/example/live_rbac/liverbac/ProcessOperation;)Z"⟩ : MethodName) prog_25_method_5_code 2 (some .boolean) :: ws) ({ frames := 1, cells := 0, slots := 0, locals := 13 } : Room)) (fun a U => a = #[(.ref a1), (.ref b1)] ∧ Z.Warmed39 U.vm ∧ U.heap = h0) (fun _ _ _ _ _ => True) (fun _ U o U' => ∃ v L, o = .returned v ∧ own_Q (some (.int (0 : Int32))) h0 n0 v U'.heap L ∧ FrameEnd U o U' L ({ frames := 1, cells := 0, slots := 0, locals := 13 } : Room).cells ({ frames := 1, cells := 0, slots := 0, locals := 13 } : Room).slots) := by
  refine MetFree.of_bodySF (plainFor_of_name pn_1) hisR ?_
  intro p e s m args below meth c s₁ Bd hml0 hP hK0
  obtain ⟨rfl, hZ, hh⟩ := hP
  have hx := Bd.exec
  have hby := Bd.bytes
  have hml : c.maxLocals = 2 := hml0
  have hown : s.vm.findClass "com/example/live_rbac/liverbac/ProcessOperation" = some m.cls := findClass_of_methodNamed Bd.named
  have hnm := (name_of_methodNamed Bd.named Bd.method).1
  have X0 : Stand p l e ({ frames := 1, cells := 0, slots := 0, locals := 13 } : Room) s m #[(.ref a1), (.ref b1)] below meth c s₁ [] 0 0 := Stand.of_body Bd
  have e0 : s₁.heap = h0 := by rw [← hh, Bd.state]; rfl
  have N0 := Fr.nil n0
  have pre0 : ∀ t, Steps p.tables e below (s₁.setTop (mkF m 0 #[.val (.ref a1), .val (.ref b1)] [])) t → Steps p.tables e below (s₁.setTop (entryFrame m #[(.ref a1), (.ref b1)] 2)) t := fun t k => castTop (ef_root1 m a1 b1) k
  obtain ⟨T1, X1, e1, st1⟩ := getF X0 hx hZ hown (host := "") (Or.inl (hw _ (ow 15 rfl))) Via.refl e0 F_p (g := (mkF m 6 #[.val (.ref a1), .val (.ref b1)] [(.ref b1)])) rfl rfl (hb hby d_prog_25_method_5_6)
  have pre2 : ∀ t, Steps p.tables e below (T1.setTop (mkF m 28 #[.val (.ref a1), .val (.ref b1)] [(.int (0 : Int32))])) t → Steps p.tables e below (s₁.setTop (entryFrame m #[(.ref a1), (.ref b1)] 2)) t := fun t k => pre0 t (by
    show Steps p.tables e below (s₁.setTop (mkF m 0 #[.val (.ref a1), .val (.ref b1)] [])) _
    refine XS.aloadN X0.here hx rfl (hb hby d_prog_25_method_5_0) rfl rfl ?_
    show Steps p.tables e below (s₁.setTop (mkF m 1 #[.val (.ref a1), .val (.ref b1)] [(.ref b1)])) _
    refine XS.aloadN X0.here hx rfl (hb hby d_prog_25_method_5_1) rfl rfl ?_
    show Steps p.tables e below (s₁.setTop (mkF m 2 #[.val (.ref a1), .val (.ref b1)] [(.ref a1), (.ref b1)])) _
    refine Jvm.RoadKit.acmp (g := (mkF m 2 #[.val (.ref a1), .val (.ref b1)] [(.ref a1), (.ref b1)])) X0 hx rfl rfl rfl (pc0 := 2) (pc' := 5) (same := false) rfl (hb hby d_prog_25_method_5_2) rfl (decide_eq_false fun q => hne (Value.ref.inj q)) (by decide) (by decide) ?_
    show Steps p.tables e below (s₁.setTop (mkF m 5 #[.val (.ref a1), .val (.ref b1)] [])) _
    refine XS.aloadN X0.here hx rfl (hb hby d_prog_25_method_5_5) rfl rfl ?_
    show Steps p.tables e below (s₁.setTop (mkF m 6 #[.val (.ref a1), .val (.ref b1)] [(.ref b1)])) _
    refine st1 _ ?_
    show Steps p.tables e below (T1.setTop (mkF m 9 #[.val (.ref a1), .val (.ref b1)] [.null])) _
    refine XS.ifnullYes X1.here hx rfl (pc0 := 9) (pc' := 27) rfl (hb hby d_prog_25_method_5_9) rfl (by decide) (by decide) ?_
    show Steps p.tables e below (T1.setTop (mkF m 27 #[.val (.ref a1), .val (.ref b1)] [])) _
    refine XS.iconst X1.here hx rfl (hb hby d_prog_25_method_5_27) ?_
    exact k)
  obtain ⟨fs, hr, hrun, hended, hW, hsame⟩ := X1.leave (v := some (.int (0 : Int32))) (fun h => by rw [Bd.returns] at h; cases h)
  refine ⟨_, _, pre2 _ ?_, hrun, hended, _, _, rfl, ?_, ⟨_, rfl⟩, hW, hsame.mono (by decide) (by decide)⟩
  · show Steps p.tables e below (T1.setTop (mkF m 28 #[.val (.ref a1), .val (.ref b1)] [(.int (0 : Int32))])) _
    exact retN X1 hx (t := .boolean) Bd.returns (by simp) (hb hby d_prog_25_method_5_28) hr
  · exact ⟨rfl, N0, e1⟩
theorem d_prog_25_method_5_12 : decode prog_25_method_5_code 12 = .ok (.aload_n 0, 1) := by decide +kernel
theorem d_prog_25_method_5_13 : decode prog_25_method_5_code 13 = .ok (.aload_n 1, 1) := by decide +kernel
theorem d_prog_25_method_5_14 : decode prog_25_method_5_code 14 = .ok (.getfield 60, 3) := by decide +kernel
theorem d_prog_25_method_5_17 : decode prog_25_method_5_code 17 = .ok (.invokevirtual 83, 3) := by decide +kernel
theorem pd_0 : parseMethodDescriptor "(Lcom/example/live_rbac/liverbac/ProcessOperation;)Z" = some ⟨[(.object "com/example/live_rbac/liverbac/ProcessOperation")], some .boolean⟩ := by decide +kernel
theorem d_prog_25_method_5_20 : decode prog_25_method_5_code 20 = .ok (.ifCond .eq 7, 3) := by decide +kernel
theorem ef_step1_0 (m : MethodId) (x0 : Addr) (x1 : Addr) : entryFrame m #[(.ref x0), (.ref x1)] 2 = mkF m 0 #[.val (.ref x0), .val (.ref x1)] [] := by first | (simp [entryFrame, mkF, argsToLocals, Value.category]; done) | rfl
set_option maxRecDepth 65536 in
set_option maxHeartbeats 40000000 in
theorem rm_step1_0 (l : Launch) (Z : State) (a0 : Array Value) (hw : ∀ d ∈ tables_1, d.before a0 Z = true) (ws : List Jvm.Cond) (a1 : Addr) (b1 : Addr) (h0 : Heap) (n0 : Nat) (c1 : Addr) (hne : ¬ b1 = a1) (F_p : Fld Z h0 b1 "com/example/live_rbac/liverbac/ProcessOperation" "parent" "Lcom/example/live_rbac/liverbac/ProcessOperation;" (.ref c1)) (E_a1 : Exa Z h0 a1 "com/example/live_rbac/liverbac/ProcessOperation") (hcall : own_Inc l Z n0 ({ frames := 0, cells := 0, slots := 0, locals := 0 } : Room) h0 a1 c1 (0 : Int32)) :
    MetFree l (⟨"com/example/live_rbac/liverbac/ProcessOperation", "includes", "(Lcom/example/live_rbac/liverbac/ProcessOperation;)Z"⟩ : MethodName) (head1 (Jvm.Cond.code (⟨"com/example/live_rbac/liverbac/ProcessOperation", "includes", "(Lcom/example/live_rbac/liverbac/ProcessOperation;)Z"⟩ : MethodName) prog_25_method_5_code 2 (some .boolean) :: ws) ({ frames := 1, cells := 0, slots := 0, locals := 13 } : Room)) (fun a U => a = #[(.ref a1), (.ref b1)] ∧ Z.Warmed39 U.vm ∧ U.heap = h0) (fun _ _ _ _ _ => True) (fun _ U o U' => ∃ v L, o = .returned v ∧ own_Q (some (.int (0 : Int32))) h0 n0 v U'.heap L ∧ FrameEnd U o U' L ({ frames := 1, cells := 0, slots := 0, locals := 13 } : Room).cells ({ frames := 1, cells := 0, slots := 0, locals := 13 } : Room).slots) := by
  refine MetFree.of_bodySF (plainFor_of_name pn_1) hisR ?_
  intro p e s m args below meth c s₁ Bd hml0 hP hK0
  obtain ⟨rfl, hZ, hh⟩ := hP
  have hx := Bd.exec
  have hby := Bd.bytes
  have hml : c.maxLocals = 2 := hml0
  have hown : s.vm.findClass "com/example/live_rbac/liverbac/ProcessOperation" = some m.cls := findClass_of_methodNamed Bd.named
  have hnm := (name_of_methodNamed Bd.named Bd.method).1
  have X0 : Stand p l e ({ frames := 1, cells := 0, slots := 0, locals := 13 } : Room) s m #[(.ref a1), (.ref b1)] below meth c s₁ [] 0 0 := Stand.of_body Bd
  have e0 : s₁.heap = h0 := by rw [← hh, Bd.state]; rfl
  have N0 := Fr.nil n0
  have pre0 : ∀ t, Steps p.tables e below (s₁.setTop (mkF m 0 #[.val (.ref a1), .val (.ref b1)] [])) t → Steps p.tables e below (s₁.setTop (entryFrame m #[(.ref a1), (.ref b1)] 2)) t := fun t k => castTop (ef_step1_0 m a1 b1) k
  obtain ⟨T1, X1, e1, st1⟩ := getF X0 hx hZ hown (host := "") (Or.inl (hw _ (ow 15 rfl))) Via.refl e0 F_p (g := (mkF m 6 #[.val (.ref a1), .val (.ref b1)] [(.ref b1)])) rfl rfl (hb hby d_prog_25_method_5_6)
  obtain ⟨T2, X2, e2, st2⟩ := getF X1 hx hZ hown (host := "") (Or.inl (hw _ (ow 15 rfl))) Via.refl e1 F_p (g := (mkF m 14 #[.val (.ref a1), .val (.ref b1)] [(.ref b1), (.ref a1)])) rfl rfl (hb hby d_prog_25_method_5_14)
  obtain ⟨cq3, kq3, q3a, q3b, q3c⟩ := isOf hZ e2 E_a1
  obtain ⟨v3, _, ⟨T3, L3, k3, n3⟩, -, X3, ⟨Lc3, hQ3, l3, y3, z3⟩, st3⟩ := X2.virtualBack hx (y := (⟨"com/example/live_rbac/liverbac/ProcessOperation", "includes", "(Lcom/example/live_rbac/liverbac/ProcessOperation;)Z"⟩ : MethodName)) (z := (⟨"com/example/live_rbac/liverbac/ProcessOperation", "includes", "(Lcom/example/live_rbac/liverbac/ProcessOperation;)Z"⟩ : MethodName)) hown (mvT hZ (hw _ (ow 18 rfl))) (mvT hZ (hw _ (ow 11 rfl))) (notFace_of_selects (args := #[]) (mvT hZ (hw _ (ow 13 rfl)))) (mvT hZ (hw _ (ow 13 rfl))) (mvT hZ (hw _ (ow 12 rfl))) (by decide) (backOf (W := 0) hcall hZ (hw _ (ow 14 rfl)) (hw _ (ow 6 rfl)) (by decide) (by decide)) q3a q3c (g := (mkF m 17 #[.val (.ref a1), .val (.ref b1)] [(.ref c1), (.ref a1)])) rfl (by rw [hml]; rfl) (Steps.refl _) (argsL := [(.ref c1)]) (rest := []) (lenOf pd_0 rfl) rfl (Nat.le_of_eq rfl) (hb hby d_prog_25_method_5_17) (fun _ _ => ⟨rfl, e2, (by decide : 0 + 0 ≤ _), (by decide : 0 + 0 ≤ _)⟩)
  dsimp only [Pt.U, Pt.locs, Pt.cells, Pt.slots] at X3 l3 y3 z3 st3 hQ3
  subst l3 y3 z3
  obtain ⟨hv3, Nq3, e3⟩ := hQ3
  obtain rfl : v3 = some (.int (0 : Int32)) := hv3
  have N3 := Fr.app N0 Nq3
  have pre4 : ∀ t, Steps p.tables e below (T3.setTop (mkF m 28 #[.val (.ref a1), .val (.ref b1)] [(.int (0 : Int32))])) t → Steps p.tables e below (s₁.setTop (entryFrame m #[(.ref a1), (.ref b1)] 2)) t := fun t k => pre0 t (by
    show Steps p.tables e below (s₁.setTop (mkF m 0 #[.val (.ref a1), .val (.ref b1)] [])) _
    refine XS.aloadN X0.here hx rfl (hb hby d_prog_25_method_5_0) rfl rfl ?_
    show Steps p.tables e below (s₁.setTop (mkF m 1 #[.val (.ref a1), .val (.ref b1)] [(.ref b1)])) _
    refine XS.aloadN X0.here hx rfl (hb hby d_prog_25_method_5_1) rfl rfl ?_
    show Steps p.tables e below (s₁.setTop (mkF m 2 #[.val (.ref a1), .val (.ref b1)] [(.ref a1), (.ref b1)])) _
    refine Jvm.RoadKit.acmp (g := (mkF m 2 #[.val (.ref a1), .val (.ref b1)] [(.ref a1), (.ref b1)])) X0 hx rfl rfl rfl (pc0 := 2) (pc' := 5) (same := false) rfl (hb hby d_prog_25_method_5_2) rfl (decide_eq_false fun q => hne (Value.ref.inj q)) (by decide) (by decide) ?_
    show Steps p.tables e below (s₁.setTop (mkF m 5 #[.val (.ref a1), .val (.ref b1)] [])) _
    refine XS.aloadN X0.here hx rfl (hb hby d_prog_25_method_5_5) rfl rfl ?_
    show Steps p.tables e below (s₁.setTop (mkF m 6 #[.val (.ref a1), .val (.ref b1)] [(.ref b1)])) _
    refine st1 _ ?_
    show Steps p.tables e below (T1.setTop (mkF m 9 #[.val (.ref a1), .val (.ref b1)] [(.ref c1)])) _
    refine XS.ifnullNo X1.here hx rfl (hb hby d_prog_25_method_5_9) rfl ?_
    show Steps p.tables e below (T1.setTop (mkF m 12 #[.val (.ref a1), .val (.ref b1)] [])) _
    refine XS.aloadN X1.here hx rfl (hb hby d_prog_25_method_5_12) rfl rfl ?_
    show Steps p.tables e below (T1.setTop (mkF m 13 #[.val (.ref a1), .val (.ref b1)] [(.ref a1)])) _
    refine XS.aloadN X1.here hx rfl (hb hby d_prog_25_method_5_13) rfl rfl ?_
    show Steps p.tables e below (T1.setTop (mkF m 14 #[.val (.ref a1), .val (.ref b1)] [(.ref b1), (.ref a1)])) _
    refine st2 _ ?_
    show Steps p.tables e below (T2.setTop (mkF m 17 #[.val (.ref a1), .val (.ref b1)] [(.ref c1), (.ref a1)])) _
    refine st3.trans ?_
    show Steps p.tables e below (T3.setTop (mkF m 20 #[.val (.ref a1), .val (.ref b1)] [(.int (0 : Int32))])) _
    refine XS.ifYes X3.here hx rfl (pc0 := 20) (pc' := 27) rfl (hb hby d_prog_25_method_5_20) rfl ((if0 _ _).trans (teq (by decide)).1) (by decide) (by decide) ?_
    show Steps p.tables e below (T3.setTop (mkF m 27 #[.val (.ref a1), .val (.ref b1)] [])) _
    refine XS.iconst X3.here hx rfl (hb hby d_prog_25_method_5_27) ?_
    exact k)
  obtain ⟨fs, hr, hrun, hended, hW, hsame⟩ := X3.leave (v := some (.int (0 : Int32))) (fun h => by rw [Bd.returns] at h; cases h)
  refine ⟨_, _, pre4 _ ?_, hrun, hended, _, _, rfl, ?_, ⟨_, rfl⟩, hW, hsame.mono (by decide) (by decide)⟩
  · show Steps p.tables e below (T3.setTop (mkF m 28 #[.val (.ref a1), .val (.ref b1)] [(.int (0 : Int32))])) _
    exact retN X3 hx (t := .boolean) Bd.returns (by simp) (hb hby d_prog_25_method_5_28) hr
  · exact ⟨rfl, N3, e3⟩
theorem ef_step1_1 (m : MethodId) (x0 : Addr) (x1 : Addr) : entryFrame m #[(.ref x0), (.ref x1)] 2 = mkF m 0 #[.val (.ref x0), .val (.ref x1)] [] := by first | (simp [entryFrame, mkF, argsToLocals, Value.category]; done) | rfl
set_option maxRecDepth 65536 in
set_option maxHeartbeats 40000000 in
theorem rm_step1_1 (l : Launch) (Z : State) (a0 : Array Value) (hw : ∀ d ∈ tables_1, d.before a0 Z = true) (ws : List Jvm.Cond) (a1 : Addr) (b1 : Addr) (h0 : Heap) (n0 : Nat) (c1 : Addr) (hne : ¬ b1 = a1) (F_p : Fld Z h0 b1 "com/example/live_rbac/liverbac/ProcessOperation" "parent" "Lcom/example/live_rbac/liverbac/ProcessOperation;" (.ref c1)) (E_a1 : Exa Z h0 a1 "com/example/live_rbac/liverbac/ProcessOperation") (hcall : own_Inc l Z n0 ({ frames := 0, cells := 0, slots := 0, locals := 0 } : Room) h0 a1 c1 (1 : Int32)) :
    MetFree l (⟨"com/example/live_rbac/liverbac/ProcessOperation", "includes", "(Lcom/example/live_rbac/liverbac/ProcessOperation;)Z"⟩ : MethodName) (head1 (Jvm.Cond.code (⟨"com/example/live_rbac/liverbac/ProcessOperation", "includes", "(Lcom/example/live_rbac/liverbac/ProcessOperation;)Z"⟩ : MethodName) prog_25_method_5_code 2 (some .boolean) :: ws) ({ frames := 1, cells := 0, slots := 0, locals := 13 } : Room)) (fun a U => a = #[(.ref a1), (.ref b1)] ∧ Z.Warmed39 U.vm ∧ U.heap = h0) (fun _ _ _ _ _ => True) (fun _ U o U' => ∃ v L, o = .returned v ∧ own_Q (some (.int (1 : Int32))) h0 n0 v U'.heap L ∧ FrameEnd U o U' L ({ frames := 1, cells := 0, slots := 0, locals := 13 } : Room).cells ({ frames := 1, cells := 0, slots := 0, locals := 13 } : Room).slots) := by
  refine MetFree.of_bodySF (plainFor_of_name pn_1) hisR ?_
  intro p e s m args below meth c s₁ Bd hml0 hP hK0
  obtain ⟨rfl, hZ, hh⟩ := hP
  have hx := Bd.exec
  have hby := Bd.bytes
  have hml : c.maxLocals = 2 := hml0
  have hown : s.vm.findClass "com/example/live_rbac/liverbac/ProcessOperation" = some m.cls := findClass_of_methodNamed Bd.named
  have hnm := (name_of_methodNamed Bd.named Bd.method).1
  have X0 : Stand p l e ({ frames := 1, cells := 0, slots := 0, locals := 13 } : Room) s m #[(.ref a1), (.ref b1)] below meth c s₁ [] 0 0 := Stand.of_body Bd
  have e0 : s₁.heap = h0 := by rw [← hh, Bd.state]; rfl
  have N0 := Fr.nil n0
  have pre0 : ∀ t, Steps p.tables e below (s₁.setTop (mkF m 0 #[.val (.ref a1), .val (.ref b1)] [])) t → Steps p.tables e below (s₁.setTop (entryFrame m #[(.ref a1), (.ref b1)] 2)) t := fun t k => castTop (ef_step1_1 m a1 b1) k
  obtain ⟨T1, X1, e1, st1⟩ := getF X0 hx hZ hown (host := "") (Or.inl (hw _ (ow 15 rfl))) Via.refl e0 F_p (g := (mkF m 6 #[.val (.ref a1), .val (.ref b1)] [(.ref b1)])) rfl rfl (hb hby d_prog_25_method_5_6)
  obtain ⟨T2, X2, e2, st2⟩ := getF X1 hx hZ hown (host := "") (Or.inl (hw _ (ow 15 rfl))) Via.refl e1 F_p (g := (mkF m 14 #[.val (.ref a1), .val (.ref b1)] [(.ref b1), (.ref a1)])) rfl rfl (hb hby d_prog_25_method_5_14)
  obtain ⟨cq3, kq3, q3a, q3b, q3c⟩ := isOf hZ e2 E_a1
  obtain ⟨v3, _, ⟨T3, L3, k3, n3⟩, -, X3, ⟨Lc3, hQ3, l3, y3, z3⟩, st3⟩ := X2.virtualBack hx (y := (⟨"com/example/live_rbac/liverbac/ProcessOperation", "includes", "(Lcom/example/live_rbac/liverbac/ProcessOperation;)Z"⟩ : MethodName)) (z := (⟨"com/example/live_rbac/liverbac/ProcessOperation", "includes", "(Lcom/example/live_rbac/liverbac/ProcessOperation;)Z"⟩ : MethodName)) hown (mvT hZ (hw _ (ow 18 rfl))) (mvT hZ (hw _ (ow 11 rfl))) (notFace_of_selects (args := #[]) (mvT hZ (hw _ (ow 13 rfl)))) (mvT hZ (hw _ (ow 13 rfl))) (mvT hZ (hw _ (ow 12 rfl))) (by decide) (backOf (W := 0) hcall hZ (hw _ (ow 14 rfl)) (hw _ (ow 6 rfl)) (by decide) (by decide)) q3a q3c (g := (mkF m 17 #[.val (.ref a1), .val (.ref b1)] [(.ref c1), (.ref a1)])) rfl (by rw [hml]; rfl) (Steps.refl _) (argsL := [(.ref c1)]) (rest := []) (lenOf pd_0 rfl) rfl (Nat.le_of_eq rfl) (hb hby d_prog_25_method_5_17) (fun _ _ => ⟨rfl, e2, (by decide : 0 + 0 ≤ _), (by decide : 0 + 0 ≤ _)⟩)
  dsimp only [Pt.U, Pt.locs, Pt.cells, Pt.slots] at X3 l3 y3 z3 st3 hQ3
  subst l3 y3 z3
  obtain ⟨hv3, Nq3, e3⟩ := hQ3
  obtain rfl : v3 = some (.int (1 : Int32)) := hv3
  have N3 := Fr.app N0 Nq3
  have pre4 : ∀ t, Steps p.tables e below (T3.setTop (mkF m 28 #[.val (.ref a1), .val (.ref b1)] [(.int (1 : Int32))])) t → Steps p.tables e below (s₁.setTop (entryFrame m #[(.ref a1), (.ref b1)] 2)) t := fun t k => pre0 t (by
    show Steps p.tables e below (s₁.setTop (mkF m 0 #[.val (.ref a1), .val (.ref b1)] [])) _
    refine XS.aloadN X0.here hx rfl (hb hby d_prog_25_method_5_0) rfl rfl ?_
    show Steps p.tables e below (s₁.setTop (mkF m 1 #[.val (.ref a1), .val (.ref b1)] [(.ref b1)])) _
    refine XS.aloadN X0.here hx rfl (hb hby d_prog_25_method_5_1) rfl rfl ?_
    show Steps p.tables e below (s₁.setTop (mkF m 2 #[.val (.ref a1), .val (.ref b1)] [(.ref a1), (.ref b1)])) _
    refine Jvm.RoadKit.acmp (g := (mkF m 2 #[.val (.ref a1), .val (.ref b1)] [(.ref a1), (.ref b1)])) X0 hx rfl rfl rfl (pc0 := 2) (pc' := 5) (same := false) rfl (hb hby d_prog_25_method_5_2) rfl (decide_eq_false fun q => hne (Value.ref.inj q)) (by decide) (by decide) ?_
    show Steps p.tables e below (s₁.setTop (mkF m 5 #[.val (.ref a1), .val (.ref b1)] [])) _
    refine XS.aloadN X0.here hx rfl (hb hby d_prog_25_method_5_5) rfl rfl ?_
    show Steps p.tables e below (s₁.setTop (mkF m 6 #[.val (.ref a1), .val (.ref b1)] [(.ref b1)])) _
    refine st1 _ ?_
    show Steps p.tables e below (T1.setTop (mkF m 9 #[.val (.ref a1), .val (.ref b1)] [(.ref c1)])) _
    refine XS.ifnullNo X1.here hx rfl (hb hby d_prog_25_method_5_9) rfl ?_
    show Steps p.tables e below (T1.setTop (mkF m 12 #[.val (.ref a1), .val (.ref b1)] [])) _
    refine XS.aloadN X1.here hx rfl (hb hby d_prog_25_method_5_12) rfl rfl ?_
    show Steps p.tables e below (T1.setTop (mkF m 13 #[.val (.ref a1), .val (.ref b1)] [(.ref a1)])) _
    refine XS.aloadN X1.here hx rfl (hb hby d_prog_25_method_5_13) rfl rfl ?_
    show Steps p.tables e below (T1.setTop (mkF m 14 #[.val (.ref a1), .val (.ref b1)] [(.ref b1), (.ref a1)])) _
    refine st2 _ ?_
    show Steps p.tables e below (T2.setTop (mkF m 17 #[.val (.ref a1), .val (.ref b1)] [(.ref c1), (.ref a1)])) _
    refine st3.trans ?_
    show Steps p.tables e below (T3.setTop (mkF m 20 #[.val (.ref a1), .val (.ref b1)] [(.int (1 : Int32))])) _
    refine XS.ifNo X3.here hx rfl (hb hby d_prog_25_method_5_20) rfl ((if0 _ _).trans (feq (by decide)).1) ?_
    show Steps p.tables e below (T3.setTop (mkF m 23 #[.val (.ref a1), .val (.ref b1)] [])) _
    refine XS.iconst X3.here hx rfl (hb hby d_prog_25_method_5_23) ?_
    show Steps p.tables e below (T3.setTop (mkF m 24 #[.val (.ref a1), .val (.ref b1)] [(.int (1 : Int32))])) _
    refine XS.goto X3.here hx rfl (pc0 := 24) (pc' := 28) rfl (hb hby d_prog_25_method_5_24) (by decide) (by decide) ?_
    exact k)
  obtain ⟨fs, hr, hrun, hended, hW, hsame⟩ := X3.leave (v := some (.int (1 : Int32))) (fun h => by rw [Bd.returns] at h; cases h)
  refine ⟨_, _, pre4 _ ?_, hrun, hended, _, _, rfl, ?_, ⟨_, rfl⟩, hW, hsame.mono (by decide) (by decide)⟩
  · show Steps p.tables e below (T3.setTop (mkF m 28 #[.val (.ref a1), .val (.ref b1)] [(.int (1 : Int32))])) _
    exact retN X3 hx (t := .boolean) Bd.returns (by simp) (hb hby d_prog_25_method_5_28) hr
  · exact ⟨rfl, N3, e3⟩
theorem ef_same2 (m : MethodId) (x0 : Addr) (x1 : Addr) : entryFrame m #[(.ref x0), (.ref x1)] 2 = mkF m 0 #[.val (.ref x0), .val (.ref x1)] [] := by first | (simp [entryFrame, mkF, argsToLocals, Value.category]; done) | rfl
set_option maxRecDepth 65536 in
set_option maxHeartbeats 40000000 in
theorem rm_same2 (l : Launch) (Z : State) (a0 : Array Value) (hw : ∀ d ∈ tables_1, d.before a0 Z = true) (ws : List Jvm.Cond) (a1 : Addr) (h0 : Heap) (n0 : Nat) :
    MetFree l (⟨"com/example/live_rbac/liverbac/ProcessOperation", "includes", "(Lcom/example/live_rbac/liverbac/ProcessOperation;)Z"⟩ : MethodName) (head1 (Jvm.Cond.code (⟨"com/example/live_rbac/liverbac/ProcessOperation", "includes", "(Lcom/example/live_rbac/liverbac/ProcessOperation;)Z"⟩ : MethodName) prog_25_method_5_code 2 (some .boolean) :: ws) ({ frames := 2, cells := 0, slots := 0, locals := 26 } : Room)) (fun a U => a = #[(.ref a1), (.ref a1)] ∧ Z.Warmed39 U.vm ∧ U.heap = h0) (fun _ _ _ _ _ => True) (fun _ U o U' => ∃ v L, o = .returned v ∧ own_Q (some (.int (1 : Int32))) h0 n0 v U'.heap L ∧ FrameEnd U o U' L ({ frames := 2, cells := 0, slots := 0, locals := 26 } : Room).cells ({ frames := 2, cells := 0, slots := 0, locals := 26 } : Room).slots) := by
  refine MetFree.of_bodySF (plainFor_of_name pn_1) hisR ?_
  intro p e s m args below meth c s₁ Bd hml0 hP hK0
  obtain ⟨rfl, hZ, hh⟩ := hP
  have hx := Bd.exec
  have hby := Bd.bytes
  have hml : c.maxLocals = 2 := hml0
  have hown : s.vm.findClass "com/example/live_rbac/liverbac/ProcessOperation" = some m.cls := findClass_of_methodNamed Bd.named
  have hnm := (name_of_methodNamed Bd.named Bd.method).1
  have X0 : Stand p l e ({ frames := 2, cells := 0, slots := 0, locals := 26 } : Room) s m #[(.ref a1), (.ref a1)] below meth c s₁ [] 0 0 := Stand.of_body Bd
  have e0 : s₁.heap = h0 := by rw [← hh, Bd.state]; rfl
  have N0 := Fr.nil n0
  have pre0 : ∀ t, Steps p.tables e below (s₁.setTop (mkF m 0 #[.val (.ref a1), .val (.ref a1)] [])) t → Steps p.tables e below (s₁.setTop (entryFrame m #[(.ref a1), (.ref a1)] 2)) t := fun t k => castTop (ef_same2 m a1 a1) k
  have pre1 : ∀ t, Steps p.tables e below (s₁.setTop (mkF m 28 #[.val (.ref a1), .val (.ref a1)] [(.int (1 : Int32))])) t → Steps p.tables e below (s₁.setTop (entryFrame m #[(.ref a1), (.ref a1)] 2)) t := fun t k => pre0 t (by
    show Steps p.tables e below (s₁.setTop (mkF m 0 #[.val (.ref a1), .val (.ref a1)] [])) _
    refine XS.aloadN X0.here hx rfl (hb hby d_prog_25_method_5_0) rfl rfl ?_
    show Steps p.tables e below (s₁.setTop (mkF m 1 #[.val (.ref a1), .val (.ref a1)] [(.ref a1)])) _
    refine XS.aloadN X0.here hx rfl (hb hby d_prog_25_method_5_1) rfl rfl ?_
    show Steps p.tables e below (s₁.setTop (mkF m 2 #[.val (.ref a1), .val (.ref a1)] [(.ref a1), (.ref a1)])) _
    refine Jvm.RoadKit.acmp (g := (mkF m 2 #[.val (.ref a1), .val (.ref a1)] [(.ref a1), (.ref a1)])) X0 hx rfl rfl rfl (pc0 := 2) (pc' := 23) (same := true) rfl (hb hby d_prog_25_method_5_2) rfl (decide_eq_true rfl) (by decide) (by decide) ?_
    show Steps p.tables e below (s₁.setTop (mkF m 23 #[.val (.ref a1), .val (.ref a1)] [])) _
    refine XS.iconst X0.here hx rfl (hb hby d_prog_25_method_5_23) ?_
    show Steps p.tables e below (s₁.setTop (mkF m 24 #[.val (.ref a1), .val (.ref a1)] [(.int (1 : Int32))])) _
    refine XS.goto X0.here hx rfl (pc0 := 24) (pc' := 28) rfl (hb hby d_prog_25_method_5_24) (by decide) (by decide) ?_
    exact k)
  obtain ⟨fs, hr, hrun, hended, hW, hsame⟩ := X0.leave (v := some (.int (1 : Int32))) (fun h => by rw [Bd.returns] at h; cases h)
  refine ⟨_, _, pre1 _ ?_, hrun, hended, _, _, rfl, ?_, ⟨_, rfl⟩, hW, hsame.mono (by decide) (by decide)⟩
  · show Steps p.tables e below (s₁.setTop (mkF m 28 #[.val (.ref a1), .val (.ref a1)] [(.int (1 : Int32))])) _
    exact retN X0 hx (t := .boolean) Bd.returns (by simp) (hb hby d_prog_25_method_5_28) hr
  · exact ⟨rfl, N0, e0⟩
theorem ef_root2 (m : MethodId) (x0 : Addr) (x1 : Addr) : entryFrame m #[(.ref x0), (.ref x1)] 2 = mkF m 0 #[.val (.ref x0), .val (.ref x1)] [] := by first | (simp [entryFrame, mkF, argsToLocals, Value.category]; done) | rfl
set_option maxRecDepth 65536 in
set_option maxHeartbeats 40000000 in
theorem rm_root2 (l : Launch) (Z : State) (a0 : Array Value) (hw : ∀ d ∈ tables_1, d.before a0 Z = true) (ws : List Jvm.Cond) (a1 : Addr) (b1 : Addr) (h0 : Heap) (n0 : Nat) (hne : ¬ b1 = a1) (F_p : Fld Z h0 b1 "com/example/live_rbac/liverbac/ProcessOperation" "parent" "Lcom/example/live_rbac/liverbac/ProcessOperation;" .null) :
    MetFree l (⟨"com/example/live_rbac/liverbac/ProcessOperation", "includes", "(Lcom/example/live_rbac/liverbac/ProcessOperation;)Z"⟩ : MethodName) (head1 (Jvm.Cond.code (⟨"com/example/live_rbac/liverbac/ProcessOperation", "includes", "(Lcom/example/live_rbac/liverbac/ProcessOperation;)Z"⟩ : MethodName) prog_25_method_5_code 2 (some .boolean) :: ws) ({ frames := 2, cells := 0, slots := 0, locals := 26 } : Room)) (fun a U => a = #[(.ref a1), (.ref b1)] ∧ Z.Warmed39 U.vm ∧ U.heap = h0) (fun _ _ _ _ _ => True) (fun _ U o U' => ∃ v L, o = .returned v ∧ own_Q (some (.int (0 : Int32))) h0 n0 v U'.heap L ∧ FrameEnd U o U' L ({ frames := 2, cells := 0, slots := 0, locals := 26 } : Room).cells ({ frames := 2, cells := 0, slots := 0, locals := 26 } : Room).slots) := by
  refine MetFree.of_bodySF (plainFor_of_name pn_1) hisR ?_
  intro p e s m args below meth c s₁ Bd hml0 hP hK0
  obtain ⟨rfl, hZ, hh⟩ := hP
  have hx := Bd.exec
  have hby := Bd.bytes
  have hml : c.maxLocals = 2 := hml0
  have hown : s.vm.findClass "com/example/live_rbac/liverbac/ProcessOperation" = some m.cls := findClass_of_methodNamed Bd.named
  have hnm := (name_of_methodNamed Bd.named Bd.method).1
  have X0 : Stand p l e ({ frames := 2, cells := 0, slots := 0, locals := 26 } : Room) s m #[(.ref a1), (.ref b1)] below meth c s₁ [] 0 0 := Stand.of_body Bd
  have e0 : s₁.heap = h0 := by rw [← hh, Bd.state]; rfl
  have N0 := Fr.nil n0
  have pre0 : ∀ t, Steps p.tables e below (s₁.setTop (mkF m 0 #[.val (.ref a1), .val (.ref b1)] [])) t → Steps p.tables e below (s₁.setTop (entryFrame m #[(.ref a1), (.ref b1)] 2)) t := fun t k => castTop (ef_root2 m a1 b1) k
  obtain ⟨T1, X1, e1, st1⟩ := getF X0 hx hZ hown (host := "") (Or.inl (hw _ (ow 15 rfl))) Via.refl e0 F_p (g := (mkF m 6 #[.val (.ref a1), .val (.ref b1)] [(.ref b1)])) rfl rfl (hb hby d_prog_25_method_5_6)
  have pre2 : ∀ t, Steps p.tables e below (T1.setTop (mkF m 28 #[.val (.ref a1), .val (.ref b1)] [(.int (0 : Int32))])) t → Steps p.tables e below (s₁.setTop (entryFrame m #[(.ref a1), (.ref b1)] 2)) t := fun t k => pre0 t (by
    show Steps p.tables e below (s₁.setTop (mkF m 0 #[.val (.ref a1), .val (.ref b1)] [])) _
    refine XS.aloadN X0.here hx rfl (hb hby d_prog_25_method_5_0) rfl rfl ?_
    show Steps p.tables e below (s₁.setTop (mkF m 1 #[.val (.ref a1), .val (.ref b1)] [(.ref b1)])) _
    refine XS.aloadN X0.here hx rfl (hb hby d_prog_25_method_5_1) rfl rfl ?_
    show Steps p.tables e below (s₁.setTop (mkF m 2 #[.val (.ref a1), .val (.ref b1)] [(.ref a1), (.ref b1)])) _
    refine Jvm.RoadKit.acmp (g := (mkF m 2 #[.val (.ref a1), .val (.ref b1)] [(.ref a1), (.ref b1)])) X0 hx rfl rfl rfl (pc0 := 2) (pc' := 5) (same := false) rfl (hb hby d_prog_25_method_5_2) rfl (decide_eq_false fun q => hne (Value.ref.inj q)) (by decide) (by decide) ?_
    show Steps p.tables e below (s₁.setTop (mkF m 5 #[.val (.ref a1), .val (.ref b1)] [])) _
    refine XS.aloadN X0.here hx rfl (hb hby d_prog_25_method_5_5) rfl rfl ?_
    show Steps p.tables e below (s₁.setTop (mkF m 6 #[.val (.ref a1), .val (.ref b1)] [(.ref b1)])) _
    refine st1 _ ?_
    show Steps p.tables e below (T1.setTop (mkF m 9 #[.val (.ref a1), .val (.ref b1)] [.null])) _
    refine XS.ifnullYes X1.here hx rfl (pc0 := 9) (pc' := 27) rfl (hb hby d_prog_25_method_5_9) rfl (by decide) (by decide) ?_
    show Steps p.tables e below (T1.setTop (mkF m 27 #[.val (.ref a1), .val (.ref b1)] [])) _
    refine XS.iconst X1.here hx rfl (hb hby d_prog_25_method_5_27) ?_
    exact k)
  obtain ⟨fs, hr, hrun, hended, hW, hsame⟩ := X1.leave (v := some (.int (0 : Int32))) (fun h => by rw [Bd.returns] at h; cases h)
  refine ⟨_, _, pre2 _ ?_, hrun, hended, _, _, rfl, ?_, ⟨_, rfl⟩, hW, hsame.mono (by decide) (by decide)⟩
  · show Steps p.tables e below (T1.setTop (mkF m 28 #[.val (.ref a1), .val (.ref b1)] [(.int (0 : Int32))])) _
    exact retN X1 hx (t := .boolean) Bd.returns (by simp) (hb hby d_prog_25_method_5_28) hr
  · exact ⟨rfl, N0, e1⟩
theorem ef_step2_0 (m : MethodId) (x0 : Addr) (x1 : Addr) : entryFrame m #[(.ref x0), (.ref x1)] 2 = mkF m 0 #[.val (.ref x0), .val (.ref x1)] [] := by first | (simp [entryFrame, mkF, argsToLocals, Value.category]; done) | rfl
set_option maxRecDepth 65536 in
set_option maxHeartbeats 40000000 in
theorem rm_step2_0 (l : Launch) (Z : State) (a0 : Array Value) (hw : ∀ d ∈ tables_1, d.before a0 Z = true) (ws : List Jvm.Cond) (a1 : Addr) (b1 : Addr) (h0 : Heap) (n0 : Nat) (c1 : Addr) (hne : ¬ b1 = a1) (F_p : Fld Z h0 b1 "com/example/live_rbac/liverbac/ProcessOperation" "parent" "Lcom/example/live_rbac/liverbac/ProcessOperation;" (.ref c1)) (E_a1 : Exa Z h0 a1 "com/example/live_rbac/liverbac/ProcessOperation") (hcall : own_Inc l Z n0 ({ frames := 1, cells := 0, slots := 0, locals := 13 } : Room) h0 a1 c1 (0 : Int32)) :
    MetFree l (⟨"com/example/live_rbac/liverbac/ProcessOperation", "includes", "(Lcom/example/live_rbac/liverbac/ProcessOperation;)Z"⟩ : MethodName) (head1 (Jvm.Cond.code (⟨"com/example/live_rbac/liverbac/ProcessOperation", "includes", "(Lcom/example/live_rbac/liverbac/ProcessOperation;)Z"⟩ : MethodName) prog_25_method_5_code 2 (some .boolean) :: ws) ({ frames := 2, cells := 0, slots := 0, locals := 26 } : Room)) (fun a U => a = #[(.ref a1), (.ref b1)] ∧ Z.Warmed39 U.vm ∧ U.heap = h0) (fun _ _ _ _ _ => True) (fun _ U o U' => ∃ v L, o = .returned v ∧ own_Q (some (.int (0 : Int32))) h0 n0 v U'.heap L ∧ FrameEnd U o U' L ({ frames := 2, cells := 0, slots := 0, locals := 26 } : Room).cells ({ frames := 2, cells := 0, slots := 0, locals := 26 } : Room).slots) := by
  refine MetFree.of_bodySF (plainFor_of_name pn_1) hisR ?_
  intro p e s m args below meth c s₁ Bd hml0 hP hK0
  obtain ⟨rfl, hZ, hh⟩ := hP
  have hx := Bd.exec
  have hby := Bd.bytes
  have hml : c.maxLocals = 2 := hml0
  have hown : s.vm.findClass "com/example/live_rbac/liverbac/ProcessOperation" = some m.cls := findClass_of_methodNamed Bd.named
  have hnm := (name_of_methodNamed Bd.named Bd.method).1
  have X0 : Stand p l e ({ frames := 2, cells := 0, slots := 0, locals := 26 } : Room) s m #[(.ref a1), (.ref b1)] below meth c s₁ [] 0 0 := Stand.of_body Bd
  have e0 : s₁.heap = h0 := by rw [← hh, Bd.state]; rfl
  have N0 := Fr.nil n0
  have pre0 : ∀ t, Steps p.tables e below (s₁.setTop (mkF m 0 #[.val (.ref a1), .val (.ref b1)] [])) t → Steps p.tables e below (s₁.setTop (entryFrame m #[(.ref a1), (.ref b1)] 2)) t := fun t k => castTop (ef_step2_0 m a1 b1) k
  obtain ⟨T1, X1, e1, st1⟩ := getF X0 hx hZ hown (host := "") (Or.inl (hw _ (ow 15 rfl))) Via.refl e0 F_p (g := (mkF m 6 #[.val (.ref a1), .val (.ref b1)] [(.ref b1)])) rfl rfl (hb hby d_prog_25_method_5_6)
  obtain ⟨T2, X2, e2, st2⟩ := getF X1 hx hZ hown (host := "") (Or.inl (hw _ (ow 15 rfl))) Via.refl e1 F_p (g := (mkF m 14 #[.val (.ref a1), .val (.ref b1)] [(.ref b1), (.ref a1)])) rfl rfl (hb hby d_prog_25_method_5_14)
  obtain ⟨cq3, kq3, q3a, q3b, q3c⟩ := isOf hZ e2 E_a1
  obtain ⟨v3, _, ⟨T3, L3, k3, n3⟩, -, X3, ⟨Lc3, hQ3, l3, y3, z3⟩, st3⟩ := X2.virtualBack hx (y := (⟨"com/example/live_rbac/liverbac/ProcessOperation", "includes", "(Lcom/example/live_rbac/liverbac/ProcessOperation;)Z"⟩ : MethodName)) (z := (⟨"com/example/live_rbac/liverbac/ProcessOperation", "includes", "(Lcom/example/live_rbac/liverbac/ProcessOperation;)Z"⟩ : MethodName)) hown (mvT hZ (hw _ (ow 18 rfl))) (mvT hZ (hw _ (ow 11 rfl))) (notFace_of_selects (args := #[]) (mvT hZ (hw _ (ow 13 rfl)))) (mvT hZ (hw _ (ow 13 rfl))) (mvT hZ (hw _ (ow 12 rfl))) (by decide) (backOf (W := 0) hcall hZ (hw _ (ow 14 rfl)) (hw _ (ow 6 rfl)) (by decide) (by decide)) q3a q3c (g := (mkF m 17 #[.val (.ref a1), .val (.ref b1)] [(.ref c1), (.ref a1)])) rfl (by rw [hml]; rfl) (Steps.refl _) (argsL := [(.ref c1)]) (rest := []) (lenOf pd_0 rfl) rfl (Nat.le_of_eq rfl) (hb hby d_prog_25_method_5_17) (fun _ _ => ⟨rfl, e2, (by decide : 0 + 0 ≤ _), (by decide : 0 + 0 ≤ _)⟩)
  dsimp only [Pt.U, Pt.locs, Pt.cells, Pt.slots] at X3 l3 y3 z3 st3 hQ3
  subst l3 y3 z3
  obtain ⟨hv3, Nq3, e3⟩ := hQ3
  obtain rfl : v3 = some (.int (0 : Int32)) := hv3
  have N3 := Fr.app N0 Nq3
  have pre4 : ∀ t, Steps p.tables e below (T3.setTop (mkF m 28 #[.val (.ref a1), .val (.ref b1)] [(.int (0 : Int32))])) t → Steps p.tables e below (s₁.setTop (entryFrame m #[(.ref a1), (.ref b1)] 2)) t := fun t k => pre0 t (by
    show Steps p.tables e below (s₁.setTop (mkF m 0 #[.val (.ref a1), .val (.ref b1)] [])) _
    refine XS.aloadN X0.here hx rfl (hb hby d_prog_25_method_5_0) rfl rfl ?_
    show Steps p.tables e below (s₁.setTop (mkF m 1 #[.val (.ref a1), .val (.ref b1)] [(.ref b1)])) _
    refine XS.aloadN X0.here hx rfl (hb hby d_prog_25_method_5_1) rfl rfl ?_
    show Steps p.tables e below (s₁.setTop (mkF m 2 #[.val (.ref a1), .val (.ref b1)] [(.ref a1), (.ref b1)])) _
    refine Jvm.RoadKit.acmp (g := (mkF m 2 #[.val (.ref a1), .val (.ref b1)] [(.ref a1), (.ref b1)])) X0 hx rfl rfl rfl (pc0 := 2) (pc' := 5) (same := false) rfl (hb hby d_prog_25_method_5_2) rfl (decide_eq_false fun q => hne (Value.ref.inj q)) (by decide) (by decide) ?_
    show Steps p.tables e below (s₁.setTop (mkF m 5 #[.val (.ref a1), .val (.ref b1)] [])) _
    refine XS.aloadN X0.here hx rfl (hb hby d_prog_25_method_5_5) rfl rfl ?_
    show Steps p.tables e below (s₁.setTop (mkF m 6 #[.val (.ref a1), .val (.ref b1)] [(.ref b1)])) _
    refine st1 _ ?_
    show Steps p.tables e below (T1.setTop (mkF m 9 #[.val (.ref a1), .val (.ref b1)] [(.ref c1)])) _
    refine XS.ifnullNo X1.here hx rfl (hb hby d_prog_25_method_5_9) rfl ?_
    show Steps p.tables e below (T1.setTop (mkF m 12 #[.val (.ref a1), .val (.ref b1)] [])) _
    refine XS.aloadN X1.here hx rfl (hb hby d_prog_25_method_5_12) rfl rfl ?_
    show Steps p.tables e below (T1.setTop (mkF m 13 #[.val (.ref a1), .val (.ref b1)] [(.ref a1)])) _
    refine XS.aloadN X1.here hx rfl (hb hby d_prog_25_method_5_13) rfl rfl ?_
    show Steps p.tables e below (T1.setTop (mkF m 14 #[.val (.ref a1), .val (.ref b1)] [(.ref b1), (.ref a1)])) _
    refine st2 _ ?_
    show Steps p.tables e below (T2.setTop (mkF m 17 #[.val (.ref a1), .val (.ref b1)] [(.ref c1), (.ref a1)])) _
    refine st3.trans ?_
    show Steps p.tables e below (T3.setTop (mkF m 20 #[.val (.ref a1), .val (.ref b1)] [(.int (0 : Int32))])) _
    refine XS.ifYes X3.here hx rfl (pc0 := 20) (pc' := 27) rfl (hb hby d_prog_25_method_5_20) rfl ((if0 _ _).trans (teq (by decide)).1) (by decide) (by decide) ?_
    show Steps p.tables e below (T3.setTop (mkF m 27 #[.val (.ref a1), .val (.ref b1)] [])) _
    refine XS.iconst X3.here hx rfl (hb hby d_prog_25_method_5_27) ?_
    exact k)
  obtain ⟨fs, hr, hrun, hended, hW, hsame⟩ := X3.leave (v := some (.int (0 : Int32))) (fun h => by rw [Bd.returns] at h; cases h)
  refine ⟨_, _, pre4 _ ?_, hrun, hended, _, _, rfl, ?_, ⟨_, rfl⟩, hW, hsame.mono (by decide) (by decide)⟩
  · show Steps p.tables e below (T3.setTop (mkF m 28 #[.val (.ref a1), .val (.ref b1)] [(.int (0 : Int32))])) _
    exact retN X3 hx (t := .boolean) Bd.returns (by simp) (hb hby d_prog_25_method_5_28) hr
  · exact ⟨rfl, N3, e3⟩
theorem ef_step2_1 (m : MethodId) (x0 : Addr) (x1 : Addr) : entryFrame m #[(.ref x0), (.ref x1)] 2 = mkF m 0 #[.val (.ref x0), .val (.ref x1)] [] := by first | (simp [entryFrame, mkF, argsToLocals, Value.category]; done) | rfl
set_option maxRecDepth 65536 in
set_option maxHeartbeats 40000000 in
theorem rm_step2_1 (l : Launch) (Z : State) (a0 : Array Value) (hw : ∀ d ∈ tables_1, d.before a0 Z = true) (ws : List Jvm.Cond) (a1 : Addr) (b1 : Addr) (h0 : Heap) (n0 : Nat) (c1 : Addr) (hne : ¬ b1 = a1) (F_p : Fld Z h0 b1 "com/example/live_rbac/liverbac/ProcessOperation" "parent" "Lcom/example/live_rbac/liverbac/ProcessOperation;" (.ref c1)) (E_a1 : Exa Z h0 a1 "com/example/live_rbac/liverbac/ProcessOperation") (hcall : own_Inc l Z n0 ({ frames := 1, cells := 0, slots := 0, locals := 13 } : Room) h0 a1 c1 (1 : Int32)) :
    MetFree l (⟨"com/example/live_rbac/liverbac/ProcessOperation", "includes", "(Lcom/example/live_rbac/liverbac/ProcessOperation;)Z"⟩ : MethodName) (head1 (Jvm.Cond.code (⟨"com/example/live_rbac/liverbac/ProcessOperation", "includes", "(Lcom/example/live_rbac/liverbac/ProcessOperation;)Z"⟩ : MethodName) prog_25_method_5_code 2 (some .boolean) :: ws) ({ frames := 2, cells := 0, slots := 0, locals := 26 } : Room)) (fun a U => a = #[(.ref a1), (.ref b1)] ∧ Z.Warmed39 U.vm ∧ U.heap = h0) (fun _ _ _ _ _ => True) (fun _ U o U' => ∃ v L, o = .returned v ∧ own_Q (some (.int (1 : Int32))) h0 n0 v U'.heap L ∧ FrameEnd U o U' L ({ frames := 2, cells := 0, slots := 0, locals := 26 } : Room).cells ({ frames := 2, cells := 0, slots := 0, locals := 26 } : Room).slots) := by
  refine MetFree.of_bodySF (plainFor_of_name pn_1) hisR ?_
  intro p e s m args below meth c s₁ Bd hml0 hP hK0
  obtain ⟨rfl, hZ, hh⟩ := hP
  have hx := Bd.exec
  have hby := Bd.bytes
  have hml : c.maxLocals = 2 := hml0
  have hown : s.vm.findClass "com/example/live_rbac/liverbac/ProcessOperation" = some m.cls := findClass_of_methodNamed Bd.named
  have hnm := (name_of_methodNamed Bd.named Bd.method).1
  have X0 : Stand p l e ({ frames := 2, cells := 0, slots := 0, locals := 26 } : Room) s m #[(.ref a1), (.ref b1)] below meth c s₁ [] 0 0 := Stand.of_body Bd
  have e0 : s₁.heap = h0 := by rw [← hh, Bd.state]; rfl
  have N0 := Fr.nil n0
  have pre0 : ∀ t, Steps p.tables e below (s₁.setTop (mkF m 0 #[.val (.ref a1), .val (.ref b1)] [])) t → Steps p.tables e below (s₁.setTop (entryFrame m #[(.ref a1), (.ref b1)] 2)) t := fun t k => castTop (ef_step2_1 m a1 b1) k
  obtain ⟨T1, X1, e1, st1⟩ := getF X0 hx hZ hown (host := "") (Or.inl (hw _ (ow 15 rfl))) Via.refl e0 F_p (g := (mkF m 6 #[.val (.ref a1), .val (.ref b1)] [(.ref b1)])) rfl rfl (hb hby d_prog_25_method_5_6)
  obtain ⟨T2, X2, e2, st2⟩ := getF X1 hx hZ hown (host := "") (Or.inl (hw _ (ow 15 rfl))) Via.refl e1 F_p (g := (mkF m 14 #[.val (.ref a1), .val (.ref b1)] [(.ref b1), (.ref a1)])) rfl rfl (hb hby d_prog_25_method_5_14)
  obtain ⟨cq3, kq3, q3a, q3b, q3c⟩ := isOf hZ e2 E_a1
  obtain ⟨v3, _, ⟨T3, L3, k3, n3⟩, -, X3, ⟨Lc3, hQ3, l3, y3, z3⟩, st3⟩ := X2.virtualBack hx (y := (⟨"com/example/live_rbac/liverbac/ProcessOperation", "includes", "(Lcom/example/live_rbac/liverbac/ProcessOperation;)Z"⟩ : MethodName)) (z := (⟨"com/example/live_rbac/liverbac/ProcessOperation", "includes", "(Lcom/example/live_rbac/liverbac/ProcessOperation;)Z"⟩ : MethodName)) hown (mvT hZ (hw _ (ow 18 rfl))) (mvT hZ (hw _ (ow 11 rfl))) (notFace_of_selects (args := #[]) (mvT hZ (hw _ (ow 13 rfl)))) (mvT hZ (hw _ (ow 13 rfl))) (mvT hZ (hw _ (ow 12 rfl))) (by decide) (backOf (W := 0) hcall hZ (hw _ (ow 14 rfl)) (hw _ (ow 6 rfl)) (by decide) (by decide)) q3a q3c (g := (mkF m 17 #[.val (.ref a1), .val (.ref b1)] [(.ref c1), (.ref a1)])) rfl (by rw [hml]; rfl) (Steps.refl _) (argsL := [(.ref c1)]) (rest := []) (lenOf pd_0 rfl) rfl (Nat.le_of_eq rfl) (hb hby d_prog_25_method_5_17) (fun _ _ => ⟨rfl, e2, (by decide : 0 + 0 ≤ _), (by decide : 0 + 0 ≤ _)⟩)
  dsimp only [Pt.U, Pt.locs, Pt.cells, Pt.slots] at X3 l3 y3 z3 st3 hQ3
  subst l3 y3 z3
  obtain ⟨hv3, Nq3, e3⟩ := hQ3
  obtain rfl : v3 = some (.int (1 : Int32)) := hv3
  have N3 := Fr.app N0 Nq3
  have pre4 : ∀ t, Steps p.tables e below (T3.setTop (mkF m 28 #[.val (.ref a1), .val (.ref b1)] [(.int (1 : Int32))])) t → Steps p.tables e below (s₁.setTop (entryFrame m #[(.ref a1), (.ref b1)] 2)) t := fun t k => pre0 t (by
    show Steps p.tables e below (s₁.setTop (mkF m 0 #[.val (.ref a1), .val (.ref b1)] [])) _
    refine XS.aloadN X0.here hx rfl (hb hby d_prog_25_method_5_0) rfl rfl ?_
    show Steps p.tables e below (s₁.setTop (mkF m 1 #[.val (.ref a1), .val (.ref b1)] [(.ref b1)])) _
    refine XS.aloadN X0.here hx rfl (hb hby d_prog_25_method_5_1) rfl rfl ?_
    show Steps p.tables e below (s₁.setTop (mkF m 2 #[.val (.ref a1), .val (.ref b1)] [(.ref a1), (.ref b1)])) _
    refine Jvm.RoadKit.acmp (g := (mkF m 2 #[.val (.ref a1), .val (.ref b1)] [(.ref a1), (.ref b1)])) X0 hx rfl rfl rfl (pc0 := 2) (pc' := 5) (same := false) rfl (hb hby d_prog_25_method_5_2) rfl (decide_eq_false fun q => hne (Value.ref.inj q)) (by decide) (by decide) ?_
    show Steps p.tables e below (s₁.setTop (mkF m 5 #[.val (.ref a1), .val (.ref b1)] [])) _
    refine XS.aloadN X0.here hx rfl (hb hby d_prog_25_method_5_5) rfl rfl ?_
    show Steps p.tables e below (s₁.setTop (mkF m 6 #[.val (.ref a1), .val (.ref b1)] [(.ref b1)])) _
    refine st1 _ ?_
    show Steps p.tables e below (T1.setTop (mkF m 9 #[.val (.ref a1), .val (.ref b1)] [(.ref c1)])) _
    refine XS.ifnullNo X1.here hx rfl (hb hby d_prog_25_method_5_9) rfl ?_
    show Steps p.tables e below (T1.setTop (mkF m 12 #[.val (.ref a1), .val (.ref b1)] [])) _
    refine XS.aloadN X1.here hx rfl (hb hby d_prog_25_method_5_12) rfl rfl ?_
    show Steps p.tables e below (T1.setTop (mkF m 13 #[.val (.ref a1), .val (.ref b1)] [(.ref a1)])) _
    refine XS.aloadN X1.here hx rfl (hb hby d_prog_25_method_5_13) rfl rfl ?_
    show Steps p.tables e below (T1.setTop (mkF m 14 #[.val (.ref a1), .val (.ref b1)] [(.ref b1), (.ref a1)])) _
    refine st2 _ ?_
    show Steps p.tables e below (T2.setTop (mkF m 17 #[.val (.ref a1), .val (.ref b1)] [(.ref c1), (.ref a1)])) _
    refine st3.trans ?_
    show Steps p.tables e below (T3.setTop (mkF m 20 #[.val (.ref a1), .val (.ref b1)] [(.int (1 : Int32))])) _
    refine XS.ifNo X3.here hx rfl (hb hby d_prog_25_method_5_20) rfl ((if0 _ _).trans (feq (by decide)).1) ?_
    show Steps p.tables e below (T3.setTop (mkF m 23 #[.val (.ref a1), .val (.ref b1)] [])) _
    refine XS.iconst X3.here hx rfl (hb hby d_prog_25_method_5_23) ?_
    show Steps p.tables e below (T3.setTop (mkF m 24 #[.val (.ref a1), .val (.ref b1)] [(.int (1 : Int32))])) _
    refine XS.goto X3.here hx rfl (pc0 := 24) (pc' := 28) rfl (hb hby d_prog_25_method_5_24) (by decide) (by decide) ?_
    exact k)
  obtain ⟨fs, hr, hrun, hended, hW, hsame⟩ := X3.leave (v := some (.int (1 : Int32))) (fun h => by rw [Bd.returns] at h; cases h)
  refine ⟨_, _, pre4 _ ?_, hrun, hended, _, _, rfl, ?_, ⟨_, rfl⟩, hW, hsame.mono (by decide) (by decide)⟩
  · show Steps p.tables e below (T3.setTop (mkF m 28 #[.val (.ref a1), .val (.ref b1)] [(.int (1 : Int32))])) _
    exact retN X3 hx (t := .boolean) Bd.returns (by simp) (hb hby d_prog_25_method_5_28) hr
  · exact ⟨rfl, N3, e3⟩
theorem pd_1 : parseMethodDescriptor "(I)Lcom/example/live_rbac/liverbac/ProcessOperation;" = some ⟨[.int], some (.object "com/example/live_rbac/liverbac/ProcessOperation")⟩ := by decide +kernel
theorem ef_lawS (m : MethodId) (x0 : Int32) (x1 : Int32) : entryFrame m #[(.int x0), (.int x1)] maxLocals = mkF m 0 #[.val (.int x0), .val (.int x1), .unset, .unset, .unset, .unset, .unset] [] := by first | (simp [entryFrame, mkF, argsToLocals, Value.category, maxLocals]; done) | rfl
set_option maxRecDepth 65536 in
set_option maxHeartbeats 40000000 in
theorem rm_lawS (l : Launch) (Z : State) (a0 : Array Value) (hw : ∀ d ∈ tables_1, d.before a0 Z = true) (ws : List Jvm.Cond) (p1 : Int32) (p2 : Int32) (h0 : Heap) (n0 : Nat) (w_CHANGE_PROCESS w_NEW_PROCESS_INSTANCE_CHANGE w_PROCESS_INSTANCE_CHANGE w_PROCESS_TYPE_CHANGE w_MONITOR_PROCESS_INSTANCE w_NOTIFY_USER w_CREATE_SCHEMA w_EXECUTE_ACTIVITY w_INSTANTIATE_SCHEMA w_GRANT_PRIVILEGE w_REUSE_EXISTING_PROCESS_INSTANCE_CHANGE : Addr) (hK : own_K Z h0 w_CHANGE_PROCESS w_NEW_PROCESS_INSTANCE_CHANGE w_PROCESS_INSTANCE_CHANGE w_PROCESS_TYPE_CHANGE w_MONITOR_PROCESS_INSTANCE w_NOTIFY_USER w_CREATE_SCHEMA w_EXECUTE_ACTIVITY w_INSTANTIATE_SCHEMA w_GRANT_PRIVILEGE w_REUSE_EXISTING_PROCESS_INSTANCE_CHANGE) (ii jj : Int32) (A B : Addr) (r : Int32) (hi : ((p1 &&& (2147483647 : Int32)) % (11 : Int32)) = ii) (hj : ((p2 &&& (2147483647 : Int32)) % (11 : Int32)) = jj) (hA : (if ii = (0 : Int32) then w_CHANGE_PROCESS else (if ii = (1 : Int32) then w_PROCESS_TYPE_CHANGE else (if ii = (2 : Int32) then w_PROCESS_INSTANCE_CHANGE else (if ii = (3 : Int32) then w_NEW_PROCESS_INSTANCE_CHANGE else (if ii = (4 : Int32) then w_REUSE_EXISTING_PROCESS_INSTANCE_CHANGE else (if ii = (5 : Int32) then w_CREATE_SCHEMA else (if ii = (6 : Int32) then w_EXECUTE_ACTIVITY else (if ii = (7 : Int32) then w_GRANT_PRIVILEGE else (if ii = (8 : Int32) then w_INSTANTIATE_SCHEMA else (if ii = (9 : Int32) then w_MONITOR_PROCESS_INSTANCE else w_NOTIFY_USER)))))))))) = A) (hB : (if jj = (0 : Int32) then w_CHANGE_PROCESS else (if jj = (1 : Int32) then w_PROCESS_TYPE_CHANGE else (if jj = (2 : Int32) then w_PROCESS_INSTANCE_CHANGE else (if jj = (3 : Int32) then w_NEW_PROCESS_INSTANCE_CHANGE else (if jj = (4 : Int32) then w_REUSE_EXISTING_PROCESS_INSTANCE_CHANGE else (if jj = (5 : Int32) then w_CREATE_SCHEMA else (if jj = (6 : Int32) then w_EXECUTE_ACTIVITY else (if jj = (7 : Int32) then w_GRANT_PRIVILEGE else (if jj = (8 : Int32) then w_INSTANTIATE_SCHEMA else (if jj = (9 : Int32) then w_MONITOR_PROCESS_INSTANCE else w_NOTIFY_USER)))))))))) = B) (E_A : Exa Z h0 A "com/example/live_rbac/liverbac/ProcessOperation") (hr : (if ii = jj then (1 : Int32) else (if ii = (0 : Int32) then (if jj < (1 : Int32) then (if ii = (2 : Int32) then (if jj = (3 : Int32) then (1 : Int32) else (if jj = (4 : Int32) then (1 : Int32) else (0 : Int32))) else (0 : Int32)) else (if (4 : Int32) < jj then (if ii = (2 : Int32) then (if jj = (3 : Int32) then (1 : Int32) else (if jj = (4 : Int32) then (1 : Int32) else (0 : Int32))) else (0 : Int32)) else (1 : Int32))) else (if ii = (2 : Int32) then (if jj = (3 : Int32) then (1 : Int32) else (if jj = (4 : Int32) then (1 : Int32) else (0 : Int32))) else (0 : Int32)))) = r) (hinc : own_Inc l Z n0 ({ frames := 2, cells := 0, slots := 0, locals := 26 } : Room) h0 A B r) :
    MetFree l x (head1 (Jvm.Cond.code x code maxLocals ret :: ws) room_1) (fun a U => a = #[(.int p1), (.int p2)] ∧ Z.Warmed39 U.vm ∧ U.heap = h0) (fun _ _ _ _ _ => True) (fun _ U o U' => ∃ v L, o = .returned v ∧ own_Q (some (.int (1 : Int32))) h0 n0 v U'.heap L ∧ FrameEnd U o U' L room_1.cells room_1.slots) := by
  refine MetFree.of_bodySF (plainFor_of_name pn_0) hisR ?_
  intro p e s m args below meth c s₁ Bd hml0 hP hK0
  obtain ⟨rfl, hZ, hh⟩ := hP
  have hx := Bd.exec
  have hby := Bd.bytes
  have hml : c.maxLocals = 7 := hml0
  have hown : s.vm.findClass "com/example/live_rbac/liverbac/ProcessOperationIncludesPinLaw" = some m.cls := findClass_of_methodNamed Bd.named
  have hnm := (name_of_methodNamed Bd.named Bd.method).1
  have X0 : Stand p l e room_1 s m #[(.int p1), (.int p2)] below meth c s₁ [] 0 0 := Stand.of_body Bd
  have e0 : s₁.heap = h0 := by rw [← hh, Bd.state]; rfl
  have N0 := Fr.nil n0
  have pre0 : ∀ t, Steps p.tables e below (s₁.setTop (mkF m 0 #[.val (.int p1), .val (.int p2), .unset, .unset, .unset, .unset, .unset] [])) t → Steps p.tables e below (s₁.setTop (entryFrame m #[(.int p1), (.int p2)] maxLocals)) t := fun t k => castTop (ef_lawS m p1 p2) k
  have hK' := hK
  obtain ⟨S_w_CHANGE_PROCESS, E_w_CHANGE_PROCESS, S_w_NEW_PROCESS_INSTANCE_CHANGE, E_w_NEW_PROCESS_INSTANCE_CHANGE, F_ordinal_w_NEW_PROCESS_INSTANCE_CHANGE, F_ordinal_w_CHANGE_PROCESS, S_w_PROCESS_INSTANCE_CHANGE, E_w_PROCESS_INSTANCE_CHANGE, F_parent_w_NEW_PROCESS_INSTANCE_CHANGE, F_ordinal_w_PROCESS_INSTANCE_CHANGE, F_parent_w_PROCESS_INSTANCE_CHANGE, S_w_PROCESS_TYPE_CHANGE, E_w_PROCESS_TYPE_CHANGE, F_ordinal_w_PROCESS_TYPE_CHANGE, F_parent_w_PROCESS_TYPE_CHANGE, F_parent_w_CHANGE_PROCESS, S_w_MONITOR_PROCESS_INSTANCE, E_w_MONITOR_PROCESS_INSTANCE, S_w_NOTIFY_USER, E_w_NOTIFY_USER, F_ordinal_w_NOTIFY_USER, F_ordinal_w_MONITOR_PROCESS_INSTANCE, F_parent_w_NOTIFY_USER, S_w_CREATE_SCHEMA, E_w_CREATE_SCHEMA, F_ordinal_w_CREATE_SCHEMA, S_w_EXECUTE_ACTIVITY, E_w_EXECUTE_ACTIVITY, F_ordinal_w_EXECUTE_ACTIVITY, S_w_INSTANTIATE_SCHEMA, E_w_INSTANTIATE_SCHEMA, F_ordinal_w_INSTANTIATE_SCHEMA, F_parent_w_CREATE_SCHEMA, F_parent_w_EXECUTE_ACTIVITY, S_w_GRANT_PRIVILEGE, E_w_GRANT_PRIVILEGE, F_ordinal_w_GRANT_PRIVILEGE, F_parent_w_GRANT_PRIVILEGE, F_parent_w_INSTANTIATE_SCHEMA, S_w_REUSE_EXISTING_PROCESS_INSTANCE_CHANGE, E_w_REUSE_EXISTING_PROCESS_INSTANCE_CHANGE, F_ordinal_w_REUSE_EXISTING_PROCESS_INSTANCE_CHANGE, F_parent_w_REUSE_EXISTING_PROCESS_INSTANCE_CHANGE, F_parent_w_MONITOR_PROCESS_INSTANCE⟩ := hK'
  obtain ⟨v1, _, ⟨T1, L1, k1, n1⟩, -, X1, ⟨Lc1, hQ1, l1, y1, z1⟩, st1⟩ := Jvm.LawKit.callS X0 hx (y := (⟨"com/example/live_rbac/liverbac/ProcessOperationIncludesPinLaw", "op", "(I)Lcom/example/live_rbac/liverbac/ProcessOperation;"⟩ : MethodName)) hown (mvT hZ (hw _ (ow 1 rfl))) (mvT hZ (hw _ (ow 2 rfl))) (mvT hZ (hw _ (ow 3 rfl))) (mvT hZ (hw _ (ow 4 rfl))) (by decide) (backOf (W := 0) (rm_op l Z a0 hw [] ii h0 n0 w_CHANGE_PROCESS w_NEW_PROCESS_INSTANCE_CHANGE w_PROCESS_INSTANCE_CHANGE w_PROCESS_TYPE_CHANGE w_MONITOR_PROCESS_INSTANCE w_NOTIFY_USER w_CREATE_SCHEMA w_EXECUTE_ACTIVITY w_INSTANTIATE_SCHEMA w_GRANT_PRIVILEGE w_REUSE_EXISTING_PROCESS_INSTANCE_CHANGE hK) hZ (hw _ (ow 4 rfl)) (hw _ (ow 3 rfl)) (by decide) (by decide)) (g := (mkF m 17 #[.val (.int p1), .val (.int p2), .val (.int ii), .val (.int jj), .unset, .unset, .unset] [(.int ii)])) rfl (by rw [hml]; rfl) (argsL := [(.int ii)]) (rest := []) (lenOf pd_1 rfl) rfl (Nat.le_of_eq rfl) (hb hby at_17) (fun _ _ => ⟨rfl, e0, (by decide : 0 + 0 ≤ _), (by decide : 0 + 0 ≤ _)⟩)
  dsimp only [Pt.U, Pt.locs, Pt.cells, Pt.slots] at X1 l1 y1 z1 st1 hQ1
  subst l1 y1 z1
  obtain ⟨hv1, Nq1, e1⟩ := hQ1
  obtain rfl : v1 = some (.ref A) := hv1.trans (congrArg some (congrArg Value.ref hA))
  have N1 := Fr.app N0 Nq1
  obtain ⟨v2, _, ⟨T2, L2, k2, n2⟩, -, X2, ⟨Lc2, hQ2, l2, y2, z2⟩, st2⟩ := Jvm.LawKit.callS X1 hx (y := (⟨"com/example/live_rbac/liverbac/ProcessOperationIncludesPinLaw", "op", "(I)Lcom/example/live_rbac/liverbac/ProcessOperation;"⟩ : MethodName)) hown (mvT hZ (hw _ (ow 1 rfl))) (mvT hZ (hw _ (ow 2 rfl))) (mvT hZ (hw _ (ow 3 rfl))) (mvT hZ (hw _ (ow 4 rfl))) (by decide) (backOf (W := 0) (rm_op l Z a0 hw [] jj h0 n0 w_CHANGE_PROCESS w_NEW_PROCESS_INSTANCE_CHANGE w_PROCESS_INSTANCE_CHANGE w_PROCESS_TYPE_CHANGE w_MONITOR_PROCESS_INSTANCE w_NOTIFY_USER w_CREATE_SCHEMA w_EXECUTE_ACTIVITY w_INSTANTIATE_SCHEMA w_GRANT_PRIVILEGE w_REUSE_EXISTING_PROCESS_INSTANCE_CHANGE hK) hZ (hw _ (ow 4 rfl)) (hw _ (ow 3 rfl)) (by decide) (by decide)) (g := (mkF m 23 #[.val (.int p1), .val (.int p2), .val (.int ii), .val (.int jj), .val (.ref A), .unset, .unset] [(.int jj)])) rfl (by rw [hml]; rfl) (argsL := [(.int jj)]) (rest := []) (lenOf pd_1 rfl) rfl (Nat.le_of_eq rfl) (hb hby at_23) (fun _ _ => ⟨rfl, e1, (by decide : 0 + 0 ≤ _), (by decide : 0 + 0 ≤ _)⟩)
  dsimp only [Pt.U, Pt.locs, Pt.cells, Pt.slots] at X2 l2 y2 z2 st2 hQ2
  subst l2 y2 z2
  obtain ⟨hv2, Nq2, e2⟩ := hQ2
  obtain rfl : v2 = some (.ref B) := hv2.trans (congrArg some (congrArg Value.ref hB))
  have N2 := Fr.app N1 Nq2
  have pre4 : ∀ t, Steps p.tables e below (T2.setTop (mkF m 30 #[.val (.int p1), .val (.int p2), .val (.int ii), .val (.int jj), .val (.ref A), .val (.ref B), .unset] [(.int jj), (.int ii)])) t → Steps p.tables e below (s₁.setTop (entryFrame m #[(.int p1), (.int p2)] maxLocals)) t := fun t k => pre0 t (by
    show Steps p.tables e below (s₁.setTop (mkF m 0 #[.val (.int p1), .val (.int p2), .unset, .unset, .unset, .unset, .unset] [])) _
    refine XS.iloadN X0.here hx rfl (hb hby at_0) rfl ?_
    show Steps p.tables e below (s₁.setTop (mkF m 1 #[.val (.int p1), .val (.int p2), .unset, .unset, .unset, .unset, .unset] [(.int p1)])) _
    refine X0.ldcInt hx hown (mvT hZ (hw _ (ow 0 rfl))) (g := (mkF m 1 #[.val (.int p1), .val (.int p2), .unset, .unset, .unset, .unset, .unset] [(.int p1)])) rfl (hb hby at_1) _ ?_
    show Steps p.tables e below (s₁.setTop (mkF m 3 #[.val (.int p1), .val (.int p2), .unset, .unset, .unset, .unset, .unset] [(.int (2147483647 : Int32)), (.int p1)])) _
    refine XS.iand X0.here hx rfl (hb hby at_3) rfl ?_
    show Steps p.tables e below (s₁.setTop (mkF m 4 #[.val (.int p1), .val (.int p2), .unset, .unset, .unset, .unset, .unset] [(.int (p1 &&& (2147483647 : Int32)))])) _
    refine XS.bipush X0.here hx rfl (hb hby at_4) ?_
    show Steps p.tables e below (s₁.setTop (mkF m 6 #[.val (.int p1), .val (.int p2), .unset, .unset, .unset, .unset, .unset] [(.int (11 : Int32)), (.int (p1 &&& (2147483647 : Int32)))])) _
    refine iremM X0 hx rfl (hb hby at_6) rfl (by decide) ?_
    show Steps p.tables e below (s₁.setTop (mkF m 7 #[.val (.int p1), .val (.int p2), .unset, .unset, .unset, .unset, .unset] [(.int ((p1 &&& (2147483647 : Int32)) % (11 : Int32)))])) _
    rw [hi]
    show Steps p.tables e below (s₁.setTop (mkF m 7 #[.val (.int p1), .val (.int p2), .unset, .unset, .unset, .unset, .unset] [(.int ii)])) _
    refine XS.istoreN X0.here hx rfl (hb hby at_7) rfl (l' := #[.val (.int p1), .val (.int p2), .val (.int ii), .unset, .unset, .unset, .unset]) rfl ?_
    show Steps p.tables e below (s₁.setTop (mkF m 8 #[.val (.int p1), .val (.int p2), .val (.int ii), .unset, .unset, .unset, .unset] [])) _
    refine XS.iloadN X0.here hx rfl (hb hby at_8) rfl ?_
    show Steps p.tables e below (s₁.setTop (mkF m 9 #[.val (.int p1), .val (.int p2), .val (.int ii), .unset, .unset, .unset, .unset] [(.int p2)])) _
    refine X0.ldcInt hx hown (mvT hZ (hw _ (ow 0 rfl))) (g := (mkF m 9 #[.val (.int p1), .val (.int p2), .val (.int ii), .unset, .unset, .unset, .unset] [(.int p2)])) rfl (hb hby at_9) _ ?_
    show Steps p.tables e below (s₁.setTop (mkF m 11 #[.val (.int p1), .val (.int p2), .val (.int ii), .unset, .unset, .unset, .unset] [(.int (2147483647 : Int32)), (.int p2)])) _
    refine XS.iand X0.here hx rfl (hb hby at_11) rfl ?_
    show Steps p.tables e below (s₁.setTop (mkF m 12 #[.val (.int p1), .val (.int p2), .val (.int ii), .unset, .unset, .unset, .unset] [(.int (p2 &&& (2147483647 : Int32)))])) _
    refine XS.bipush X0.here hx rfl (hb hby at_12) ?_
    show Steps p.tables e below (s₁.setTop (mkF m 14 #[.val (.int p1), .val (.int p2), .val (.int ii), .unset, .unset, .unset, .unset] [(.int (11 : Int32)), (.int (p2 &&& (2147483647 : Int32)))])) _
    refine iremM X0 hx rfl (hb hby at_14) rfl (by decide) ?_
    show Steps p.tables e below (s₁.setTop (mkF m 15 #[.val (.int p1), .val (.int p2), .val (.int ii), .unset, .unset, .unset, .unset] [(.int ((p2 &&& (2147483647 : Int32)) % (11 : Int32)))])) _
    rw [hj]
    show Steps p.tables e below (s₁.setTop (mkF m 15 #[.val (.int p1), .val (.int p2), .val (.int ii), .unset, .unset, .unset, .unset] [(.int jj)])) _
    refine XS.istoreN X0.here hx rfl (hb hby at_15) rfl (l' := #[.val (.int p1), .val (.int p2), .val (.int ii), .val (.int jj), .unset, .unset, .unset]) rfl ?_
    show Steps p.tables e below (s₁.setTop (mkF m 16 #[.val (.int p1), .val (.int p2), .val (.int ii), .val (.int jj), .unset, .unset, .unset] [])) _
    refine XS.iloadN X0.here hx rfl (hb hby at_16) rfl ?_
    show Steps p.tables e below (s₁.setTop (mkF m 17 #[.val (.int p1), .val (.int p2), .val (.int ii), .val (.int jj), .unset, .unset, .unset] [(.int ii)])) _
    refine st1 _ ?_
    show Steps p.tables e below (T1.setTop (mkF m 20 #[.val (.int p1), .val (.int p2), .val (.int ii), .val (.int jj), .unset, .unset, .unset] [(.ref A)])) _
    refine XS.astore X1.here hx rfl (hb hby at_20) rfl rfl (l' := #[.val (.int p1), .val (.int p2), .val (.int ii), .val (.int jj), .val (.ref A), .unset, .unset]) rfl ?_
    show Steps p.tables e below (T1.setTop (mkF m 22 #[.val (.int p1), .val (.int p2), .val (.int ii), .val (.int jj), .val (.ref A), .unset, .unset] [])) _
    refine XS.iloadN X1.here hx rfl (hb hby at_22) rfl ?_
    show Steps p.tables e below (T1.setTop (mkF m 23 #[.val (.int p1), .val (.int p2), .val (.int ii), .val (.int jj), .val (.ref A), .unset, .unset] [(.int jj)])) _
    refine st2 _ ?_
    show Steps p.tables e below (T2.setTop (mkF m 26 #[.val (.int p1), .val (.int p2), .val (.int ii), .val (.int jj), .val (.ref A), .unset, .unset] [(.ref B)])) _
    refine XS.astore X2.here hx rfl (hb hby at_26) rfl rfl (l' := #[.val (.int p1), .val (.int p2), .val (.int ii), .val (.int jj), .val (.ref A), .val (.ref B), .unset]) rfl ?_
    show Steps p.tables e below (T2.setTop (mkF m 28 #[.val (.int p1), .val (.int p2), .val (.int ii), .val (.int jj), .val (.ref A), .val (.ref B), .unset] [])) _
    refine XS.iloadN X2.here hx rfl (hb hby at_28) rfl ?_
    show Steps p.tables e below (T2.setTop (mkF m 29 #[.val (.int p1), .val (.int p2), .val (.int ii), .val (.int jj), .val (.ref A), .val (.ref B), .unset] [(.int ii)])) _
    refine XS.iloadN X2.here hx rfl (hb hby at_29) rfl ?_
    exact k)
  by_cases hc30_3 : ii = jj
  · obtain ⟨cq5, kq5, q5a, q5b, q5c⟩ := isOf hZ e2 E_A
    obtain ⟨v5, _, ⟨T5, L5, k5, n5⟩, -, X5, ⟨Lc5, hQ5, l5, y5, z5⟩, st5⟩ := X2.virtualBack hx (y := (⟨"com/example/live_rbac/liverbac/ProcessOperation", "includes", "(Lcom/example/live_rbac/liverbac/ProcessOperation;)Z"⟩ : MethodName)) (z := (⟨"com/example/live_rbac/liverbac/ProcessOperation", "includes", "(Lcom/example/live_rbac/liverbac/ProcessOperation;)Z"⟩ : MethodName)) hown (mvT hZ (hw _ (ow 10 rfl))) (mvT hZ (hw _ (ow 11 rfl))) (notFace_of_selects (args := #[]) (mvT hZ (hw _ (ow 13 rfl)))) (mvT hZ (hw _ (ow 13 rfl))) (mvT hZ (hw _ (ow 12 rfl))) (by decide) (backOf (W := 0) hinc hZ (hw _ (ow 14 rfl)) (hw _ (ow 6 rfl)) (by decide) (by decide)) q5a q5c (g := (mkF m 73 #[.val (.int p1), .val (.int p2), .val (.int ii), .val (.int jj), .val (.ref A), .val (.ref B), .val (.int (1 : Int32))] [(.ref B), (.ref A)])) rfl (by rw [hml]; rfl) (Steps.refl _) (argsL := [(.ref B)]) (rest := []) (lenOf pd_0 rfl) rfl (Nat.le_of_eq rfl) (hb hby at_73) (fun _ _ => ⟨rfl, e2, (by decide : 0 + 0 ≤ _), (by decide : 0 + 0 ≤ _)⟩)
    dsimp only [Pt.U, Pt.locs, Pt.cells, Pt.slots] at X5 l5 y5 z5 st5 hQ5
    subst l5 y5 z5
    obtain ⟨hv5, Nq5, e5⟩ := hQ5
    obtain rfl : v5 = some (.int r) := hv5
    have N5 := Fr.app N2 Nq5
    have pre6 : ∀ t, Steps p.tables e below (T5.setTop (mkF m 86 #[.val (.int p1), .val (.int p2), .val (.int ii), .val (.int jj), .val (.ref A), .val (.ref B), .val (.int (1 : Int32))] [(.int (1 : Int32))])) t → Steps p.tables e below (s₁.setTop (entryFrame m #[(.int p1), (.int p2)] maxLocals)) t := fun t k => pre4 t (by
      show Steps p.tables e below (T2.setTop (mkF m 30 #[.val (.int p1), .val (.int p2), .val (.int ii), .val (.int jj), .val (.ref A), .val (.ref B), .unset] [(.int jj), (.int ii)])) _
      refine XS.icmpYes X2.here hx rfl (pc0 := 30) (pc' := 62) rfl (hb hby at_30) rfl (teq hc30_3).1 (by decide) (by decide) ?_
      show Steps p.tables e below (T2.setTop (mkF m 62 #[.val (.int p1), .val (.int p2), .val (.int ii), .val (.int jj), .val (.ref A), .val (.ref B), .unset] [])) _
      refine XS.iconst X2.here hx rfl (hb hby at_62) ?_
      show Steps p.tables e below (T2.setTop (mkF m 63 #[.val (.int p1), .val (.int p2), .val (.int ii), .val (.int jj), .val (.ref A), .val (.ref B), .unset] [(.int (1 : Int32))])) _
      refine XS.goto X2.here hx rfl (pc0 := 63) (pc' := 67) rfl (hb hby at_63) (by decide) (by decide) ?_
      show Steps p.tables e below (T2.setTop (mkF m 67 #[.val (.int p1), .val (.int p2), .val (.int ii), .val (.int jj), .val (.ref A), .val (.ref B), .unset] [(.int (1 : Int32))])) _
      refine XS.istore X2.here hx rfl (hb hby at_67) rfl (l' := #[.val (.int p1), .val (.int p2), .val (.int ii), .val (.int jj), .val (.ref A), .val (.ref B), .val (.int (1 : Int32))]) rfl ?_
      show Steps p.tables e below (T2.setTop (mkF m 69 #[.val (.int p1), .val (.int p2), .val (.int ii), .val (.int jj), .val (.ref A), .val (.ref B), .val (.int (1 : Int32))] [])) _
      refine XS.aload X2.here hx rfl (hb hby at_69) rfl rfl ?_
      show Steps p.tables e below (T2.setTop (mkF m 71 #[.val (.int p1), .val (.int p2), .val (.int ii), .val (.int jj), .val (.ref A), .val (.ref B), .val (.int (1 : Int32))] [(.ref A)])) _
      refine XS.aload X2.here hx rfl (hb hby at_71) rfl rfl ?_
      show Steps p.tables e below (T2.setTop (mkF m 73 #[.val (.int p1), .val (.int p2), .val (.int ii), .val (.int jj), .val (.ref A), .val (.ref B), .val (.int (1 : Int32))] [(.ref B), (.ref A)])) _
      refine st5.trans ?_
      show Steps p.tables e below (T5.setTop (mkF m 76 #[.val (.int p1), .val (.int p2), .val (.int ii), .val (.int jj), .val (.ref A), .val (.ref B), .val (.int (1 : Int32))] [(.int r)])) _
      refine XS.iload X5.here hx rfl (hb hby at_76) rfl ?_
      show Steps p.tables e below (T5.setTop (mkF m 78 #[.val (.int p1), .val (.int p2), .val (.int ii), .val (.int jj), .val (.ref A), .val (.ref B), .val (.int (1 : Int32))] [(.int (1 : Int32)), (.int r)])) _
      refine XS.icmpNo X5.here hx rfl (hb hby at_78) rfl (teq (hr.symm.trans (if_pos hc30_3))).2 ?_
      show Steps p.tables e below (T5.setTop (mkF m 81 #[.val (.int p1), .val (.int p2), .val (.int ii), .val (.int jj), .val (.ref A), .val (.ref B), .val (.int (1 : Int32))] [])) _
      refine XS.iconst X5.here hx rfl (hb hby at_81) ?_
      show Steps p.tables e below (T5.setTop (mkF m 82 #[.val (.int p1), .val (.int p2), .val (.int ii), .val (.int jj), .val (.ref A), .val (.ref B), .val (.int (1 : Int32))] [(.int (1 : Int32))])) _
      refine XS.goto X5.here hx rfl (pc0 := 82) (pc' := 86) rfl (hb hby at_82) (by decide) (by decide) ?_
      exact k)
    obtain ⟨fs, hr, hrun, hended, hW, hsame⟩ := X5.leave (v := some (.int (1 : Int32))) (fun h => by rw [Bd.returns] at h; cases h)
    refine ⟨_, _, pre6 _ ?_, hrun, hended, _, _, rfl, ?_, ⟨_, rfl⟩, hW, hsame.mono (by decide) (by decide)⟩
    · show Steps p.tables e below (T5.setTop (mkF m 86 #[.val (.int p1), .val (.int p2), .val (.int ii), .val (.int jj), .val (.ref A), .val (.ref B), .val (.int (1 : Int32))] [(.int (1 : Int32))])) _
      exact retN X5 hx (t := .boolean) Bd.returns (by simp) (hb hby at_86) hr
    · exact ⟨rfl, N5, e5⟩
  · have pre8 : ∀ t, Steps p.tables e below (T2.setTop (mkF m 34 #[.val (.int p1), .val (.int p2), .val (.int ii), .val (.int jj), .val (.ref A), .val (.ref B), .unset] [(.int ii)])) t → Steps p.tables e below (s₁.setTop (entryFrame m #[(.int p1), (.int p2)] maxLocals)) t := fun t k => pre4 t (by
      show Steps p.tables e below (T2.setTop (mkF m 30 #[.val (.int p1), .val (.int p2), .val (.int ii), .val (.int jj), .val (.ref A), .val (.ref B), .unset] [(.int jj), (.int ii)])) _
      refine XS.icmpNo X2.here hx rfl (hb hby at_30) rfl (feq hc30_3).1 ?_
      show Steps p.tables e below (T2.setTop (mkF m 33 #[.val (.int p1), .val (.int p2), .val (.int ii), .val (.int jj), .val (.ref A), .val (.ref B), .unset] [])) _
      refine XS.iloadN X2.here hx rfl (hb hby at_33) rfl ?_
      exact k)
    by_cases hc34_7 : ii = (0 : Int32)
    · have pre10 : ∀ t, Steps p.tables e below (T2.setTop (mkF m 39 #[.val (.int p1), .val (.int p2), .val (.int ii), .val (.int jj), .val (.ref A), .val (.ref B), .unset] [(.int (1 : Int32)), (.int jj)])) t → Steps p.tables e below (s₁.setTop (entryFrame m #[(.int p1), (.int p2)] maxLocals)) t := fun t k => pre8 t (by
        show Steps p.tables e below (T2.setTop (mkF m 34 #[.val (.int p1), .val (.int p2), .val (.int ii), .val (.int jj), .val (.ref A), .val (.ref B), .unset] [(.int ii)])) _
        refine XS.ifNo X2.here hx rfl (hb hby at_34) rfl ((if0 _ _).trans (teq hc34_7).2) ?_
        show Steps p.tables e below (T2.setTop (mkF m 37 #[.val (.int p1), .val (.int p2), .val (.int ii), .val (.int jj), .val (.ref A), .val (.ref B), .unset] [])) _
        refine XS.iloadN X2.here hx rfl (hb hby at_37) rfl ?_
        show Steps p.tables e below (T2.setTop (mkF m 38 #[.val (.int p1), .val (.int p2), .val (.int ii), .val (.int jj), .val (.ref A), .val (.ref B), .unset] [(.int jj)])) _
        refine XS.iconst X2.here hx rfl (hb hby at_38) ?_
        exact k)
      by_cases hc39_9 : jj < (1 : Int32)
      · have pre12 : ∀ t, Steps p.tables e below (T2.setTop (mkF m 49 #[.val (.int p1), .val (.int p2), .val (.int ii), .val (.int jj), .val (.ref A), .val (.ref B), .unset] [(.int (2 : Int32)), (.int ii)])) t → Steps p.tables e below (s₁.setTop (entryFrame m #[(.int p1), (.int p2)] maxLocals)) t := fun t k => pre10 t (by
          show Steps p.tables e below (T2.setTop (mkF m 39 #[.val (.int p1), .val (.int p2), .val (.int ii), .val (.int jj), .val (.ref A), .val (.ref B), .unset] [(.int (1 : Int32)), (.int jj)])) _
          refine XS.icmpYes X2.here hx rfl (pc0 := 39) (pc' := 47) rfl (hb hby at_39) rfl (tlt hc39_9).1 (by decide) (by decide) ?_
          show Steps p.tables e below (T2.setTop (mkF m 47 #[.val (.int p1), .val (.int p2), .val (.int ii), .val (.int jj), .val (.ref A), .val (.ref B), .unset] [])) _
          refine XS.iloadN X2.here hx rfl (hb hby at_47) rfl ?_
          show Steps p.tables e below (T2.setTop (mkF m 48 #[.val (.int p1), .val (.int p2), .val (.int ii), .val (.int jj), .val (.ref A), .val (.ref B), .unset] [(.int ii)])) _
          refine XS.iconst X2.here hx rfl (hb hby at_48) ?_
          exact k)
        by_cases hc49_11 : ii = (2 : Int32)
        · have pre14 : ∀ t, Steps p.tables e below (T2.setTop (mkF m 54 #[.val (.int p1), .val (.int p2), .val (.int ii), .val (.int jj), .val (.ref A), .val (.ref B), .unset] [(.int (3 : Int32)), (.int jj)])) t → Steps p.tables e below (s₁.setTop (entryFrame m #[(.int p1), (.int p2)] maxLocals)) t := fun t k => pre12 t (by
            show Steps p.tables e below (T2.setTop (mkF m 49 #[.val (.int p1), .val (.int p2), .val (.int ii), .val (.int jj), .val (.ref A), .val (.ref B), .unset] [(.int (2 : Int32)), (.int ii)])) _
            refine XS.icmpNo X2.here hx rfl (hb hby at_49) rfl (teq hc49_11).2 ?_
            show Steps p.tables e below (T2.setTop (mkF m 52 #[.val (.int p1), .val (.int p2), .val (.int ii), .val (.int jj), .val (.ref A), .val (.ref B), .unset] [])) _
            refine XS.iloadN X2.here hx rfl (hb hby at_52) rfl ?_
            show Steps p.tables e below (T2.setTop (mkF m 53 #[.val (.int p1), .val (.int p2), .val (.int ii), .val (.int jj), .val (.ref A), .val (.ref B), .unset] [(.int jj)])) _
            refine XS.iconst X2.here hx rfl (hb hby at_53) ?_
            exact k)
          by_cases hc54_13 : jj = (3 : Int32)
          · obtain ⟨cq15, kq15, q15a, q15b, q15c⟩ := isOf hZ e2 E_A
            obtain ⟨v15, _, ⟨T15, L15, k15, n15⟩, -, X15, ⟨Lc15, hQ15, l15, y15, z15⟩, st15⟩ := X2.virtualBack hx (y := (⟨"com/example/live_rbac/liverbac/ProcessOperation", "includes", "(Lcom/example/live_rbac/liverbac/ProcessOperation;)Z"⟩ : MethodName)) (z := (⟨"com/example/live_rbac/liverbac/ProcessOperation", "includes", "(Lcom/example/live_rbac/liverbac/ProcessOperation;)Z"⟩ : MethodName)) hown (mvT hZ (hw _ (ow 10 rfl))) (mvT hZ (hw _ (ow 11 rfl))) (notFace_of_selects (args := #[]) (mvT hZ (hw _ (ow 13 rfl)))) (mvT hZ (hw _ (ow 13 rfl))) (mvT hZ (hw _ (ow 12 rfl))) (by decide) (backOf (W := 0) hinc hZ (hw _ (ow 14 rfl)) (hw _ (ow 6 rfl)) (by decide) (by decide)) q15a q15c (g := (mkF m 73 #[.val (.int p1), .val (.int p2), .val (.int ii), .val (.int jj), .val (.ref A), .val (.ref B), .val (.int (1 : Int32))] [(.ref B), (.ref A)])) rfl (by rw [hml]; rfl) (Steps.refl _) (argsL := [(.ref B)]) (rest := []) (lenOf pd_0 rfl) rfl (Nat.le_of_eq rfl) (hb hby at_73) (fun _ _ => ⟨rfl, e2, (by decide : 0 + 0 ≤ _), (by decide : 0 + 0 ≤ _)⟩)
            dsimp only [Pt.U, Pt.locs, Pt.cells, Pt.slots] at X15 l15 y15 z15 st15 hQ15
            subst l15 y15 z15
            obtain ⟨hv15, Nq15, e15⟩ := hQ15
            obtain rfl : v15 = some (.int r) := hv15
            have N15 := Fr.app N2 Nq15
            have pre16 : ∀ t, Steps p.tables e below (T15.setTop (mkF m 86 #[.val (.int p1), .val (.int p2), .val (.int ii), .val (.int jj), .val (.ref A), .val (.ref B), .val (.int (1 : Int32))] [(.int (1 : Int32))])) t → Steps p.tables e below (s₁.setTop (entryFrame m #[(.int p1), (.int p2)] maxLocals)) t := fun t k => pre14 t (by
              show Steps p.tables e below (T2.setTop (mkF m 54 #[.val (.int p1), .val (.int p2), .val (.int ii), .val (.int jj), .val (.ref A), .val (.ref B), .unset] [(.int (3 : Int32)), (.int jj)])) _
              refine XS.icmpYes X2.here hx rfl (pc0 := 54) (pc' := 62) rfl (hb hby at_54) rfl (teq hc54_13).1 (by decide) (by decide) ?_
              show Steps p.tables e below (T2.setTop (mkF m 62 #[.val (.int p1), .val (.int p2), .val (.int ii), .val (.int jj), .val (.ref A), .val (.ref B), .unset] [])) _
              refine XS.iconst X2.here hx rfl (hb hby at_62) ?_
              show Steps p.tables e below (T2.setTop (mkF m 63 #[.val (.int p1), .val (.int p2), .val (.int ii), .val (.int jj), .val (.ref A), .val (.ref B), .unset] [(.int (1 : Int32))])) _
              refine XS.goto X2.here hx rfl (pc0 := 63) (pc' := 67) rfl (hb hby at_63) (by decide) (by decide) ?_
              show Steps p.tables e below (T2.setTop (mkF m 67 #[.val (.int p1), .val (.int p2), .val (.int ii), .val (.int jj), .val (.ref A), .val (.ref B), .unset] [(.int (1 : Int32))])) _
              refine XS.istore X2.here hx rfl (hb hby at_67) rfl (l' := #[.val (.int p1), .val (.int p2), .val (.int ii), .val (.int jj), .val (.ref A), .val (.ref B), .val (.int (1 : Int32))]) rfl ?_
              show Steps p.tables e below (T2.setTop (mkF m 69 #[.val (.int p1), .val (.int p2), .val (.int ii), .val (.int jj), .val (.ref A), .val (.ref B), .val (.int (1 : Int32))] [])) _
              refine XS.aload X2.here hx rfl (hb hby at_69) rfl rfl ?_
              show Steps p.tables e below (T2.setTop (mkF m 71 #[.val (.int p1), .val (.int p2), .val (.int ii), .val (.int jj), .val (.ref A), .val (.ref B), .val (.int (1 : Int32))] [(.ref A)])) _
              refine XS.aload X2.here hx rfl (hb hby at_71) rfl rfl ?_
              show Steps p.tables e below (T2.setTop (mkF m 73 #[.val (.int p1), .val (.int p2), .val (.int ii), .val (.int jj), .val (.ref A), .val (.ref B), .val (.int (1 : Int32))] [(.ref B), (.ref A)])) _
              refine st15.trans ?_
              show Steps p.tables e below (T15.setTop (mkF m 76 #[.val (.int p1), .val (.int p2), .val (.int ii), .val (.int jj), .val (.ref A), .val (.ref B), .val (.int (1 : Int32))] [(.int r)])) _
              refine XS.iload X15.here hx rfl (hb hby at_76) rfl ?_
              show Steps p.tables e below (T15.setTop (mkF m 78 #[.val (.int p1), .val (.int p2), .val (.int ii), .val (.int jj), .val (.ref A), .val (.ref B), .val (.int (1 : Int32))] [(.int (1 : Int32)), (.int r)])) _
              refine XS.icmpNo X15.here hx rfl (hb hby at_78) rfl (teq (hr.symm.trans ((if_neg hc30_3).trans ((if_pos hc34_7).trans ((if_pos hc39_9).trans ((if_pos hc49_11).trans (if_pos hc54_13))))))).2 ?_
              show Steps p.tables e below (T15.setTop (mkF m 81 #[.val (.int p1), .val (.int p2), .val (.int ii), .val (.int jj), .val (.ref A), .val (.ref B), .val (.int (1 : Int32))] [])) _
              refine XS.iconst X15.here hx rfl (hb hby at_81) ?_
              show Steps p.tables e below (T15.setTop (mkF m 82 #[.val (.int p1), .val (.int p2), .val (.int ii), .val (.int jj), .val (.ref A), .val (.ref B), .val (.int (1 : Int32))] [(.int (1 : Int32))])) _
              refine XS.goto X15.here hx rfl (pc0 := 82) (pc' := 86) rfl (hb hby at_82) (by decide) (by decide) ?_
              exact k)
            obtain ⟨fs, hr, hrun, hended, hW, hsame⟩ := X15.leave (v := some (.int (1 : Int32))) (fun h => by rw [Bd.returns] at h; cases h)
            refine ⟨_, _, pre16 _ ?_, hrun, hended, _, _, rfl, ?_, ⟨_, rfl⟩, hW, hsame.mono (by decide) (by decide)⟩
            · show Steps p.tables e below (T15.setTop (mkF m 86 #[.val (.int p1), .val (.int p2), .val (.int ii), .val (.int jj), .val (.ref A), .val (.ref B), .val (.int (1 : Int32))] [(.int (1 : Int32))])) _
              exact retN X15 hx (t := .boolean) Bd.returns (by simp) (hb hby at_86) hr
            · exact ⟨rfl, N15, e15⟩
          · have pre18 : ∀ t, Steps p.tables e below (T2.setTop (mkF m 59 #[.val (.int p1), .val (.int p2), .val (.int ii), .val (.int jj), .val (.ref A), .val (.ref B), .unset] [(.int (4 : Int32)), (.int jj)])) t → Steps p.tables e below (s₁.setTop (entryFrame m #[(.int p1), (.int p2)] maxLocals)) t := fun t k => pre14 t (by
              show Steps p.tables e below (T2.setTop (mkF m 54 #[.val (.int p1), .val (.int p2), .val (.int ii), .val (.int jj), .val (.ref A), .val (.ref B), .unset] [(.int (3 : Int32)), (.int jj)])) _
              refine XS.icmpNo X2.here hx rfl (hb hby at_54) rfl (feq hc54_13).1 ?_
              show Steps p.tables e below (T2.setTop (mkF m 57 #[.val (.int p1), .val (.int p2), .val (.int ii), .val (.int jj), .val (.ref A), .val (.ref B), .unset] [])) _
              refine XS.iloadN X2.here hx rfl (hb hby at_57) rfl ?_
              show Steps p.tables e below (T2.setTop (mkF m 58 #[.val (.int p1), .val (.int p2), .val (.int ii), .val (.int jj), .val (.ref A), .val (.ref B), .unset] [(.int jj)])) _
              refine XS.iconst X2.here hx rfl (hb hby at_58) ?_
              exact k)
            by_cases hc59_17 : jj = (4 : Int32)
            · obtain ⟨cq19, kq19, q19a, q19b, q19c⟩ := isOf hZ e2 E_A
              obtain ⟨v19, _, ⟨T19, L19, k19, n19⟩, -, X19, ⟨Lc19, hQ19, l19, y19, z19⟩, st19⟩ := X2.virtualBack hx (y := (⟨"com/example/live_rbac/liverbac/ProcessOperation", "includes", "(Lcom/example/live_rbac/liverbac/ProcessOperation;)Z"⟩ : MethodName)) (z := (⟨"com/example/live_rbac/liverbac/ProcessOperation", "includes", "(Lcom/example/live_rbac/liverbac/ProcessOperation;)Z"⟩ : MethodName)) hown (mvT hZ (hw _ (ow 10 rfl))) (mvT hZ (hw _ (ow 11 rfl))) (notFace_of_selects (args := #[]) (mvT hZ (hw _ (ow 13 rfl)))) (mvT hZ (hw _ (ow 13 rfl))) (mvT hZ (hw _ (ow 12 rfl))) (by decide) (backOf (W := 0) hinc hZ (hw _ (ow 14 rfl)) (hw _ (ow 6 rfl)) (by decide) (by decide)) q19a q19c (g := (mkF m 73 #[.val (.int p1), .val (.int p2), .val (.int ii), .val (.int jj), .val (.ref A), .val (.ref B), .val (.int (1 : Int32))] [(.ref B), (.ref A)])) rfl (by rw [hml]; rfl) (Steps.refl _) (argsL := [(.ref B)]) (rest := []) (lenOf pd_0 rfl) rfl (Nat.le_of_eq rfl) (hb hby at_73) (fun _ _ => ⟨rfl, e2, (by decide : 0 + 0 ≤ _), (by decide : 0 + 0 ≤ _)⟩)
              dsimp only [Pt.U, Pt.locs, Pt.cells, Pt.slots] at X19 l19 y19 z19 st19 hQ19
              subst l19 y19 z19
              obtain ⟨hv19, Nq19, e19⟩ := hQ19
              obtain rfl : v19 = some (.int r) := hv19
              have N19 := Fr.app N2 Nq19
              have pre20 : ∀ t, Steps p.tables e below (T19.setTop (mkF m 86 #[.val (.int p1), .val (.int p2), .val (.int ii), .val (.int jj), .val (.ref A), .val (.ref B), .val (.int (1 : Int32))] [(.int (1 : Int32))])) t → Steps p.tables e below (s₁.setTop (entryFrame m #[(.int p1), (.int p2)] maxLocals)) t := fun t k => pre18 t (by
                show Steps p.tables e below (T2.setTop (mkF m 59 #[.val (.int p1), .val (.int p2), .val (.int ii), .val (.int jj), .val (.ref A), .val (.ref B), .unset] [(.int (4 : Int32)), (.int jj)])) _
                refine XS.icmpNo X2.here hx rfl (hb hby at_59) rfl (teq hc59_17).2 ?_
                show Steps p.tables e below (T2.setTop (mkF m 62 #[.val (.int p1), .val (.int p2), .val (.int ii), .val (.int jj), .val (.ref A), .val (.ref B), .unset] [])) _
                refine XS.iconst X2.here hx rfl (hb hby at_62) ?_
                show Steps p.tables e below (T2.setTop (mkF m 63 #[.val (.int p1), .val (.int p2), .val (.int ii), .val (.int jj), .val (.ref A), .val (.ref B), .unset] [(.int (1 : Int32))])) _
                refine XS.goto X2.here hx rfl (pc0 := 63) (pc' := 67) rfl (hb hby at_63) (by decide) (by decide) ?_
                show Steps p.tables e below (T2.setTop (mkF m 67 #[.val (.int p1), .val (.int p2), .val (.int ii), .val (.int jj), .val (.ref A), .val (.ref B), .unset] [(.int (1 : Int32))])) _
                refine XS.istore X2.here hx rfl (hb hby at_67) rfl (l' := #[.val (.int p1), .val (.int p2), .val (.int ii), .val (.int jj), .val (.ref A), .val (.ref B), .val (.int (1 : Int32))]) rfl ?_
                show Steps p.tables e below (T2.setTop (mkF m 69 #[.val (.int p1), .val (.int p2), .val (.int ii), .val (.int jj), .val (.ref A), .val (.ref B), .val (.int (1 : Int32))] [])) _
                refine XS.aload X2.here hx rfl (hb hby at_69) rfl rfl ?_
                show Steps p.tables e below (T2.setTop (mkF m 71 #[.val (.int p1), .val (.int p2), .val (.int ii), .val (.int jj), .val (.ref A), .val (.ref B), .val (.int (1 : Int32))] [(.ref A)])) _
                refine XS.aload X2.here hx rfl (hb hby at_71) rfl rfl ?_
                show Steps p.tables e below (T2.setTop (mkF m 73 #[.val (.int p1), .val (.int p2), .val (.int ii), .val (.int jj), .val (.ref A), .val (.ref B), .val (.int (1 : Int32))] [(.ref B), (.ref A)])) _
                refine st19.trans ?_
                show Steps p.tables e below (T19.setTop (mkF m 76 #[.val (.int p1), .val (.int p2), .val (.int ii), .val (.int jj), .val (.ref A), .val (.ref B), .val (.int (1 : Int32))] [(.int r)])) _
                refine XS.iload X19.here hx rfl (hb hby at_76) rfl ?_
                show Steps p.tables e below (T19.setTop (mkF m 78 #[.val (.int p1), .val (.int p2), .val (.int ii), .val (.int jj), .val (.ref A), .val (.ref B), .val (.int (1 : Int32))] [(.int (1 : Int32)), (.int r)])) _
                refine XS.icmpNo X19.here hx rfl (hb hby at_78) rfl (teq (hr.symm.trans ((if_neg hc30_3).trans ((if_pos hc34_7).trans ((if_pos hc39_9).trans ((if_pos hc49_11).trans ((if_neg hc54_13).trans (if_pos hc59_17)))))))).2 ?_
                show Steps p.tables e below (T19.setTop (mkF m 81 #[.val (.int p1), .val (.int p2), .val (.int ii), .val (.int jj), .val (.ref A), .val (.ref B), .val (.int (1 : Int32))] [])) _
                refine XS.iconst X19.here hx rfl (hb hby at_81) ?_
                show Steps p.tables e below (T19.setTop (mkF m 82 #[.val (.int p1), .val (.int p2), .val (.int ii), .val (.int jj), .val (.ref A), .val (.ref B), .val (.int (1 : Int32))] [(.int (1 : Int32))])) _
                refine XS.goto X19.here hx rfl (pc0 := 82) (pc' := 86) rfl (hb hby at_82) (by decide) (by decide) ?_
                exact k)
              obtain ⟨fs, hr, hrun, hended, hW, hsame⟩ := X19.leave (v := some (.int (1 : Int32))) (fun h => by rw [Bd.returns] at h; cases h)
              refine ⟨_, _, pre20 _ ?_, hrun, hended, _, _, rfl, ?_, ⟨_, rfl⟩, hW, hsame.mono (by decide) (by decide)⟩
              · show Steps p.tables e below (T19.setTop (mkF m 86 #[.val (.int p1), .val (.int p2), .val (.int ii), .val (.int jj), .val (.ref A), .val (.ref B), .val (.int (1 : Int32))] [(.int (1 : Int32))])) _
                exact retN X19 hx (t := .boolean) Bd.returns (by simp) (hb hby at_86) hr
              · exact ⟨rfl, N19, e19⟩
            · obtain ⟨cq21, kq21, q21a, q21b, q21c⟩ := isOf hZ e2 E_A
              obtain ⟨v21, _, ⟨T21, L21, k21, n21⟩, -, X21, ⟨Lc21, hQ21, l21, y21, z21⟩, st21⟩ := X2.virtualBack hx (y := (⟨"com/example/live_rbac/liverbac/ProcessOperation", "includes", "(Lcom/example/live_rbac/liverbac/ProcessOperation;)Z"⟩ : MethodName)) (z := (⟨"com/example/live_rbac/liverbac/ProcessOperation", "includes", "(Lcom/example/live_rbac/liverbac/ProcessOperation;)Z"⟩ : MethodName)) hown (mvT hZ (hw _ (ow 10 rfl))) (mvT hZ (hw _ (ow 11 rfl))) (notFace_of_selects (args := #[]) (mvT hZ (hw _ (ow 13 rfl)))) (mvT hZ (hw _ (ow 13 rfl))) (mvT hZ (hw _ (ow 12 rfl))) (by decide) (backOf (W := 0) hinc hZ (hw _ (ow 14 rfl)) (hw _ (ow 6 rfl)) (by decide) (by decide)) q21a q21c (g := (mkF m 73 #[.val (.int p1), .val (.int p2), .val (.int ii), .val (.int jj), .val (.ref A), .val (.ref B), .val (.int (0 : Int32))] [(.ref B), (.ref A)])) rfl (by rw [hml]; rfl) (Steps.refl _) (argsL := [(.ref B)]) (rest := []) (lenOf pd_0 rfl) rfl (Nat.le_of_eq rfl) (hb hby at_73) (fun _ _ => ⟨rfl, e2, (by decide : 0 + 0 ≤ _), (by decide : 0 + 0 ≤ _)⟩)
              dsimp only [Pt.U, Pt.locs, Pt.cells, Pt.slots] at X21 l21 y21 z21 st21 hQ21
              subst l21 y21 z21
              obtain ⟨hv21, Nq21, e21⟩ := hQ21
              obtain rfl : v21 = some (.int r) := hv21
              have N21 := Fr.app N2 Nq21
              have pre22 : ∀ t, Steps p.tables e below (T21.setTop (mkF m 86 #[.val (.int p1), .val (.int p2), .val (.int ii), .val (.int jj), .val (.ref A), .val (.ref B), .val (.int (0 : Int32))] [(.int (1 : Int32))])) t → Steps p.tables e below (s₁.setTop (entryFrame m #[(.int p1), (.int p2)] maxLocals)) t := fun t k => pre18 t (by
                show Steps p.tables e below (T2.setTop (mkF m 59 #[.val (.int p1), .val (.int p2), .val (.int ii), .val (.int jj), .val (.ref A), .val (.ref B), .unset] [(.int (4 : Int32)), (.int jj)])) _
                refine XS.icmpYes X2.here hx rfl (pc0 := 59) (pc' := 66) rfl (hb hby at_59) rfl (feq hc59_17).2 (by decide) (by decide) ?_
                show Steps p.tables e below (T2.setTop (mkF m 66 #[.val (.int p1), .val (.int p2), .val (.int ii), .val (.int jj), .val (.ref A), .val (.ref B), .unset] [])) _
                refine XS.iconst X2.here hx rfl (hb hby at_66) ?_
                show Steps p.tables e below (T2.setTop (mkF m 67 #[.val (.int p1), .val (.int p2), .val (.int ii), .val (.int jj), .val (.ref A), .val (.ref B), .unset] [(.int (0 : Int32))])) _
                refine XS.istore X2.here hx rfl (hb hby at_67) rfl (l' := #[.val (.int p1), .val (.int p2), .val (.int ii), .val (.int jj), .val (.ref A), .val (.ref B), .val (.int (0 : Int32))]) rfl ?_
                show Steps p.tables e below (T2.setTop (mkF m 69 #[.val (.int p1), .val (.int p2), .val (.int ii), .val (.int jj), .val (.ref A), .val (.ref B), .val (.int (0 : Int32))] [])) _
                refine XS.aload X2.here hx rfl (hb hby at_69) rfl rfl ?_
                show Steps p.tables e below (T2.setTop (mkF m 71 #[.val (.int p1), .val (.int p2), .val (.int ii), .val (.int jj), .val (.ref A), .val (.ref B), .val (.int (0 : Int32))] [(.ref A)])) _
                refine XS.aload X2.here hx rfl (hb hby at_71) rfl rfl ?_
                show Steps p.tables e below (T2.setTop (mkF m 73 #[.val (.int p1), .val (.int p2), .val (.int ii), .val (.int jj), .val (.ref A), .val (.ref B), .val (.int (0 : Int32))] [(.ref B), (.ref A)])) _
                refine st21.trans ?_
                show Steps p.tables e below (T21.setTop (mkF m 76 #[.val (.int p1), .val (.int p2), .val (.int ii), .val (.int jj), .val (.ref A), .val (.ref B), .val (.int (0 : Int32))] [(.int r)])) _
                refine XS.iload X21.here hx rfl (hb hby at_76) rfl ?_
                show Steps p.tables e below (T21.setTop (mkF m 78 #[.val (.int p1), .val (.int p2), .val (.int ii), .val (.int jj), .val (.ref A), .val (.ref B), .val (.int (0 : Int32))] [(.int (0 : Int32)), (.int r)])) _
                refine XS.icmpNo X21.here hx rfl (hb hby at_78) rfl (teq (hr.symm.trans ((if_neg hc30_3).trans ((if_pos hc34_7).trans ((if_pos hc39_9).trans ((if_pos hc49_11).trans ((if_neg hc54_13).trans (if_neg hc59_17)))))))).2 ?_
                show Steps p.tables e below (T21.setTop (mkF m 81 #[.val (.int p1), .val (.int p2), .val (.int ii), .val (.int jj), .val (.ref A), .val (.ref B), .val (.int (0 : Int32))] [])) _
                refine XS.iconst X21.here hx rfl (hb hby at_81) ?_
                show Steps p.tables e below (T21.setTop (mkF m 82 #[.val (.int p1), .val (.int p2), .val (.int ii), .val (.int jj), .val (.ref A), .val (.ref B), .val (.int (0 : Int32))] [(.int (1 : Int32))])) _
                refine XS.goto X21.here hx rfl (pc0 := 82) (pc' := 86) rfl (hb hby at_82) (by decide) (by decide) ?_
                exact k)
              obtain ⟨fs, hr, hrun, hended, hW, hsame⟩ := X21.leave (v := some (.int (1 : Int32))) (fun h => by rw [Bd.returns] at h; cases h)
              refine ⟨_, _, pre22 _ ?_, hrun, hended, _, _, rfl, ?_, ⟨_, rfl⟩, hW, hsame.mono (by decide) (by decide)⟩
              · show Steps p.tables e below (T21.setTop (mkF m 86 #[.val (.int p1), .val (.int p2), .val (.int ii), .val (.int jj), .val (.ref A), .val (.ref B), .val (.int (0 : Int32))] [(.int (1 : Int32))])) _
                exact retN X21 hx (t := .boolean) Bd.returns (by simp) (hb hby at_86) hr
              · exact ⟨rfl, N21, e21⟩
        · obtain ⟨cq23, kq23, q23a, q23b, q23c⟩ := isOf hZ e2 E_A
          obtain ⟨v23, _, ⟨T23, L23, k23, n23⟩, -, X23, ⟨Lc23, hQ23, l23, y23, z23⟩, st23⟩ := X2.virtualBack hx (y := (⟨"com/example/live_rbac/liverbac/ProcessOperation", "includes", "(Lcom/example/live_rbac/liverbac/ProcessOperation;)Z"⟩ : MethodName)) (z := (⟨"com/example/live_rbac/liverbac/ProcessOperation", "includes", "(Lcom/example/live_rbac/liverbac/ProcessOperation;)Z"⟩ : MethodName)) hown (mvT hZ (hw _ (ow 10 rfl))) (mvT hZ (hw _ (ow 11 rfl))) (notFace_of_selects (args := #[]) (mvT hZ (hw _ (ow 13 rfl)))) (mvT hZ (hw _ (ow 13 rfl))) (mvT hZ (hw _ (ow 12 rfl))) (by decide) (backOf (W := 0) hinc hZ (hw _ (ow 14 rfl)) (hw _ (ow 6 rfl)) (by decide) (by decide)) q23a q23c (g := (mkF m 73 #[.val (.int p1), .val (.int p2), .val (.int ii), .val (.int jj), .val (.ref A), .val (.ref B), .val (.int (0 : Int32))] [(.ref B), (.ref A)])) rfl (by rw [hml]; rfl) (Steps.refl _) (argsL := [(.ref B)]) (rest := []) (lenOf pd_0 rfl) rfl (Nat.le_of_eq rfl) (hb hby at_73) (fun _ _ => ⟨rfl, e2, (by decide : 0 + 0 ≤ _), (by decide : 0 + 0 ≤ _)⟩)
          dsimp only [Pt.U, Pt.locs, Pt.cells, Pt.slots] at X23 l23 y23 z23 st23 hQ23
          subst l23 y23 z23
          obtain ⟨hv23, Nq23, e23⟩ := hQ23
          obtain rfl : v23 = some (.int r) := hv23
          have N23 := Fr.app N2 Nq23
          have pre24 : ∀ t, Steps p.tables e below (T23.setTop (mkF m 86 #[.val (.int p1), .val (.int p2), .val (.int ii), .val (.int jj), .val (.ref A), .val (.ref B), .val (.int (0 : Int32))] [(.int (1 : Int32))])) t → Steps p.tables e below (s₁.setTop (entryFrame m #[(.int p1), (.int p2)] maxLocals)) t := fun t k => pre12 t (by
            show Steps p.tables e below (T2.setTop (mkF m 49 #[.val (.int p1), .val (.int p2), .val (.int ii), .val (.int jj), .val (.ref A), .val (.ref B), .unset] [(.int (2 : Int32)), (.int ii)])) _
            refine XS.icmpYes X2.here hx rfl (pc0 := 49) (pc' := 66) rfl (hb hby at_49) rfl (feq hc49_11).2 (by decide) (by decide) ?_
            show Steps p.tables e below (T2.setTop (mkF m 66 #[.val (.int p1), .val (.int p2), .val (.int ii), .val (.int jj), .val (.ref A), .val (.ref B), .unset] [])) _
            refine XS.iconst X2.here hx rfl (hb hby at_66) ?_
            show Steps p.tables e below (T2.setTop (mkF m 67 #[.val (.int p1), .val (.int p2), .val (.int ii), .val (.int jj), .val (.ref A), .val (.ref B), .unset] [(.int (0 : Int32))])) _
            refine XS.istore X2.here hx rfl (hb hby at_67) rfl (l' := #[.val (.int p1), .val (.int p2), .val (.int ii), .val (.int jj), .val (.ref A), .val (.ref B), .val (.int (0 : Int32))]) rfl ?_
            show Steps p.tables e below (T2.setTop (mkF m 69 #[.val (.int p1), .val (.int p2), .val (.int ii), .val (.int jj), .val (.ref A), .val (.ref B), .val (.int (0 : Int32))] [])) _
            refine XS.aload X2.here hx rfl (hb hby at_69) rfl rfl ?_
            show Steps p.tables e below (T2.setTop (mkF m 71 #[.val (.int p1), .val (.int p2), .val (.int ii), .val (.int jj), .val (.ref A), .val (.ref B), .val (.int (0 : Int32))] [(.ref A)])) _
            refine XS.aload X2.here hx rfl (hb hby at_71) rfl rfl ?_
            show Steps p.tables e below (T2.setTop (mkF m 73 #[.val (.int p1), .val (.int p2), .val (.int ii), .val (.int jj), .val (.ref A), .val (.ref B), .val (.int (0 : Int32))] [(.ref B), (.ref A)])) _
            refine st23.trans ?_
            show Steps p.tables e below (T23.setTop (mkF m 76 #[.val (.int p1), .val (.int p2), .val (.int ii), .val (.int jj), .val (.ref A), .val (.ref B), .val (.int (0 : Int32))] [(.int r)])) _
            refine XS.iload X23.here hx rfl (hb hby at_76) rfl ?_
            show Steps p.tables e below (T23.setTop (mkF m 78 #[.val (.int p1), .val (.int p2), .val (.int ii), .val (.int jj), .val (.ref A), .val (.ref B), .val (.int (0 : Int32))] [(.int (0 : Int32)), (.int r)])) _
            refine XS.icmpNo X23.here hx rfl (hb hby at_78) rfl (teq (hr.symm.trans ((if_neg hc30_3).trans ((if_pos hc34_7).trans ((if_pos hc39_9).trans (if_neg hc49_11)))))).2 ?_
            show Steps p.tables e below (T23.setTop (mkF m 81 #[.val (.int p1), .val (.int p2), .val (.int ii), .val (.int jj), .val (.ref A), .val (.ref B), .val (.int (0 : Int32))] [])) _
            refine XS.iconst X23.here hx rfl (hb hby at_81) ?_
            show Steps p.tables e below (T23.setTop (mkF m 82 #[.val (.int p1), .val (.int p2), .val (.int ii), .val (.int jj), .val (.ref A), .val (.ref B), .val (.int (0 : Int32))] [(.int (1 : Int32))])) _
            refine XS.goto X23.here hx rfl (pc0 := 82) (pc' := 86) rfl (hb hby at_82) (by decide) (by decide) ?_
            exact k)
          obtain ⟨fs, hr, hrun, hended, hW, hsame⟩ := X23.leave (v := some (.int (1 : Int32))) (fun h => by rw [Bd.returns] at h; cases h)
          refine ⟨_, _, pre24 _ ?_, hrun, hended, _, _, rfl, ?_, ⟨_, rfl⟩, hW, hsame.mono (by decide) (by decide)⟩
          · show Steps p.tables e below (T23.setTop (mkF m 86 #[.val (.int p1), .val (.int p2), .val (.int ii), .val (.int jj), .val (.ref A), .val (.ref B), .val (.int (0 : Int32))] [(.int (1 : Int32))])) _
            exact retN X23 hx (t := .boolean) Bd.returns (by simp) (hb hby at_86) hr
          · exact ⟨rfl, N23, e23⟩
      · have pre26 : ∀ t, Steps p.tables e below (T2.setTop (mkF m 44 #[.val (.int p1), .val (.int p2), .val (.int ii), .val (.int jj), .val (.ref A), .val (.ref B), .unset] [(.int (4 : Int32)), (.int jj)])) t → Steps p.tables e below (s₁.setTop (entryFrame m #[(.int p1), (.int p2)] maxLocals)) t := fun t k => pre10 t (by
          show Steps p.tables e below (T2.setTop (mkF m 39 #[.val (.int p1), .val (.int p2), .val (.int ii), .val (.int jj), .val (.ref A), .val (.ref B), .unset] [(.int (1 : Int32)), (.int jj)])) _
          refine XS.icmpNo X2.here hx rfl (hb hby at_39) rfl (flt hc39_9).1 ?_
          show Steps p.tables e below (T2.setTop (mkF m 42 #[.val (.int p1), .val (.int p2), .val (.int ii), .val (.int jj), .val (.ref A), .val (.ref B), .unset] [])) _
          refine XS.iloadN X2.here hx rfl (hb hby at_42) rfl ?_
          show Steps p.tables e below (T2.setTop (mkF m 43 #[.val (.int p1), .val (.int p2), .val (.int ii), .val (.int jj), .val (.ref A), .val (.ref B), .unset] [(.int jj)])) _
          refine XS.iconst X2.here hx rfl (hb hby at_43) ?_
          exact k)
        by_cases hc44_25 : (4 : Int32) < jj
        · have pre28 : ∀ t, Steps p.tables e below (T2.setTop (mkF m 49 #[.val (.int p1), .val (.int p2), .val (.int ii), .val (.int jj), .val (.ref A), .val (.ref B), .unset] [(.int (2 : Int32)), (.int ii)])) t → Steps p.tables e below (s₁.setTop (entryFrame m #[(.int p1), (.int p2)] maxLocals)) t := fun t k => pre26 t (by
            show Steps p.tables e below (T2.setTop (mkF m 44 #[.val (.int p1), .val (.int p2), .val (.int ii), .val (.int jj), .val (.ref A), .val (.ref B), .unset] [(.int (4 : Int32)), (.int jj)])) _
            refine XS.icmpNo X2.here hx rfl (hb hby at_44) rfl (tlt hc44_25).2.2.2 ?_
            show Steps p.tables e below (T2.setTop (mkF m 47 #[.val (.int p1), .val (.int p2), .val (.int ii), .val (.int jj), .val (.ref A), .val (.ref B), .unset] [])) _
            refine XS.iloadN X2.here hx rfl (hb hby at_47) rfl ?_
            show Steps p.tables e below (T2.setTop (mkF m 48 #[.val (.int p1), .val (.int p2), .val (.int ii), .val (.int jj), .val (.ref A), .val (.ref B), .unset] [(.int ii)])) _
            refine XS.iconst X2.here hx rfl (hb hby at_48) ?_
            exact k)
          by_cases hc49_27 : ii = (2 : Int32)
          · have pre30 : ∀ t, Steps p.tables e below (T2.setTop (mkF m 54 #[.val (.int p1), .val (.int p2), .val (.int ii), .val (.int jj), .val (.ref A), .val (.ref B), .unset] [(.int (3 : Int32)), (.int jj)])) t → Steps p.tables e below (s₁.setTop (entryFrame m #[(.int p1), (.int p2)] maxLocals)) t := fun t k => pre28 t (by
              show Steps p.tables e below (T2.setTop (mkF m 49 #[.val (.int p1), .val (.int p2), .val (.int ii), .val (.int jj), .val (.ref A), .val (.ref B), .unset] [(.int (2 : Int32)), (.int ii)])) _
              refine XS.icmpNo X2.here hx rfl (hb hby at_49) rfl (teq hc49_27).2 ?_
              show Steps p.tables e below (T2.setTop (mkF m 52 #[.val (.int p1), .val (.int p2), .val (.int ii), .val (.int jj), .val (.ref A), .val (.ref B), .unset] [])) _
              refine XS.iloadN X2.here hx rfl (hb hby at_52) rfl ?_
              show Steps p.tables e below (T2.setTop (mkF m 53 #[.val (.int p1), .val (.int p2), .val (.int ii), .val (.int jj), .val (.ref A), .val (.ref B), .unset] [(.int jj)])) _
              refine XS.iconst X2.here hx rfl (hb hby at_53) ?_
              exact k)
            by_cases hc54_29 : jj = (3 : Int32)
            · obtain ⟨cq31, kq31, q31a, q31b, q31c⟩ := isOf hZ e2 E_A
              obtain ⟨v31, _, ⟨T31, L31, k31, n31⟩, -, X31, ⟨Lc31, hQ31, l31, y31, z31⟩, st31⟩ := X2.virtualBack hx (y := (⟨"com/example/live_rbac/liverbac/ProcessOperation", "includes", "(Lcom/example/live_rbac/liverbac/ProcessOperation;)Z"⟩ : MethodName)) (z := (⟨"com/example/live_rbac/liverbac/ProcessOperation", "includes", "(Lcom/example/live_rbac/liverbac/ProcessOperation;)Z"⟩ : MethodName)) hown (mvT hZ (hw _ (ow 10 rfl))) (mvT hZ (hw _ (ow 11 rfl))) (notFace_of_selects (args := #[]) (mvT hZ (hw _ (ow 13 rfl)))) (mvT hZ (hw _ (ow 13 rfl))) (mvT hZ (hw _ (ow 12 rfl))) (by decide) (backOf (W := 0) hinc hZ (hw _ (ow 14 rfl)) (hw _ (ow 6 rfl)) (by decide) (by decide)) q31a q31c (g := (mkF m 73 #[.val (.int p1), .val (.int p2), .val (.int ii), .val (.int jj), .val (.ref A), .val (.ref B), .val (.int (1 : Int32))] [(.ref B), (.ref A)])) rfl (by rw [hml]; rfl) (Steps.refl _) (argsL := [(.ref B)]) (rest := []) (lenOf pd_0 rfl) rfl (Nat.le_of_eq rfl) (hb hby at_73) (fun _ _ => ⟨rfl, e2, (by decide : 0 + 0 ≤ _), (by decide : 0 + 0 ≤ _)⟩)
              dsimp only [Pt.U, Pt.locs, Pt.cells, Pt.slots] at X31 l31 y31 z31 st31 hQ31
              subst l31 y31 z31
              obtain ⟨hv31, Nq31, e31⟩ := hQ31
              obtain rfl : v31 = some (.int r) := hv31
              have N31 := Fr.app N2 Nq31
              have pre32 : ∀ t, Steps p.tables e below (T31.setTop (mkF m 86 #[.val (.int p1), .val (.int p2), .val (.int ii), .val (.int jj), .val (.ref A), .val (.ref B), .val (.int (1 : Int32))] [(.int (1 : Int32))])) t → Steps p.tables e below (s₁.setTop (entryFrame m #[(.int p1), (.int p2)] maxLocals)) t := fun t k => pre30 t (by
                show Steps p.tables e below (T2.setTop (mkF m 54 #[.val (.int p1), .val (.int p2), .val (.int ii), .val (.int jj), .val (.ref A), .val (.ref B), .unset] [(.int (3 : Int32)), (.int jj)])) _
                refine XS.icmpYes X2.here hx rfl (pc0 := 54) (pc' := 62) rfl (hb hby at_54) rfl (teq hc54_29).1 (by decide) (by decide) ?_
                show Steps p.tables e below (T2.setTop (mkF m 62 #[.val (.int p1), .val (.int p2), .val (.int ii), .val (.int jj), .val (.ref A), .val (.ref B), .unset] [])) _
                refine XS.iconst X2.here hx rfl (hb hby at_62) ?_
                show Steps p.tables e below (T2.setTop (mkF m 63 #[.val (.int p1), .val (.int p2), .val (.int ii), .val (.int jj), .val (.ref A), .val (.ref B), .unset] [(.int (1 : Int32))])) _
                refine XS.goto X2.here hx rfl (pc0 := 63) (pc' := 67) rfl (hb hby at_63) (by decide) (by decide) ?_
                show Steps p.tables e below (T2.setTop (mkF m 67 #[.val (.int p1), .val (.int p2), .val (.int ii), .val (.int jj), .val (.ref A), .val (.ref B), .unset] [(.int (1 : Int32))])) _
                refine XS.istore X2.here hx rfl (hb hby at_67) rfl (l' := #[.val (.int p1), .val (.int p2), .val (.int ii), .val (.int jj), .val (.ref A), .val (.ref B), .val (.int (1 : Int32))]) rfl ?_
                show Steps p.tables e below (T2.setTop (mkF m 69 #[.val (.int p1), .val (.int p2), .val (.int ii), .val (.int jj), .val (.ref A), .val (.ref B), .val (.int (1 : Int32))] [])) _
                refine XS.aload X2.here hx rfl (hb hby at_69) rfl rfl ?_
                show Steps p.tables e below (T2.setTop (mkF m 71 #[.val (.int p1), .val (.int p2), .val (.int ii), .val (.int jj), .val (.ref A), .val (.ref B), .val (.int (1 : Int32))] [(.ref A)])) _
                refine XS.aload X2.here hx rfl (hb hby at_71) rfl rfl ?_
                show Steps p.tables e below (T2.setTop (mkF m 73 #[.val (.int p1), .val (.int p2), .val (.int ii), .val (.int jj), .val (.ref A), .val (.ref B), .val (.int (1 : Int32))] [(.ref B), (.ref A)])) _
                refine st31.trans ?_
                show Steps p.tables e below (T31.setTop (mkF m 76 #[.val (.int p1), .val (.int p2), .val (.int ii), .val (.int jj), .val (.ref A), .val (.ref B), .val (.int (1 : Int32))] [(.int r)])) _
                refine XS.iload X31.here hx rfl (hb hby at_76) rfl ?_
                show Steps p.tables e below (T31.setTop (mkF m 78 #[.val (.int p1), .val (.int p2), .val (.int ii), .val (.int jj), .val (.ref A), .val (.ref B), .val (.int (1 : Int32))] [(.int (1 : Int32)), (.int r)])) _
                refine XS.icmpNo X31.here hx rfl (hb hby at_78) rfl (teq (hr.symm.trans ((if_neg hc30_3).trans ((if_pos hc34_7).trans ((if_neg hc39_9).trans ((if_pos hc44_25).trans ((if_pos hc49_27).trans (if_pos hc54_29)))))))).2 ?_
                show Steps p.tables e below (T31.setTop (mkF m 81 #[.val (.int p1), .val (.int p2), .val (.int ii), .val (.int jj), .val (.ref A), .val (.ref B), .val (.int (1 : Int32))] [])) _
                refine XS.iconst X31.here hx rfl (hb hby at_81) ?_
                show Steps p.tables e below (T31.setTop (mkF m 82 #[.val (.int p1), .val (.int p2), .val (.int ii), .val (.int jj), .val (.ref A), .val (.ref B), .val (.int (1 : Int32))] [(.int (1 : Int32))])) _
                refine XS.goto X31.here hx rfl (pc0 := 82) (pc' := 86) rfl (hb hby at_82) (by decide) (by decide) ?_
                exact k)
              obtain ⟨fs, hr, hrun, hended, hW, hsame⟩ := X31.leave (v := some (.int (1 : Int32))) (fun h => by rw [Bd.returns] at h; cases h)
              refine ⟨_, _, pre32 _ ?_, hrun, hended, _, _, rfl, ?_, ⟨_, rfl⟩, hW, hsame.mono (by decide) (by decide)⟩
              · show Steps p.tables e below (T31.setTop (mkF m 86 #[.val (.int p1), .val (.int p2), .val (.int ii), .val (.int jj), .val (.ref A), .val (.ref B), .val (.int (1 : Int32))] [(.int (1 : Int32))])) _
                exact retN X31 hx (t := .boolean) Bd.returns (by simp) (hb hby at_86) hr
              · exact ⟨rfl, N31, e31⟩
            · have pre34 : ∀ t, Steps p.tables e below (T2.setTop (mkF m 59 #[.val (.int p1), .val (.int p2), .val (.int ii), .val (.int jj), .val (.ref A), .val (.ref B), .unset] [(.int (4 : Int32)), (.int jj)])) t → Steps p.tables e below (s₁.setTop (entryFrame m #[(.int p1), (.int p2)] maxLocals)) t := fun t k => pre30 t (by
                show Steps p.tables e below (T2.setTop (mkF m 54 #[.val (.int p1), .val (.int p2), .val (.int ii), .val (.int jj), .val (.ref A), .val (.ref B), .unset] [(.int (3 : Int32)), (.int jj)])) _
                refine XS.icmpNo X2.here hx rfl (hb hby at_54) rfl (feq hc54_29).1 ?_
                show Steps p.tables e below (T2.setTop (mkF m 57 #[.val (.int p1), .val (.int p2), .val (.int ii), .val (.int jj), .val (.ref A), .val (.ref B), .unset] [])) _
                refine XS.iloadN X2.here hx rfl (hb hby at_57) rfl ?_
                show Steps p.tables e below (T2.setTop (mkF m 58 #[.val (.int p1), .val (.int p2), .val (.int ii), .val (.int jj), .val (.ref A), .val (.ref B), .unset] [(.int jj)])) _
                refine XS.iconst X2.here hx rfl (hb hby at_58) ?_
                exact k)
              by_cases hc59_33 : jj = (4 : Int32)
              · obtain ⟨cq35, kq35, q35a, q35b, q35c⟩ := isOf hZ e2 E_A
                obtain ⟨v35, _, ⟨T35, L35, k35, n35⟩, -, X35, ⟨Lc35, hQ35, l35, y35, z35⟩, st35⟩ := X2.virtualBack hx (y := (⟨"com/example/live_rbac/liverbac/ProcessOperation", "includes", "(Lcom/example/live_rbac/liverbac/ProcessOperation;)Z"⟩ : MethodName)) (z := (⟨"com/example/live_rbac/liverbac/ProcessOperation", "includes", "(Lcom/example/live_rbac/liverbac/ProcessOperation;)Z"⟩ : MethodName)) hown (mvT hZ (hw _ (ow 10 rfl))) (mvT hZ (hw _ (ow 11 rfl))) (notFace_of_selects (args := #[]) (mvT hZ (hw _ (ow 13 rfl)))) (mvT hZ (hw _ (ow 13 rfl))) (mvT hZ (hw _ (ow 12 rfl))) (by decide) (backOf (W := 0) hinc hZ (hw _ (ow 14 rfl)) (hw _ (ow 6 rfl)) (by decide) (by decide)) q35a q35c (g := (mkF m 73 #[.val (.int p1), .val (.int p2), .val (.int ii), .val (.int jj), .val (.ref A), .val (.ref B), .val (.int (1 : Int32))] [(.ref B), (.ref A)])) rfl (by rw [hml]; rfl) (Steps.refl _) (argsL := [(.ref B)]) (rest := []) (lenOf pd_0 rfl) rfl (Nat.le_of_eq rfl) (hb hby at_73) (fun _ _ => ⟨rfl, e2, (by decide : 0 + 0 ≤ _), (by decide : 0 + 0 ≤ _)⟩)
                dsimp only [Pt.U, Pt.locs, Pt.cells, Pt.slots] at X35 l35 y35 z35 st35 hQ35
                subst l35 y35 z35
                obtain ⟨hv35, Nq35, e35⟩ := hQ35
                obtain rfl : v35 = some (.int r) := hv35
                have N35 := Fr.app N2 Nq35
                have pre36 : ∀ t, Steps p.tables e below (T35.setTop (mkF m 86 #[.val (.int p1), .val (.int p2), .val (.int ii), .val (.int jj), .val (.ref A), .val (.ref B), .val (.int (1 : Int32))] [(.int (1 : Int32))])) t → Steps p.tables e below (s₁.setTop (entryFrame m #[(.int p1), (.int p2)] maxLocals)) t := fun t k => pre34 t (by
                  show Steps p.tables e below (T2.setTop (mkF m 59 #[.val (.int p1), .val (.int p2), .val (.int ii), .val (.int jj), .val (.ref A), .val (.ref B), .unset] [(.int (4 : Int32)), (.int jj)])) _
                  refine XS.icmpNo X2.here hx rfl (hb hby at_59) rfl (teq hc59_33).2 ?_
                  show Steps p.tables e below (T2.setTop (mkF m 62 #[.val (.int p1), .val (.int p2), .val (.int ii), .val (.int jj), .val (.ref A), .val (.ref B), .unset] [])) _
                  refine XS.iconst X2.here hx rfl (hb hby at_62) ?_
                  show Steps p.tables e below (T2.setTop (mkF m 63 #[.val (.int p1), .val (.int p2), .val (.int ii), .val (.int jj), .val (.ref A), .val (.ref B), .unset] [(.int (1 : Int32))])) _
                  refine XS.goto X2.here hx rfl (pc0 := 63) (pc' := 67) rfl (hb hby at_63) (by decide) (by decide) ?_
                  show Steps p.tables e below (T2.setTop (mkF m 67 #[.val (.int p1), .val (.int p2), .val (.int ii), .val (.int jj), .val (.ref A), .val (.ref B), .unset] [(.int (1 : Int32))])) _
                  refine XS.istore X2.here hx rfl (hb hby at_67) rfl (l' := #[.val (.int p1), .val (.int p2), .val (.int ii), .val (.int jj), .val (.ref A), .val (.ref B), .val (.int (1 : Int32))]) rfl ?_
                  show Steps p.tables e below (T2.setTop (mkF m 69 #[.val (.int p1), .val (.int p2), .val (.int ii), .val (.int jj), .val (.ref A), .val (.ref B), .val (.int (1 : Int32))] [])) _
                  refine XS.aload X2.here hx rfl (hb hby at_69) rfl rfl ?_
                  show Steps p.tables e below (T2.setTop (mkF m 71 #[.val (.int p1), .val (.int p2), .val (.int ii), .val (.int jj), .val (.ref A), .val (.ref B), .val (.int (1 : Int32))] [(.ref A)])) _
                  refine XS.aload X2.here hx rfl (hb hby at_71) rfl rfl ?_
                  show Steps p.tables e below (T2.setTop (mkF m 73 #[.val (.int p1), .val (.int p2), .val (.int ii), .val (.int jj), .val (.ref A), .val (.ref B), .val (.int (1 : Int32))] [(.ref B), (.ref A)])) _
                  refine st35.trans ?_
                  show Steps p.tables e below (T35.setTop (mkF m 76 #[.val (.int p1), .val (.int p2), .val (.int ii), .val (.int jj), .val (.ref A), .val (.ref B), .val (.int (1 : Int32))] [(.int r)])) _
                  refine XS.iload X35.here hx rfl (hb hby at_76) rfl ?_
                  show Steps p.tables e below (T35.setTop (mkF m 78 #[.val (.int p1), .val (.int p2), .val (.int ii), .val (.int jj), .val (.ref A), .val (.ref B), .val (.int (1 : Int32))] [(.int (1 : Int32)), (.int r)])) _
                  refine XS.icmpNo X35.here hx rfl (hb hby at_78) rfl (teq (hr.symm.trans ((if_neg hc30_3).trans ((if_pos hc34_7).trans ((if_neg hc39_9).trans ((if_pos hc44_25).trans ((if_pos hc49_27).trans ((if_neg hc54_29).trans (if_pos hc59_33))))))))).2 ?_
                  show Steps p.tables e below (T35.setTop (mkF m 81 #[.val (.int p1), .val (.int p2), .val (.int ii), .val (.int jj), .val (.ref A), .val (.ref B), .val (.int (1 : Int32))] [])) _
                  refine XS.iconst X35.here hx rfl (hb hby at_81) ?_
                  show Steps p.tables e below (T35.setTop (mkF m 82 #[.val (.int p1), .val (.int p2), .val (.int ii), .val (.int jj), .val (.ref A), .val (.ref B), .val (.int (1 : Int32))] [(.int (1 : Int32))])) _
                  refine XS.goto X35.here hx rfl (pc0 := 82) (pc' := 86) rfl (hb hby at_82) (by decide) (by decide) ?_
                  exact k)
                obtain ⟨fs, hr, hrun, hended, hW, hsame⟩ := X35.leave (v := some (.int (1 : Int32))) (fun h => by rw [Bd.returns] at h; cases h)
                refine ⟨_, _, pre36 _ ?_, hrun, hended, _, _, rfl, ?_, ⟨_, rfl⟩, hW, hsame.mono (by decide) (by decide)⟩
                · show Steps p.tables e below (T35.setTop (mkF m 86 #[.val (.int p1), .val (.int p2), .val (.int ii), .val (.int jj), .val (.ref A), .val (.ref B), .val (.int (1 : Int32))] [(.int (1 : Int32))])) _
                  exact retN X35 hx (t := .boolean) Bd.returns (by simp) (hb hby at_86) hr
                · exact ⟨rfl, N35, e35⟩
              · obtain ⟨cq37, kq37, q37a, q37b, q37c⟩ := isOf hZ e2 E_A
                obtain ⟨v37, _, ⟨T37, L37, k37, n37⟩, -, X37, ⟨Lc37, hQ37, l37, y37, z37⟩, st37⟩ := X2.virtualBack hx (y := (⟨"com/example/live_rbac/liverbac/ProcessOperation", "includes", "(Lcom/example/live_rbac/liverbac/ProcessOperation;)Z"⟩ : MethodName)) (z := (⟨"com/example/live_rbac/liverbac/ProcessOperation", "includes", "(Lcom/example/live_rbac/liverbac/ProcessOperation;)Z"⟩ : MethodName)) hown (mvT hZ (hw _ (ow 10 rfl))) (mvT hZ (hw _ (ow 11 rfl))) (notFace_of_selects (args := #[]) (mvT hZ (hw _ (ow 13 rfl)))) (mvT hZ (hw _ (ow 13 rfl))) (mvT hZ (hw _ (ow 12 rfl))) (by decide) (backOf (W := 0) hinc hZ (hw _ (ow 14 rfl)) (hw _ (ow 6 rfl)) (by decide) (by decide)) q37a q37c (g := (mkF m 73 #[.val (.int p1), .val (.int p2), .val (.int ii), .val (.int jj), .val (.ref A), .val (.ref B), .val (.int (0 : Int32))] [(.ref B), (.ref A)])) rfl (by rw [hml]; rfl) (Steps.refl _) (argsL := [(.ref B)]) (rest := []) (lenOf pd_0 rfl) rfl (Nat.le_of_eq rfl) (hb hby at_73) (fun _ _ => ⟨rfl, e2, (by decide : 0 + 0 ≤ _), (by decide : 0 + 0 ≤ _)⟩)
                dsimp only [Pt.U, Pt.locs, Pt.cells, Pt.slots] at X37 l37 y37 z37 st37 hQ37
                subst l37 y37 z37
                obtain ⟨hv37, Nq37, e37⟩ := hQ37
                obtain rfl : v37 = some (.int r) := hv37
                have N37 := Fr.app N2 Nq37
                have pre38 : ∀ t, Steps p.tables e below (T37.setTop (mkF m 86 #[.val (.int p1), .val (.int p2), .val (.int ii), .val (.int jj), .val (.ref A), .val (.ref B), .val (.int (0 : Int32))] [(.int (1 : Int32))])) t → Steps p.tables e below (s₁.setTop (entryFrame m #[(.int p1), (.int p2)] maxLocals)) t := fun t k => pre34 t (by
                  show Steps p.tables e below (T2.setTop (mkF m 59 #[.val (.int p1), .val (.int p2), .val (.int ii), .val (.int jj), .val (.ref A), .val (.ref B), .unset] [(.int (4 : Int32)), (.int jj)])) _
                  refine XS.icmpYes X2.here hx rfl (pc0 := 59) (pc' := 66) rfl (hb hby at_59) rfl (feq hc59_33).2 (by decide) (by decide) ?_
                  show Steps p.tables e below (T2.setTop (mkF m 66 #[.val (.int p1), .val (.int p2), .val (.int ii), .val (.int jj), .val (.ref A), .val (.ref B), .unset] [])) _
                  refine XS.iconst X2.here hx rfl (hb hby at_66) ?_
                  show Steps p.tables e below (T2.setTop (mkF m 67 #[.val (.int p1), .val (.int p2), .val (.int ii), .val (.int jj), .val (.ref A), .val (.ref B), .unset] [(.int (0 : Int32))])) _
                  refine XS.istore X2.here hx rfl (hb hby at_67) rfl (l' := #[.val (.int p1), .val (.int p2), .val (.int ii), .val (.int jj), .val (.ref A), .val (.ref B), .val (.int (0 : Int32))]) rfl ?_
                  show Steps p.tables e below (T2.setTop (mkF m 69 #[.val (.int p1), .val (.int p2), .val (.int ii), .val (.int jj), .val (.ref A), .val (.ref B), .val (.int (0 : Int32))] [])) _
                  refine XS.aload X2.here hx rfl (hb hby at_69) rfl rfl ?_
                  show Steps p.tables e below (T2.setTop (mkF m 71 #[.val (.int p1), .val (.int p2), .val (.int ii), .val (.int jj), .val (.ref A), .val (.ref B), .val (.int (0 : Int32))] [(.ref A)])) _
                  refine XS.aload X2.here hx rfl (hb hby at_71) rfl rfl ?_
                  show Steps p.tables e below (T2.setTop (mkF m 73 #[.val (.int p1), .val (.int p2), .val (.int ii), .val (.int jj), .val (.ref A), .val (.ref B), .val (.int (0 : Int32))] [(.ref B), (.ref A)])) _
                  refine st37.trans ?_
                  show Steps p.tables e below (T37.setTop (mkF m 76 #[.val (.int p1), .val (.int p2), .val (.int ii), .val (.int jj), .val (.ref A), .val (.ref B), .val (.int (0 : Int32))] [(.int r)])) _
                  refine XS.iload X37.here hx rfl (hb hby at_76) rfl ?_
                  show Steps p.tables e below (T37.setTop (mkF m 78 #[.val (.int p1), .val (.int p2), .val (.int ii), .val (.int jj), .val (.ref A), .val (.ref B), .val (.int (0 : Int32))] [(.int (0 : Int32)), (.int r)])) _
                  refine XS.icmpNo X37.here hx rfl (hb hby at_78) rfl (teq (hr.symm.trans ((if_neg hc30_3).trans ((if_pos hc34_7).trans ((if_neg hc39_9).trans ((if_pos hc44_25).trans ((if_pos hc49_27).trans ((if_neg hc54_29).trans (if_neg hc59_33))))))))).2 ?_
                  show Steps p.tables e below (T37.setTop (mkF m 81 #[.val (.int p1), .val (.int p2), .val (.int ii), .val (.int jj), .val (.ref A), .val (.ref B), .val (.int (0 : Int32))] [])) _
                  refine XS.iconst X37.here hx rfl (hb hby at_81) ?_
                  show Steps p.tables e below (T37.setTop (mkF m 82 #[.val (.int p1), .val (.int p2), .val (.int ii), .val (.int jj), .val (.ref A), .val (.ref B), .val (.int (0 : Int32))] [(.int (1 : Int32))])) _
                  refine XS.goto X37.here hx rfl (pc0 := 82) (pc' := 86) rfl (hb hby at_82) (by decide) (by decide) ?_
                  exact k)
                obtain ⟨fs, hr, hrun, hended, hW, hsame⟩ := X37.leave (v := some (.int (1 : Int32))) (fun h => by rw [Bd.returns] at h; cases h)
                refine ⟨_, _, pre38 _ ?_, hrun, hended, _, _, rfl, ?_, ⟨_, rfl⟩, hW, hsame.mono (by decide) (by decide)⟩
                · show Steps p.tables e below (T37.setTop (mkF m 86 #[.val (.int p1), .val (.int p2), .val (.int ii), .val (.int jj), .val (.ref A), .val (.ref B), .val (.int (0 : Int32))] [(.int (1 : Int32))])) _
                  exact retN X37 hx (t := .boolean) Bd.returns (by simp) (hb hby at_86) hr
                · exact ⟨rfl, N37, e37⟩
          · obtain ⟨cq39, kq39, q39a, q39b, q39c⟩ := isOf hZ e2 E_A
            obtain ⟨v39, _, ⟨T39, L39, k39, n39⟩, -, X39, ⟨Lc39, hQ39, l39, y39, z39⟩, st39⟩ := X2.virtualBack hx (y := (⟨"com/example/live_rbac/liverbac/ProcessOperation", "includes", "(Lcom/example/live_rbac/liverbac/ProcessOperation;)Z"⟩ : MethodName)) (z := (⟨"com/example/live_rbac/liverbac/ProcessOperation", "includes", "(Lcom/example/live_rbac/liverbac/ProcessOperation;)Z"⟩ : MethodName)) hown (mvT hZ (hw _ (ow 10 rfl))) (mvT hZ (hw _ (ow 11 rfl))) (notFace_of_selects (args := #[]) (mvT hZ (hw _ (ow 13 rfl)))) (mvT hZ (hw _ (ow 13 rfl))) (mvT hZ (hw _ (ow 12 rfl))) (by decide) (backOf (W := 0) hinc hZ (hw _ (ow 14 rfl)) (hw _ (ow 6 rfl)) (by decide) (by decide)) q39a q39c (g := (mkF m 73 #[.val (.int p1), .val (.int p2), .val (.int ii), .val (.int jj), .val (.ref A), .val (.ref B), .val (.int (0 : Int32))] [(.ref B), (.ref A)])) rfl (by rw [hml]; rfl) (Steps.refl _) (argsL := [(.ref B)]) (rest := []) (lenOf pd_0 rfl) rfl (Nat.le_of_eq rfl) (hb hby at_73) (fun _ _ => ⟨rfl, e2, (by decide : 0 + 0 ≤ _), (by decide : 0 + 0 ≤ _)⟩)
            dsimp only [Pt.U, Pt.locs, Pt.cells, Pt.slots] at X39 l39 y39 z39 st39 hQ39
            subst l39 y39 z39
            obtain ⟨hv39, Nq39, e39⟩ := hQ39
            obtain rfl : v39 = some (.int r) := hv39
            have N39 := Fr.app N2 Nq39
            have pre40 : ∀ t, Steps p.tables e below (T39.setTop (mkF m 86 #[.val (.int p1), .val (.int p2), .val (.int ii), .val (.int jj), .val (.ref A), .val (.ref B), .val (.int (0 : Int32))] [(.int (1 : Int32))])) t → Steps p.tables e below (s₁.setTop (entryFrame m #[(.int p1), (.int p2)] maxLocals)) t := fun t k => pre28 t (by
              show Steps p.tables e below (T2.setTop (mkF m 49 #[.val (.int p1), .val (.int p2), .val (.int ii), .val (.int jj), .val (.ref A), .val (.ref B), .unset] [(.int (2 : Int32)), (.int ii)])) _
              refine XS.icmpYes X2.here hx rfl (pc0 := 49) (pc' := 66) rfl (hb hby at_49) rfl (feq hc49_27).2 (by decide) (by decide) ?_
              show Steps p.tables e below (T2.setTop (mkF m 66 #[.val (.int p1), .val (.int p2), .val (.int ii), .val (.int jj), .val (.ref A), .val (.ref B), .unset] [])) _
              refine XS.iconst X2.here hx rfl (hb hby at_66) ?_
              show Steps p.tables e below (T2.setTop (mkF m 67 #[.val (.int p1), .val (.int p2), .val (.int ii), .val (.int jj), .val (.ref A), .val (.ref B), .unset] [(.int (0 : Int32))])) _
              refine XS.istore X2.here hx rfl (hb hby at_67) rfl (l' := #[.val (.int p1), .val (.int p2), .val (.int ii), .val (.int jj), .val (.ref A), .val (.ref B), .val (.int (0 : Int32))]) rfl ?_
              show Steps p.tables e below (T2.setTop (mkF m 69 #[.val (.int p1), .val (.int p2), .val (.int ii), .val (.int jj), .val (.ref A), .val (.ref B), .val (.int (0 : Int32))] [])) _
              refine XS.aload X2.here hx rfl (hb hby at_69) rfl rfl ?_
              show Steps p.tables e below (T2.setTop (mkF m 71 #[.val (.int p1), .val (.int p2), .val (.int ii), .val (.int jj), .val (.ref A), .val (.ref B), .val (.int (0 : Int32))] [(.ref A)])) _
              refine XS.aload X2.here hx rfl (hb hby at_71) rfl rfl ?_
              show Steps p.tables e below (T2.setTop (mkF m 73 #[.val (.int p1), .val (.int p2), .val (.int ii), .val (.int jj), .val (.ref A), .val (.ref B), .val (.int (0 : Int32))] [(.ref B), (.ref A)])) _
              refine st39.trans ?_
              show Steps p.tables e below (T39.setTop (mkF m 76 #[.val (.int p1), .val (.int p2), .val (.int ii), .val (.int jj), .val (.ref A), .val (.ref B), .val (.int (0 : Int32))] [(.int r)])) _
              refine XS.iload X39.here hx rfl (hb hby at_76) rfl ?_
              show Steps p.tables e below (T39.setTop (mkF m 78 #[.val (.int p1), .val (.int p2), .val (.int ii), .val (.int jj), .val (.ref A), .val (.ref B), .val (.int (0 : Int32))] [(.int (0 : Int32)), (.int r)])) _
              refine XS.icmpNo X39.here hx rfl (hb hby at_78) rfl (teq (hr.symm.trans ((if_neg hc30_3).trans ((if_pos hc34_7).trans ((if_neg hc39_9).trans ((if_pos hc44_25).trans (if_neg hc49_27))))))).2 ?_
              show Steps p.tables e below (T39.setTop (mkF m 81 #[.val (.int p1), .val (.int p2), .val (.int ii), .val (.int jj), .val (.ref A), .val (.ref B), .val (.int (0 : Int32))] [])) _
              refine XS.iconst X39.here hx rfl (hb hby at_81) ?_
              show Steps p.tables e below (T39.setTop (mkF m 82 #[.val (.int p1), .val (.int p2), .val (.int ii), .val (.int jj), .val (.ref A), .val (.ref B), .val (.int (0 : Int32))] [(.int (1 : Int32))])) _
              refine XS.goto X39.here hx rfl (pc0 := 82) (pc' := 86) rfl (hb hby at_82) (by decide) (by decide) ?_
              exact k)
            obtain ⟨fs, hr, hrun, hended, hW, hsame⟩ := X39.leave (v := some (.int (1 : Int32))) (fun h => by rw [Bd.returns] at h; cases h)
            refine ⟨_, _, pre40 _ ?_, hrun, hended, _, _, rfl, ?_, ⟨_, rfl⟩, hW, hsame.mono (by decide) (by decide)⟩
            · show Steps p.tables e below (T39.setTop (mkF m 86 #[.val (.int p1), .val (.int p2), .val (.int ii), .val (.int jj), .val (.ref A), .val (.ref B), .val (.int (0 : Int32))] [(.int (1 : Int32))])) _
              exact retN X39 hx (t := .boolean) Bd.returns (by simp) (hb hby at_86) hr
            · exact ⟨rfl, N39, e39⟩
        · obtain ⟨cq41, kq41, q41a, q41b, q41c⟩ := isOf hZ e2 E_A
          obtain ⟨v41, _, ⟨T41, L41, k41, n41⟩, -, X41, ⟨Lc41, hQ41, l41, y41, z41⟩, st41⟩ := X2.virtualBack hx (y := (⟨"com/example/live_rbac/liverbac/ProcessOperation", "includes", "(Lcom/example/live_rbac/liverbac/ProcessOperation;)Z"⟩ : MethodName)) (z := (⟨"com/example/live_rbac/liverbac/ProcessOperation", "includes", "(Lcom/example/live_rbac/liverbac/ProcessOperation;)Z"⟩ : MethodName)) hown (mvT hZ (hw _ (ow 10 rfl))) (mvT hZ (hw _ (ow 11 rfl))) (notFace_of_selects (args := #[]) (mvT hZ (hw _ (ow 13 rfl)))) (mvT hZ (hw _ (ow 13 rfl))) (mvT hZ (hw _ (ow 12 rfl))) (by decide) (backOf (W := 0) hinc hZ (hw _ (ow 14 rfl)) (hw _ (ow 6 rfl)) (by decide) (by decide)) q41a q41c (g := (mkF m 73 #[.val (.int p1), .val (.int p2), .val (.int ii), .val (.int jj), .val (.ref A), .val (.ref B), .val (.int (1 : Int32))] [(.ref B), (.ref A)])) rfl (by rw [hml]; rfl) (Steps.refl _) (argsL := [(.ref B)]) (rest := []) (lenOf pd_0 rfl) rfl (Nat.le_of_eq rfl) (hb hby at_73) (fun _ _ => ⟨rfl, e2, (by decide : 0 + 0 ≤ _), (by decide : 0 + 0 ≤ _)⟩)
          dsimp only [Pt.U, Pt.locs, Pt.cells, Pt.slots] at X41 l41 y41 z41 st41 hQ41
          subst l41 y41 z41
          obtain ⟨hv41, Nq41, e41⟩ := hQ41
          obtain rfl : v41 = some (.int r) := hv41
          have N41 := Fr.app N2 Nq41
          have pre42 : ∀ t, Steps p.tables e below (T41.setTop (mkF m 86 #[.val (.int p1), .val (.int p2), .val (.int ii), .val (.int jj), .val (.ref A), .val (.ref B), .val (.int (1 : Int32))] [(.int (1 : Int32))])) t → Steps p.tables e below (s₁.setTop (entryFrame m #[(.int p1), (.int p2)] maxLocals)) t := fun t k => pre26 t (by
            show Steps p.tables e below (T2.setTop (mkF m 44 #[.val (.int p1), .val (.int p2), .val (.int ii), .val (.int jj), .val (.ref A), .val (.ref B), .unset] [(.int (4 : Int32)), (.int jj)])) _
            refine XS.icmpYes X2.here hx rfl (pc0 := 44) (pc' := 62) rfl (hb hby at_44) rfl (flt hc44_25).2.2.2 (by decide) (by decide) ?_
            show Steps p.tables e below (T2.setTop (mkF m 62 #[.val (.int p1), .val (.int p2), .val (.int ii), .val (.int jj), .val (.ref A), .val (.ref B), .unset] [])) _
            refine XS.iconst X2.here hx rfl (hb hby at_62) ?_
            show Steps p.tables e below (T2.setTop (mkF m 63 #[.val (.int p1), .val (.int p2), .val (.int ii), .val (.int jj), .val (.ref A), .val (.ref B), .unset] [(.int (1 : Int32))])) _
            refine XS.goto X2.here hx rfl (pc0 := 63) (pc' := 67) rfl (hb hby at_63) (by decide) (by decide) ?_
            show Steps p.tables e below (T2.setTop (mkF m 67 #[.val (.int p1), .val (.int p2), .val (.int ii), .val (.int jj), .val (.ref A), .val (.ref B), .unset] [(.int (1 : Int32))])) _
            refine XS.istore X2.here hx rfl (hb hby at_67) rfl (l' := #[.val (.int p1), .val (.int p2), .val (.int ii), .val (.int jj), .val (.ref A), .val (.ref B), .val (.int (1 : Int32))]) rfl ?_
            show Steps p.tables e below (T2.setTop (mkF m 69 #[.val (.int p1), .val (.int p2), .val (.int ii), .val (.int jj), .val (.ref A), .val (.ref B), .val (.int (1 : Int32))] [])) _
            refine XS.aload X2.here hx rfl (hb hby at_69) rfl rfl ?_
            show Steps p.tables e below (T2.setTop (mkF m 71 #[.val (.int p1), .val (.int p2), .val (.int ii), .val (.int jj), .val (.ref A), .val (.ref B), .val (.int (1 : Int32))] [(.ref A)])) _
            refine XS.aload X2.here hx rfl (hb hby at_71) rfl rfl ?_
            show Steps p.tables e below (T2.setTop (mkF m 73 #[.val (.int p1), .val (.int p2), .val (.int ii), .val (.int jj), .val (.ref A), .val (.ref B), .val (.int (1 : Int32))] [(.ref B), (.ref A)])) _
            refine st41.trans ?_
            show Steps p.tables e below (T41.setTop (mkF m 76 #[.val (.int p1), .val (.int p2), .val (.int ii), .val (.int jj), .val (.ref A), .val (.ref B), .val (.int (1 : Int32))] [(.int r)])) _
            refine XS.iload X41.here hx rfl (hb hby at_76) rfl ?_
            show Steps p.tables e below (T41.setTop (mkF m 78 #[.val (.int p1), .val (.int p2), .val (.int ii), .val (.int jj), .val (.ref A), .val (.ref B), .val (.int (1 : Int32))] [(.int (1 : Int32)), (.int r)])) _
            refine XS.icmpNo X41.here hx rfl (hb hby at_78) rfl (teq (hr.symm.trans ((if_neg hc30_3).trans ((if_pos hc34_7).trans ((if_neg hc39_9).trans (if_neg hc44_25)))))).2 ?_
            show Steps p.tables e below (T41.setTop (mkF m 81 #[.val (.int p1), .val (.int p2), .val (.int ii), .val (.int jj), .val (.ref A), .val (.ref B), .val (.int (1 : Int32))] [])) _
            refine XS.iconst X41.here hx rfl (hb hby at_81) ?_
            show Steps p.tables e below (T41.setTop (mkF m 82 #[.val (.int p1), .val (.int p2), .val (.int ii), .val (.int jj), .val (.ref A), .val (.ref B), .val (.int (1 : Int32))] [(.int (1 : Int32))])) _
            refine XS.goto X41.here hx rfl (pc0 := 82) (pc' := 86) rfl (hb hby at_82) (by decide) (by decide) ?_
            exact k)
          obtain ⟨fs, hr, hrun, hended, hW, hsame⟩ := X41.leave (v := some (.int (1 : Int32))) (fun h => by rw [Bd.returns] at h; cases h)
          refine ⟨_, _, pre42 _ ?_, hrun, hended, _, _, rfl, ?_, ⟨_, rfl⟩, hW, hsame.mono (by decide) (by decide)⟩
          · show Steps p.tables e below (T41.setTop (mkF m 86 #[.val (.int p1), .val (.int p2), .val (.int ii), .val (.int jj), .val (.ref A), .val (.ref B), .val (.int (1 : Int32))] [(.int (1 : Int32))])) _
            exact retN X41 hx (t := .boolean) Bd.returns (by simp) (hb hby at_86) hr
          · exact ⟨rfl, N41, e41⟩
    · have pre44 : ∀ t, Steps p.tables e below (T2.setTop (mkF m 49 #[.val (.int p1), .val (.int p2), .val (.int ii), .val (.int jj), .val (.ref A), .val (.ref B), .unset] [(.int (2 : Int32)), (.int ii)])) t → Steps p.tables e below (s₁.setTop (entryFrame m #[(.int p1), (.int p2)] maxLocals)) t := fun t k => pre8 t (by
        show Steps p.tables e below (T2.setTop (mkF m 34 #[.val (.int p1), .val (.int p2), .val (.int ii), .val (.int jj), .val (.ref A), .val (.ref B), .unset] [(.int ii)])) _
        refine XS.ifYes X2.here hx rfl (pc0 := 34) (pc' := 47) rfl (hb hby at_34) rfl ((if0 _ _).trans (feq hc34_7).2) (by decide) (by decide) ?_
        show Steps p.tables e below (T2.setTop (mkF m 47 #[.val (.int p1), .val (.int p2), .val (.int ii), .val (.int jj), .val (.ref A), .val (.ref B), .unset] [])) _
        refine XS.iloadN X2.here hx rfl (hb hby at_47) rfl ?_
        show Steps p.tables e below (T2.setTop (mkF m 48 #[.val (.int p1), .val (.int p2), .val (.int ii), .val (.int jj), .val (.ref A), .val (.ref B), .unset] [(.int ii)])) _
        refine XS.iconst X2.here hx rfl (hb hby at_48) ?_
        exact k)
      by_cases hc49_43 : ii = (2 : Int32)
      · have pre46 : ∀ t, Steps p.tables e below (T2.setTop (mkF m 54 #[.val (.int p1), .val (.int p2), .val (.int ii), .val (.int jj), .val (.ref A), .val (.ref B), .unset] [(.int (3 : Int32)), (.int jj)])) t → Steps p.tables e below (s₁.setTop (entryFrame m #[(.int p1), (.int p2)] maxLocals)) t := fun t k => pre44 t (by
          show Steps p.tables e below (T2.setTop (mkF m 49 #[.val (.int p1), .val (.int p2), .val (.int ii), .val (.int jj), .val (.ref A), .val (.ref B), .unset] [(.int (2 : Int32)), (.int ii)])) _
          refine XS.icmpNo X2.here hx rfl (hb hby at_49) rfl (teq hc49_43).2 ?_
          show Steps p.tables e below (T2.setTop (mkF m 52 #[.val (.int p1), .val (.int p2), .val (.int ii), .val (.int jj), .val (.ref A), .val (.ref B), .unset] [])) _
          refine XS.iloadN X2.here hx rfl (hb hby at_52) rfl ?_
          show Steps p.tables e below (T2.setTop (mkF m 53 #[.val (.int p1), .val (.int p2), .val (.int ii), .val (.int jj), .val (.ref A), .val (.ref B), .unset] [(.int jj)])) _
          refine XS.iconst X2.here hx rfl (hb hby at_53) ?_
          exact k)
        by_cases hc54_45 : jj = (3 : Int32)
        · obtain ⟨cq47, kq47, q47a, q47b, q47c⟩ := isOf hZ e2 E_A
          obtain ⟨v47, _, ⟨T47, L47, k47, n47⟩, -, X47, ⟨Lc47, hQ47, l47, y47, z47⟩, st47⟩ := X2.virtualBack hx (y := (⟨"com/example/live_rbac/liverbac/ProcessOperation", "includes", "(Lcom/example/live_rbac/liverbac/ProcessOperation;)Z"⟩ : MethodName)) (z := (⟨"com/example/live_rbac/liverbac/ProcessOperation", "includes", "(Lcom/example/live_rbac/liverbac/ProcessOperation;)Z"⟩ : MethodName)) hown (mvT hZ (hw _ (ow 10 rfl))) (mvT hZ (hw _ (ow 11 rfl))) (notFace_of_selects (args := #[]) (mvT hZ (hw _ (ow 13 rfl)))) (mvT hZ (hw _ (ow 13 rfl))) (mvT hZ (hw _ (ow 12 rfl))) (by decide) (backOf (W := 0) hinc hZ (hw _ (ow 14 rfl)) (hw _ (ow 6 rfl)) (by decide) (by decide)) q47a q47c (g := (mkF m 73 #[.val (.int p1), .val (.int p2), .val (.int ii), .val (.int jj), .val (.ref A), .val (.ref B), .val (.int (1 : Int32))] [(.ref B), (.ref A)])) rfl (by rw [hml]; rfl) (Steps.refl _) (argsL := [(.ref B)]) (rest := []) (lenOf pd_0 rfl) rfl (Nat.le_of_eq rfl) (hb hby at_73) (fun _ _ => ⟨rfl, e2, (by decide : 0 + 0 ≤ _), (by decide : 0 + 0 ≤ _)⟩)
          dsimp only [Pt.U, Pt.locs, Pt.cells, Pt.slots] at X47 l47 y47 z47 st47 hQ47
          subst l47 y47 z47
          obtain ⟨hv47, Nq47, e47⟩ := hQ47
          obtain rfl : v47 = some (.int r) := hv47
          have N47 := Fr.app N2 Nq47
          have pre48 : ∀ t, Steps p.tables e below (T47.setTop (mkF m 86 #[.val (.int p1), .val (.int p2), .val (.int ii), .val (.int jj), .val (.ref A), .val (.ref B), .val (.int (1 : Int32))] [(.int (1 : Int32))])) t → Steps p.tables e below (s₁.setTop (entryFrame m #[(.int p1), (.int p2)] maxLocals)) t := fun t k => pre46 t (by
            show Steps p.tables e below (T2.setTop (mkF m 54 #[.val (.int p1), .val (.int p2), .val (.int ii), .val (.int jj), .val (.ref A), .val (.ref B), .unset] [(.int (3 : Int32)), (.int jj)])) _
            refine XS.icmpYes X2.here hx rfl (pc0 := 54) (pc' := 62) rfl (hb hby at_54) rfl (teq hc54_45).1 (by decide) (by decide) ?_
            show Steps p.tables e below (T2.setTop (mkF m 62 #[.val (.int p1), .val (.int p2), .val (.int ii), .val (.int jj), .val (.ref A), .val (.ref B), .unset] [])) _
            refine XS.iconst X2.here hx rfl (hb hby at_62) ?_
            show Steps p.tables e below (T2.setTop (mkF m 63 #[.val (.int p1), .val (.int p2), .val (.int ii), .val (.int jj), .val (.ref A), .val (.ref B), .unset] [(.int (1 : Int32))])) _
            refine XS.goto X2.here hx rfl (pc0 := 63) (pc' := 67) rfl (hb hby at_63) (by decide) (by decide) ?_
            show Steps p.tables e below (T2.setTop (mkF m 67 #[.val (.int p1), .val (.int p2), .val (.int ii), .val (.int jj), .val (.ref A), .val (.ref B), .unset] [(.int (1 : Int32))])) _
            refine XS.istore X2.here hx rfl (hb hby at_67) rfl (l' := #[.val (.int p1), .val (.int p2), .val (.int ii), .val (.int jj), .val (.ref A), .val (.ref B), .val (.int (1 : Int32))]) rfl ?_
            show Steps p.tables e below (T2.setTop (mkF m 69 #[.val (.int p1), .val (.int p2), .val (.int ii), .val (.int jj), .val (.ref A), .val (.ref B), .val (.int (1 : Int32))] [])) _
            refine XS.aload X2.here hx rfl (hb hby at_69) rfl rfl ?_
            show Steps p.tables e below (T2.setTop (mkF m 71 #[.val (.int p1), .val (.int p2), .val (.int ii), .val (.int jj), .val (.ref A), .val (.ref B), .val (.int (1 : Int32))] [(.ref A)])) _
            refine XS.aload X2.here hx rfl (hb hby at_71) rfl rfl ?_
            show Steps p.tables e below (T2.setTop (mkF m 73 #[.val (.int p1), .val (.int p2), .val (.int ii), .val (.int jj), .val (.ref A), .val (.ref B), .val (.int (1 : Int32))] [(.ref B), (.ref A)])) _
            refine st47.trans ?_
            show Steps p.tables e below (T47.setTop (mkF m 76 #[.val (.int p1), .val (.int p2), .val (.int ii), .val (.int jj), .val (.ref A), .val (.ref B), .val (.int (1 : Int32))] [(.int r)])) _
            refine XS.iload X47.here hx rfl (hb hby at_76) rfl ?_
            show Steps p.tables e below (T47.setTop (mkF m 78 #[.val (.int p1), .val (.int p2), .val (.int ii), .val (.int jj), .val (.ref A), .val (.ref B), .val (.int (1 : Int32))] [(.int (1 : Int32)), (.int r)])) _
            refine XS.icmpNo X47.here hx rfl (hb hby at_78) rfl (teq (hr.symm.trans ((if_neg hc30_3).trans ((if_neg hc34_7).trans ((if_pos hc49_43).trans (if_pos hc54_45)))))).2 ?_
            show Steps p.tables e below (T47.setTop (mkF m 81 #[.val (.int p1), .val (.int p2), .val (.int ii), .val (.int jj), .val (.ref A), .val (.ref B), .val (.int (1 : Int32))] [])) _
            refine XS.iconst X47.here hx rfl (hb hby at_81) ?_
            show Steps p.tables e below (T47.setTop (mkF m 82 #[.val (.int p1), .val (.int p2), .val (.int ii), .val (.int jj), .val (.ref A), .val (.ref B), .val (.int (1 : Int32))] [(.int (1 : Int32))])) _
            refine XS.goto X47.here hx rfl (pc0 := 82) (pc' := 86) rfl (hb hby at_82) (by decide) (by decide) ?_
            exact k)
          obtain ⟨fs, hr, hrun, hended, hW, hsame⟩ := X47.leave (v := some (.int (1 : Int32))) (fun h => by rw [Bd.returns] at h; cases h)
          refine ⟨_, _, pre48 _ ?_, hrun, hended, _, _, rfl, ?_, ⟨_, rfl⟩, hW, hsame.mono (by decide) (by decide)⟩
          · show Steps p.tables e below (T47.setTop (mkF m 86 #[.val (.int p1), .val (.int p2), .val (.int ii), .val (.int jj), .val (.ref A), .val (.ref B), .val (.int (1 : Int32))] [(.int (1 : Int32))])) _
            exact retN X47 hx (t := .boolean) Bd.returns (by simp) (hb hby at_86) hr
          · exact ⟨rfl, N47, e47⟩
        · have pre50 : ∀ t, Steps p.tables e below (T2.setTop (mkF m 59 #[.val (.int p1), .val (.int p2), .val (.int ii), .val (.int jj), .val (.ref A), .val (.ref B), .unset] [(.int (4 : Int32)), (.int jj)])) t → Steps p.tables e below (s₁.setTop (entryFrame m #[(.int p1), (.int p2)] maxLocals)) t := fun t k => pre46 t (by
            show Steps p.tables e below (T2.setTop (mkF m 54 #[.val (.int p1), .val (.int p2), .val (.int ii), .val (.int jj), .val (.ref A), .val (.ref B), .unset] [(.int (3 : Int32)), (.int jj)])) _
            refine XS.icmpNo X2.here hx rfl (hb hby at_54) rfl (feq hc54_45).1 ?_
            show Steps p.tables e below (T2.setTop (mkF m 57 #[.val (.int p1), .val (.int p2), .val (.int ii), .val (.int jj), .val (.ref A), .val (.ref B), .unset] [])) _
            refine XS.iloadN X2.here hx rfl (hb hby at_57) rfl ?_
            show Steps p.tables e below (T2.setTop (mkF m 58 #[.val (.int p1), .val (.int p2), .val (.int ii), .val (.int jj), .val (.ref A), .val (.ref B), .unset] [(.int jj)])) _
            refine XS.iconst X2.here hx rfl (hb hby at_58) ?_
            exact k)
          by_cases hc59_49 : jj = (4 : Int32)
          · obtain ⟨cq51, kq51, q51a, q51b, q51c⟩ := isOf hZ e2 E_A
            obtain ⟨v51, _, ⟨T51, L51, k51, n51⟩, -, X51, ⟨Lc51, hQ51, l51, y51, z51⟩, st51⟩ := X2.virtualBack hx (y := (⟨"com/example/live_rbac/liverbac/ProcessOperation", "includes", "(Lcom/example/live_rbac/liverbac/ProcessOperation;)Z"⟩ : MethodName)) (z := (⟨"com/example/live_rbac/liverbac/ProcessOperation", "includes", "(Lcom/example/live_rbac/liverbac/ProcessOperation;)Z"⟩ : MethodName)) hown (mvT hZ (hw _ (ow 10 rfl))) (mvT hZ (hw _ (ow 11 rfl))) (notFace_of_selects (args := #[]) (mvT hZ (hw _ (ow 13 rfl)))) (mvT hZ (hw _ (ow 13 rfl))) (mvT hZ (hw _ (ow 12 rfl))) (by decide) (backOf (W := 0) hinc hZ (hw _ (ow 14 rfl)) (hw _ (ow 6 rfl)) (by decide) (by decide)) q51a q51c (g := (mkF m 73 #[.val (.int p1), .val (.int p2), .val (.int ii), .val (.int jj), .val (.ref A), .val (.ref B), .val (.int (1 : Int32))] [(.ref B), (.ref A)])) rfl (by rw [hml]; rfl) (Steps.refl _) (argsL := [(.ref B)]) (rest := []) (lenOf pd_0 rfl) rfl (Nat.le_of_eq rfl) (hb hby at_73) (fun _ _ => ⟨rfl, e2, (by decide : 0 + 0 ≤ _), (by decide : 0 + 0 ≤ _)⟩)
            dsimp only [Pt.U, Pt.locs, Pt.cells, Pt.slots] at X51 l51 y51 z51 st51 hQ51
            subst l51 y51 z51
            obtain ⟨hv51, Nq51, e51⟩ := hQ51
            obtain rfl : v51 = some (.int r) := hv51
            have N51 := Fr.app N2 Nq51
            have pre52 : ∀ t, Steps p.tables e below (T51.setTop (mkF m 86 #[.val (.int p1), .val (.int p2), .val (.int ii), .val (.int jj), .val (.ref A), .val (.ref B), .val (.int (1 : Int32))] [(.int (1 : Int32))])) t → Steps p.tables e below (s₁.setTop (entryFrame m #[(.int p1), (.int p2)] maxLocals)) t := fun t k => pre50 t (by
              show Steps p.tables e below (T2.setTop (mkF m 59 #[.val (.int p1), .val (.int p2), .val (.int ii), .val (.int jj), .val (.ref A), .val (.ref B), .unset] [(.int (4 : Int32)), (.int jj)])) _
              refine XS.icmpNo X2.here hx rfl (hb hby at_59) rfl (teq hc59_49).2 ?_
              show Steps p.tables e below (T2.setTop (mkF m 62 #[.val (.int p1), .val (.int p2), .val (.int ii), .val (.int jj), .val (.ref A), .val (.ref B), .unset] [])) _
              refine XS.iconst X2.here hx rfl (hb hby at_62) ?_
              show Steps p.tables e below (T2.setTop (mkF m 63 #[.val (.int p1), .val (.int p2), .val (.int ii), .val (.int jj), .val (.ref A), .val (.ref B), .unset] [(.int (1 : Int32))])) _
              refine XS.goto X2.here hx rfl (pc0 := 63) (pc' := 67) rfl (hb hby at_63) (by decide) (by decide) ?_
              show Steps p.tables e below (T2.setTop (mkF m 67 #[.val (.int p1), .val (.int p2), .val (.int ii), .val (.int jj), .val (.ref A), .val (.ref B), .unset] [(.int (1 : Int32))])) _
              refine XS.istore X2.here hx rfl (hb hby at_67) rfl (l' := #[.val (.int p1), .val (.int p2), .val (.int ii), .val (.int jj), .val (.ref A), .val (.ref B), .val (.int (1 : Int32))]) rfl ?_
              show Steps p.tables e below (T2.setTop (mkF m 69 #[.val (.int p1), .val (.int p2), .val (.int ii), .val (.int jj), .val (.ref A), .val (.ref B), .val (.int (1 : Int32))] [])) _
              refine XS.aload X2.here hx rfl (hb hby at_69) rfl rfl ?_
              show Steps p.tables e below (T2.setTop (mkF m 71 #[.val (.int p1), .val (.int p2), .val (.int ii), .val (.int jj), .val (.ref A), .val (.ref B), .val (.int (1 : Int32))] [(.ref A)])) _
              refine XS.aload X2.here hx rfl (hb hby at_71) rfl rfl ?_
              show Steps p.tables e below (T2.setTop (mkF m 73 #[.val (.int p1), .val (.int p2), .val (.int ii), .val (.int jj), .val (.ref A), .val (.ref B), .val (.int (1 : Int32))] [(.ref B), (.ref A)])) _
              refine st51.trans ?_
              show Steps p.tables e below (T51.setTop (mkF m 76 #[.val (.int p1), .val (.int p2), .val (.int ii), .val (.int jj), .val (.ref A), .val (.ref B), .val (.int (1 : Int32))] [(.int r)])) _
              refine XS.iload X51.here hx rfl (hb hby at_76) rfl ?_
              show Steps p.tables e below (T51.setTop (mkF m 78 #[.val (.int p1), .val (.int p2), .val (.int ii), .val (.int jj), .val (.ref A), .val (.ref B), .val (.int (1 : Int32))] [(.int (1 : Int32)), (.int r)])) _
              refine XS.icmpNo X51.here hx rfl (hb hby at_78) rfl (teq (hr.symm.trans ((if_neg hc30_3).trans ((if_neg hc34_7).trans ((if_pos hc49_43).trans ((if_neg hc54_45).trans (if_pos hc59_49))))))).2 ?_
              show Steps p.tables e below (T51.setTop (mkF m 81 #[.val (.int p1), .val (.int p2), .val (.int ii), .val (.int jj), .val (.ref A), .val (.ref B), .val (.int (1 : Int32))] [])) _
              refine XS.iconst X51.here hx rfl (hb hby at_81) ?_
              show Steps p.tables e below (T51.setTop (mkF m 82 #[.val (.int p1), .val (.int p2), .val (.int ii), .val (.int jj), .val (.ref A), .val (.ref B), .val (.int (1 : Int32))] [(.int (1 : Int32))])) _
              refine XS.goto X51.here hx rfl (pc0 := 82) (pc' := 86) rfl (hb hby at_82) (by decide) (by decide) ?_
              exact k)
            obtain ⟨fs, hr, hrun, hended, hW, hsame⟩ := X51.leave (v := some (.int (1 : Int32))) (fun h => by rw [Bd.returns] at h; cases h)
            refine ⟨_, _, pre52 _ ?_, hrun, hended, _, _, rfl, ?_, ⟨_, rfl⟩, hW, hsame.mono (by decide) (by decide)⟩
            · show Steps p.tables e below (T51.setTop (mkF m 86 #[.val (.int p1), .val (.int p2), .val (.int ii), .val (.int jj), .val (.ref A), .val (.ref B), .val (.int (1 : Int32))] [(.int (1 : Int32))])) _
              exact retN X51 hx (t := .boolean) Bd.returns (by simp) (hb hby at_86) hr
            · exact ⟨rfl, N51, e51⟩
          · obtain ⟨cq53, kq53, q53a, q53b, q53c⟩ := isOf hZ e2 E_A
            obtain ⟨v53, _, ⟨T53, L53, k53, n53⟩, -, X53, ⟨Lc53, hQ53, l53, y53, z53⟩, st53⟩ := X2.virtualBack hx (y := (⟨"com/example/live_rbac/liverbac/ProcessOperation", "includes", "(Lcom/example/live_rbac/liverbac/ProcessOperation;)Z"⟩ : MethodName)) (z := (⟨"com/example/live_rbac/liverbac/ProcessOperation", "includes", "(Lcom/example/live_rbac/liverbac/ProcessOperation;)Z"⟩ : MethodName)) hown (mvT hZ (hw _ (ow 10 rfl))) (mvT hZ (hw _ (ow 11 rfl))) (notFace_of_selects (args := #[]) (mvT hZ (hw _ (ow 13 rfl)))) (mvT hZ (hw _ (ow 13 rfl))) (mvT hZ (hw _ (ow 12 rfl))) (by decide) (backOf (W := 0) hinc hZ (hw _ (ow 14 rfl)) (hw _ (ow 6 rfl)) (by decide) (by decide)) q53a q53c (g := (mkF m 73 #[.val (.int p1), .val (.int p2), .val (.int ii), .val (.int jj), .val (.ref A), .val (.ref B), .val (.int (0 : Int32))] [(.ref B), (.ref A)])) rfl (by rw [hml]; rfl) (Steps.refl _) (argsL := [(.ref B)]) (rest := []) (lenOf pd_0 rfl) rfl (Nat.le_of_eq rfl) (hb hby at_73) (fun _ _ => ⟨rfl, e2, (by decide : 0 + 0 ≤ _), (by decide : 0 + 0 ≤ _)⟩)
            dsimp only [Pt.U, Pt.locs, Pt.cells, Pt.slots] at X53 l53 y53 z53 st53 hQ53
            subst l53 y53 z53
            obtain ⟨hv53, Nq53, e53⟩ := hQ53
            obtain rfl : v53 = some (.int r) := hv53
            have N53 := Fr.app N2 Nq53
            have pre54 : ∀ t, Steps p.tables e below (T53.setTop (mkF m 86 #[.val (.int p1), .val (.int p2), .val (.int ii), .val (.int jj), .val (.ref A), .val (.ref B), .val (.int (0 : Int32))] [(.int (1 : Int32))])) t → Steps p.tables e below (s₁.setTop (entryFrame m #[(.int p1), (.int p2)] maxLocals)) t := fun t k => pre50 t (by
              show Steps p.tables e below (T2.setTop (mkF m 59 #[.val (.int p1), .val (.int p2), .val (.int ii), .val (.int jj), .val (.ref A), .val (.ref B), .unset] [(.int (4 : Int32)), (.int jj)])) _
              refine XS.icmpYes X2.here hx rfl (pc0 := 59) (pc' := 66) rfl (hb hby at_59) rfl (feq hc59_49).2 (by decide) (by decide) ?_
              show Steps p.tables e below (T2.setTop (mkF m 66 #[.val (.int p1), .val (.int p2), .val (.int ii), .val (.int jj), .val (.ref A), .val (.ref B), .unset] [])) _
              refine XS.iconst X2.here hx rfl (hb hby at_66) ?_
              show Steps p.tables e below (T2.setTop (mkF m 67 #[.val (.int p1), .val (.int p2), .val (.int ii), .val (.int jj), .val (.ref A), .val (.ref B), .unset] [(.int (0 : Int32))])) _
              refine XS.istore X2.here hx rfl (hb hby at_67) rfl (l' := #[.val (.int p1), .val (.int p2), .val (.int ii), .val (.int jj), .val (.ref A), .val (.ref B), .val (.int (0 : Int32))]) rfl ?_
              show Steps p.tables e below (T2.setTop (mkF m 69 #[.val (.int p1), .val (.int p2), .val (.int ii), .val (.int jj), .val (.ref A), .val (.ref B), .val (.int (0 : Int32))] [])) _
              refine XS.aload X2.here hx rfl (hb hby at_69) rfl rfl ?_
              show Steps p.tables e below (T2.setTop (mkF m 71 #[.val (.int p1), .val (.int p2), .val (.int ii), .val (.int jj), .val (.ref A), .val (.ref B), .val (.int (0 : Int32))] [(.ref A)])) _
              refine XS.aload X2.here hx rfl (hb hby at_71) rfl rfl ?_
              show Steps p.tables e below (T2.setTop (mkF m 73 #[.val (.int p1), .val (.int p2), .val (.int ii), .val (.int jj), .val (.ref A), .val (.ref B), .val (.int (0 : Int32))] [(.ref B), (.ref A)])) _
              refine st53.trans ?_
              show Steps p.tables e below (T53.setTop (mkF m 76 #[.val (.int p1), .val (.int p2), .val (.int ii), .val (.int jj), .val (.ref A), .val (.ref B), .val (.int (0 : Int32))] [(.int r)])) _
              refine XS.iload X53.here hx rfl (hb hby at_76) rfl ?_
              show Steps p.tables e below (T53.setTop (mkF m 78 #[.val (.int p1), .val (.int p2), .val (.int ii), .val (.int jj), .val (.ref A), .val (.ref B), .val (.int (0 : Int32))] [(.int (0 : Int32)), (.int r)])) _
              refine XS.icmpNo X53.here hx rfl (hb hby at_78) rfl (teq (hr.symm.trans ((if_neg hc30_3).trans ((if_neg hc34_7).trans ((if_pos hc49_43).trans ((if_neg hc54_45).trans (if_neg hc59_49))))))).2 ?_
              show Steps p.tables e below (T53.setTop (mkF m 81 #[.val (.int p1), .val (.int p2), .val (.int ii), .val (.int jj), .val (.ref A), .val (.ref B), .val (.int (0 : Int32))] [])) _
              refine XS.iconst X53.here hx rfl (hb hby at_81) ?_
              show Steps p.tables e below (T53.setTop (mkF m 82 #[.val (.int p1), .val (.int p2), .val (.int ii), .val (.int jj), .val (.ref A), .val (.ref B), .val (.int (0 : Int32))] [(.int (1 : Int32))])) _
              refine XS.goto X53.here hx rfl (pc0 := 82) (pc' := 86) rfl (hb hby at_82) (by decide) (by decide) ?_
              exact k)
            obtain ⟨fs, hr, hrun, hended, hW, hsame⟩ := X53.leave (v := some (.int (1 : Int32))) (fun h => by rw [Bd.returns] at h; cases h)
            refine ⟨_, _, pre54 _ ?_, hrun, hended, _, _, rfl, ?_, ⟨_, rfl⟩, hW, hsame.mono (by decide) (by decide)⟩
            · show Steps p.tables e below (T53.setTop (mkF m 86 #[.val (.int p1), .val (.int p2), .val (.int ii), .val (.int jj), .val (.ref A), .val (.ref B), .val (.int (0 : Int32))] [(.int (1 : Int32))])) _
              exact retN X53 hx (t := .boolean) Bd.returns (by simp) (hb hby at_86) hr
            · exact ⟨rfl, N53, e53⟩
      · obtain ⟨cq55, kq55, q55a, q55b, q55c⟩ := isOf hZ e2 E_A
        obtain ⟨v55, _, ⟨T55, L55, k55, n55⟩, -, X55, ⟨Lc55, hQ55, l55, y55, z55⟩, st55⟩ := X2.virtualBack hx (y := (⟨"com/example/live_rbac/liverbac/ProcessOperation", "includes", "(Lcom/example/live_rbac/liverbac/ProcessOperation;)Z"⟩ : MethodName)) (z := (⟨"com/example/live_rbac/liverbac/ProcessOperation", "includes", "(Lcom/example/live_rbac/liverbac/ProcessOperation;)Z"⟩ : MethodName)) hown (mvT hZ (hw _ (ow 10 rfl))) (mvT hZ (hw _ (ow 11 rfl))) (notFace_of_selects (args := #[]) (mvT hZ (hw _ (ow 13 rfl)))) (mvT hZ (hw _ (ow 13 rfl))) (mvT hZ (hw _ (ow 12 rfl))) (by decide) (backOf (W := 0) hinc hZ (hw _ (ow 14 rfl)) (hw _ (ow 6 rfl)) (by decide) (by decide)) q55a q55c (g := (mkF m 73 #[.val (.int p1), .val (.int p2), .val (.int ii), .val (.int jj), .val (.ref A), .val (.ref B), .val (.int (0 : Int32))] [(.ref B), (.ref A)])) rfl (by rw [hml]; rfl) (Steps.refl _) (argsL := [(.ref B)]) (rest := []) (lenOf pd_0 rfl) rfl (Nat.le_of_eq rfl) (hb hby at_73) (fun _ _ => ⟨rfl, e2, (by decide : 0 + 0 ≤ _), (by decide : 0 + 0 ≤ _)⟩)
        dsimp only [Pt.U, Pt.locs, Pt.cells, Pt.slots] at X55 l55 y55 z55 st55 hQ55
        subst l55 y55 z55
        obtain ⟨hv55, Nq55, e55⟩ := hQ55
        obtain rfl : v55 = some (.int r) := hv55
        have N55 := Fr.app N2 Nq55
        have pre56 : ∀ t, Steps p.tables e below (T55.setTop (mkF m 86 #[.val (.int p1), .val (.int p2), .val (.int ii), .val (.int jj), .val (.ref A), .val (.ref B), .val (.int (0 : Int32))] [(.int (1 : Int32))])) t → Steps p.tables e below (s₁.setTop (entryFrame m #[(.int p1), (.int p2)] maxLocals)) t := fun t k => pre44 t (by
          show Steps p.tables e below (T2.setTop (mkF m 49 #[.val (.int p1), .val (.int p2), .val (.int ii), .val (.int jj), .val (.ref A), .val (.ref B), .unset] [(.int (2 : Int32)), (.int ii)])) _
          refine XS.icmpYes X2.here hx rfl (pc0 := 49) (pc' := 66) rfl (hb hby at_49) rfl (feq hc49_43).2 (by decide) (by decide) ?_
          show Steps p.tables e below (T2.setTop (mkF m 66 #[.val (.int p1), .val (.int p2), .val (.int ii), .val (.int jj), .val (.ref A), .val (.ref B), .unset] [])) _
          refine XS.iconst X2.here hx rfl (hb hby at_66) ?_
          show Steps p.tables e below (T2.setTop (mkF m 67 #[.val (.int p1), .val (.int p2), .val (.int ii), .val (.int jj), .val (.ref A), .val (.ref B), .unset] [(.int (0 : Int32))])) _
          refine XS.istore X2.here hx rfl (hb hby at_67) rfl (l' := #[.val (.int p1), .val (.int p2), .val (.int ii), .val (.int jj), .val (.ref A), .val (.ref B), .val (.int (0 : Int32))]) rfl ?_
          show Steps p.tables e below (T2.setTop (mkF m 69 #[.val (.int p1), .val (.int p2), .val (.int ii), .val (.int jj), .val (.ref A), .val (.ref B), .val (.int (0 : Int32))] [])) _
          refine XS.aload X2.here hx rfl (hb hby at_69) rfl rfl ?_
          show Steps p.tables e below (T2.setTop (mkF m 71 #[.val (.int p1), .val (.int p2), .val (.int ii), .val (.int jj), .val (.ref A), .val (.ref B), .val (.int (0 : Int32))] [(.ref A)])) _
          refine XS.aload X2.here hx rfl (hb hby at_71) rfl rfl ?_
          show Steps p.tables e below (T2.setTop (mkF m 73 #[.val (.int p1), .val (.int p2), .val (.int ii), .val (.int jj), .val (.ref A), .val (.ref B), .val (.int (0 : Int32))] [(.ref B), (.ref A)])) _
          refine st55.trans ?_
          show Steps p.tables e below (T55.setTop (mkF m 76 #[.val (.int p1), .val (.int p2), .val (.int ii), .val (.int jj), .val (.ref A), .val (.ref B), .val (.int (0 : Int32))] [(.int r)])) _
          refine XS.iload X55.here hx rfl (hb hby at_76) rfl ?_
          show Steps p.tables e below (T55.setTop (mkF m 78 #[.val (.int p1), .val (.int p2), .val (.int ii), .val (.int jj), .val (.ref A), .val (.ref B), .val (.int (0 : Int32))] [(.int (0 : Int32)), (.int r)])) _
          refine XS.icmpNo X55.here hx rfl (hb hby at_78) rfl (teq (hr.symm.trans ((if_neg hc30_3).trans ((if_neg hc34_7).trans (if_neg hc49_43))))).2 ?_
          show Steps p.tables e below (T55.setTop (mkF m 81 #[.val (.int p1), .val (.int p2), .val (.int ii), .val (.int jj), .val (.ref A), .val (.ref B), .val (.int (0 : Int32))] [])) _
          refine XS.iconst X55.here hx rfl (hb hby at_81) ?_
          show Steps p.tables e below (T55.setTop (mkF m 82 #[.val (.int p1), .val (.int p2), .val (.int ii), .val (.int jj), .val (.ref A), .val (.ref B), .val (.int (0 : Int32))] [(.int (1 : Int32))])) _
          refine XS.goto X55.here hx rfl (pc0 := 82) (pc' := 86) rfl (hb hby at_82) (by decide) (by decide) ?_
          exact k)
        obtain ⟨fs, hr, hrun, hended, hW, hsame⟩ := X55.leave (v := some (.int (1 : Int32))) (fun h => by rw [Bd.returns] at h; cases h)
        refine ⟨_, _, pre56 _ ?_, hrun, hended, _, _, rfl, ?_, ⟨_, rfl⟩, hW, hsame.mono (by decide) (by decide)⟩
        · show Steps p.tables e below (T55.setTop (mkF m 86 #[.val (.int p1), .val (.int p2), .val (.int ii), .val (.int jj), .val (.ref A), .val (.ref B), .val (.int (0 : Int32))] [(.int (1 : Int32))])) _
          exact retN X55 hx (t := .boolean) Bd.returns (by simp) (hb hby at_86) hr
        · exact ⟨rfl, N55, e55⟩
theorem own_cases (y : Int32) (h0 : 0 ≤ y.toInt) (h1 : y.toInt < 11) : y = (0 : Int32) ∨ y = (1 : Int32) ∨ y = (2 : Int32) ∨ y = (3 : Int32) ∨ y = (4 : Int32) ∨ y = (5 : Int32) ∨ y = (6 : Int32) ∨ y = (7 : Int32) ∨ y = (8 : Int32) ∨ y = (9 : Int32) ∨ y = (10 : Int32) := by
  have q : y.toInt = 0 ∨ y.toInt = 1 ∨ y.toInt = 2 ∨ y.toInt = 3 ∨ y.toInt = 4 ∨ y.toInt = 5 ∨ y.toInt = 6 ∨ y.toInt = 7 ∨ y.toInt = 8 ∨ y.toInt = 9 ∨ y.toInt = 10 := by omega
  rcases q with q | q | q | q | q | q | q | q | q | q | q
  · exact Or.inl (Int32.toInt_inj.mp q)
  · exact Or.inr (Or.inl (Int32.toInt_inj.mp q))
  · exact Or.inr (Or.inr (Or.inl (Int32.toInt_inj.mp q)))
  · exact Or.inr (Or.inr (Or.inr (Or.inl (Int32.toInt_inj.mp q))))
  · exact Or.inr (Or.inr (Or.inr (Or.inr (Or.inl (Int32.toInt_inj.mp q)))))
  · exact Or.inr (Or.inr (Or.inr (Or.inr (Or.inr (Or.inl (Int32.toInt_inj.mp q))))))
  · exact Or.inr (Or.inr (Or.inr (Or.inr (Or.inr (Or.inr (Or.inl (Int32.toInt_inj.mp q)))))))
  · exact Or.inr (Or.inr (Or.inr (Or.inr (Or.inr (Or.inr (Or.inr (Or.inl (Int32.toInt_inj.mp q))))))))
  · exact Or.inr (Or.inr (Or.inr (Or.inr (Or.inr (Or.inr (Or.inr (Or.inr (Or.inl (Int32.toInt_inj.mp q)))))))))
  · exact Or.inr (Or.inr (Or.inr (Or.inr (Or.inr (Or.inr (Or.inr (Or.inr (Or.inr (Or.inl (Int32.toInt_inj.mp q))))))))))
  · exact Or.inr (Or.inr (Or.inr (Or.inr (Or.inr (Or.inr (Or.inr (Or.inr (Or.inr (Or.inr (Int32.toInt_inj.mp q))))))))))
theorem rm_law (l : Launch) (Z : State) (a0 : Array Value) (hw : ∀ d ∈ tables_1, d.before a0 Z = true) (ws : List Jvm.Cond) (p1 : Int32) (p2 : Int32) (h0 : Heap) (n0 : Nat) (w_CHANGE_PROCESS w_NEW_PROCESS_INSTANCE_CHANGE w_PROCESS_INSTANCE_CHANGE w_PROCESS_TYPE_CHANGE w_MONITOR_PROCESS_INSTANCE w_NOTIFY_USER w_CREATE_SCHEMA w_EXECUTE_ACTIVITY w_INSTANTIATE_SCHEMA w_GRANT_PRIVILEGE w_REUSE_EXISTING_PROCESS_INSTANCE_CHANGE : Addr) (hK : own_K Z h0 w_CHANGE_PROCESS w_NEW_PROCESS_INSTANCE_CHANGE w_PROCESS_INSTANCE_CHANGE w_PROCESS_TYPE_CHANGE w_MONITOR_PROCESS_INSTANCE w_NOTIFY_USER w_CREATE_SCHEMA w_EXECUTE_ACTIVITY w_INSTANTIATE_SCHEMA w_GRANT_PRIVILEGE w_REUSE_EXISTING_PROCESS_INSTANCE_CHANGE) :
    MetFree l x (head1 (Jvm.Cond.code x code maxLocals ret :: ws) room_1) (fun a U => a = #[(.int p1), (.int p2)] ∧ Z.Warmed39 U.vm ∧ U.heap = h0) (fun _ _ _ _ _ => True) (fun _ U o U' => ∃ v L, o = .returned v ∧ own_Q (some (.int (1 : Int32))) h0 n0 v U'.heap L ∧ FrameEnd U o U' L room_1.cells room_1.slots) := by
  have hK' := hK
  obtain ⟨S_w_CHANGE_PROCESS, E_w_CHANGE_PROCESS, S_w_NEW_PROCESS_INSTANCE_CHANGE, E_w_NEW_PROCESS_INSTANCE_CHANGE, F_ordinal_w_NEW_PROCESS_INSTANCE_CHANGE, F_ordinal_w_CHANGE_PROCESS, S_w_PROCESS_INSTANCE_CHANGE, E_w_PROCESS_INSTANCE_CHANGE, F_parent_w_NEW_PROCESS_INSTANCE_CHANGE, F_ordinal_w_PROCESS_INSTANCE_CHANGE, F_parent_w_PROCESS_INSTANCE_CHANGE, S_w_PROCESS_TYPE_CHANGE, E_w_PROCESS_TYPE_CHANGE, F_ordinal_w_PROCESS_TYPE_CHANGE, F_parent_w_PROCESS_TYPE_CHANGE, F_parent_w_CHANGE_PROCESS, S_w_MONITOR_PROCESS_INSTANCE, E_w_MONITOR_PROCESS_INSTANCE, S_w_NOTIFY_USER, E_w_NOTIFY_USER, F_ordinal_w_NOTIFY_USER, F_ordinal_w_MONITOR_PROCESS_INSTANCE, F_parent_w_NOTIFY_USER, S_w_CREATE_SCHEMA, E_w_CREATE_SCHEMA, F_ordinal_w_CREATE_SCHEMA, S_w_EXECUTE_ACTIVITY, E_w_EXECUTE_ACTIVITY, F_ordinal_w_EXECUTE_ACTIVITY, S_w_INSTANTIATE_SCHEMA, E_w_INSTANTIATE_SCHEMA, F_ordinal_w_INSTANTIATE_SCHEMA, F_parent_w_CREATE_SCHEMA, F_parent_w_EXECUTE_ACTIVITY, S_w_GRANT_PRIVILEGE, E_w_GRANT_PRIVILEGE, F_ordinal_w_GRANT_PRIVILEGE, F_parent_w_GRANT_PRIVILEGE, F_parent_w_INSTANTIATE_SCHEMA, S_w_REUSE_EXISTING_PROCESS_INSTANCE_CHANGE, E_w_REUSE_EXISTING_PROCESS_INSTANCE_CHANGE, F_ordinal_w_REUSE_EXISTING_PROCESS_INSTANCE_CHANGE, F_parent_w_REUSE_EXISTING_PROCESS_INSTANCE_CHANGE, F_parent_w_MONITOR_PROCESS_INSTANCE⟩ := hK'
  have q0 := c_mask p1 2147483647 31 (by decide) (by decide)
  have q := (c_irem (p1 &&& 2147483647) 11 11 (by decide)).1 (by omega)
  have r0 := c_mask p2 2147483647 31 (by decide) (by decide)
  have r := (c_irem (p2 &&& 2147483647) 11 11 (by decide)).1 (by omega)
  rcases own_cases ((p1 &&& (2147483647 : Int32)) % (11 : Int32)) (by omega) (by omega) with hi | hi | hi | hi | hi | hi | hi | hi | hi | hi | hi <;> rcases own_cases ((p2 &&& (2147483647 : Int32)) % (11 : Int32)) (by omega) (by omega) with hj | hj | hj | hj | hj | hj | hj | hj | hj | hj | hj
  · exact rm_lawS l Z a0 hw ws p1 p2 h0 n0 w_CHANGE_PROCESS w_NEW_PROCESS_INSTANCE_CHANGE w_PROCESS_INSTANCE_CHANGE w_PROCESS_TYPE_CHANGE w_MONITOR_PROCESS_INSTANCE w_NOTIFY_USER w_CREATE_SCHEMA w_EXECUTE_ACTIVITY w_INSTANTIATE_SCHEMA w_GRANT_PRIVILEGE w_REUSE_EXISTING_PROCESS_INSTANCE_CHANGE hK 0 0 w_CHANGE_PROCESS w_CHANGE_PROCESS 1 hi hj rfl rfl E_w_CHANGE_PROCESS (by decide) (rm_same2 l Z a0 hw [] w_CHANGE_PROCESS h0 n0)
  · exact rm_lawS l Z a0 hw ws p1 p2 h0 n0 w_CHANGE_PROCESS w_NEW_PROCESS_INSTANCE_CHANGE w_PROCESS_INSTANCE_CHANGE w_PROCESS_TYPE_CHANGE w_MONITOR_PROCESS_INSTANCE w_NOTIFY_USER w_CREATE_SCHEMA w_EXECUTE_ACTIVITY w_INSTANTIATE_SCHEMA w_GRANT_PRIVILEGE w_REUSE_EXISTING_PROCESS_INSTANCE_CHANGE hK 0 1 w_CHANGE_PROCESS w_PROCESS_TYPE_CHANGE 1 hi hj rfl rfl E_w_CHANGE_PROCESS (by decide) (rm_step2_1 l Z a0 hw [] w_CHANGE_PROCESS w_PROCESS_TYPE_CHANGE h0 n0 w_CHANGE_PROCESS (Fld.ne F_ordinal_w_PROCESS_TYPE_CHANGE F_ordinal_w_CHANGE_PROCESS (by decide)) F_parent_w_PROCESS_TYPE_CHANGE E_w_CHANGE_PROCESS (rm_same1 l Z a0 hw [] w_CHANGE_PROCESS h0 n0))
  · exact rm_lawS l Z a0 hw ws p1 p2 h0 n0 w_CHANGE_PROCESS w_NEW_PROCESS_INSTANCE_CHANGE w_PROCESS_INSTANCE_CHANGE w_PROCESS_TYPE_CHANGE w_MONITOR_PROCESS_INSTANCE w_NOTIFY_USER w_CREATE_SCHEMA w_EXECUTE_ACTIVITY w_INSTANTIATE_SCHEMA w_GRANT_PRIVILEGE w_REUSE_EXISTING_PROCESS_INSTANCE_CHANGE hK 0 2 w_CHANGE_PROCESS w_PROCESS_INSTANCE_CHANGE 1 hi hj rfl rfl E_w_CHANGE_PROCESS (by decide) (rm_step2_1 l Z a0 hw [] w_CHANGE_PROCESS w_PROCESS_INSTANCE_CHANGE h0 n0 w_CHANGE_PROCESS (Fld.ne F_ordinal_w_PROCESS_INSTANCE_CHANGE F_ordinal_w_CHANGE_PROCESS (by decide)) F_parent_w_PROCESS_INSTANCE_CHANGE E_w_CHANGE_PROCESS (rm_same1 l Z a0 hw [] w_CHANGE_PROCESS h0 n0))
  · exact rm_lawS l Z a0 hw ws p1 p2 h0 n0 w_CHANGE_PROCESS w_NEW_PROCESS_INSTANCE_CHANGE w_PROCESS_INSTANCE_CHANGE w_PROCESS_TYPE_CHANGE w_MONITOR_PROCESS_INSTANCE w_NOTIFY_USER w_CREATE_SCHEMA w_EXECUTE_ACTIVITY w_INSTANTIATE_SCHEMA w_GRANT_PRIVILEGE w_REUSE_EXISTING_PROCESS_INSTANCE_CHANGE hK 0 3 w_CHANGE_PROCESS w_NEW_PROCESS_INSTANCE_CHANGE 1 hi hj rfl rfl E_w_CHANGE_PROCESS (by decide) (rm_step2_1 l Z a0 hw [] w_CHANGE_PROCESS w_NEW_PROCESS_INSTANCE_CHANGE h0 n0 w_PROCESS_INSTANCE_CHANGE (Fld.ne F_ordinal_w_NEW_PROCESS_INSTANCE_CHANGE F_ordinal_w_CHANGE_PROCESS (by decide)) F_parent_w_NEW_PROCESS_INSTANCE_CHANGE E_w_CHANGE_PROCESS (rm_step1_1 l Z a0 hw [] w_CHANGE_PROCESS w_PROCESS_INSTANCE_CHANGE h0 n0 w_CHANGE_PROCESS (Fld.ne F_ordinal_w_PROCESS_INSTANCE_CHANGE F_ordinal_w_CHANGE_PROCESS (by decide)) F_parent_w_PROCESS_INSTANCE_CHANGE E_w_CHANGE_PROCESS (rm_same0 l Z a0 hw [] w_CHANGE_PROCESS h0 n0)))
  · exact rm_lawS l Z a0 hw ws p1 p2 h0 n0 w_CHANGE_PROCESS w_NEW_PROCESS_INSTANCE_CHANGE w_PROCESS_INSTANCE_CHANGE w_PROCESS_TYPE_CHANGE w_MONITOR_PROCESS_INSTANCE w_NOTIFY_USER w_CREATE_SCHEMA w_EXECUTE_ACTIVITY w_INSTANTIATE_SCHEMA w_GRANT_PRIVILEGE w_REUSE_EXISTING_PROCESS_INSTANCE_CHANGE hK 0 4 w_CHANGE_PROCESS w_REUSE_EXISTING_PROCESS_INSTANCE_CHANGE 1 hi hj rfl rfl E_w_CHANGE_PROCESS (by decide) (rm_step2_1 l Z a0 hw [] w_CHANGE_PROCESS w_REUSE_EXISTING_PROCESS_INSTANCE_CHANGE h0 n0 w_PROCESS_INSTANCE_CHANGE (Fld.ne F_ordinal_w_REUSE_EXISTING_PROCESS_INSTANCE_CHANGE F_ordinal_w_CHANGE_PROCESS (by decide)) F_parent_w_REUSE_EXISTING_PROCESS_INSTANCE_CHANGE E_w_CHANGE_PROCESS (rm_step1_1 l Z a0 hw [] w_CHANGE_PROCESS w_PROCESS_INSTANCE_CHANGE h0 n0 w_CHANGE_PROCESS (Fld.ne F_ordinal_w_PROCESS_INSTANCE_CHANGE F_ordinal_w_CHANGE_PROCESS (by decide)) F_parent_w_PROCESS_INSTANCE_CHANGE E_w_CHANGE_PROCESS (rm_same0 l Z a0 hw [] w_CHANGE_PROCESS h0 n0)))
  · exact rm_lawS l Z a0 hw ws p1 p2 h0 n0 w_CHANGE_PROCESS w_NEW_PROCESS_INSTANCE_CHANGE w_PROCESS_INSTANCE_CHANGE w_PROCESS_TYPE_CHANGE w_MONITOR_PROCESS_INSTANCE w_NOTIFY_USER w_CREATE_SCHEMA w_EXECUTE_ACTIVITY w_INSTANTIATE_SCHEMA w_GRANT_PRIVILEGE w_REUSE_EXISTING_PROCESS_INSTANCE_CHANGE hK 0 5 w_CHANGE_PROCESS w_CREATE_SCHEMA 0 hi hj rfl rfl E_w_CHANGE_PROCESS (by decide) (rm_root2 l Z a0 hw [] w_CHANGE_PROCESS w_CREATE_SCHEMA h0 n0 (Fld.ne F_ordinal_w_CREATE_SCHEMA F_ordinal_w_CHANGE_PROCESS (by decide)) F_parent_w_CREATE_SCHEMA)
  · exact rm_lawS l Z a0 hw ws p1 p2 h0 n0 w_CHANGE_PROCESS w_NEW_PROCESS_INSTANCE_CHANGE w_PROCESS_INSTANCE_CHANGE w_PROCESS_TYPE_CHANGE w_MONITOR_PROCESS_INSTANCE w_NOTIFY_USER w_CREATE_SCHEMA w_EXECUTE_ACTIVITY w_INSTANTIATE_SCHEMA w_GRANT_PRIVILEGE w_REUSE_EXISTING_PROCESS_INSTANCE_CHANGE hK 0 6 w_CHANGE_PROCESS w_EXECUTE_ACTIVITY 0 hi hj rfl rfl E_w_CHANGE_PROCESS (by decide) (rm_root2 l Z a0 hw [] w_CHANGE_PROCESS w_EXECUTE_ACTIVITY h0 n0 (Fld.ne F_ordinal_w_EXECUTE_ACTIVITY F_ordinal_w_CHANGE_PROCESS (by decide)) F_parent_w_EXECUTE_ACTIVITY)
  · exact rm_lawS l Z a0 hw ws p1 p2 h0 n0 w_CHANGE_PROCESS w_NEW_PROCESS_INSTANCE_CHANGE w_PROCESS_INSTANCE_CHANGE w_PROCESS_TYPE_CHANGE w_MONITOR_PROCESS_INSTANCE w_NOTIFY_USER w_CREATE_SCHEMA w_EXECUTE_ACTIVITY w_INSTANTIATE_SCHEMA w_GRANT_PRIVILEGE w_REUSE_EXISTING_PROCESS_INSTANCE_CHANGE hK 0 7 w_CHANGE_PROCESS w_GRANT_PRIVILEGE 0 hi hj rfl rfl E_w_CHANGE_PROCESS (by decide) (rm_root2 l Z a0 hw [] w_CHANGE_PROCESS w_GRANT_PRIVILEGE h0 n0 (Fld.ne F_ordinal_w_GRANT_PRIVILEGE F_ordinal_w_CHANGE_PROCESS (by decide)) F_parent_w_GRANT_PRIVILEGE)
  · exact rm_lawS l Z a0 hw ws p1 p2 h0 n0 w_CHANGE_PROCESS w_NEW_PROCESS_INSTANCE_CHANGE w_PROCESS_INSTANCE_CHANGE w_PROCESS_TYPE_CHANGE w_MONITOR_PROCESS_INSTANCE w_NOTIFY_USER w_CREATE_SCHEMA w_EXECUTE_ACTIVITY w_INSTANTIATE_SCHEMA w_GRANT_PRIVILEGE w_REUSE_EXISTING_PROCESS_INSTANCE_CHANGE hK 0 8 w_CHANGE_PROCESS w_INSTANTIATE_SCHEMA 0 hi hj rfl rfl E_w_CHANGE_PROCESS (by decide) (rm_root2 l Z a0 hw [] w_CHANGE_PROCESS w_INSTANTIATE_SCHEMA h0 n0 (Fld.ne F_ordinal_w_INSTANTIATE_SCHEMA F_ordinal_w_CHANGE_PROCESS (by decide)) F_parent_w_INSTANTIATE_SCHEMA)
  · exact rm_lawS l Z a0 hw ws p1 p2 h0 n0 w_CHANGE_PROCESS w_NEW_PROCESS_INSTANCE_CHANGE w_PROCESS_INSTANCE_CHANGE w_PROCESS_TYPE_CHANGE w_MONITOR_PROCESS_INSTANCE w_NOTIFY_USER w_CREATE_SCHEMA w_EXECUTE_ACTIVITY w_INSTANTIATE_SCHEMA w_GRANT_PRIVILEGE w_REUSE_EXISTING_PROCESS_INSTANCE_CHANGE hK 0 9 w_CHANGE_PROCESS w_MONITOR_PROCESS_INSTANCE 0 hi hj rfl rfl E_w_CHANGE_PROCESS (by decide) (rm_root2 l Z a0 hw [] w_CHANGE_PROCESS w_MONITOR_PROCESS_INSTANCE h0 n0 (Fld.ne F_ordinal_w_MONITOR_PROCESS_INSTANCE F_ordinal_w_CHANGE_PROCESS (by decide)) F_parent_w_MONITOR_PROCESS_INSTANCE)
  · exact rm_lawS l Z a0 hw ws p1 p2 h0 n0 w_CHANGE_PROCESS w_NEW_PROCESS_INSTANCE_CHANGE w_PROCESS_INSTANCE_CHANGE w_PROCESS_TYPE_CHANGE w_MONITOR_PROCESS_INSTANCE w_NOTIFY_USER w_CREATE_SCHEMA w_EXECUTE_ACTIVITY w_INSTANTIATE_SCHEMA w_GRANT_PRIVILEGE w_REUSE_EXISTING_PROCESS_INSTANCE_CHANGE hK 0 10 w_CHANGE_PROCESS w_NOTIFY_USER 0 hi hj rfl rfl E_w_CHANGE_PROCESS (by decide) (rm_root2 l Z a0 hw [] w_CHANGE_PROCESS w_NOTIFY_USER h0 n0 (Fld.ne F_ordinal_w_NOTIFY_USER F_ordinal_w_CHANGE_PROCESS (by decide)) F_parent_w_NOTIFY_USER)
  · exact rm_lawS l Z a0 hw ws p1 p2 h0 n0 w_CHANGE_PROCESS w_NEW_PROCESS_INSTANCE_CHANGE w_PROCESS_INSTANCE_CHANGE w_PROCESS_TYPE_CHANGE w_MONITOR_PROCESS_INSTANCE w_NOTIFY_USER w_CREATE_SCHEMA w_EXECUTE_ACTIVITY w_INSTANTIATE_SCHEMA w_GRANT_PRIVILEGE w_REUSE_EXISTING_PROCESS_INSTANCE_CHANGE hK 1 0 w_PROCESS_TYPE_CHANGE w_CHANGE_PROCESS 0 hi hj rfl rfl E_w_PROCESS_TYPE_CHANGE (by decide) (rm_root2 l Z a0 hw [] w_PROCESS_TYPE_CHANGE w_CHANGE_PROCESS h0 n0 (Fld.ne F_ordinal_w_CHANGE_PROCESS F_ordinal_w_PROCESS_TYPE_CHANGE (by decide)) F_parent_w_CHANGE_PROCESS)
  · exact rm_lawS l Z a0 hw ws p1 p2 h0 n0 w_CHANGE_PROCESS w_NEW_PROCESS_INSTANCE_CHANGE w_PROCESS_INSTANCE_CHANGE w_PROCESS_TYPE_CHANGE w_MONITOR_PROCESS_INSTANCE w_NOTIFY_USER w_CREATE_SCHEMA w_EXECUTE_ACTIVITY w_INSTANTIATE_SCHEMA w_GRANT_PRIVILEGE w_REUSE_EXISTING_PROCESS_INSTANCE_CHANGE hK 1 1 w_PROCESS_TYPE_CHANGE w_PROCESS_TYPE_CHANGE 1 hi hj rfl rfl E_w_PROCESS_TYPE_CHANGE (by decide) (rm_same2 l Z a0 hw [] w_PROCESS_TYPE_CHANGE h0 n0)
  · exact rm_lawS l Z a0 hw ws p1 p2 h0 n0 w_CHANGE_PROCESS w_NEW_PROCESS_INSTANCE_CHANGE w_PROCESS_INSTANCE_CHANGE w_PROCESS_TYPE_CHANGE w_MONITOR_PROCESS_INSTANCE w_NOTIFY_USER w_CREATE_SCHEMA w_EXECUTE_ACTIVITY w_INSTANTIATE_SCHEMA w_GRANT_PRIVILEGE w_REUSE_EXISTING_PROCESS_INSTANCE_CHANGE hK 1 2 w_PROCESS_TYPE_CHANGE w_PROCESS_INSTANCE_CHANGE 0 hi hj rfl rfl E_w_PROCESS_TYPE_CHANGE (by decide) (rm_step2_0 l Z a0 hw [] w_PROCESS_TYPE_CHANGE w_PROCESS_INSTANCE_CHANGE h0 n0 w_CHANGE_PROCESS (Fld.ne F_ordinal_w_PROCESS_INSTANCE_CHANGE F_ordinal_w_PROCESS_TYPE_CHANGE (by decide)) F_parent_w_PROCESS_INSTANCE_CHANGE E_w_PROCESS_TYPE_CHANGE (rm_root1 l Z a0 hw [] w_PROCESS_TYPE_CHANGE w_CHANGE_PROCESS h0 n0 (Fld.ne F_ordinal_w_CHANGE_PROCESS F_ordinal_w_PROCESS_TYPE_CHANGE (by decide)) F_parent_w_CHANGE_PROCESS))
  · exact rm_lawS l Z a0 hw ws p1 p2 h0 n0 w_CHANGE_PROCESS w_NEW_PROCESS_INSTANCE_CHANGE w_PROCESS_INSTANCE_CHANGE w_PROCESS_TYPE_CHANGE w_MONITOR_PROCESS_INSTANCE w_NOTIFY_USER w_CREATE_SCHEMA w_EXECUTE_ACTIVITY w_INSTANTIATE_SCHEMA w_GRANT_PRIVILEGE w_REUSE_EXISTING_PROCESS_INSTANCE_CHANGE hK 1 3 w_PROCESS_TYPE_CHANGE w_NEW_PROCESS_INSTANCE_CHANGE 0 hi hj rfl rfl E_w_PROCESS_TYPE_CHANGE (by decide) (rm_step2_0 l Z a0 hw [] w_PROCESS_TYPE_CHANGE w_NEW_PROCESS_INSTANCE_CHANGE h0 n0 w_PROCESS_INSTANCE_CHANGE (Fld.ne F_ordinal_w_NEW_PROCESS_INSTANCE_CHANGE F_ordinal_w_PROCESS_TYPE_CHANGE (by decide)) F_parent_w_NEW_PROCESS_INSTANCE_CHANGE E_w_PROCESS_TYPE_CHANGE (rm_step1_0 l Z a0 hw [] w_PROCESS_TYPE_CHANGE w_PROCESS_INSTANCE_CHANGE h0 n0 w_CHANGE_PROCESS (Fld.ne F_ordinal_w_PROCESS_INSTANCE_CHANGE F_ordinal_w_PROCESS_TYPE_CHANGE (by decide)) F_parent_w_PROCESS_INSTANCE_CHANGE E_w_PROCESS_TYPE_CHANGE (rm_root0 l Z a0 hw [] w_PROCESS_TYPE_CHANGE w_CHANGE_PROCESS h0 n0 (Fld.ne F_ordinal_w_CHANGE_PROCESS F_ordinal_w_PROCESS_TYPE_CHANGE (by decide)) F_parent_w_CHANGE_PROCESS)))
  · exact rm_lawS l Z a0 hw ws p1 p2 h0 n0 w_CHANGE_PROCESS w_NEW_PROCESS_INSTANCE_CHANGE w_PROCESS_INSTANCE_CHANGE w_PROCESS_TYPE_CHANGE w_MONITOR_PROCESS_INSTANCE w_NOTIFY_USER w_CREATE_SCHEMA w_EXECUTE_ACTIVITY w_INSTANTIATE_SCHEMA w_GRANT_PRIVILEGE w_REUSE_EXISTING_PROCESS_INSTANCE_CHANGE hK 1 4 w_PROCESS_TYPE_CHANGE w_REUSE_EXISTING_PROCESS_INSTANCE_CHANGE 0 hi hj rfl rfl E_w_PROCESS_TYPE_CHANGE (by decide) (rm_step2_0 l Z a0 hw [] w_PROCESS_TYPE_CHANGE w_REUSE_EXISTING_PROCESS_INSTANCE_CHANGE h0 n0 w_PROCESS_INSTANCE_CHANGE (Fld.ne F_ordinal_w_REUSE_EXISTING_PROCESS_INSTANCE_CHANGE F_ordinal_w_PROCESS_TYPE_CHANGE (by decide)) F_parent_w_REUSE_EXISTING_PROCESS_INSTANCE_CHANGE E_w_PROCESS_TYPE_CHANGE (rm_step1_0 l Z a0 hw [] w_PROCESS_TYPE_CHANGE w_PROCESS_INSTANCE_CHANGE h0 n0 w_CHANGE_PROCESS (Fld.ne F_ordinal_w_PROCESS_INSTANCE_CHANGE F_ordinal_w_PROCESS_TYPE_CHANGE (by decide)) F_parent_w_PROCESS_INSTANCE_CHANGE E_w_PROCESS_TYPE_CHANGE (rm_root0 l Z a0 hw [] w_PROCESS_TYPE_CHANGE w_CHANGE_PROCESS h0 n0 (Fld.ne F_ordinal_w_CHANGE_PROCESS F_ordinal_w_PROCESS_TYPE_CHANGE (by decide)) F_parent_w_CHANGE_PROCESS)))
  · exact rm_lawS l Z a0 hw ws p1 p2 h0 n0 w_CHANGE_PROCESS w_NEW_PROCESS_INSTANCE_CHANGE w_PROCESS_INSTANCE_CHANGE w_PROCESS_TYPE_CHANGE w_MONITOR_PROCESS_INSTANCE w_NOTIFY_USER w_CREATE_SCHEMA w_EXECUTE_ACTIVITY w_INSTANTIATE_SCHEMA w_GRANT_PRIVILEGE w_REUSE_EXISTING_PROCESS_INSTANCE_CHANGE hK 1 5 w_PROCESS_TYPE_CHANGE w_CREATE_SCHEMA 0 hi hj rfl rfl E_w_PROCESS_TYPE_CHANGE (by decide) (rm_root2 l Z a0 hw [] w_PROCESS_TYPE_CHANGE w_CREATE_SCHEMA h0 n0 (Fld.ne F_ordinal_w_CREATE_SCHEMA F_ordinal_w_PROCESS_TYPE_CHANGE (by decide)) F_parent_w_CREATE_SCHEMA)
  · exact rm_lawS l Z a0 hw ws p1 p2 h0 n0 w_CHANGE_PROCESS w_NEW_PROCESS_INSTANCE_CHANGE w_PROCESS_INSTANCE_CHANGE w_PROCESS_TYPE_CHANGE w_MONITOR_PROCESS_INSTANCE w_NOTIFY_USER w_CREATE_SCHEMA w_EXECUTE_ACTIVITY w_INSTANTIATE_SCHEMA w_GRANT_PRIVILEGE w_REUSE_EXISTING_PROCESS_INSTANCE_CHANGE hK 1 6 w_PROCESS_TYPE_CHANGE w_EXECUTE_ACTIVITY 0 hi hj rfl rfl E_w_PROCESS_TYPE_CHANGE (by decide) (rm_root2 l Z a0 hw [] w_PROCESS_TYPE_CHANGE w_EXECUTE_ACTIVITY h0 n0 (Fld.ne F_ordinal_w_EXECUTE_ACTIVITY F_ordinal_w_PROCESS_TYPE_CHANGE (by decide)) F_parent_w_EXECUTE_ACTIVITY)
  · exact rm_lawS l Z a0 hw ws p1 p2 h0 n0 w_CHANGE_PROCESS w_NEW_PROCESS_INSTANCE_CHANGE w_PROCESS_INSTANCE_CHANGE w_PROCESS_TYPE_CHANGE w_MONITOR_PROCESS_INSTANCE w_NOTIFY_USER w_CREATE_SCHEMA w_EXECUTE_ACTIVITY w_INSTANTIATE_SCHEMA w_GRANT_PRIVILEGE w_REUSE_EXISTING_PROCESS_INSTANCE_CHANGE hK 1 7 w_PROCESS_TYPE_CHANGE w_GRANT_PRIVILEGE 0 hi hj rfl rfl E_w_PROCESS_TYPE_CHANGE (by decide) (rm_root2 l Z a0 hw [] w_PROCESS_TYPE_CHANGE w_GRANT_PRIVILEGE h0 n0 (Fld.ne F_ordinal_w_GRANT_PRIVILEGE F_ordinal_w_PROCESS_TYPE_CHANGE (by decide)) F_parent_w_GRANT_PRIVILEGE)
  · exact rm_lawS l Z a0 hw ws p1 p2 h0 n0 w_CHANGE_PROCESS w_NEW_PROCESS_INSTANCE_CHANGE w_PROCESS_INSTANCE_CHANGE w_PROCESS_TYPE_CHANGE w_MONITOR_PROCESS_INSTANCE w_NOTIFY_USER w_CREATE_SCHEMA w_EXECUTE_ACTIVITY w_INSTANTIATE_SCHEMA w_GRANT_PRIVILEGE w_REUSE_EXISTING_PROCESS_INSTANCE_CHANGE hK 1 8 w_PROCESS_TYPE_CHANGE w_INSTANTIATE_SCHEMA 0 hi hj rfl rfl E_w_PROCESS_TYPE_CHANGE (by decide) (rm_root2 l Z a0 hw [] w_PROCESS_TYPE_CHANGE w_INSTANTIATE_SCHEMA h0 n0 (Fld.ne F_ordinal_w_INSTANTIATE_SCHEMA F_ordinal_w_PROCESS_TYPE_CHANGE (by decide)) F_parent_w_INSTANTIATE_SCHEMA)
  · exact rm_lawS l Z a0 hw ws p1 p2 h0 n0 w_CHANGE_PROCESS w_NEW_PROCESS_INSTANCE_CHANGE w_PROCESS_INSTANCE_CHANGE w_PROCESS_TYPE_CHANGE w_MONITOR_PROCESS_INSTANCE w_NOTIFY_USER w_CREATE_SCHEMA w_EXECUTE_ACTIVITY w_INSTANTIATE_SCHEMA w_GRANT_PRIVILEGE w_REUSE_EXISTING_PROCESS_INSTANCE_CHANGE hK 1 9 w_PROCESS_TYPE_CHANGE w_MONITOR_PROCESS_INSTANCE 0 hi hj rfl rfl E_w_PROCESS_TYPE_CHANGE (by decide) (rm_root2 l Z a0 hw [] w_PROCESS_TYPE_CHANGE w_MONITOR_PROCESS_INSTANCE h0 n0 (Fld.ne F_ordinal_w_MONITOR_PROCESS_INSTANCE F_ordinal_w_PROCESS_TYPE_CHANGE (by decide)) F_parent_w_MONITOR_PROCESS_INSTANCE)
  · exact rm_lawS l Z a0 hw ws p1 p2 h0 n0 w_CHANGE_PROCESS w_NEW_PROCESS_INSTANCE_CHANGE w_PROCESS_INSTANCE_CHANGE w_PROCESS_TYPE_CHANGE w_MONITOR_PROCESS_INSTANCE w_NOTIFY_USER w_CREATE_SCHEMA w_EXECUTE_ACTIVITY w_INSTANTIATE_SCHEMA w_GRANT_PRIVILEGE w_REUSE_EXISTING_PROCESS_INSTANCE_CHANGE hK 1 10 w_PROCESS_TYPE_CHANGE w_NOTIFY_USER 0 hi hj rfl rfl E_w_PROCESS_TYPE_CHANGE (by decide) (rm_root2 l Z a0 hw [] w_PROCESS_TYPE_CHANGE w_NOTIFY_USER h0 n0 (Fld.ne F_ordinal_w_NOTIFY_USER F_ordinal_w_PROCESS_TYPE_CHANGE (by decide)) F_parent_w_NOTIFY_USER)
  · exact rm_lawS l Z a0 hw ws p1 p2 h0 n0 w_CHANGE_PROCESS w_NEW_PROCESS_INSTANCE_CHANGE w_PROCESS_INSTANCE_CHANGE w_PROCESS_TYPE_CHANGE w_MONITOR_PROCESS_INSTANCE w_NOTIFY_USER w_CREATE_SCHEMA w_EXECUTE_ACTIVITY w_INSTANTIATE_SCHEMA w_GRANT_PRIVILEGE w_REUSE_EXISTING_PROCESS_INSTANCE_CHANGE hK 2 0 w_PROCESS_INSTANCE_CHANGE w_CHANGE_PROCESS 0 hi hj rfl rfl E_w_PROCESS_INSTANCE_CHANGE (by decide) (rm_root2 l Z a0 hw [] w_PROCESS_INSTANCE_CHANGE w_CHANGE_PROCESS h0 n0 (Fld.ne F_ordinal_w_CHANGE_PROCESS F_ordinal_w_PROCESS_INSTANCE_CHANGE (by decide)) F_parent_w_CHANGE_PROCESS)
  · exact rm_lawS l Z a0 hw ws p1 p2 h0 n0 w_CHANGE_PROCESS w_NEW_PROCESS_INSTANCE_CHANGE w_PROCESS_INSTANCE_CHANGE w_PROCESS_TYPE_CHANGE w_MONITOR_PROCESS_INSTANCE w_NOTIFY_USER w_CREATE_SCHEMA w_EXECUTE_ACTIVITY w_INSTANTIATE_SCHEMA w_GRANT_PRIVILEGE w_REUSE_EXISTING_PROCESS_INSTANCE_CHANGE hK 2 1 w_PROCESS_INSTANCE_CHANGE w_PROCESS_TYPE_CHANGE 0 hi hj rfl rfl E_w_PROCESS_INSTANCE_CHANGE (by decide) (rm_step2_0 l Z a0 hw [] w_PROCESS_INSTANCE_CHANGE w_PROCESS_TYPE_CHANGE h0 n0 w_CHANGE_PROCESS (Fld.ne F_ordinal_w_PROCESS_TYPE_CHANGE F_ordinal_w_PROCESS_INSTANCE_CHANGE (by decide)) F_parent_w_PROCESS_TYPE_CHANGE E_w_PROCESS_INSTANCE_CHANGE (rm_root1 l Z a0 hw [] w_PROCESS_INSTANCE_CHANGE w_CHANGE_PROCESS h0 n0 (Fld.ne F_ordinal_w_CHANGE_PROCESS F_ordinal_w_PROCESS_INSTANCE_CHANGE (by decide)) F_parent_w_CHANGE_PROCESS))
  · exact rm_lawS l Z a0 hw ws p1 p2 h0 n0 w_CHANGE_PROCESS w_NEW_PROCESS_INSTANCE_CHANGE w_PROCESS_INSTANCE_CHANGE w_PROCESS_TYPE_CHANGE w_MONITOR_PROCESS_INSTANCE w_NOTIFY_USER w_CREATE_SCHEMA w_EXECUTE_ACTIVITY w_INSTANTIATE_SCHEMA w_GRANT_PRIVILEGE w_REUSE_EXISTING_PROCESS_INSTANCE_CHANGE hK 2 2 w_PROCESS_INSTANCE_CHANGE w_PROCESS_INSTANCE_CHANGE 1 hi hj rfl rfl E_w_PROCESS_INSTANCE_CHANGE (by decide) (rm_same2 l Z a0 hw [] w_PROCESS_INSTANCE_CHANGE h0 n0)
  · exact rm_lawS l Z a0 hw ws p1 p2 h0 n0 w_CHANGE_PROCESS w_NEW_PROCESS_INSTANCE_CHANGE w_PROCESS_INSTANCE_CHANGE w_PROCESS_TYPE_CHANGE w_MONITOR_PROCESS_INSTANCE w_NOTIFY_USER w_CREATE_SCHEMA w_EXECUTE_ACTIVITY w_INSTANTIATE_SCHEMA w_GRANT_PRIVILEGE w_REUSE_EXISTING_PROCESS_INSTANCE_CHANGE hK 2 3 w_PROCESS_INSTANCE_CHANGE w_NEW_PROCESS_INSTANCE_CHANGE 1 hi hj rfl rfl E_w_PROCESS_INSTANCE_CHANGE (by decide) (rm_step2_1 l Z a0 hw [] w_PROCESS_INSTANCE_CHANGE w_NEW_PROCESS_INSTANCE_CHANGE h0 n0 w_PROCESS_INSTANCE_CHANGE (Fld.ne F_ordinal_w_NEW_PROCESS_INSTANCE_CHANGE F_ordinal_w_PROCESS_INSTANCE_CHANGE (by decide)) F_parent_w_NEW_PROCESS_INSTANCE_CHANGE E_w_PROCESS_INSTANCE_CHANGE (rm_same1 l Z a0 hw [] w_PROCESS_INSTANCE_CHANGE h0 n0))
  · exact rm_lawS l Z a0 hw ws p1 p2 h0 n0 w_CHANGE_PROCESS w_NEW_PROCESS_INSTANCE_CHANGE w_PROCESS_INSTANCE_CHANGE w_PROCESS_TYPE_CHANGE w_MONITOR_PROCESS_INSTANCE w_NOTIFY_USER w_CREATE_SCHEMA w_EXECUTE_ACTIVITY w_INSTANTIATE_SCHEMA w_GRANT_PRIVILEGE w_REUSE_EXISTING_PROCESS_INSTANCE_CHANGE hK 2 4 w_PROCESS_INSTANCE_CHANGE w_REUSE_EXISTING_PROCESS_INSTANCE_CHANGE 1 hi hj rfl rfl E_w_PROCESS_INSTANCE_CHANGE (by decide) (rm_step2_1 l Z a0 hw [] w_PROCESS_INSTANCE_CHANGE w_REUSE_EXISTING_PROCESS_INSTANCE_CHANGE h0 n0 w_PROCESS_INSTANCE_CHANGE (Fld.ne F_ordinal_w_REUSE_EXISTING_PROCESS_INSTANCE_CHANGE F_ordinal_w_PROCESS_INSTANCE_CHANGE (by decide)) F_parent_w_REUSE_EXISTING_PROCESS_INSTANCE_CHANGE E_w_PROCESS_INSTANCE_CHANGE (rm_same1 l Z a0 hw [] w_PROCESS_INSTANCE_CHANGE h0 n0))
  · exact rm_lawS l Z a0 hw ws p1 p2 h0 n0 w_CHANGE_PROCESS w_NEW_PROCESS_INSTANCE_CHANGE w_PROCESS_INSTANCE_CHANGE w_PROCESS_TYPE_CHANGE w_MONITOR_PROCESS_INSTANCE w_NOTIFY_USER w_CREATE_SCHEMA w_EXECUTE_ACTIVITY w_INSTANTIATE_SCHEMA w_GRANT_PRIVILEGE w_REUSE_EXISTING_PROCESS_INSTANCE_CHANGE hK 2 5 w_PROCESS_INSTANCE_CHANGE w_CREATE_SCHEMA 0 hi hj rfl rfl E_w_PROCESS_INSTANCE_CHANGE (by decide) (rm_root2 l Z a0 hw [] w_PROCESS_INSTANCE_CHANGE w_CREATE_SCHEMA h0 n0 (Fld.ne F_ordinal_w_CREATE_SCHEMA F_ordinal_w_PROCESS_INSTANCE_CHANGE (by decide)) F_parent_w_CREATE_SCHEMA)
  · exact rm_lawS l Z a0 hw ws p1 p2 h0 n0 w_CHANGE_PROCESS w_NEW_PROCESS_INSTANCE_CHANGE w_PROCESS_INSTANCE_CHANGE w_PROCESS_TYPE_CHANGE w_MONITOR_PROCESS_INSTANCE w_NOTIFY_USER w_CREATE_SCHEMA w_EXECUTE_ACTIVITY w_INSTANTIATE_SCHEMA w_GRANT_PRIVILEGE w_REUSE_EXISTING_PROCESS_INSTANCE_CHANGE hK 2 6 w_PROCESS_INSTANCE_CHANGE w_EXECUTE_ACTIVITY 0 hi hj rfl rfl E_w_PROCESS_INSTANCE_CHANGE (by decide) (rm_root2 l Z a0 hw [] w_PROCESS_INSTANCE_CHANGE w_EXECUTE_ACTIVITY h0 n0 (Fld.ne F_ordinal_w_EXECUTE_ACTIVITY F_ordinal_w_PROCESS_INSTANCE_CHANGE (by decide)) F_parent_w_EXECUTE_ACTIVITY)
  · exact rm_lawS l Z a0 hw ws p1 p2 h0 n0 w_CHANGE_PROCESS w_NEW_PROCESS_INSTANCE_CHANGE w_PROCESS_INSTANCE_CHANGE w_PROCESS_TYPE_CHANGE w_MONITOR_PROCESS_INSTANCE w_NOTIFY_USER w_CREATE_SCHEMA w_EXECUTE_ACTIVITY w_INSTANTIATE_SCHEMA w_GRANT_PRIVILEGE w_REUSE_EXISTING_PROCESS_INSTANCE_CHANGE hK 2 7 w_PROCESS_INSTANCE_CHANGE w_GRANT_PRIVILEGE 0 hi hj rfl rfl E_w_PROCESS_INSTANCE_CHANGE (by decide) (rm_root2 l Z a0 hw [] w_PROCESS_INSTANCE_CHANGE w_GRANT_PRIVILEGE h0 n0 (Fld.ne F_ordinal_w_GRANT_PRIVILEGE F_ordinal_w_PROCESS_INSTANCE_CHANGE (by decide)) F_parent_w_GRANT_PRIVILEGE)
  · exact rm_lawS l Z a0 hw ws p1 p2 h0 n0 w_CHANGE_PROCESS w_NEW_PROCESS_INSTANCE_CHANGE w_PROCESS_INSTANCE_CHANGE w_PROCESS_TYPE_CHANGE w_MONITOR_PROCESS_INSTANCE w_NOTIFY_USER w_CREATE_SCHEMA w_EXECUTE_ACTIVITY w_INSTANTIATE_SCHEMA w_GRANT_PRIVILEGE w_REUSE_EXISTING_PROCESS_INSTANCE_CHANGE hK 2 8 w_PROCESS_INSTANCE_CHANGE w_INSTANTIATE_SCHEMA 0 hi hj rfl rfl E_w_PROCESS_INSTANCE_CHANGE (by decide) (rm_root2 l Z a0 hw [] w_PROCESS_INSTANCE_CHANGE w_INSTANTIATE_SCHEMA h0 n0 (Fld.ne F_ordinal_w_INSTANTIATE_SCHEMA F_ordinal_w_PROCESS_INSTANCE_CHANGE (by decide)) F_parent_w_INSTANTIATE_SCHEMA)
  · exact rm_lawS l Z a0 hw ws p1 p2 h0 n0 w_CHANGE_PROCESS w_NEW_PROCESS_INSTANCE_CHANGE w_PROCESS_INSTANCE_CHANGE w_PROCESS_TYPE_CHANGE w_MONITOR_PROCESS_INSTANCE w_NOTIFY_USER w_CREATE_SCHEMA w_EXECUTE_ACTIVITY w_INSTANTIATE_SCHEMA w_GRANT_PRIVILEGE w_REUSE_EXISTING_PROCESS_INSTANCE_CHANGE hK 2 9 w_PROCESS_INSTANCE_CHANGE w_MONITOR_PROCESS_INSTANCE 0 hi hj rfl rfl E_w_PROCESS_INSTANCE_CHANGE (by decide) (rm_root2 l Z a0 hw [] w_PROCESS_INSTANCE_CHANGE w_MONITOR_PROCESS_INSTANCE h0 n0 (Fld.ne F_ordinal_w_MONITOR_PROCESS_INSTANCE F_ordinal_w_PROCESS_INSTANCE_CHANGE (by decide)) F_parent_w_MONITOR_PROCESS_INSTANCE)
  · exact rm_lawS l Z a0 hw ws p1 p2 h0 n0 w_CHANGE_PROCESS w_NEW_PROCESS_INSTANCE_CHANGE w_PROCESS_INSTANCE_CHANGE w_PROCESS_TYPE_CHANGE w_MONITOR_PROCESS_INSTANCE w_NOTIFY_USER w_CREATE_SCHEMA w_EXECUTE_ACTIVITY w_INSTANTIATE_SCHEMA w_GRANT_PRIVILEGE w_REUSE_EXISTING_PROCESS_INSTANCE_CHANGE hK 2 10 w_PROCESS_INSTANCE_CHANGE w_NOTIFY_USER 0 hi hj rfl rfl E_w_PROCESS_INSTANCE_CHANGE (by decide) (rm_root2 l Z a0 hw [] w_PROCESS_INSTANCE_CHANGE w_NOTIFY_USER h0 n0 (Fld.ne F_ordinal_w_NOTIFY_USER F_ordinal_w_PROCESS_INSTANCE_CHANGE (by decide)) F_parent_w_NOTIFY_USER)
  · exact rm_lawS l Z a0 hw ws p1 p2 h0 n0 w_CHANGE_PROCESS w_NEW_PROCESS_INSTANCE_CHANGE w_PROCESS_INSTANCE_CHANGE w_PROCESS_TYPE_CHANGE w_MONITOR_PROCESS_INSTANCE w_NOTIFY_USER w_CREATE_SCHEMA w_EXECUTE_ACTIVITY w_INSTANTIATE_SCHEMA w_GRANT_PRIVILEGE w_REUSE_EXISTING_PROCESS_INSTANCE_CHANGE hK 3 0 w_NEW_PROCESS_INSTANCE_CHANGE w_CHANGE_PROCESS 0 hi hj rfl rfl E_w_NEW_PROCESS_INSTANCE_CHANGE (by decide) (rm_root2 l Z a0 hw [] w_NEW_PROCESS_INSTANCE_CHANGE w_CHANGE_PROCESS h0 n0 (Fld.ne F_ordinal_w_CHANGE_PROCESS F_ordinal_w_NEW_PROCESS_INSTANCE_CHANGE (by decide)) F_parent_w_CHANGE_PROCESS)
  · exact rm_lawS l Z a0 hw ws p1 p2 h0 n0 w_CHANGE_PROCESS w_NEW_PROCESS_INSTANCE_CHANGE w_PROCESS_INSTANCE_CHANGE w_PROCESS_TYPE_CHANGE w_MONITOR_PROCESS_INSTANCE w_NOTIFY_USER w_CREATE_SCHEMA w_EXECUTE_ACTIVITY w_INSTANTIATE_SCHEMA w_GRANT_PRIVILEGE w_REUSE_EXISTING_PROCESS_INSTANCE_CHANGE hK 3 1 w_NEW_PROCESS_INSTANCE_CHANGE w_PROCESS_TYPE_CHANGE 0 hi hj rfl rfl E_w_NEW_PROCESS_INSTANCE_CHANGE (by decide) (rm_step2_0 l Z a0 hw [] w_NEW_PROCESS_INSTANCE_CHANGE w_PROCESS_TYPE_CHANGE h0 n0 w_CHANGE_PROCESS (Fld.ne F_ordinal_w_PROCESS_TYPE_CHANGE F_ordinal_w_NEW_PROCESS_INSTANCE_CHANGE (by decide)) F_parent_w_PROCESS_TYPE_CHANGE E_w_NEW_PROCESS_INSTANCE_CHANGE (rm_root1 l Z a0 hw [] w_NEW_PROCESS_INSTANCE_CHANGE w_CHANGE_PROCESS h0 n0 (Fld.ne F_ordinal_w_CHANGE_PROCESS F_ordinal_w_NEW_PROCESS_INSTANCE_CHANGE (by decide)) F_parent_w_CHANGE_PROCESS))
  · exact rm_lawS l Z a0 hw ws p1 p2 h0 n0 w_CHANGE_PROCESS w_NEW_PROCESS_INSTANCE_CHANGE w_PROCESS_INSTANCE_CHANGE w_PROCESS_TYPE_CHANGE w_MONITOR_PROCESS_INSTANCE w_NOTIFY_USER w_CREATE_SCHEMA w_EXECUTE_ACTIVITY w_INSTANTIATE_SCHEMA w_GRANT_PRIVILEGE w_REUSE_EXISTING_PROCESS_INSTANCE_CHANGE hK 3 2 w_NEW_PROCESS_INSTANCE_CHANGE w_PROCESS_INSTANCE_CHANGE 0 hi hj rfl rfl E_w_NEW_PROCESS_INSTANCE_CHANGE (by decide) (rm_step2_0 l Z a0 hw [] w_NEW_PROCESS_INSTANCE_CHANGE w_PROCESS_INSTANCE_CHANGE h0 n0 w_CHANGE_PROCESS (Fld.ne F_ordinal_w_PROCESS_INSTANCE_CHANGE F_ordinal_w_NEW_PROCESS_INSTANCE_CHANGE (by decide)) F_parent_w_PROCESS_INSTANCE_CHANGE E_w_NEW_PROCESS_INSTANCE_CHANGE (rm_root1 l Z a0 hw [] w_NEW_PROCESS_INSTANCE_CHANGE w_CHANGE_PROCESS h0 n0 (Fld.ne F_ordinal_w_CHANGE_PROCESS F_ordinal_w_NEW_PROCESS_INSTANCE_CHANGE (by decide)) F_parent_w_CHANGE_PROCESS))
  · exact rm_lawS l Z a0 hw ws p1 p2 h0 n0 w_CHANGE_PROCESS w_NEW_PROCESS_INSTANCE_CHANGE w_PROCESS_INSTANCE_CHANGE w_PROCESS_TYPE_CHANGE w_MONITOR_PROCESS_INSTANCE w_NOTIFY_USER w_CREATE_SCHEMA w_EXECUTE_ACTIVITY w_INSTANTIATE_SCHEMA w_GRANT_PRIVILEGE w_REUSE_EXISTING_PROCESS_INSTANCE_CHANGE hK 3 3 w_NEW_PROCESS_INSTANCE_CHANGE w_NEW_PROCESS_INSTANCE_CHANGE 1 hi hj rfl rfl E_w_NEW_PROCESS_INSTANCE_CHANGE (by decide) (rm_same2 l Z a0 hw [] w_NEW_PROCESS_INSTANCE_CHANGE h0 n0)
  · exact rm_lawS l Z a0 hw ws p1 p2 h0 n0 w_CHANGE_PROCESS w_NEW_PROCESS_INSTANCE_CHANGE w_PROCESS_INSTANCE_CHANGE w_PROCESS_TYPE_CHANGE w_MONITOR_PROCESS_INSTANCE w_NOTIFY_USER w_CREATE_SCHEMA w_EXECUTE_ACTIVITY w_INSTANTIATE_SCHEMA w_GRANT_PRIVILEGE w_REUSE_EXISTING_PROCESS_INSTANCE_CHANGE hK 3 4 w_NEW_PROCESS_INSTANCE_CHANGE w_REUSE_EXISTING_PROCESS_INSTANCE_CHANGE 0 hi hj rfl rfl E_w_NEW_PROCESS_INSTANCE_CHANGE (by decide) (rm_step2_0 l Z a0 hw [] w_NEW_PROCESS_INSTANCE_CHANGE w_REUSE_EXISTING_PROCESS_INSTANCE_CHANGE h0 n0 w_PROCESS_INSTANCE_CHANGE (Fld.ne F_ordinal_w_REUSE_EXISTING_PROCESS_INSTANCE_CHANGE F_ordinal_w_NEW_PROCESS_INSTANCE_CHANGE (by decide)) F_parent_w_REUSE_EXISTING_PROCESS_INSTANCE_CHANGE E_w_NEW_PROCESS_INSTANCE_CHANGE (rm_step1_0 l Z a0 hw [] w_NEW_PROCESS_INSTANCE_CHANGE w_PROCESS_INSTANCE_CHANGE h0 n0 w_CHANGE_PROCESS (Fld.ne F_ordinal_w_PROCESS_INSTANCE_CHANGE F_ordinal_w_NEW_PROCESS_INSTANCE_CHANGE (by decide)) F_parent_w_PROCESS_INSTANCE_CHANGE E_w_NEW_PROCESS_INSTANCE_CHANGE (rm_root0 l Z a0 hw [] w_NEW_PROCESS_INSTANCE_CHANGE w_CHANGE_PROCESS h0 n0 (Fld.ne F_ordinal_w_CHANGE_PROCESS F_ordinal_w_NEW_PROCESS_INSTANCE_CHANGE (by decide)) F_parent_w_CHANGE_PROCESS)))
  · exact rm_lawS l Z a0 hw ws p1 p2 h0 n0 w_CHANGE_PROCESS w_NEW_PROCESS_INSTANCE_CHANGE w_PROCESS_INSTANCE_CHANGE w_PROCESS_TYPE_CHANGE w_MONITOR_PROCESS_INSTANCE w_NOTIFY_USER w_CREATE_SCHEMA w_EXECUTE_ACTIVITY w_INSTANTIATE_SCHEMA w_GRANT_PRIVILEGE w_REUSE_EXISTING_PROCESS_INSTANCE_CHANGE hK 3 5 w_NEW_PROCESS_INSTANCE_CHANGE w_CREATE_SCHEMA 0 hi hj rfl rfl E_w_NEW_PROCESS_INSTANCE_CHANGE (by decide) (rm_root2 l Z a0 hw [] w_NEW_PROCESS_INSTANCE_CHANGE w_CREATE_SCHEMA h0 n0 (Fld.ne F_ordinal_w_CREATE_SCHEMA F_ordinal_w_NEW_PROCESS_INSTANCE_CHANGE (by decide)) F_parent_w_CREATE_SCHEMA)
  · exact rm_lawS l Z a0 hw ws p1 p2 h0 n0 w_CHANGE_PROCESS w_NEW_PROCESS_INSTANCE_CHANGE w_PROCESS_INSTANCE_CHANGE w_PROCESS_TYPE_CHANGE w_MONITOR_PROCESS_INSTANCE w_NOTIFY_USER w_CREATE_SCHEMA w_EXECUTE_ACTIVITY w_INSTANTIATE_SCHEMA w_GRANT_PRIVILEGE w_REUSE_EXISTING_PROCESS_INSTANCE_CHANGE hK 3 6 w_NEW_PROCESS_INSTANCE_CHANGE w_EXECUTE_ACTIVITY 0 hi hj rfl rfl E_w_NEW_PROCESS_INSTANCE_CHANGE (by decide) (rm_root2 l Z a0 hw [] w_NEW_PROCESS_INSTANCE_CHANGE w_EXECUTE_ACTIVITY h0 n0 (Fld.ne F_ordinal_w_EXECUTE_ACTIVITY F_ordinal_w_NEW_PROCESS_INSTANCE_CHANGE (by decide)) F_parent_w_EXECUTE_ACTIVITY)
  · exact rm_lawS l Z a0 hw ws p1 p2 h0 n0 w_CHANGE_PROCESS w_NEW_PROCESS_INSTANCE_CHANGE w_PROCESS_INSTANCE_CHANGE w_PROCESS_TYPE_CHANGE w_MONITOR_PROCESS_INSTANCE w_NOTIFY_USER w_CREATE_SCHEMA w_EXECUTE_ACTIVITY w_INSTANTIATE_SCHEMA w_GRANT_PRIVILEGE w_REUSE_EXISTING_PROCESS_INSTANCE_CHANGE hK 3 7 w_NEW_PROCESS_INSTANCE_CHANGE w_GRANT_PRIVILEGE 0 hi hj rfl rfl E_w_NEW_PROCESS_INSTANCE_CHANGE (by decide) (rm_root2 l Z a0 hw [] w_NEW_PROCESS_INSTANCE_CHANGE w_GRANT_PRIVILEGE h0 n0 (Fld.ne F_ordinal_w_GRANT_PRIVILEGE F_ordinal_w_NEW_PROCESS_INSTANCE_CHANGE (by decide)) F_parent_w_GRANT_PRIVILEGE)
  · exact rm_lawS l Z a0 hw ws p1 p2 h0 n0 w_CHANGE_PROCESS w_NEW_PROCESS_INSTANCE_CHANGE w_PROCESS_INSTANCE_CHANGE w_PROCESS_TYPE_CHANGE w_MONITOR_PROCESS_INSTANCE w_NOTIFY_USER w_CREATE_SCHEMA w_EXECUTE_ACTIVITY w_INSTANTIATE_SCHEMA w_GRANT_PRIVILEGE w_REUSE_EXISTING_PROCESS_INSTANCE_CHANGE hK 3 8 w_NEW_PROCESS_INSTANCE_CHANGE w_INSTANTIATE_SCHEMA 0 hi hj rfl rfl E_w_NEW_PROCESS_INSTANCE_CHANGE (by decide) (rm_root2 l Z a0 hw [] w_NEW_PROCESS_INSTANCE_CHANGE w_INSTANTIATE_SCHEMA h0 n0 (Fld.ne F_ordinal_w_INSTANTIATE_SCHEMA F_ordinal_w_NEW_PROCESS_INSTANCE_CHANGE (by decide)) F_parent_w_INSTANTIATE_SCHEMA)
  · exact rm_lawS l Z a0 hw ws p1 p2 h0 n0 w_CHANGE_PROCESS w_NEW_PROCESS_INSTANCE_CHANGE w_PROCESS_INSTANCE_CHANGE w_PROCESS_TYPE_CHANGE w_MONITOR_PROCESS_INSTANCE w_NOTIFY_USER w_CREATE_SCHEMA w_EXECUTE_ACTIVITY w_INSTANTIATE_SCHEMA w_GRANT_PRIVILEGE w_REUSE_EXISTING_PROCESS_INSTANCE_CHANGE hK 3 9 w_NEW_PROCESS_INSTANCE_CHANGE w_MONITOR_PROCESS_INSTANCE 0 hi hj rfl rfl E_w_NEW_PROCESS_INSTANCE_CHANGE (by decide) (rm_root2 l Z a0 hw [] w_NEW_PROCESS_INSTANCE_CHANGE w_MONITOR_PROCESS_INSTANCE h0 n0 (Fld.ne F_ordinal_w_MONITOR_PROCESS_INSTANCE F_ordinal_w_NEW_PROCESS_INSTANCE_CHANGE (by decide)) F_parent_w_MONITOR_PROCESS_INSTANCE)
  · exact rm_lawS l Z a0 hw ws p1 p2 h0 n0 w_CHANGE_PROCESS w_NEW_PROCESS_INSTANCE_CHANGE w_PROCESS_INSTANCE_CHANGE w_PROCESS_TYPE_CHANGE w_MONITOR_PROCESS_INSTANCE w_NOTIFY_USER w_CREATE_SCHEMA w_EXECUTE_ACTIVITY w_INSTANTIATE_SCHEMA w_GRANT_PRIVILEGE w_REUSE_EXISTING_PROCESS_INSTANCE_CHANGE hK 3 10 w_NEW_PROCESS_INSTANCE_CHANGE w_NOTIFY_USER 0 hi hj rfl rfl E_w_NEW_PROCESS_INSTANCE_CHANGE (by decide) (rm_root2 l Z a0 hw [] w_NEW_PROCESS_INSTANCE_CHANGE w_NOTIFY_USER h0 n0 (Fld.ne F_ordinal_w_NOTIFY_USER F_ordinal_w_NEW_PROCESS_INSTANCE_CHANGE (by decide)) F_parent_w_NOTIFY_USER)
  · exact rm_lawS l Z a0 hw ws p1 p2 h0 n0 w_CHANGE_PROCESS w_NEW_PROCESS_INSTANCE_CHANGE w_PROCESS_INSTANCE_CHANGE w_PROCESS_TYPE_CHANGE w_MONITOR_PROCESS_INSTANCE w_NOTIFY_USER w_CREATE_SCHEMA w_EXECUTE_ACTIVITY w_INSTANTIATE_SCHEMA w_GRANT_PRIVILEGE w_REUSE_EXISTING_PROCESS_INSTANCE_CHANGE hK 4 0 w_REUSE_EXISTING_PROCESS_INSTANCE_CHANGE w_CHANGE_PROCESS 0 hi hj rfl rfl E_w_REUSE_EXISTING_PROCESS_INSTANCE_CHANGE (by decide) (rm_root2 l Z a0 hw [] w_REUSE_EXISTING_PROCESS_INSTANCE_CHANGE w_CHANGE_PROCESS h0 n0 (Fld.ne F_ordinal_w_CHANGE_PROCESS F_ordinal_w_REUSE_EXISTING_PROCESS_INSTANCE_CHANGE (by decide)) F_parent_w_CHANGE_PROCESS)
  · exact rm_lawS l Z a0 hw ws p1 p2 h0 n0 w_CHANGE_PROCESS w_NEW_PROCESS_INSTANCE_CHANGE w_PROCESS_INSTANCE_CHANGE w_PROCESS_TYPE_CHANGE w_MONITOR_PROCESS_INSTANCE w_NOTIFY_USER w_CREATE_SCHEMA w_EXECUTE_ACTIVITY w_INSTANTIATE_SCHEMA w_GRANT_PRIVILEGE w_REUSE_EXISTING_PROCESS_INSTANCE_CHANGE hK 4 1 w_REUSE_EXISTING_PROCESS_INSTANCE_CHANGE w_PROCESS_TYPE_CHANGE 0 hi hj rfl rfl E_w_REUSE_EXISTING_PROCESS_INSTANCE_CHANGE (by decide) (rm_step2_0 l Z a0 hw [] w_REUSE_EXISTING_PROCESS_INSTANCE_CHANGE w_PROCESS_TYPE_CHANGE h0 n0 w_CHANGE_PROCESS (Fld.ne F_ordinal_w_PROCESS_TYPE_CHANGE F_ordinal_w_REUSE_EXISTING_PROCESS_INSTANCE_CHANGE (by decide)) F_parent_w_PROCESS_TYPE_CHANGE E_w_REUSE_EXISTING_PROCESS_INSTANCE_CHANGE (rm_root1 l Z a0 hw [] w_REUSE_EXISTING_PROCESS_INSTANCE_CHANGE w_CHANGE_PROCESS h0 n0 (Fld.ne F_ordinal_w_CHANGE_PROCESS F_ordinal_w_REUSE_EXISTING_PROCESS_INSTANCE_CHANGE (by decide)) F_parent_w_CHANGE_PROCESS))
  · exact rm_lawS l Z a0 hw ws p1 p2 h0 n0 w_CHANGE_PROCESS w_NEW_PROCESS_INSTANCE_CHANGE w_PROCESS_INSTANCE_CHANGE w_PROCESS_TYPE_CHANGE w_MONITOR_PROCESS_INSTANCE w_NOTIFY_USER w_CREATE_SCHEMA w_EXECUTE_ACTIVITY w_INSTANTIATE_SCHEMA w_GRANT_PRIVILEGE w_REUSE_EXISTING_PROCESS_INSTANCE_CHANGE hK 4 2 w_REUSE_EXISTING_PROCESS_INSTANCE_CHANGE w_PROCESS_INSTANCE_CHANGE 0 hi hj rfl rfl E_w_REUSE_EXISTING_PROCESS_INSTANCE_CHANGE (by decide) (rm_step2_0 l Z a0 hw [] w_REUSE_EXISTING_PROCESS_INSTANCE_CHANGE w_PROCESS_INSTANCE_CHANGE h0 n0 w_CHANGE_PROCESS (Fld.ne F_ordinal_w_PROCESS_INSTANCE_CHANGE F_ordinal_w_REUSE_EXISTING_PROCESS_INSTANCE_CHANGE (by decide)) F_parent_w_PROCESS_INSTANCE_CHANGE E_w_REUSE_EXISTING_PROCESS_INSTANCE_CHANGE (rm_root1 l Z a0 hw [] w_REUSE_EXISTING_PROCESS_INSTANCE_CHANGE w_CHANGE_PROCESS h0 n0 (Fld.ne F_ordinal_w_CHANGE_PROCESS F_ordinal_w_REUSE_EXISTING_PROCESS_INSTANCE_CHANGE (by decide)) F_parent_w_CHANGE_PROCESS))
  · exact rm_lawS l Z a0 hw ws p1 p2 h0 n0 w_CHANGE_PROCESS w_NEW_PROCESS_INSTANCE_CHANGE w_PROCESS_INSTANCE_CHANGE w_PROCESS_TYPE_CHANGE w_MONITOR_PROCESS_INSTANCE w_NOTIFY_USER w_CREATE_SCHEMA w_EXECUTE_ACTIVITY w_INSTANTIATE_SCHEMA w_GRANT_PRIVILEGE w_REUSE_EXISTING_PROCESS_INSTANCE_CHANGE hK 4 3 w_REUSE_EXISTING_PROCESS_INSTANCE_CHANGE w_NEW_PROCESS_INSTANCE_CHANGE 0 hi hj rfl rfl E_w_REUSE_EXISTING_PROCESS_INSTANCE_CHANGE (by decide) (rm_step2_0 l Z a0 hw [] w_REUSE_EXISTING_PROCESS_INSTANCE_CHANGE w_NEW_PROCESS_INSTANCE_CHANGE h0 n0 w_PROCESS_INSTANCE_CHANGE (Fld.ne F_ordinal_w_NEW_PROCESS_INSTANCE_CHANGE F_ordinal_w_REUSE_EXISTING_PROCESS_INSTANCE_CHANGE (by decide)) F_parent_w_NEW_PROCESS_INSTANCE_CHANGE E_w_REUSE_EXISTING_PROCESS_INSTANCE_CHANGE (rm_step1_0 l Z a0 hw [] w_REUSE_EXISTING_PROCESS_INSTANCE_CHANGE w_PROCESS_INSTANCE_CHANGE h0 n0 w_CHANGE_PROCESS (Fld.ne F_ordinal_w_PROCESS_INSTANCE_CHANGE F_ordinal_w_REUSE_EXISTING_PROCESS_INSTANCE_CHANGE (by decide)) F_parent_w_PROCESS_INSTANCE_CHANGE E_w_REUSE_EXISTING_PROCESS_INSTANCE_CHANGE (rm_root0 l Z a0 hw [] w_REUSE_EXISTING_PROCESS_INSTANCE_CHANGE w_CHANGE_PROCESS h0 n0 (Fld.ne F_ordinal_w_CHANGE_PROCESS F_ordinal_w_REUSE_EXISTING_PROCESS_INSTANCE_CHANGE (by decide)) F_parent_w_CHANGE_PROCESS)))
  · exact rm_lawS l Z a0 hw ws p1 p2 h0 n0 w_CHANGE_PROCESS w_NEW_PROCESS_INSTANCE_CHANGE w_PROCESS_INSTANCE_CHANGE w_PROCESS_TYPE_CHANGE w_MONITOR_PROCESS_INSTANCE w_NOTIFY_USER w_CREATE_SCHEMA w_EXECUTE_ACTIVITY w_INSTANTIATE_SCHEMA w_GRANT_PRIVILEGE w_REUSE_EXISTING_PROCESS_INSTANCE_CHANGE hK 4 4 w_REUSE_EXISTING_PROCESS_INSTANCE_CHANGE w_REUSE_EXISTING_PROCESS_INSTANCE_CHANGE 1 hi hj rfl rfl E_w_REUSE_EXISTING_PROCESS_INSTANCE_CHANGE (by decide) (rm_same2 l Z a0 hw [] w_REUSE_EXISTING_PROCESS_INSTANCE_CHANGE h0 n0)
  · exact rm_lawS l Z a0 hw ws p1 p2 h0 n0 w_CHANGE_PROCESS w_NEW_PROCESS_INSTANCE_CHANGE w_PROCESS_INSTANCE_CHANGE w_PROCESS_TYPE_CHANGE w_MONITOR_PROCESS_INSTANCE w_NOTIFY_USER w_CREATE_SCHEMA w_EXECUTE_ACTIVITY w_INSTANTIATE_SCHEMA w_GRANT_PRIVILEGE w_REUSE_EXISTING_PROCESS_INSTANCE_CHANGE hK 4 5 w_REUSE_EXISTING_PROCESS_INSTANCE_CHANGE w_CREATE_SCHEMA 0 hi hj rfl rfl E_w_REUSE_EXISTING_PROCESS_INSTANCE_CHANGE (by decide) (rm_root2 l Z a0 hw [] w_REUSE_EXISTING_PROCESS_INSTANCE_CHANGE w_CREATE_SCHEMA h0 n0 (Fld.ne F_ordinal_w_CREATE_SCHEMA F_ordinal_w_REUSE_EXISTING_PROCESS_INSTANCE_CHANGE (by decide)) F_parent_w_CREATE_SCHEMA)
  · exact rm_lawS l Z a0 hw ws p1 p2 h0 n0 w_CHANGE_PROCESS w_NEW_PROCESS_INSTANCE_CHANGE w_PROCESS_INSTANCE_CHANGE w_PROCESS_TYPE_CHANGE w_MONITOR_PROCESS_INSTANCE w_NOTIFY_USER w_CREATE_SCHEMA w_EXECUTE_ACTIVITY w_INSTANTIATE_SCHEMA w_GRANT_PRIVILEGE w_REUSE_EXISTING_PROCESS_INSTANCE_CHANGE hK 4 6 w_REUSE_EXISTING_PROCESS_INSTANCE_CHANGE w_EXECUTE_ACTIVITY 0 hi hj rfl rfl E_w_REUSE_EXISTING_PROCESS_INSTANCE_CHANGE (by decide) (rm_root2 l Z a0 hw [] w_REUSE_EXISTING_PROCESS_INSTANCE_CHANGE w_EXECUTE_ACTIVITY h0 n0 (Fld.ne F_ordinal_w_EXECUTE_ACTIVITY F_ordinal_w_REUSE_EXISTING_PROCESS_INSTANCE_CHANGE (by decide)) F_parent_w_EXECUTE_ACTIVITY)
  · exact rm_lawS l Z a0 hw ws p1 p2 h0 n0 w_CHANGE_PROCESS w_NEW_PROCESS_INSTANCE_CHANGE w_PROCESS_INSTANCE_CHANGE w_PROCESS_TYPE_CHANGE w_MONITOR_PROCESS_INSTANCE w_NOTIFY_USER w_CREATE_SCHEMA w_EXECUTE_ACTIVITY w_INSTANTIATE_SCHEMA w_GRANT_PRIVILEGE w_REUSE_EXISTING_PROCESS_INSTANCE_CHANGE hK 4 7 w_REUSE_EXISTING_PROCESS_INSTANCE_CHANGE w_GRANT_PRIVILEGE 0 hi hj rfl rfl E_w_REUSE_EXISTING_PROCESS_INSTANCE_CHANGE (by decide) (rm_root2 l Z a0 hw [] w_REUSE_EXISTING_PROCESS_INSTANCE_CHANGE w_GRANT_PRIVILEGE h0 n0 (Fld.ne F_ordinal_w_GRANT_PRIVILEGE F_ordinal_w_REUSE_EXISTING_PROCESS_INSTANCE_CHANGE (by decide)) F_parent_w_GRANT_PRIVILEGE)
  · exact rm_lawS l Z a0 hw ws p1 p2 h0 n0 w_CHANGE_PROCESS w_NEW_PROCESS_INSTANCE_CHANGE w_PROCESS_INSTANCE_CHANGE w_PROCESS_TYPE_CHANGE w_MONITOR_PROCESS_INSTANCE w_NOTIFY_USER w_CREATE_SCHEMA w_EXECUTE_ACTIVITY w_INSTANTIATE_SCHEMA w_GRANT_PRIVILEGE w_REUSE_EXISTING_PROCESS_INSTANCE_CHANGE hK 4 8 w_REUSE_EXISTING_PROCESS_INSTANCE_CHANGE w_INSTANTIATE_SCHEMA 0 hi hj rfl rfl E_w_REUSE_EXISTING_PROCESS_INSTANCE_CHANGE (by decide) (rm_root2 l Z a0 hw [] w_REUSE_EXISTING_PROCESS_INSTANCE_CHANGE w_INSTANTIATE_SCHEMA h0 n0 (Fld.ne F_ordinal_w_INSTANTIATE_SCHEMA F_ordinal_w_REUSE_EXISTING_PROCESS_INSTANCE_CHANGE (by decide)) F_parent_w_INSTANTIATE_SCHEMA)
  · exact rm_lawS l Z a0 hw ws p1 p2 h0 n0 w_CHANGE_PROCESS w_NEW_PROCESS_INSTANCE_CHANGE w_PROCESS_INSTANCE_CHANGE w_PROCESS_TYPE_CHANGE w_MONITOR_PROCESS_INSTANCE w_NOTIFY_USER w_CREATE_SCHEMA w_EXECUTE_ACTIVITY w_INSTANTIATE_SCHEMA w_GRANT_PRIVILEGE w_REUSE_EXISTING_PROCESS_INSTANCE_CHANGE hK 4 9 w_REUSE_EXISTING_PROCESS_INSTANCE_CHANGE w_MONITOR_PROCESS_INSTANCE 0 hi hj rfl rfl E_w_REUSE_EXISTING_PROCESS_INSTANCE_CHANGE (by decide) (rm_root2 l Z a0 hw [] w_REUSE_EXISTING_PROCESS_INSTANCE_CHANGE w_MONITOR_PROCESS_INSTANCE h0 n0 (Fld.ne F_ordinal_w_MONITOR_PROCESS_INSTANCE F_ordinal_w_REUSE_EXISTING_PROCESS_INSTANCE_CHANGE (by decide)) F_parent_w_MONITOR_PROCESS_INSTANCE)
  · exact rm_lawS l Z a0 hw ws p1 p2 h0 n0 w_CHANGE_PROCESS w_NEW_PROCESS_INSTANCE_CHANGE w_PROCESS_INSTANCE_CHANGE w_PROCESS_TYPE_CHANGE w_MONITOR_PROCESS_INSTANCE w_NOTIFY_USER w_CREATE_SCHEMA w_EXECUTE_ACTIVITY w_INSTANTIATE_SCHEMA w_GRANT_PRIVILEGE w_REUSE_EXISTING_PROCESS_INSTANCE_CHANGE hK 4 10 w_REUSE_EXISTING_PROCESS_INSTANCE_CHANGE w_NOTIFY_USER 0 hi hj rfl rfl E_w_REUSE_EXISTING_PROCESS_INSTANCE_CHANGE (by decide) (rm_root2 l Z a0 hw [] w_REUSE_EXISTING_PROCESS_INSTANCE_CHANGE w_NOTIFY_USER h0 n0 (Fld.ne F_ordinal_w_NOTIFY_USER F_ordinal_w_REUSE_EXISTING_PROCESS_INSTANCE_CHANGE (by decide)) F_parent_w_NOTIFY_USER)
  · exact rm_lawS l Z a0 hw ws p1 p2 h0 n0 w_CHANGE_PROCESS w_NEW_PROCESS_INSTANCE_CHANGE w_PROCESS_INSTANCE_CHANGE w_PROCESS_TYPE_CHANGE w_MONITOR_PROCESS_INSTANCE w_NOTIFY_USER w_CREATE_SCHEMA w_EXECUTE_ACTIVITY w_INSTANTIATE_SCHEMA w_GRANT_PRIVILEGE w_REUSE_EXISTING_PROCESS_INSTANCE_CHANGE hK 5 0 w_CREATE_SCHEMA w_CHANGE_PROCESS 0 hi hj rfl rfl E_w_CREATE_SCHEMA (by decide) (rm_root2 l Z a0 hw [] w_CREATE_SCHEMA w_CHANGE_PROCESS h0 n0 (Fld.ne F_ordinal_w_CHANGE_PROCESS F_ordinal_w_CREATE_SCHEMA (by decide)) F_parent_w_CHANGE_PROCESS)
  · exact rm_lawS l Z a0 hw ws p1 p2 h0 n0 w_CHANGE_PROCESS w_NEW_PROCESS_INSTANCE_CHANGE w_PROCESS_INSTANCE_CHANGE w_PROCESS_TYPE_CHANGE w_MONITOR_PROCESS_INSTANCE w_NOTIFY_USER w_CREATE_SCHEMA w_EXECUTE_ACTIVITY w_INSTANTIATE_SCHEMA w_GRANT_PRIVILEGE w_REUSE_EXISTING_PROCESS_INSTANCE_CHANGE hK 5 1 w_CREATE_SCHEMA w_PROCESS_TYPE_CHANGE 0 hi hj rfl rfl E_w_CREATE_SCHEMA (by decide) (rm_step2_0 l Z a0 hw [] w_CREATE_SCHEMA w_PROCESS_TYPE_CHANGE h0 n0 w_CHANGE_PROCESS (Fld.ne F_ordinal_w_PROCESS_TYPE_CHANGE F_ordinal_w_CREATE_SCHEMA (by decide)) F_parent_w_PROCESS_TYPE_CHANGE E_w_CREATE_SCHEMA (rm_root1 l Z a0 hw [] w_CREATE_SCHEMA w_CHANGE_PROCESS h0 n0 (Fld.ne F_ordinal_w_CHANGE_PROCESS F_ordinal_w_CREATE_SCHEMA (by decide)) F_parent_w_CHANGE_PROCESS))
  · exact rm_lawS l Z a0 hw ws p1 p2 h0 n0 w_CHANGE_PROCESS w_NEW_PROCESS_INSTANCE_CHANGE w_PROCESS_INSTANCE_CHANGE w_PROCESS_TYPE_CHANGE w_MONITOR_PROCESS_INSTANCE w_NOTIFY_USER w_CREATE_SCHEMA w_EXECUTE_ACTIVITY w_INSTANTIATE_SCHEMA w_GRANT_PRIVILEGE w_REUSE_EXISTING_PROCESS_INSTANCE_CHANGE hK 5 2 w_CREATE_SCHEMA w_PROCESS_INSTANCE_CHANGE 0 hi hj rfl rfl E_w_CREATE_SCHEMA (by decide) (rm_step2_0 l Z a0 hw [] w_CREATE_SCHEMA w_PROCESS_INSTANCE_CHANGE h0 n0 w_CHANGE_PROCESS (Fld.ne F_ordinal_w_PROCESS_INSTANCE_CHANGE F_ordinal_w_CREATE_SCHEMA (by decide)) F_parent_w_PROCESS_INSTANCE_CHANGE E_w_CREATE_SCHEMA (rm_root1 l Z a0 hw [] w_CREATE_SCHEMA w_CHANGE_PROCESS h0 n0 (Fld.ne F_ordinal_w_CHANGE_PROCESS F_ordinal_w_CREATE_SCHEMA (by decide)) F_parent_w_CHANGE_PROCESS))
  · exact rm_lawS l Z a0 hw ws p1 p2 h0 n0 w_CHANGE_PROCESS w_NEW_PROCESS_INSTANCE_CHANGE w_PROCESS_INSTANCE_CHANGE w_PROCESS_TYPE_CHANGE w_MONITOR_PROCESS_INSTANCE w_NOTIFY_USER w_CREATE_SCHEMA w_EXECUTE_ACTIVITY w_INSTANTIATE_SCHEMA w_GRANT_PRIVILEGE w_REUSE_EXISTING_PROCESS_INSTANCE_CHANGE hK 5 3 w_CREATE_SCHEMA w_NEW_PROCESS_INSTANCE_CHANGE 0 hi hj rfl rfl E_w_CREATE_SCHEMA (by decide) (rm_step2_0 l Z a0 hw [] w_CREATE_SCHEMA w_NEW_PROCESS_INSTANCE_CHANGE h0 n0 w_PROCESS_INSTANCE_CHANGE (Fld.ne F_ordinal_w_NEW_PROCESS_INSTANCE_CHANGE F_ordinal_w_CREATE_SCHEMA (by decide)) F_parent_w_NEW_PROCESS_INSTANCE_CHANGE E_w_CREATE_SCHEMA (rm_step1_0 l Z a0 hw [] w_CREATE_SCHEMA w_PROCESS_INSTANCE_CHANGE h0 n0 w_CHANGE_PROCESS (Fld.ne F_ordinal_w_PROCESS_INSTANCE_CHANGE F_ordinal_w_CREATE_SCHEMA (by decide)) F_parent_w_PROCESS_INSTANCE_CHANGE E_w_CREATE_SCHEMA (rm_root0 l Z a0 hw [] w_CREATE_SCHEMA w_CHANGE_PROCESS h0 n0 (Fld.ne F_ordinal_w_CHANGE_PROCESS F_ordinal_w_CREATE_SCHEMA (by decide)) F_parent_w_CHANGE_PROCESS)))
  · exact rm_lawS l Z a0 hw ws p1 p2 h0 n0 w_CHANGE_PROCESS w_NEW_PROCESS_INSTANCE_CHANGE w_PROCESS_INSTANCE_CHANGE w_PROCESS_TYPE_CHANGE w_MONITOR_PROCESS_INSTANCE w_NOTIFY_USER w_CREATE_SCHEMA w_EXECUTE_ACTIVITY w_INSTANTIATE_SCHEMA w_GRANT_PRIVILEGE w_REUSE_EXISTING_PROCESS_INSTANCE_CHANGE hK 5 4 w_CREATE_SCHEMA w_REUSE_EXISTING_PROCESS_INSTANCE_CHANGE 0 hi hj rfl rfl E_w_CREATE_SCHEMA (by decide) (rm_step2_0 l Z a0 hw [] w_CREATE_SCHEMA w_REUSE_EXISTING_PROCESS_INSTANCE_CHANGE h0 n0 w_PROCESS_INSTANCE_CHANGE (Fld.ne F_ordinal_w_REUSE_EXISTING_PROCESS_INSTANCE_CHANGE F_ordinal_w_CREATE_SCHEMA (by decide)) F_parent_w_REUSE_EXISTING_PROCESS_INSTANCE_CHANGE E_w_CREATE_SCHEMA (rm_step1_0 l Z a0 hw [] w_CREATE_SCHEMA w_PROCESS_INSTANCE_CHANGE h0 n0 w_CHANGE_PROCESS (Fld.ne F_ordinal_w_PROCESS_INSTANCE_CHANGE F_ordinal_w_CREATE_SCHEMA (by decide)) F_parent_w_PROCESS_INSTANCE_CHANGE E_w_CREATE_SCHEMA (rm_root0 l Z a0 hw [] w_CREATE_SCHEMA w_CHANGE_PROCESS h0 n0 (Fld.ne F_ordinal_w_CHANGE_PROCESS F_ordinal_w_CREATE_SCHEMA (by decide)) F_parent_w_CHANGE_PROCESS)))
  · exact rm_lawS l Z a0 hw ws p1 p2 h0 n0 w_CHANGE_PROCESS w_NEW_PROCESS_INSTANCE_CHANGE w_PROCESS_INSTANCE_CHANGE w_PROCESS_TYPE_CHANGE w_MONITOR_PROCESS_INSTANCE w_NOTIFY_USER w_CREATE_SCHEMA w_EXECUTE_ACTIVITY w_INSTANTIATE_SCHEMA w_GRANT_PRIVILEGE w_REUSE_EXISTING_PROCESS_INSTANCE_CHANGE hK 5 5 w_CREATE_SCHEMA w_CREATE_SCHEMA 1 hi hj rfl rfl E_w_CREATE_SCHEMA (by decide) (rm_same2 l Z a0 hw [] w_CREATE_SCHEMA h0 n0)
  · exact rm_lawS l Z a0 hw ws p1 p2 h0 n0 w_CHANGE_PROCESS w_NEW_PROCESS_INSTANCE_CHANGE w_PROCESS_INSTANCE_CHANGE w_PROCESS_TYPE_CHANGE w_MONITOR_PROCESS_INSTANCE w_NOTIFY_USER w_CREATE_SCHEMA w_EXECUTE_ACTIVITY w_INSTANTIATE_SCHEMA w_GRANT_PRIVILEGE w_REUSE_EXISTING_PROCESS_INSTANCE_CHANGE hK 5 6 w_CREATE_SCHEMA w_EXECUTE_ACTIVITY 0 hi hj rfl rfl E_w_CREATE_SCHEMA (by decide) (rm_root2 l Z a0 hw [] w_CREATE_SCHEMA w_EXECUTE_ACTIVITY h0 n0 (Fld.ne F_ordinal_w_EXECUTE_ACTIVITY F_ordinal_w_CREATE_SCHEMA (by decide)) F_parent_w_EXECUTE_ACTIVITY)
  · exact rm_lawS l Z a0 hw ws p1 p2 h0 n0 w_CHANGE_PROCESS w_NEW_PROCESS_INSTANCE_CHANGE w_PROCESS_INSTANCE_CHANGE w_PROCESS_TYPE_CHANGE w_MONITOR_PROCESS_INSTANCE w_NOTIFY_USER w_CREATE_SCHEMA w_EXECUTE_ACTIVITY w_INSTANTIATE_SCHEMA w_GRANT_PRIVILEGE w_REUSE_EXISTING_PROCESS_INSTANCE_CHANGE hK 5 7 w_CREATE_SCHEMA w_GRANT_PRIVILEGE 0 hi hj rfl rfl E_w_CREATE_SCHEMA (by decide) (rm_root2 l Z a0 hw [] w_CREATE_SCHEMA w_GRANT_PRIVILEGE h0 n0 (Fld.ne F_ordinal_w_GRANT_PRIVILEGE F_ordinal_w_CREATE_SCHEMA (by decide)) F_parent_w_GRANT_PRIVILEGE)
  · exact rm_lawS l Z a0 hw ws p1 p2 h0 n0 w_CHANGE_PROCESS w_NEW_PROCESS_INSTANCE_CHANGE w_PROCESS_INSTANCE_CHANGE w_PROCESS_TYPE_CHANGE w_MONITOR_PROCESS_INSTANCE w_NOTIFY_USER w_CREATE_SCHEMA w_EXECUTE_ACTIVITY w_INSTANTIATE_SCHEMA w_GRANT_PRIVILEGE w_REUSE_EXISTING_PROCESS_INSTANCE_CHANGE hK 5 8 w_CREATE_SCHEMA w_INSTANTIATE_SCHEMA 0 hi hj rfl rfl E_w_CREATE_SCHEMA (by decide) (rm_root2 l Z a0 hw [] w_CREATE_SCHEMA w_INSTANTIATE_SCHEMA h0 n0 (Fld.ne F_ordinal_w_INSTANTIATE_SCHEMA F_ordinal_w_CREATE_SCHEMA (by decide)) F_parent_w_INSTANTIATE_SCHEMA)
  · exact rm_lawS l Z a0 hw ws p1 p2 h0 n0 w_CHANGE_PROCESS w_NEW_PROCESS_INSTANCE_CHANGE w_PROCESS_INSTANCE_CHANGE w_PROCESS_TYPE_CHANGE w_MONITOR_PROCESS_INSTANCE w_NOTIFY_USER w_CREATE_SCHEMA w_EXECUTE_ACTIVITY w_INSTANTIATE_SCHEMA w_GRANT_PRIVILEGE w_REUSE_EXISTING_PROCESS_INSTANCE_CHANGE hK 5 9 w_CREATE_SCHEMA w_MONITOR_PROCESS_INSTANCE 0 hi hj rfl rfl E_w_CREATE_SCHEMA (by decide) (rm_root2 l Z a0 hw [] w_CREATE_SCHEMA w_MONITOR_PROCESS_INSTANCE h0 n0 (Fld.ne F_ordinal_w_MONITOR_PROCESS_INSTANCE F_ordinal_w_CREATE_SCHEMA (by decide)) F_parent_w_MONITOR_PROCESS_INSTANCE)
  · exact rm_lawS l Z a0 hw ws p1 p2 h0 n0 w_CHANGE_PROCESS w_NEW_PROCESS_INSTANCE_CHANGE w_PROCESS_INSTANCE_CHANGE w_PROCESS_TYPE_CHANGE w_MONITOR_PROCESS_INSTANCE w_NOTIFY_USER w_CREATE_SCHEMA w_EXECUTE_ACTIVITY w_INSTANTIATE_SCHEMA w_GRANT_PRIVILEGE w_REUSE_EXISTING_PROCESS_INSTANCE_CHANGE hK 5 10 w_CREATE_SCHEMA w_NOTIFY_USER 0 hi hj rfl rfl E_w_CREATE_SCHEMA (by decide) (rm_root2 l Z a0 hw [] w_CREATE_SCHEMA w_NOTIFY_USER h0 n0 (Fld.ne F_ordinal_w_NOTIFY_USER F_ordinal_w_CREATE_SCHEMA (by decide)) F_parent_w_NOTIFY_USER)
  · exact rm_lawS l Z a0 hw ws p1 p2 h0 n0 w_CHANGE_PROCESS w_NEW_PROCESS_INSTANCE_CHANGE w_PROCESS_INSTANCE_CHANGE w_PROCESS_TYPE_CHANGE w_MONITOR_PROCESS_INSTANCE w_NOTIFY_USER w_CREATE_SCHEMA w_EXECUTE_ACTIVITY w_INSTANTIATE_SCHEMA w_GRANT_PRIVILEGE w_REUSE_EXISTING_PROCESS_INSTANCE_CHANGE hK 6 0 w_EXECUTE_ACTIVITY w_CHANGE_PROCESS 0 hi hj rfl rfl E_w_EXECUTE_ACTIVITY (by decide) (rm_root2 l Z a0 hw [] w_EXECUTE_ACTIVITY w_CHANGE_PROCESS h0 n0 (Fld.ne F_ordinal_w_CHANGE_PROCESS F_ordinal_w_EXECUTE_ACTIVITY (by decide)) F_parent_w_CHANGE_PROCESS)
  · exact rm_lawS l Z a0 hw ws p1 p2 h0 n0 w_CHANGE_PROCESS w_NEW_PROCESS_INSTANCE_CHANGE w_PROCESS_INSTANCE_CHANGE w_PROCESS_TYPE_CHANGE w_MONITOR_PROCESS_INSTANCE w_NOTIFY_USER w_CREATE_SCHEMA w_EXECUTE_ACTIVITY w_INSTANTIATE_SCHEMA w_GRANT_PRIVILEGE w_REUSE_EXISTING_PROCESS_INSTANCE_CHANGE hK 6 1 w_EXECUTE_ACTIVITY w_PROCESS_TYPE_CHANGE 0 hi hj rfl rfl E_w_EXECUTE_ACTIVITY (by decide) (rm_step2_0 l Z a0 hw [] w_EXECUTE_ACTIVITY w_PROCESS_TYPE_CHANGE h0 n0 w_CHANGE_PROCESS (Fld.ne F_ordinal_w_PROCESS_TYPE_CHANGE F_ordinal_w_EXECUTE_ACTIVITY (by decide)) F_parent_w_PROCESS_TYPE_CHANGE E_w_EXECUTE_ACTIVITY (rm_root1 l Z a0 hw [] w_EXECUTE_ACTIVITY w_CHANGE_PROCESS h0 n0 (Fld.ne F_ordinal_w_CHANGE_PROCESS F_ordinal_w_EXECUTE_ACTIVITY (by decide)) F_parent_w_CHANGE_PROCESS))
  · exact rm_lawS l Z a0 hw ws p1 p2 h0 n0 w_CHANGE_PROCESS w_NEW_PROCESS_INSTANCE_CHANGE w_PROCESS_INSTANCE_CHANGE w_PROCESS_TYPE_CHANGE w_MONITOR_PROCESS_INSTANCE w_NOTIFY_USER w_CREATE_SCHEMA w_EXECUTE_ACTIVITY w_INSTANTIATE_SCHEMA w_GRANT_PRIVILEGE w_REUSE_EXISTING_PROCESS_INSTANCE_CHANGE hK 6 2 w_EXECUTE_ACTIVITY w_PROCESS_INSTANCE_CHANGE 0 hi hj rfl rfl E_w_EXECUTE_ACTIVITY (by decide) (rm_step2_0 l Z a0 hw [] w_EXECUTE_ACTIVITY w_PROCESS_INSTANCE_CHANGE h0 n0 w_CHANGE_PROCESS (Fld.ne F_ordinal_w_PROCESS_INSTANCE_CHANGE F_ordinal_w_EXECUTE_ACTIVITY (by decide)) F_parent_w_PROCESS_INSTANCE_CHANGE E_w_EXECUTE_ACTIVITY (rm_root1 l Z a0 hw [] w_EXECUTE_ACTIVITY w_CHANGE_PROCESS h0 n0 (Fld.ne F_ordinal_w_CHANGE_PROCESS F_ordinal_w_EXECUTE_ACTIVITY (by decide)) F_parent_w_CHANGE_PROCESS))
  · exact rm_lawS l Z a0 hw ws p1 p2 h0 n0 w_CHANGE_PROCESS w_NEW_PROCESS_INSTANCE_CHANGE w_PROCESS_INSTANCE_CHANGE w_PROCESS_TYPE_CHANGE w_MONITOR_PROCESS_INSTANCE w_NOTIFY_USER w_CREATE_SCHEMA w_EXECUTE_ACTIVITY w_INSTANTIATE_SCHEMA w_GRANT_PRIVILEGE w_REUSE_EXISTING_PROCESS_INSTANCE_CHANGE hK 6 3 w_EXECUTE_ACTIVITY w_NEW_PROCESS_INSTANCE_CHANGE 0 hi hj rfl rfl E_w_EXECUTE_ACTIVITY (by decide) (rm_step2_0 l Z a0 hw [] w_EXECUTE_ACTIVITY w_NEW_PROCESS_INSTANCE_CHANGE h0 n0 w_PROCESS_INSTANCE_CHANGE (Fld.ne F_ordinal_w_NEW_PROCESS_INSTANCE_CHANGE F_ordinal_w_EXECUTE_ACTIVITY (by decide)) F_parent_w_NEW_PROCESS_INSTANCE_CHANGE E_w_EXECUTE_ACTIVITY (rm_step1_0 l Z a0 hw [] w_EXECUTE_ACTIVITY w_PROCESS_INSTANCE_CHANGE h0 n0 w_CHANGE_PROCESS (Fld.ne F_ordinal_w_PROCESS_INSTANCE_CHANGE F_ordinal_w_EXECUTE_ACTIVITY (by decide)) F_parent_w_PROCESS_INSTANCE_CHANGE E_w_EXECUTE_ACTIVITY (rm_root0 l Z a0 hw [] w_EXECUTE_ACTIVITY w_CHANGE_PROCESS h0 n0 (Fld.ne F_ordinal_w_CHANGE_PROCESS F_ordinal_w_EXECUTE_ACTIVITY (by decide)) F_parent_w_CHANGE_PROCESS)))
  · exact rm_lawS l Z a0 hw ws p1 p2 h0 n0 w_CHANGE_PROCESS w_NEW_PROCESS_INSTANCE_CHANGE w_PROCESS_INSTANCE_CHANGE w_PROCESS_TYPE_CHANGE w_MONITOR_PROCESS_INSTANCE w_NOTIFY_USER w_CREATE_SCHEMA w_EXECUTE_ACTIVITY w_INSTANTIATE_SCHEMA w_GRANT_PRIVILEGE w_REUSE_EXISTING_PROCESS_INSTANCE_CHANGE hK 6 4 w_EXECUTE_ACTIVITY w_REUSE_EXISTING_PROCESS_INSTANCE_CHANGE 0 hi hj rfl rfl E_w_EXECUTE_ACTIVITY (by decide) (rm_step2_0 l Z a0 hw [] w_EXECUTE_ACTIVITY w_REUSE_EXISTING_PROCESS_INSTANCE_CHANGE h0 n0 w_PROCESS_INSTANCE_CHANGE (Fld.ne F_ordinal_w_REUSE_EXISTING_PROCESS_INSTANCE_CHANGE F_ordinal_w_EXECUTE_ACTIVITY (by decide)) F_parent_w_REUSE_EXISTING_PROCESS_INSTANCE_CHANGE E_w_EXECUTE_ACTIVITY (rm_step1_0 l Z a0 hw [] w_EXECUTE_ACTIVITY w_PROCESS_INSTANCE_CHANGE h0 n0 w_CHANGE_PROCESS (Fld.ne F_ordinal_w_PROCESS_INSTANCE_CHANGE F_ordinal_w_EXECUTE_ACTIVITY (by decide)) F_parent_w_PROCESS_INSTANCE_CHANGE E_w_EXECUTE_ACTIVITY (rm_root0 l Z a0 hw [] w_EXECUTE_ACTIVITY w_CHANGE_PROCESS h0 n0 (Fld.ne F_ordinal_w_CHANGE_PROCESS F_ordinal_w_EXECUTE_ACTIVITY (by decide)) F_parent_w_CHANGE_PROCESS)))
  · exact rm_lawS l Z a0 hw ws p1 p2 h0 n0 w_CHANGE_PROCESS w_NEW_PROCESS_INSTANCE_CHANGE w_PROCESS_INSTANCE_CHANGE w_PROCESS_TYPE_CHANGE w_MONITOR_PROCESS_INSTANCE w_NOTIFY_USER w_CREATE_SCHEMA w_EXECUTE_ACTIVITY w_INSTANTIATE_SCHEMA w_GRANT_PRIVILEGE w_REUSE_EXISTING_PROCESS_INSTANCE_CHANGE hK 6 5 w_EXECUTE_ACTIVITY w_CREATE_SCHEMA 0 hi hj rfl rfl E_w_EXECUTE_ACTIVITY (by decide) (rm_root2 l Z a0 hw [] w_EXECUTE_ACTIVITY w_CREATE_SCHEMA h0 n0 (Fld.ne F_ordinal_w_CREATE_SCHEMA F_ordinal_w_EXECUTE_ACTIVITY (by decide)) F_parent_w_CREATE_SCHEMA)
  · exact rm_lawS l Z a0 hw ws p1 p2 h0 n0 w_CHANGE_PROCESS w_NEW_PROCESS_INSTANCE_CHANGE w_PROCESS_INSTANCE_CHANGE w_PROCESS_TYPE_CHANGE w_MONITOR_PROCESS_INSTANCE w_NOTIFY_USER w_CREATE_SCHEMA w_EXECUTE_ACTIVITY w_INSTANTIATE_SCHEMA w_GRANT_PRIVILEGE w_REUSE_EXISTING_PROCESS_INSTANCE_CHANGE hK 6 6 w_EXECUTE_ACTIVITY w_EXECUTE_ACTIVITY 1 hi hj rfl rfl E_w_EXECUTE_ACTIVITY (by decide) (rm_same2 l Z a0 hw [] w_EXECUTE_ACTIVITY h0 n0)
  · exact rm_lawS l Z a0 hw ws p1 p2 h0 n0 w_CHANGE_PROCESS w_NEW_PROCESS_INSTANCE_CHANGE w_PROCESS_INSTANCE_CHANGE w_PROCESS_TYPE_CHANGE w_MONITOR_PROCESS_INSTANCE w_NOTIFY_USER w_CREATE_SCHEMA w_EXECUTE_ACTIVITY w_INSTANTIATE_SCHEMA w_GRANT_PRIVILEGE w_REUSE_EXISTING_PROCESS_INSTANCE_CHANGE hK 6 7 w_EXECUTE_ACTIVITY w_GRANT_PRIVILEGE 0 hi hj rfl rfl E_w_EXECUTE_ACTIVITY (by decide) (rm_root2 l Z a0 hw [] w_EXECUTE_ACTIVITY w_GRANT_PRIVILEGE h0 n0 (Fld.ne F_ordinal_w_GRANT_PRIVILEGE F_ordinal_w_EXECUTE_ACTIVITY (by decide)) F_parent_w_GRANT_PRIVILEGE)
  · exact rm_lawS l Z a0 hw ws p1 p2 h0 n0 w_CHANGE_PROCESS w_NEW_PROCESS_INSTANCE_CHANGE w_PROCESS_INSTANCE_CHANGE w_PROCESS_TYPE_CHANGE w_MONITOR_PROCESS_INSTANCE w_NOTIFY_USER w_CREATE_SCHEMA w_EXECUTE_ACTIVITY w_INSTANTIATE_SCHEMA w_GRANT_PRIVILEGE w_REUSE_EXISTING_PROCESS_INSTANCE_CHANGE hK 6 8 w_EXECUTE_ACTIVITY w_INSTANTIATE_SCHEMA 0 hi hj rfl rfl E_w_EXECUTE_ACTIVITY (by decide) (rm_root2 l Z a0 hw [] w_EXECUTE_ACTIVITY w_INSTANTIATE_SCHEMA h0 n0 (Fld.ne F_ordinal_w_INSTANTIATE_SCHEMA F_ordinal_w_EXECUTE_ACTIVITY (by decide)) F_parent_w_INSTANTIATE_SCHEMA)
  · exact rm_lawS l Z a0 hw ws p1 p2 h0 n0 w_CHANGE_PROCESS w_NEW_PROCESS_INSTANCE_CHANGE w_PROCESS_INSTANCE_CHANGE w_PROCESS_TYPE_CHANGE w_MONITOR_PROCESS_INSTANCE w_NOTIFY_USER w_CREATE_SCHEMA w_EXECUTE_ACTIVITY w_INSTANTIATE_SCHEMA w_GRANT_PRIVILEGE w_REUSE_EXISTING_PROCESS_INSTANCE_CHANGE hK 6 9 w_EXECUTE_ACTIVITY w_MONITOR_PROCESS_INSTANCE 0 hi hj rfl rfl E_w_EXECUTE_ACTIVITY (by decide) (rm_root2 l Z a0 hw [] w_EXECUTE_ACTIVITY w_MONITOR_PROCESS_INSTANCE h0 n0 (Fld.ne F_ordinal_w_MONITOR_PROCESS_INSTANCE F_ordinal_w_EXECUTE_ACTIVITY (by decide)) F_parent_w_MONITOR_PROCESS_INSTANCE)
  · exact rm_lawS l Z a0 hw ws p1 p2 h0 n0 w_CHANGE_PROCESS w_NEW_PROCESS_INSTANCE_CHANGE w_PROCESS_INSTANCE_CHANGE w_PROCESS_TYPE_CHANGE w_MONITOR_PROCESS_INSTANCE w_NOTIFY_USER w_CREATE_SCHEMA w_EXECUTE_ACTIVITY w_INSTANTIATE_SCHEMA w_GRANT_PRIVILEGE w_REUSE_EXISTING_PROCESS_INSTANCE_CHANGE hK 6 10 w_EXECUTE_ACTIVITY w_NOTIFY_USER 0 hi hj rfl rfl E_w_EXECUTE_ACTIVITY (by decide) (rm_root2 l Z a0 hw [] w_EXECUTE_ACTIVITY w_NOTIFY_USER h0 n0 (Fld.ne F_ordinal_w_NOTIFY_USER F_ordinal_w_EXECUTE_ACTIVITY (by decide)) F_parent_w_NOTIFY_USER)
  · exact rm_lawS l Z a0 hw ws p1 p2 h0 n0 w_CHANGE_PROCESS w_NEW_PROCESS_INSTANCE_CHANGE w_PROCESS_INSTANCE_CHANGE w_PROCESS_TYPE_CHANGE w_MONITOR_PROCESS_INSTANCE w_NOTIFY_USER w_CREATE_SCHEMA w_EXECUTE_ACTIVITY w_INSTANTIATE_SCHEMA w_GRANT_PRIVILEGE w_REUSE_EXISTING_PROCESS_INSTANCE_CHANGE hK 7 0 w_GRANT_PRIVILEGE w_CHANGE_PROCESS 0 hi hj rfl rfl E_w_GRANT_PRIVILEGE (by decide) (rm_root2 l Z a0 hw [] w_GRANT_PRIVILEGE w_CHANGE_PROCESS h0 n0 (Fld.ne F_ordinal_w_CHANGE_PROCESS F_ordinal_w_GRANT_PRIVILEGE (by decide)) F_parent_w_CHANGE_PROCESS)
  · exact rm_lawS l Z a0 hw ws p1 p2 h0 n0 w_CHANGE_PROCESS w_NEW_PROCESS_INSTANCE_CHANGE w_PROCESS_INSTANCE_CHANGE w_PROCESS_TYPE_CHANGE w_MONITOR_PROCESS_INSTANCE w_NOTIFY_USER w_CREATE_SCHEMA w_EXECUTE_ACTIVITY w_INSTANTIATE_SCHEMA w_GRANT_PRIVILEGE w_REUSE_EXISTING_PROCESS_INSTANCE_CHANGE hK 7 1 w_GRANT_PRIVILEGE w_PROCESS_TYPE_CHANGE 0 hi hj rfl rfl E_w_GRANT_PRIVILEGE (by decide) (rm_step2_0 l Z a0 hw [] w_GRANT_PRIVILEGE w_PROCESS_TYPE_CHANGE h0 n0 w_CHANGE_PROCESS (Fld.ne F_ordinal_w_PROCESS_TYPE_CHANGE F_ordinal_w_GRANT_PRIVILEGE (by decide)) F_parent_w_PROCESS_TYPE_CHANGE E_w_GRANT_PRIVILEGE (rm_root1 l Z a0 hw [] w_GRANT_PRIVILEGE w_CHANGE_PROCESS h0 n0 (Fld.ne F_ordinal_w_CHANGE_PROCESS F_ordinal_w_GRANT_PRIVILEGE (by decide)) F_parent_w_CHANGE_PROCESS))
  · exact rm_lawS l Z a0 hw ws p1 p2 h0 n0 w_CHANGE_PROCESS w_NEW_PROCESS_INSTANCE_CHANGE w_PROCESS_INSTANCE_CHANGE w_PROCESS_TYPE_CHANGE w_MONITOR_PROCESS_INSTANCE w_NOTIFY_USER w_CREATE_SCHEMA w_EXECUTE_ACTIVITY w_INSTANTIATE_SCHEMA w_GRANT_PRIVILEGE w_REUSE_EXISTING_PROCESS_INSTANCE_CHANGE hK 7 2 w_GRANT_PRIVILEGE w_PROCESS_INSTANCE_CHANGE 0 hi hj rfl rfl E_w_GRANT_PRIVILEGE (by decide) (rm_step2_0 l Z a0 hw [] w_GRANT_PRIVILEGE w_PROCESS_INSTANCE_CHANGE h0 n0 w_CHANGE_PROCESS (Fld.ne F_ordinal_w_PROCESS_INSTANCE_CHANGE F_ordinal_w_GRANT_PRIVILEGE (by decide)) F_parent_w_PROCESS_INSTANCE_CHANGE E_w_GRANT_PRIVILEGE (rm_root1 l Z a0 hw [] w_GRANT_PRIVILEGE w_CHANGE_PROCESS h0 n0 (Fld.ne F_ordinal_w_CHANGE_PROCESS F_ordinal_w_GRANT_PRIVILEGE (by decide)) F_parent_w_CHANGE_PROCESS))
  · exact rm_lawS l Z a0 hw ws p1 p2 h0 n0 w_CHANGE_PROCESS w_NEW_PROCESS_INSTANCE_CHANGE w_PROCESS_INSTANCE_CHANGE w_PROCESS_TYPE_CHANGE w_MONITOR_PROCESS_INSTANCE w_NOTIFY_USER w_CREATE_SCHEMA w_EXECUTE_ACTIVITY w_INSTANTIATE_SCHEMA w_GRANT_PRIVILEGE w_REUSE_EXISTING_PROCESS_INSTANCE_CHANGE hK 7 3 w_GRANT_PRIVILEGE w_NEW_PROCESS_INSTANCE_CHANGE 0 hi hj rfl rfl E_w_GRANT_PRIVILEGE (by decide) (rm_step2_0 l Z a0 hw [] w_GRANT_PRIVILEGE w_NEW_PROCESS_INSTANCE_CHANGE h0 n0 w_PROCESS_INSTANCE_CHANGE (Fld.ne F_ordinal_w_NEW_PROCESS_INSTANCE_CHANGE F_ordinal_w_GRANT_PRIVILEGE (by decide)) F_parent_w_NEW_PROCESS_INSTANCE_CHANGE E_w_GRANT_PRIVILEGE (rm_step1_0 l Z a0 hw [] w_GRANT_PRIVILEGE w_PROCESS_INSTANCE_CHANGE h0 n0 w_CHANGE_PROCESS (Fld.ne F_ordinal_w_PROCESS_INSTANCE_CHANGE F_ordinal_w_GRANT_PRIVILEGE (by decide)) F_parent_w_PROCESS_INSTANCE_CHANGE E_w_GRANT_PRIVILEGE (rm_root0 l Z a0 hw [] w_GRANT_PRIVILEGE w_CHANGE_PROCESS h0 n0 (Fld.ne F_ordinal_w_CHANGE_PROCESS F_ordinal_w_GRANT_PRIVILEGE (by decide)) F_parent_w_CHANGE_PROCESS)))
  · exact rm_lawS l Z a0 hw ws p1 p2 h0 n0 w_CHANGE_PROCESS w_NEW_PROCESS_INSTANCE_CHANGE w_PROCESS_INSTANCE_CHANGE w_PROCESS_TYPE_CHANGE w_MONITOR_PROCESS_INSTANCE w_NOTIFY_USER w_CREATE_SCHEMA w_EXECUTE_ACTIVITY w_INSTANTIATE_SCHEMA w_GRANT_PRIVILEGE w_REUSE_EXISTING_PROCESS_INSTANCE_CHANGE hK 7 4 w_GRANT_PRIVILEGE w_REUSE_EXISTING_PROCESS_INSTANCE_CHANGE 0 hi hj rfl rfl E_w_GRANT_PRIVILEGE (by decide) (rm_step2_0 l Z a0 hw [] w_GRANT_PRIVILEGE w_REUSE_EXISTING_PROCESS_INSTANCE_CHANGE h0 n0 w_PROCESS_INSTANCE_CHANGE (Fld.ne F_ordinal_w_REUSE_EXISTING_PROCESS_INSTANCE_CHANGE F_ordinal_w_GRANT_PRIVILEGE (by decide)) F_parent_w_REUSE_EXISTING_PROCESS_INSTANCE_CHANGE E_w_GRANT_PRIVILEGE (rm_step1_0 l Z a0 hw [] w_GRANT_PRIVILEGE w_PROCESS_INSTANCE_CHANGE h0 n0 w_CHANGE_PROCESS (Fld.ne F_ordinal_w_PROCESS_INSTANCE_CHANGE F_ordinal_w_GRANT_PRIVILEGE (by decide)) F_parent_w_PROCESS_INSTANCE_CHANGE E_w_GRANT_PRIVILEGE (rm_root0 l Z a0 hw [] w_GRANT_PRIVILEGE w_CHANGE_PROCESS h0 n0 (Fld.ne F_ordinal_w_CHANGE_PROCESS F_ordinal_w_GRANT_PRIVILEGE (by decide)) F_parent_w_CHANGE_PROCESS)))
  · exact rm_lawS l Z a0 hw ws p1 p2 h0 n0 w_CHANGE_PROCESS w_NEW_PROCESS_INSTANCE_CHANGE w_PROCESS_INSTANCE_CHANGE w_PROCESS_TYPE_CHANGE w_MONITOR_PROCESS_INSTANCE w_NOTIFY_USER w_CREATE_SCHEMA w_EXECUTE_ACTIVITY w_INSTANTIATE_SCHEMA w_GRANT_PRIVILEGE w_REUSE_EXISTING_PROCESS_INSTANCE_CHANGE hK 7 5 w_GRANT_PRIVILEGE w_CREATE_SCHEMA 0 hi hj rfl rfl E_w_GRANT_PRIVILEGE (by decide) (rm_root2 l Z a0 hw [] w_GRANT_PRIVILEGE w_CREATE_SCHEMA h0 n0 (Fld.ne F_ordinal_w_CREATE_SCHEMA F_ordinal_w_GRANT_PRIVILEGE (by decide)) F_parent_w_CREATE_SCHEMA)
  · exact rm_lawS l Z a0 hw ws p1 p2 h0 n0 w_CHANGE_PROCESS w_NEW_PROCESS_INSTANCE_CHANGE w_PROCESS_INSTANCE_CHANGE w_PROCESS_TYPE_CHANGE w_MONITOR_PROCESS_INSTANCE w_NOTIFY_USER w_CREATE_SCHEMA w_EXECUTE_ACTIVITY w_INSTANTIATE_SCHEMA w_GRANT_PRIVILEGE w_REUSE_EXISTING_PROCESS_INSTANCE_CHANGE hK 7 6 w_GRANT_PRIVILEGE w_EXECUTE_ACTIVITY 0 hi hj rfl rfl E_w_GRANT_PRIVILEGE (by decide) (rm_root2 l Z a0 hw [] w_GRANT_PRIVILEGE w_EXECUTE_ACTIVITY h0 n0 (Fld.ne F_ordinal_w_EXECUTE_ACTIVITY F_ordinal_w_GRANT_PRIVILEGE (by decide)) F_parent_w_EXECUTE_ACTIVITY)
  · exact rm_lawS l Z a0 hw ws p1 p2 h0 n0 w_CHANGE_PROCESS w_NEW_PROCESS_INSTANCE_CHANGE w_PROCESS_INSTANCE_CHANGE w_PROCESS_TYPE_CHANGE w_MONITOR_PROCESS_INSTANCE w_NOTIFY_USER w_CREATE_SCHEMA w_EXECUTE_ACTIVITY w_INSTANTIATE_SCHEMA w_GRANT_PRIVILEGE w_REUSE_EXISTING_PROCESS_INSTANCE_CHANGE hK 7 7 w_GRANT_PRIVILEGE w_GRANT_PRIVILEGE 1 hi hj rfl rfl E_w_GRANT_PRIVILEGE (by decide) (rm_same2 l Z a0 hw [] w_GRANT_PRIVILEGE h0 n0)
  · exact rm_lawS l Z a0 hw ws p1 p2 h0 n0 w_CHANGE_PROCESS w_NEW_PROCESS_INSTANCE_CHANGE w_PROCESS_INSTANCE_CHANGE w_PROCESS_TYPE_CHANGE w_MONITOR_PROCESS_INSTANCE w_NOTIFY_USER w_CREATE_SCHEMA w_EXECUTE_ACTIVITY w_INSTANTIATE_SCHEMA w_GRANT_PRIVILEGE w_REUSE_EXISTING_PROCESS_INSTANCE_CHANGE hK 7 8 w_GRANT_PRIVILEGE w_INSTANTIATE_SCHEMA 0 hi hj rfl rfl E_w_GRANT_PRIVILEGE (by decide) (rm_root2 l Z a0 hw [] w_GRANT_PRIVILEGE w_INSTANTIATE_SCHEMA h0 n0 (Fld.ne F_ordinal_w_INSTANTIATE_SCHEMA F_ordinal_w_GRANT_PRIVILEGE (by decide)) F_parent_w_INSTANTIATE_SCHEMA)
  · exact rm_lawS l Z a0 hw ws p1 p2 h0 n0 w_CHANGE_PROCESS w_NEW_PROCESS_INSTANCE_CHANGE w_PROCESS_INSTANCE_CHANGE w_PROCESS_TYPE_CHANGE w_MONITOR_PROCESS_INSTANCE w_NOTIFY_USER w_CREATE_SCHEMA w_EXECUTE_ACTIVITY w_INSTANTIATE_SCHEMA w_GRANT_PRIVILEGE w_REUSE_EXISTING_PROCESS_INSTANCE_CHANGE hK 7 9 w_GRANT_PRIVILEGE w_MONITOR_PROCESS_INSTANCE 0 hi hj rfl rfl E_w_GRANT_PRIVILEGE (by decide) (rm_root2 l Z a0 hw [] w_GRANT_PRIVILEGE w_MONITOR_PROCESS_INSTANCE h0 n0 (Fld.ne F_ordinal_w_MONITOR_PROCESS_INSTANCE F_ordinal_w_GRANT_PRIVILEGE (by decide)) F_parent_w_MONITOR_PROCESS_INSTANCE)
  · exact rm_lawS l Z a0 hw ws p1 p2 h0 n0 w_CHANGE_PROCESS w_NEW_PROCESS_INSTANCE_CHANGE w_PROCESS_INSTANCE_CHANGE w_PROCESS_TYPE_CHANGE w_MONITOR_PROCESS_INSTANCE w_NOTIFY_USER w_CREATE_SCHEMA w_EXECUTE_ACTIVITY w_INSTANTIATE_SCHEMA w_GRANT_PRIVILEGE w_REUSE_EXISTING_PROCESS_INSTANCE_CHANGE hK 7 10 w_GRANT_PRIVILEGE w_NOTIFY_USER 0 hi hj rfl rfl E_w_GRANT_PRIVILEGE (by decide) (rm_root2 l Z a0 hw [] w_GRANT_PRIVILEGE w_NOTIFY_USER h0 n0 (Fld.ne F_ordinal_w_NOTIFY_USER F_ordinal_w_GRANT_PRIVILEGE (by decide)) F_parent_w_NOTIFY_USER)
  · exact rm_lawS l Z a0 hw ws p1 p2 h0 n0 w_CHANGE_PROCESS w_NEW_PROCESS_INSTANCE_CHANGE w_PROCESS_INSTANCE_CHANGE w_PROCESS_TYPE_CHANGE w_MONITOR_PROCESS_INSTANCE w_NOTIFY_USER w_CREATE_SCHEMA w_EXECUTE_ACTIVITY w_INSTANTIATE_SCHEMA w_GRANT_PRIVILEGE w_REUSE_EXISTING_PROCESS_INSTANCE_CHANGE hK 8 0 w_INSTANTIATE_SCHEMA w_CHANGE_PROCESS 0 hi hj rfl rfl E_w_INSTANTIATE_SCHEMA (by decide) (rm_root2 l Z a0 hw [] w_INSTANTIATE_SCHEMA w_CHANGE_PROCESS h0 n0 (Fld.ne F_ordinal_w_CHANGE_PROCESS F_ordinal_w_INSTANTIATE_SCHEMA (by decide)) F_parent_w_CHANGE_PROCESS)
  · exact rm_lawS l Z a0 hw ws p1 p2 h0 n0 w_CHANGE_PROCESS w_NEW_PROCESS_INSTANCE_CHANGE w_PROCESS_INSTANCE_CHANGE w_PROCESS_TYPE_CHANGE w_MONITOR_PROCESS_INSTANCE w_NOTIFY_USER w_CREATE_SCHEMA w_EXECUTE_ACTIVITY w_INSTANTIATE_SCHEMA w_GRANT_PRIVILEGE w_REUSE_EXISTING_PROCESS_INSTANCE_CHANGE hK 8 1 w_INSTANTIATE_SCHEMA w_PROCESS_TYPE_CHANGE 0 hi hj rfl rfl E_w_INSTANTIATE_SCHEMA (by decide) (rm_step2_0 l Z a0 hw [] w_INSTANTIATE_SCHEMA w_PROCESS_TYPE_CHANGE h0 n0 w_CHANGE_PROCESS (Fld.ne F_ordinal_w_PROCESS_TYPE_CHANGE F_ordinal_w_INSTANTIATE_SCHEMA (by decide)) F_parent_w_PROCESS_TYPE_CHANGE E_w_INSTANTIATE_SCHEMA (rm_root1 l Z a0 hw [] w_INSTANTIATE_SCHEMA w_CHANGE_PROCESS h0 n0 (Fld.ne F_ordinal_w_CHANGE_PROCESS F_ordinal_w_INSTANTIATE_SCHEMA (by decide)) F_parent_w_CHANGE_PROCESS))
  · exact rm_lawS l Z a0 hw ws p1 p2 h0 n0 w_CHANGE_PROCESS w_NEW_PROCESS_INSTANCE_CHANGE w_PROCESS_INSTANCE_CHANGE w_PROCESS_TYPE_CHANGE w_MONITOR_PROCESS_INSTANCE w_NOTIFY_USER w_CREATE_SCHEMA w_EXECUTE_ACTIVITY w_INSTANTIATE_SCHEMA w_GRANT_PRIVILEGE w_REUSE_EXISTING_PROCESS_INSTANCE_CHANGE hK 8 2 w_INSTANTIATE_SCHEMA w_PROCESS_INSTANCE_CHANGE 0 hi hj rfl rfl E_w_INSTANTIATE_SCHEMA (by decide) (rm_step2_0 l Z a0 hw [] w_INSTANTIATE_SCHEMA w_PROCESS_INSTANCE_CHANGE h0 n0 w_CHANGE_PROCESS (Fld.ne F_ordinal_w_PROCESS_INSTANCE_CHANGE F_ordinal_w_INSTANTIATE_SCHEMA (by decide)) F_parent_w_PROCESS_INSTANCE_CHANGE E_w_INSTANTIATE_SCHEMA (rm_root1 l Z a0 hw [] w_INSTANTIATE_SCHEMA w_CHANGE_PROCESS h0 n0 (Fld.ne F_ordinal_w_CHANGE_PROCESS F_ordinal_w_INSTANTIATE_SCHEMA (by decide)) F_parent_w_CHANGE_PROCESS))
  · exact rm_lawS l Z a0 hw ws p1 p2 h0 n0 w_CHANGE_PROCESS w_NEW_PROCESS_INSTANCE_CHANGE w_PROCESS_INSTANCE_CHANGE w_PROCESS_TYPE_CHANGE w_MONITOR_PROCESS_INSTANCE w_NOTIFY_USER w_CREATE_SCHEMA w_EXECUTE_ACTIVITY w_INSTANTIATE_SCHEMA w_GRANT_PRIVILEGE w_REUSE_EXISTING_PROCESS_INSTANCE_CHANGE hK 8 3 w_INSTANTIATE_SCHEMA w_NEW_PROCESS_INSTANCE_CHANGE 0 hi hj rfl rfl E_w_INSTANTIATE_SCHEMA (by decide) (rm_step2_0 l Z a0 hw [] w_INSTANTIATE_SCHEMA w_NEW_PROCESS_INSTANCE_CHANGE h0 n0 w_PROCESS_INSTANCE_CHANGE (Fld.ne F_ordinal_w_NEW_PROCESS_INSTANCE_CHANGE F_ordinal_w_INSTANTIATE_SCHEMA (by decide)) F_parent_w_NEW_PROCESS_INSTANCE_CHANGE E_w_INSTANTIATE_SCHEMA (rm_step1_0 l Z a0 hw [] w_INSTANTIATE_SCHEMA w_PROCESS_INSTANCE_CHANGE h0 n0 w_CHANGE_PROCESS (Fld.ne F_ordinal_w_PROCESS_INSTANCE_CHANGE F_ordinal_w_INSTANTIATE_SCHEMA (by decide)) F_parent_w_PROCESS_INSTANCE_CHANGE E_w_INSTANTIATE_SCHEMA (rm_root0 l Z a0 hw [] w_INSTANTIATE_SCHEMA w_CHANGE_PROCESS h0 n0 (Fld.ne F_ordinal_w_CHANGE_PROCESS F_ordinal_w_INSTANTIATE_SCHEMA (by decide)) F_parent_w_CHANGE_PROCESS)))
  · exact rm_lawS l Z a0 hw ws p1 p2 h0 n0 w_CHANGE_PROCESS w_NEW_PROCESS_INSTANCE_CHANGE w_PROCESS_INSTANCE_CHANGE w_PROCESS_TYPE_CHANGE w_MONITOR_PROCESS_INSTANCE w_NOTIFY_USER w_CREATE_SCHEMA w_EXECUTE_ACTIVITY w_INSTANTIATE_SCHEMA w_GRANT_PRIVILEGE w_REUSE_EXISTING_PROCESS_INSTANCE_CHANGE hK 8 4 w_INSTANTIATE_SCHEMA w_REUSE_EXISTING_PROCESS_INSTANCE_CHANGE 0 hi hj rfl rfl E_w_INSTANTIATE_SCHEMA (by decide) (rm_step2_0 l Z a0 hw [] w_INSTANTIATE_SCHEMA w_REUSE_EXISTING_PROCESS_INSTANCE_CHANGE h0 n0 w_PROCESS_INSTANCE_CHANGE (Fld.ne F_ordinal_w_REUSE_EXISTING_PROCESS_INSTANCE_CHANGE F_ordinal_w_INSTANTIATE_SCHEMA (by decide)) F_parent_w_REUSE_EXISTING_PROCESS_INSTANCE_CHANGE E_w_INSTANTIATE_SCHEMA (rm_step1_0 l Z a0 hw [] w_INSTANTIATE_SCHEMA w_PROCESS_INSTANCE_CHANGE h0 n0 w_CHANGE_PROCESS (Fld.ne F_ordinal_w_PROCESS_INSTANCE_CHANGE F_ordinal_w_INSTANTIATE_SCHEMA (by decide)) F_parent_w_PROCESS_INSTANCE_CHANGE E_w_INSTANTIATE_SCHEMA (rm_root0 l Z a0 hw [] w_INSTANTIATE_SCHEMA w_CHANGE_PROCESS h0 n0 (Fld.ne F_ordinal_w_CHANGE_PROCESS F_ordinal_w_INSTANTIATE_SCHEMA (by decide)) F_parent_w_CHANGE_PROCESS)))
  · exact rm_lawS l Z a0 hw ws p1 p2 h0 n0 w_CHANGE_PROCESS w_NEW_PROCESS_INSTANCE_CHANGE w_PROCESS_INSTANCE_CHANGE w_PROCESS_TYPE_CHANGE w_MONITOR_PROCESS_INSTANCE w_NOTIFY_USER w_CREATE_SCHEMA w_EXECUTE_ACTIVITY w_INSTANTIATE_SCHEMA w_GRANT_PRIVILEGE w_REUSE_EXISTING_PROCESS_INSTANCE_CHANGE hK 8 5 w_INSTANTIATE_SCHEMA w_CREATE_SCHEMA 0 hi hj rfl rfl E_w_INSTANTIATE_SCHEMA (by decide) (rm_root2 l Z a0 hw [] w_INSTANTIATE_SCHEMA w_CREATE_SCHEMA h0 n0 (Fld.ne F_ordinal_w_CREATE_SCHEMA F_ordinal_w_INSTANTIATE_SCHEMA (by decide)) F_parent_w_CREATE_SCHEMA)
  · exact rm_lawS l Z a0 hw ws p1 p2 h0 n0 w_CHANGE_PROCESS w_NEW_PROCESS_INSTANCE_CHANGE w_PROCESS_INSTANCE_CHANGE w_PROCESS_TYPE_CHANGE w_MONITOR_PROCESS_INSTANCE w_NOTIFY_USER w_CREATE_SCHEMA w_EXECUTE_ACTIVITY w_INSTANTIATE_SCHEMA w_GRANT_PRIVILEGE w_REUSE_EXISTING_PROCESS_INSTANCE_CHANGE hK 8 6 w_INSTANTIATE_SCHEMA w_EXECUTE_ACTIVITY 0 hi hj rfl rfl E_w_INSTANTIATE_SCHEMA (by decide) (rm_root2 l Z a0 hw [] w_INSTANTIATE_SCHEMA w_EXECUTE_ACTIVITY h0 n0 (Fld.ne F_ordinal_w_EXECUTE_ACTIVITY F_ordinal_w_INSTANTIATE_SCHEMA (by decide)) F_parent_w_EXECUTE_ACTIVITY)
  · exact rm_lawS l Z a0 hw ws p1 p2 h0 n0 w_CHANGE_PROCESS w_NEW_PROCESS_INSTANCE_CHANGE w_PROCESS_INSTANCE_CHANGE w_PROCESS_TYPE_CHANGE w_MONITOR_PROCESS_INSTANCE w_NOTIFY_USER w_CREATE_SCHEMA w_EXECUTE_ACTIVITY w_INSTANTIATE_SCHEMA w_GRANT_PRIVILEGE w_REUSE_EXISTING_PROCESS_INSTANCE_CHANGE hK 8 7 w_INSTANTIATE_SCHEMA w_GRANT_PRIVILEGE 0 hi hj rfl rfl E_w_INSTANTIATE_SCHEMA (by decide) (rm_root2 l Z a0 hw [] w_INSTANTIATE_SCHEMA w_GRANT_PRIVILEGE h0 n0 (Fld.ne F_ordinal_w_GRANT_PRIVILEGE F_ordinal_w_INSTANTIATE_SCHEMA (by decide)) F_parent_w_GRANT_PRIVILEGE)
  · exact rm_lawS l Z a0 hw ws p1 p2 h0 n0 w_CHANGE_PROCESS w_NEW_PROCESS_INSTANCE_CHANGE w_PROCESS_INSTANCE_CHANGE w_PROCESS_TYPE_CHANGE w_MONITOR_PROCESS_INSTANCE w_NOTIFY_USER w_CREATE_SCHEMA w_EXECUTE_ACTIVITY w_INSTANTIATE_SCHEMA w_GRANT_PRIVILEGE w_REUSE_EXISTING_PROCESS_INSTANCE_CHANGE hK 8 8 w_INSTANTIATE_SCHEMA w_INSTANTIATE_SCHEMA 1 hi hj rfl rfl E_w_INSTANTIATE_SCHEMA (by decide) (rm_same2 l Z a0 hw [] w_INSTANTIATE_SCHEMA h0 n0)
  · exact rm_lawS l Z a0 hw ws p1 p2 h0 n0 w_CHANGE_PROCESS w_NEW_PROCESS_INSTANCE_CHANGE w_PROCESS_INSTANCE_CHANGE w_PROCESS_TYPE_CHANGE w_MONITOR_PROCESS_INSTANCE w_NOTIFY_USER w_CREATE_SCHEMA w_EXECUTE_ACTIVITY w_INSTANTIATE_SCHEMA w_GRANT_PRIVILEGE w_REUSE_EXISTING_PROCESS_INSTANCE_CHANGE hK 8 9 w_INSTANTIATE_SCHEMA w_MONITOR_PROCESS_INSTANCE 0 hi hj rfl rfl E_w_INSTANTIATE_SCHEMA (by decide) (rm_root2 l Z a0 hw [] w_INSTANTIATE_SCHEMA w_MONITOR_PROCESS_INSTANCE h0 n0 (Fld.ne F_ordinal_w_MONITOR_PROCESS_INSTANCE F_ordinal_w_INSTANTIATE_SCHEMA (by decide)) F_parent_w_MONITOR_PROCESS_INSTANCE)
  · exact rm_lawS l Z a0 hw ws p1 p2 h0 n0 w_CHANGE_PROCESS w_NEW_PROCESS_INSTANCE_CHANGE w_PROCESS_INSTANCE_CHANGE w_PROCESS_TYPE_CHANGE w_MONITOR_PROCESS_INSTANCE w_NOTIFY_USER w_CREATE_SCHEMA w_EXECUTE_ACTIVITY w_INSTANTIATE_SCHEMA w_GRANT_PRIVILEGE w_REUSE_EXISTING_PROCESS_INSTANCE_CHANGE hK 8 10 w_INSTANTIATE_SCHEMA w_NOTIFY_USER 0 hi hj rfl rfl E_w_INSTANTIATE_SCHEMA (by decide) (rm_root2 l Z a0 hw [] w_INSTANTIATE_SCHEMA w_NOTIFY_USER h0 n0 (Fld.ne F_ordinal_w_NOTIFY_USER F_ordinal_w_INSTANTIATE_SCHEMA (by decide)) F_parent_w_NOTIFY_USER)
  · exact rm_lawS l Z a0 hw ws p1 p2 h0 n0 w_CHANGE_PROCESS w_NEW_PROCESS_INSTANCE_CHANGE w_PROCESS_INSTANCE_CHANGE w_PROCESS_TYPE_CHANGE w_MONITOR_PROCESS_INSTANCE w_NOTIFY_USER w_CREATE_SCHEMA w_EXECUTE_ACTIVITY w_INSTANTIATE_SCHEMA w_GRANT_PRIVILEGE w_REUSE_EXISTING_PROCESS_INSTANCE_CHANGE hK 9 0 w_MONITOR_PROCESS_INSTANCE w_CHANGE_PROCESS 0 hi hj rfl rfl E_w_MONITOR_PROCESS_INSTANCE (by decide) (rm_root2 l Z a0 hw [] w_MONITOR_PROCESS_INSTANCE w_CHANGE_PROCESS h0 n0 (Fld.ne F_ordinal_w_CHANGE_PROCESS F_ordinal_w_MONITOR_PROCESS_INSTANCE (by decide)) F_parent_w_CHANGE_PROCESS)
  · exact rm_lawS l Z a0 hw ws p1 p2 h0 n0 w_CHANGE_PROCESS w_NEW_PROCESS_INSTANCE_CHANGE w_PROCESS_INSTANCE_CHANGE w_PROCESS_TYPE_CHANGE w_MONITOR_PROCESS_INSTANCE w_NOTIFY_USER w_CREATE_SCHEMA w_EXECUTE_ACTIVITY w_INSTANTIATE_SCHEMA w_GRANT_PRIVILEGE w_REUSE_EXISTING_PROCESS_INSTANCE_CHANGE hK 9 1 w_MONITOR_PROCESS_INSTANCE w_PROCESS_TYPE_CHANGE 0 hi hj rfl rfl E_w_MONITOR_PROCESS_INSTANCE (by decide) (rm_step2_0 l Z a0 hw [] w_MONITOR_PROCESS_INSTANCE w_PROCESS_TYPE_CHANGE h0 n0 w_CHANGE_PROCESS (Fld.ne F_ordinal_w_PROCESS_TYPE_CHANGE F_ordinal_w_MONITOR_PROCESS_INSTANCE (by decide)) F_parent_w_PROCESS_TYPE_CHANGE E_w_MONITOR_PROCESS_INSTANCE (rm_root1 l Z a0 hw [] w_MONITOR_PROCESS_INSTANCE w_CHANGE_PROCESS h0 n0 (Fld.ne F_ordinal_w_CHANGE_PROCESS F_ordinal_w_MONITOR_PROCESS_INSTANCE (by decide)) F_parent_w_CHANGE_PROCESS))
  · exact rm_lawS l Z a0 hw ws p1 p2 h0 n0 w_CHANGE_PROCESS w_NEW_PROCESS_INSTANCE_CHANGE w_PROCESS_INSTANCE_CHANGE w_PROCESS_TYPE_CHANGE w_MONITOR_PROCESS_INSTANCE w_NOTIFY_USER w_CREATE_SCHEMA w_EXECUTE_ACTIVITY w_INSTANTIATE_SCHEMA w_GRANT_PRIVILEGE w_REUSE_EXISTING_PROCESS_INSTANCE_CHANGE hK 9 2 w_MONITOR_PROCESS_INSTANCE w_PROCESS_INSTANCE_CHANGE 0 hi hj rfl rfl E_w_MONITOR_PROCESS_INSTANCE (by decide) (rm_step2_0 l Z a0 hw [] w_MONITOR_PROCESS_INSTANCE w_PROCESS_INSTANCE_CHANGE h0 n0 w_CHANGE_PROCESS (Fld.ne F_ordinal_w_PROCESS_INSTANCE_CHANGE F_ordinal_w_MONITOR_PROCESS_INSTANCE (by decide)) F_parent_w_PROCESS_INSTANCE_CHANGE E_w_MONITOR_PROCESS_INSTANCE (rm_root1 l Z a0 hw [] w_MONITOR_PROCESS_INSTANCE w_CHANGE_PROCESS h0 n0 (Fld.ne F_ordinal_w_CHANGE_PROCESS F_ordinal_w_MONITOR_PROCESS_INSTANCE (by decide)) F_parent_w_CHANGE_PROCESS))
  · exact rm_lawS l Z a0 hw ws p1 p2 h0 n0 w_CHANGE_PROCESS w_NEW_PROCESS_INSTANCE_CHANGE w_PROCESS_INSTANCE_CHANGE w_PROCESS_TYPE_CHANGE w_MONITOR_PROCESS_INSTANCE w_NOTIFY_USER w_CREATE_SCHEMA w_EXECUTE_ACTIVITY w_INSTANTIATE_SCHEMA w_GRANT_PRIVILEGE w_REUSE_EXISTING_PROCESS_INSTANCE_CHANGE hK 9 3 w_MONITOR_PROCESS_INSTANCE w_NEW_PROCESS_INSTANCE_CHANGE 0 hi hj rfl rfl E_w_MONITOR_PROCESS_INSTANCE (by decide) (rm_step2_0 l Z a0 hw [] w_MONITOR_PROCESS_INSTANCE w_NEW_PROCESS_INSTANCE_CHANGE h0 n0 w_PROCESS_INSTANCE_CHANGE (Fld.ne F_ordinal_w_NEW_PROCESS_INSTANCE_CHANGE F_ordinal_w_MONITOR_PROCESS_INSTANCE (by decide)) F_parent_w_NEW_PROCESS_INSTANCE_CHANGE E_w_MONITOR_PROCESS_INSTANCE (rm_step1_0 l Z a0 hw [] w_MONITOR_PROCESS_INSTANCE w_PROCESS_INSTANCE_CHANGE h0 n0 w_CHANGE_PROCESS (Fld.ne F_ordinal_w_PROCESS_INSTANCE_CHANGE F_ordinal_w_MONITOR_PROCESS_INSTANCE (by decide)) F_parent_w_PROCESS_INSTANCE_CHANGE E_w_MONITOR_PROCESS_INSTANCE (rm_root0 l Z a0 hw [] w_MONITOR_PROCESS_INSTANCE w_CHANGE_PROCESS h0 n0 (Fld.ne F_ordinal_w_CHANGE_PROCESS F_ordinal_w_MONITOR_PROCESS_INSTANCE (by decide)) F_parent_w_CHANGE_PROCESS)))
  · exact rm_lawS l Z a0 hw ws p1 p2 h0 n0 w_CHANGE_PROCESS w_NEW_PROCESS_INSTANCE_CHANGE w_PROCESS_INSTANCE_CHANGE w_PROCESS_TYPE_CHANGE w_MONITOR_PROCESS_INSTANCE w_NOTIFY_USER w_CREATE_SCHEMA w_EXECUTE_ACTIVITY w_INSTANTIATE_SCHEMA w_GRANT_PRIVILEGE w_REUSE_EXISTING_PROCESS_INSTANCE_CHANGE hK 9 4 w_MONITOR_PROCESS_INSTANCE w_REUSE_EXISTING_PROCESS_INSTANCE_CHANGE 0 hi hj rfl rfl E_w_MONITOR_PROCESS_INSTANCE (by decide) (rm_step2_0 l Z a0 hw [] w_MONITOR_PROCESS_INSTANCE w_REUSE_EXISTING_PROCESS_INSTANCE_CHANGE h0 n0 w_PROCESS_INSTANCE_CHANGE (Fld.ne F_ordinal_w_REUSE_EXISTING_PROCESS_INSTANCE_CHANGE F_ordinal_w_MONITOR_PROCESS_INSTANCE (by decide)) F_parent_w_REUSE_EXISTING_PROCESS_INSTANCE_CHANGE E_w_MONITOR_PROCESS_INSTANCE (rm_step1_0 l Z a0 hw [] w_MONITOR_PROCESS_INSTANCE w_PROCESS_INSTANCE_CHANGE h0 n0 w_CHANGE_PROCESS (Fld.ne F_ordinal_w_PROCESS_INSTANCE_CHANGE F_ordinal_w_MONITOR_PROCESS_INSTANCE (by decide)) F_parent_w_PROCESS_INSTANCE_CHANGE E_w_MONITOR_PROCESS_INSTANCE (rm_root0 l Z a0 hw [] w_MONITOR_PROCESS_INSTANCE w_CHANGE_PROCESS h0 n0 (Fld.ne F_ordinal_w_CHANGE_PROCESS F_ordinal_w_MONITOR_PROCESS_INSTANCE (by decide)) F_parent_w_CHANGE_PROCESS)))
  · exact rm_lawS l Z a0 hw ws p1 p2 h0 n0 w_CHANGE_PROCESS w_NEW_PROCESS_INSTANCE_CHANGE w_PROCESS_INSTANCE_CHANGE w_PROCESS_TYPE_CHANGE w_MONITOR_PROCESS_INSTANCE w_NOTIFY_USER w_CREATE_SCHEMA w_EXECUTE_ACTIVITY w_INSTANTIATE_SCHEMA w_GRANT_PRIVILEGE w_REUSE_EXISTING_PROCESS_INSTANCE_CHANGE hK 9 5 w_MONITOR_PROCESS_INSTANCE w_CREATE_SCHEMA 0 hi hj rfl rfl E_w_MONITOR_PROCESS_INSTANCE (by decide) (rm_root2 l Z a0 hw [] w_MONITOR_PROCESS_INSTANCE w_CREATE_SCHEMA h0 n0 (Fld.ne F_ordinal_w_CREATE_SCHEMA F_ordinal_w_MONITOR_PROCESS_INSTANCE (by decide)) F_parent_w_CREATE_SCHEMA)
  · exact rm_lawS l Z a0 hw ws p1 p2 h0 n0 w_CHANGE_PROCESS w_NEW_PROCESS_INSTANCE_CHANGE w_PROCESS_INSTANCE_CHANGE w_PROCESS_TYPE_CHANGE w_MONITOR_PROCESS_INSTANCE w_NOTIFY_USER w_CREATE_SCHEMA w_EXECUTE_ACTIVITY w_INSTANTIATE_SCHEMA w_GRANT_PRIVILEGE w_REUSE_EXISTING_PROCESS_INSTANCE_CHANGE hK 9 6 w_MONITOR_PROCESS_INSTANCE w_EXECUTE_ACTIVITY 0 hi hj rfl rfl E_w_MONITOR_PROCESS_INSTANCE (by decide) (rm_root2 l Z a0 hw [] w_MONITOR_PROCESS_INSTANCE w_EXECUTE_ACTIVITY h0 n0 (Fld.ne F_ordinal_w_EXECUTE_ACTIVITY F_ordinal_w_MONITOR_PROCESS_INSTANCE (by decide)) F_parent_w_EXECUTE_ACTIVITY)
  · exact rm_lawS l Z a0 hw ws p1 p2 h0 n0 w_CHANGE_PROCESS w_NEW_PROCESS_INSTANCE_CHANGE w_PROCESS_INSTANCE_CHANGE w_PROCESS_TYPE_CHANGE w_MONITOR_PROCESS_INSTANCE w_NOTIFY_USER w_CREATE_SCHEMA w_EXECUTE_ACTIVITY w_INSTANTIATE_SCHEMA w_GRANT_PRIVILEGE w_REUSE_EXISTING_PROCESS_INSTANCE_CHANGE hK 9 7 w_MONITOR_PROCESS_INSTANCE w_GRANT_PRIVILEGE 0 hi hj rfl rfl E_w_MONITOR_PROCESS_INSTANCE (by decide) (rm_root2 l Z a0 hw [] w_MONITOR_PROCESS_INSTANCE w_GRANT_PRIVILEGE h0 n0 (Fld.ne F_ordinal_w_GRANT_PRIVILEGE F_ordinal_w_MONITOR_PROCESS_INSTANCE (by decide)) F_parent_w_GRANT_PRIVILEGE)
  · exact rm_lawS l Z a0 hw ws p1 p2 h0 n0 w_CHANGE_PROCESS w_NEW_PROCESS_INSTANCE_CHANGE w_PROCESS_INSTANCE_CHANGE w_PROCESS_TYPE_CHANGE w_MONITOR_PROCESS_INSTANCE w_NOTIFY_USER w_CREATE_SCHEMA w_EXECUTE_ACTIVITY w_INSTANTIATE_SCHEMA w_GRANT_PRIVILEGE w_REUSE_EXISTING_PROCESS_INSTANCE_CHANGE hK 9 8 w_MONITOR_PROCESS_INSTANCE w_INSTANTIATE_SCHEMA 0 hi hj rfl rfl E_w_MONITOR_PROCESS_INSTANCE (by decide) (rm_root2 l Z a0 hw [] w_MONITOR_PROCESS_INSTANCE w_INSTANTIATE_SCHEMA h0 n0 (Fld.ne F_ordinal_w_INSTANTIATE_SCHEMA F_ordinal_w_MONITOR_PROCESS_INSTANCE (by decide)) F_parent_w_INSTANTIATE_SCHEMA)
  · exact rm_lawS l Z a0 hw ws p1 p2 h0 n0 w_CHANGE_PROCESS w_NEW_PROCESS_INSTANCE_CHANGE w_PROCESS_INSTANCE_CHANGE w_PROCESS_TYPE_CHANGE w_MONITOR_PROCESS_INSTANCE w_NOTIFY_USER w_CREATE_SCHEMA w_EXECUTE_ACTIVITY w_INSTANTIATE_SCHEMA w_GRANT_PRIVILEGE w_REUSE_EXISTING_PROCESS_INSTANCE_CHANGE hK 9 9 w_MONITOR_PROCESS_INSTANCE w_MONITOR_PROCESS_INSTANCE 1 hi hj rfl rfl E_w_MONITOR_PROCESS_INSTANCE (by decide) (rm_same2 l Z a0 hw [] w_MONITOR_PROCESS_INSTANCE h0 n0)
  · exact rm_lawS l Z a0 hw ws p1 p2 h0 n0 w_CHANGE_PROCESS w_NEW_PROCESS_INSTANCE_CHANGE w_PROCESS_INSTANCE_CHANGE w_PROCESS_TYPE_CHANGE w_MONITOR_PROCESS_INSTANCE w_NOTIFY_USER w_CREATE_SCHEMA w_EXECUTE_ACTIVITY w_INSTANTIATE_SCHEMA w_GRANT_PRIVILEGE w_REUSE_EXISTING_PROCESS_INSTANCE_CHANGE hK 9 10 w_MONITOR_PROCESS_INSTANCE w_NOTIFY_USER 0 hi hj rfl rfl E_w_MONITOR_PROCESS_INSTANCE (by decide) (rm_root2 l Z a0 hw [] w_MONITOR_PROCESS_INSTANCE w_NOTIFY_USER h0 n0 (Fld.ne F_ordinal_w_NOTIFY_USER F_ordinal_w_MONITOR_PROCESS_INSTANCE (by decide)) F_parent_w_NOTIFY_USER)
  · exact rm_lawS l Z a0 hw ws p1 p2 h0 n0 w_CHANGE_PROCESS w_NEW_PROCESS_INSTANCE_CHANGE w_PROCESS_INSTANCE_CHANGE w_PROCESS_TYPE_CHANGE w_MONITOR_PROCESS_INSTANCE w_NOTIFY_USER w_CREATE_SCHEMA w_EXECUTE_ACTIVITY w_INSTANTIATE_SCHEMA w_GRANT_PRIVILEGE w_REUSE_EXISTING_PROCESS_INSTANCE_CHANGE hK 10 0 w_NOTIFY_USER w_CHANGE_PROCESS 0 hi hj rfl rfl E_w_NOTIFY_USER (by decide) (rm_root2 l Z a0 hw [] w_NOTIFY_USER w_CHANGE_PROCESS h0 n0 (Fld.ne F_ordinal_w_CHANGE_PROCESS F_ordinal_w_NOTIFY_USER (by decide)) F_parent_w_CHANGE_PROCESS)
  · exact rm_lawS l Z a0 hw ws p1 p2 h0 n0 w_CHANGE_PROCESS w_NEW_PROCESS_INSTANCE_CHANGE w_PROCESS_INSTANCE_CHANGE w_PROCESS_TYPE_CHANGE w_MONITOR_PROCESS_INSTANCE w_NOTIFY_USER w_CREATE_SCHEMA w_EXECUTE_ACTIVITY w_INSTANTIATE_SCHEMA w_GRANT_PRIVILEGE w_REUSE_EXISTING_PROCESS_INSTANCE_CHANGE hK 10 1 w_NOTIFY_USER w_PROCESS_TYPE_CHANGE 0 hi hj rfl rfl E_w_NOTIFY_USER (by decide) (rm_step2_0 l Z a0 hw [] w_NOTIFY_USER w_PROCESS_TYPE_CHANGE h0 n0 w_CHANGE_PROCESS (Fld.ne F_ordinal_w_PROCESS_TYPE_CHANGE F_ordinal_w_NOTIFY_USER (by decide)) F_parent_w_PROCESS_TYPE_CHANGE E_w_NOTIFY_USER (rm_root1 l Z a0 hw [] w_NOTIFY_USER w_CHANGE_PROCESS h0 n0 (Fld.ne F_ordinal_w_CHANGE_PROCESS F_ordinal_w_NOTIFY_USER (by decide)) F_parent_w_CHANGE_PROCESS))
  · exact rm_lawS l Z a0 hw ws p1 p2 h0 n0 w_CHANGE_PROCESS w_NEW_PROCESS_INSTANCE_CHANGE w_PROCESS_INSTANCE_CHANGE w_PROCESS_TYPE_CHANGE w_MONITOR_PROCESS_INSTANCE w_NOTIFY_USER w_CREATE_SCHEMA w_EXECUTE_ACTIVITY w_INSTANTIATE_SCHEMA w_GRANT_PRIVILEGE w_REUSE_EXISTING_PROCESS_INSTANCE_CHANGE hK 10 2 w_NOTIFY_USER w_PROCESS_INSTANCE_CHANGE 0 hi hj rfl rfl E_w_NOTIFY_USER (by decide) (rm_step2_0 l Z a0 hw [] w_NOTIFY_USER w_PROCESS_INSTANCE_CHANGE h0 n0 w_CHANGE_PROCESS (Fld.ne F_ordinal_w_PROCESS_INSTANCE_CHANGE F_ordinal_w_NOTIFY_USER (by decide)) F_parent_w_PROCESS_INSTANCE_CHANGE E_w_NOTIFY_USER (rm_root1 l Z a0 hw [] w_NOTIFY_USER w_CHANGE_PROCESS h0 n0 (Fld.ne F_ordinal_w_CHANGE_PROCESS F_ordinal_w_NOTIFY_USER (by decide)) F_parent_w_CHANGE_PROCESS))
  · exact rm_lawS l Z a0 hw ws p1 p2 h0 n0 w_CHANGE_PROCESS w_NEW_PROCESS_INSTANCE_CHANGE w_PROCESS_INSTANCE_CHANGE w_PROCESS_TYPE_CHANGE w_MONITOR_PROCESS_INSTANCE w_NOTIFY_USER w_CREATE_SCHEMA w_EXECUTE_ACTIVITY w_INSTANTIATE_SCHEMA w_GRANT_PRIVILEGE w_REUSE_EXISTING_PROCESS_INSTANCE_CHANGE hK 10 3 w_NOTIFY_USER w_NEW_PROCESS_INSTANCE_CHANGE 0 hi hj rfl rfl E_w_NOTIFY_USER (by decide) (rm_step2_0 l Z a0 hw [] w_NOTIFY_USER w_NEW_PROCESS_INSTANCE_CHANGE h0 n0 w_PROCESS_INSTANCE_CHANGE (Fld.ne F_ordinal_w_NEW_PROCESS_INSTANCE_CHANGE F_ordinal_w_NOTIFY_USER (by decide)) F_parent_w_NEW_PROCESS_INSTANCE_CHANGE E_w_NOTIFY_USER (rm_step1_0 l Z a0 hw [] w_NOTIFY_USER w_PROCESS_INSTANCE_CHANGE h0 n0 w_CHANGE_PROCESS (Fld.ne F_ordinal_w_PROCESS_INSTANCE_CHANGE F_ordinal_w_NOTIFY_USER (by decide)) F_parent_w_PROCESS_INSTANCE_CHANGE E_w_NOTIFY_USER (rm_root0 l Z a0 hw [] w_NOTIFY_USER w_CHANGE_PROCESS h0 n0 (Fld.ne F_ordinal_w_CHANGE_PROCESS F_ordinal_w_NOTIFY_USER (by decide)) F_parent_w_CHANGE_PROCESS)))
  · exact rm_lawS l Z a0 hw ws p1 p2 h0 n0 w_CHANGE_PROCESS w_NEW_PROCESS_INSTANCE_CHANGE w_PROCESS_INSTANCE_CHANGE w_PROCESS_TYPE_CHANGE w_MONITOR_PROCESS_INSTANCE w_NOTIFY_USER w_CREATE_SCHEMA w_EXECUTE_ACTIVITY w_INSTANTIATE_SCHEMA w_GRANT_PRIVILEGE w_REUSE_EXISTING_PROCESS_INSTANCE_CHANGE hK 10 4 w_NOTIFY_USER w_REUSE_EXISTING_PROCESS_INSTANCE_CHANGE 0 hi hj rfl rfl E_w_NOTIFY_USER (by decide) (rm_step2_0 l Z a0 hw [] w_NOTIFY_USER w_REUSE_EXISTING_PROCESS_INSTANCE_CHANGE h0 n0 w_PROCESS_INSTANCE_CHANGE (Fld.ne F_ordinal_w_REUSE_EXISTING_PROCESS_INSTANCE_CHANGE F_ordinal_w_NOTIFY_USER (by decide)) F_parent_w_REUSE_EXISTING_PROCESS_INSTANCE_CHANGE E_w_NOTIFY_USER (rm_step1_0 l Z a0 hw [] w_NOTIFY_USER w_PROCESS_INSTANCE_CHANGE h0 n0 w_CHANGE_PROCESS (Fld.ne F_ordinal_w_PROCESS_INSTANCE_CHANGE F_ordinal_w_NOTIFY_USER (by decide)) F_parent_w_PROCESS_INSTANCE_CHANGE E_w_NOTIFY_USER (rm_root0 l Z a0 hw [] w_NOTIFY_USER w_CHANGE_PROCESS h0 n0 (Fld.ne F_ordinal_w_CHANGE_PROCESS F_ordinal_w_NOTIFY_USER (by decide)) F_parent_w_CHANGE_PROCESS)))
  · exact rm_lawS l Z a0 hw ws p1 p2 h0 n0 w_CHANGE_PROCESS w_NEW_PROCESS_INSTANCE_CHANGE w_PROCESS_INSTANCE_CHANGE w_PROCESS_TYPE_CHANGE w_MONITOR_PROCESS_INSTANCE w_NOTIFY_USER w_CREATE_SCHEMA w_EXECUTE_ACTIVITY w_INSTANTIATE_SCHEMA w_GRANT_PRIVILEGE w_REUSE_EXISTING_PROCESS_INSTANCE_CHANGE hK 10 5 w_NOTIFY_USER w_CREATE_SCHEMA 0 hi hj rfl rfl E_w_NOTIFY_USER (by decide) (rm_root2 l Z a0 hw [] w_NOTIFY_USER w_CREATE_SCHEMA h0 n0 (Fld.ne F_ordinal_w_CREATE_SCHEMA F_ordinal_w_NOTIFY_USER (by decide)) F_parent_w_CREATE_SCHEMA)
  · exact rm_lawS l Z a0 hw ws p1 p2 h0 n0 w_CHANGE_PROCESS w_NEW_PROCESS_INSTANCE_CHANGE w_PROCESS_INSTANCE_CHANGE w_PROCESS_TYPE_CHANGE w_MONITOR_PROCESS_INSTANCE w_NOTIFY_USER w_CREATE_SCHEMA w_EXECUTE_ACTIVITY w_INSTANTIATE_SCHEMA w_GRANT_PRIVILEGE w_REUSE_EXISTING_PROCESS_INSTANCE_CHANGE hK 10 6 w_NOTIFY_USER w_EXECUTE_ACTIVITY 0 hi hj rfl rfl E_w_NOTIFY_USER (by decide) (rm_root2 l Z a0 hw [] w_NOTIFY_USER w_EXECUTE_ACTIVITY h0 n0 (Fld.ne F_ordinal_w_EXECUTE_ACTIVITY F_ordinal_w_NOTIFY_USER (by decide)) F_parent_w_EXECUTE_ACTIVITY)
  · exact rm_lawS l Z a0 hw ws p1 p2 h0 n0 w_CHANGE_PROCESS w_NEW_PROCESS_INSTANCE_CHANGE w_PROCESS_INSTANCE_CHANGE w_PROCESS_TYPE_CHANGE w_MONITOR_PROCESS_INSTANCE w_NOTIFY_USER w_CREATE_SCHEMA w_EXECUTE_ACTIVITY w_INSTANTIATE_SCHEMA w_GRANT_PRIVILEGE w_REUSE_EXISTING_PROCESS_INSTANCE_CHANGE hK 10 7 w_NOTIFY_USER w_GRANT_PRIVILEGE 0 hi hj rfl rfl E_w_NOTIFY_USER (by decide) (rm_root2 l Z a0 hw [] w_NOTIFY_USER w_GRANT_PRIVILEGE h0 n0 (Fld.ne F_ordinal_w_GRANT_PRIVILEGE F_ordinal_w_NOTIFY_USER (by decide)) F_parent_w_GRANT_PRIVILEGE)
  · exact rm_lawS l Z a0 hw ws p1 p2 h0 n0 w_CHANGE_PROCESS w_NEW_PROCESS_INSTANCE_CHANGE w_PROCESS_INSTANCE_CHANGE w_PROCESS_TYPE_CHANGE w_MONITOR_PROCESS_INSTANCE w_NOTIFY_USER w_CREATE_SCHEMA w_EXECUTE_ACTIVITY w_INSTANTIATE_SCHEMA w_GRANT_PRIVILEGE w_REUSE_EXISTING_PROCESS_INSTANCE_CHANGE hK 10 8 w_NOTIFY_USER w_INSTANTIATE_SCHEMA 0 hi hj rfl rfl E_w_NOTIFY_USER (by decide) (rm_root2 l Z a0 hw [] w_NOTIFY_USER w_INSTANTIATE_SCHEMA h0 n0 (Fld.ne F_ordinal_w_INSTANTIATE_SCHEMA F_ordinal_w_NOTIFY_USER (by decide)) F_parent_w_INSTANTIATE_SCHEMA)
  · exact rm_lawS l Z a0 hw ws p1 p2 h0 n0 w_CHANGE_PROCESS w_NEW_PROCESS_INSTANCE_CHANGE w_PROCESS_INSTANCE_CHANGE w_PROCESS_TYPE_CHANGE w_MONITOR_PROCESS_INSTANCE w_NOTIFY_USER w_CREATE_SCHEMA w_EXECUTE_ACTIVITY w_INSTANTIATE_SCHEMA w_GRANT_PRIVILEGE w_REUSE_EXISTING_PROCESS_INSTANCE_CHANGE hK 10 9 w_NOTIFY_USER w_MONITOR_PROCESS_INSTANCE 0 hi hj rfl rfl E_w_NOTIFY_USER (by decide) (rm_root2 l Z a0 hw [] w_NOTIFY_USER w_MONITOR_PROCESS_INSTANCE h0 n0 (Fld.ne F_ordinal_w_MONITOR_PROCESS_INSTANCE F_ordinal_w_NOTIFY_USER (by decide)) F_parent_w_MONITOR_PROCESS_INSTANCE)
  · exact rm_lawS l Z a0 hw ws p1 p2 h0 n0 w_CHANGE_PROCESS w_NEW_PROCESS_INSTANCE_CHANGE w_PROCESS_INSTANCE_CHANGE w_PROCESS_TYPE_CHANGE w_MONITOR_PROCESS_INSTANCE w_NOTIFY_USER w_CREATE_SCHEMA w_EXECUTE_ACTIVITY w_INSTANTIATE_SCHEMA w_GRANT_PRIVILEGE w_REUSE_EXISTING_PROCESS_INSTANCE_CHANGE hK 10 10 w_NOTIFY_USER w_NOTIFY_USER 1 hi hj rfl rfl E_w_NOTIFY_USER (by decide) (rm_same2 l Z a0 hw [] w_NOTIFY_USER h0 n0)
set_option maxRecDepth 65536 in
set_option maxHeartbeats 40000000 in
theorem comes_1 {Post : Tables → Env → Array Value → State → Outcome → State → Prop} (hpost : ∀ tb e args s v u, (limb_1_1.after args s (.returned v) u = true ∧ limb_1_2.after args s (.returned v) u = true ∧ True) → FrameEnd s (.returned v) u (Jvm.fieldLocs frame_1_writes args s ++ Jvm.arrayLocs frame_1_arrays args s ++ Jvm.staticLocs frame_1_statics s) 0 0 → Post tb e args s (.returned v) u) :
    ArmFor flags0 classFile x code maxLocals ret World_1 tables_1 room_1 Calls_1 rest_1 Pre_1 Post := by
  intro l hfl _ _ p e ha hc hk s m args below hf hA hF happ hP
  obtain ⟨hcalls, hrest, hpre⟩ := hP
  obtain ⟨-, -, -, hnamed, -, -, -, hat⟩ := (Spec.applies_iff hf).mp happ
  obtain ⟨hg, hn⟩ := and_e (Cond.before_iff.mp (show (Jvm.Cond.and given_1 narrow_1).before args s = true from hpre))
  obtain ⟨g0, hg⟩ := and_e hg
  obtain ⟨g1, hg⟩ := and_e hg
  obtain ⟨w0, w1, rfl⟩ : ∃ w0 w1 : Value, args = #[w0, w1] := by
    have hs : args.size = 2 := by simpa [Cond.value, given_1] using g0
    obtain ⟨L⟩ := args
    match L, hs with
    | [w0, w1], _ => exact ⟨w0, w1, rfl⟩
  have hw := fun d (hd : d ∈ tables_1) => atoms_spec (ws := Jvm.Cond.code x code maxLocals ret :: tables_1) hat d (List.mem_cons_of_mem _ hd)
  have hfit : Fit s := fun {y c} hc i hi => by
    obtain ⟨ha, rfl⟩ := Array.getElem?_eq_some_iff.mp hc
    have q := List.all_eq_true.mp ((Array.all_eq_true_iff_forall_mem.mp hF) _ (Array.getElem_mem ha)) i (List.mem_range.mpr hi)
    simpa [Array.getElem?_eq_getElem hi] using q
  obtain ⟨i0, ei0⟩ := is_v g1
  obtain rfl : w0 = (.int i0) := Option.some.inj ei0
  obtain ⟨i1, ei1⟩ := is_v hg
  obtain rfl : w1 = (.int i1) := Option.some.inj ei1
  obtain ⟨c0, hn⟩ := and_e hn
  obtain ⟨w_CHANGE_PROCESS, v_w_CHANGE_PROCESS⟩ := exa_v c0
  have S_w_CHANGE_PROCESS := Sta.start v_w_CHANGE_PROCESS (Or.inr ⟨(hw _ (ow 6 rfl)), (hw _ (ow 7 rfl))⟩)
  have E_w_CHANGE_PROCESS := Exa.start v_w_CHANGE_PROCESS c0
  obtain ⟨c1, hn⟩ := and_e hn
  obtain ⟨w_NEW_PROCESS_INSTANCE_CHANGE, v_w_NEW_PROCESS_INSTANCE_CHANGE⟩ := exa_v c1
  have S_w_NEW_PROCESS_INSTANCE_CHANGE := Sta.start v_w_NEW_PROCESS_INSTANCE_CHANGE (Or.inr ⟨(hw _ (ow 6 rfl)), (hw _ (ow 9 rfl))⟩)
  have E_w_NEW_PROCESS_INSTANCE_CHANGE := Exa.start v_w_NEW_PROCESS_INSTANCE_CHANGE c1
  obtain ⟨c2, hn⟩ := and_e hn
  have F_ordinal_w_NEW_PROCESS_INSTANCE_CHANGE := Fld.start ((fld_at v_w_NEW_PROCESS_INSTANCE_CHANGE).symm.trans (own_eqI c2))
  obtain ⟨c3, hn⟩ := and_e hn
  have F_ordinal_w_CHANGE_PROCESS := Fld.start ((fld_at v_w_CHANGE_PROCESS).symm.trans (own_eqI c3))
  obtain ⟨c4, hn⟩ := and_e hn
  obtain ⟨w_PROCESS_INSTANCE_CHANGE, v_w_PROCESS_INSTANCE_CHANGE⟩ := exa_v c4
  have S_w_PROCESS_INSTANCE_CHANGE := Sta.start v_w_PROCESS_INSTANCE_CHANGE (Or.inr ⟨(hw _ (ow 6 rfl)), (hw _ (ow 17 rfl))⟩)
  have E_w_PROCESS_INSTANCE_CHANGE := Exa.start v_w_PROCESS_INSTANCE_CHANGE c4
  obtain ⟨c5, hn⟩ := and_e hn
  have F_parent_w_NEW_PROCESS_INSTANCE_CHANGE := Fld.start ((fld_at v_w_NEW_PROCESS_INSTANCE_CHANGE).symm.trans (own_eqR c5 v_w_PROCESS_INSTANCE_CHANGE))
  obtain ⟨c6, hn⟩ := and_e hn
  have F_ordinal_w_PROCESS_INSTANCE_CHANGE := Fld.start ((fld_at v_w_PROCESS_INSTANCE_CHANGE).symm.trans (own_eqI c6))
  obtain ⟨c7, hn⟩ := and_e hn
  have F_parent_w_PROCESS_INSTANCE_CHANGE := Fld.start ((fld_at v_w_PROCESS_INSTANCE_CHANGE).symm.trans (own_eqR c7 v_w_CHANGE_PROCESS))
  obtain ⟨c8, hn⟩ := and_e hn
  obtain ⟨w_PROCESS_TYPE_CHANGE, v_w_PROCESS_TYPE_CHANGE⟩ := exa_v c8
  have S_w_PROCESS_TYPE_CHANGE := Sta.start v_w_PROCESS_TYPE_CHANGE (Or.inr ⟨(hw _ (ow 6 rfl)), (hw _ (ow 20 rfl))⟩)
  have E_w_PROCESS_TYPE_CHANGE := Exa.start v_w_PROCESS_TYPE_CHANGE c8
  obtain ⟨c9, hn⟩ := and_e hn
  have F_ordinal_w_PROCESS_TYPE_CHANGE := Fld.start ((fld_at v_w_PROCESS_TYPE_CHANGE).symm.trans (own_eqI c9))
  obtain ⟨c10, hn⟩ := and_e hn
  have F_parent_w_PROCESS_TYPE_CHANGE := Fld.start ((fld_at v_w_PROCESS_TYPE_CHANGE).symm.trans (own_eqR c10 v_w_CHANGE_PROCESS))
  obtain ⟨c11, hn⟩ := and_e hn
  have F_parent_w_CHANGE_PROCESS := Fld.start ((fld_at v_w_CHANGE_PROCESS).symm.trans (null_v c11))
  obtain ⟨c12, hn⟩ := and_e hn
  obtain ⟨w_MONITOR_PROCESS_INSTANCE, v_w_MONITOR_PROCESS_INSTANCE⟩ := exa_v c12
  have S_w_MONITOR_PROCESS_INSTANCE := Sta.start v_w_MONITOR_PROCESS_INSTANCE (Or.inr ⟨(hw _ (ow 6 rfl)), (hw _ (ow 22 rfl))⟩)
  have E_w_MONITOR_PROCESS_INSTANCE := Exa.start v_w_MONITOR_PROCESS_INSTANCE c12
  obtain ⟨c13, hn⟩ := and_e hn
  obtain ⟨w_NOTIFY_USER, v_w_NOTIFY_USER⟩ := exa_v c13
  have S_w_NOTIFY_USER := Sta.start v_w_NOTIFY_USER (Or.inr ⟨(hw _ (ow 6 rfl)), (hw _ (ow 24 rfl))⟩)
  have E_w_NOTIFY_USER := Exa.start v_w_NOTIFY_USER c13
  obtain ⟨c14, hn⟩ := and_e hn
  have F_ordinal_w_NOTIFY_USER := Fld.start ((fld_at v_w_NOTIFY_USER).symm.trans (own_eqI c14))
  obtain ⟨c15, hn⟩ := and_e hn
  have F_ordinal_w_MONITOR_PROCESS_INSTANCE := Fld.start ((fld_at v_w_MONITOR_PROCESS_INSTANCE).symm.trans (own_eqI c15))
  obtain ⟨c16, hn⟩ := and_e hn
  have F_parent_w_NOTIFY_USER := Fld.start ((fld_at v_w_NOTIFY_USER).symm.trans (null_v c16))
  obtain ⟨c17, hn⟩ := and_e hn
  obtain ⟨w_CREATE_SCHEMA, v_w_CREATE_SCHEMA⟩ := exa_v c17
  have S_w_CREATE_SCHEMA := Sta.start v_w_CREATE_SCHEMA (Or.inr ⟨(hw _ (ow 6 rfl)), (hw _ (ow 26 rfl))⟩)
  have E_w_CREATE_SCHEMA := Exa.start v_w_CREATE_SCHEMA c17
  obtain ⟨c18, hn⟩ := and_e hn
  have F_ordinal_w_CREATE_SCHEMA := Fld.start ((fld_at v_w_CREATE_SCHEMA).symm.trans (own_eqI c18))
  obtain ⟨c19, hn⟩ := and_e hn
  obtain ⟨w_EXECUTE_ACTIVITY, v_w_EXECUTE_ACTIVITY⟩ := exa_v c19
  have S_w_EXECUTE_ACTIVITY := Sta.start v_w_EXECUTE_ACTIVITY (Or.inr ⟨(hw _ (ow 6 rfl)), (hw _ (ow 29 rfl))⟩)
  have E_w_EXECUTE_ACTIVITY := Exa.start v_w_EXECUTE_ACTIVITY c19
  obtain ⟨c20, hn⟩ := and_e hn
  have F_ordinal_w_EXECUTE_ACTIVITY := Fld.start ((fld_at v_w_EXECUTE_ACTIVITY).symm.trans (own_eqI c20))
  obtain ⟨c21, hn⟩ := and_e hn
  obtain ⟨w_INSTANTIATE_SCHEMA, v_w_INSTANTIATE_SCHEMA⟩ := exa_v c21
  have S_w_INSTANTIATE_SCHEMA := Sta.start v_w_INSTANTIATE_SCHEMA (Or.inr ⟨(hw _ (ow 6 rfl)), (hw _ (ow 31 rfl))⟩)
  have E_w_INSTANTIATE_SCHEMA := Exa.start v_w_INSTANTIATE_SCHEMA c21
  obtain ⟨c22, hn⟩ := and_e hn
  have F_ordinal_w_INSTANTIATE_SCHEMA := Fld.start ((fld_at v_w_INSTANTIATE_SCHEMA).symm.trans (own_eqI c22))
  obtain ⟨c23, hn⟩ := and_e hn
  have F_parent_w_CREATE_SCHEMA := Fld.start ((fld_at v_w_CREATE_SCHEMA).symm.trans (null_v c23))
  obtain ⟨c24, hn⟩ := and_e hn
  have F_parent_w_EXECUTE_ACTIVITY := Fld.start ((fld_at v_w_EXECUTE_ACTIVITY).symm.trans (null_v c24))
  obtain ⟨c25, hn⟩ := and_e hn
  obtain ⟨w_GRANT_PRIVILEGE, v_w_GRANT_PRIVILEGE⟩ := exa_v c25
  have S_w_GRANT_PRIVILEGE := Sta.start v_w_GRANT_PRIVILEGE (Or.inr ⟨(hw _ (ow 6 rfl)), (hw _ (ow 33 rfl))⟩)
  have E_w_GRANT_PRIVILEGE := Exa.start v_w_GRANT_PRIVILEGE c25
  obtain ⟨c26, hn⟩ := and_e hn
  have F_ordinal_w_GRANT_PRIVILEGE := Fld.start ((fld_at v_w_GRANT_PRIVILEGE).symm.trans (own_eqI c26))
  obtain ⟨c27, hn⟩ := and_e hn
  have F_parent_w_GRANT_PRIVILEGE := Fld.start ((fld_at v_w_GRANT_PRIVILEGE).symm.trans (null_v c27))
  obtain ⟨c28, hn⟩ := and_e hn
  have F_parent_w_INSTANTIATE_SCHEMA := Fld.start ((fld_at v_w_INSTANTIATE_SCHEMA).symm.trans (null_v c28))
  obtain ⟨c29, hn⟩ := and_e hn
  obtain ⟨w_REUSE_EXISTING_PROCESS_INSTANCE_CHANGE, v_w_REUSE_EXISTING_PROCESS_INSTANCE_CHANGE⟩ := exa_v c29
  have S_w_REUSE_EXISTING_PROCESS_INSTANCE_CHANGE := Sta.start v_w_REUSE_EXISTING_PROCESS_INSTANCE_CHANGE (Or.inr ⟨(hw _ (ow 6 rfl)), (hw _ (ow 35 rfl))⟩)
  have E_w_REUSE_EXISTING_PROCESS_INSTANCE_CHANGE := Exa.start v_w_REUSE_EXISTING_PROCESS_INSTANCE_CHANGE c29
  obtain ⟨c30, hn⟩ := and_e hn
  have F_ordinal_w_REUSE_EXISTING_PROCESS_INSTANCE_CHANGE := Fld.start ((fld_at v_w_REUSE_EXISTING_PROCESS_INSTANCE_CHANGE).symm.trans (own_eqI c30))
  obtain ⟨c31, hn⟩ := and_e hn
  have F_parent_w_REUSE_EXISTING_PROCESS_INSTANCE_CHANGE := Fld.start ((fld_at v_w_REUSE_EXISTING_PROCESS_INSTANCE_CHANGE).symm.trans (own_eqR c31 v_w_PROCESS_INSTANCE_CHANGE))
  have F_parent_w_MONITOR_PROCESS_INSTANCE := Fld.start ((fld_at v_w_MONITOR_PROCESS_INSTANCE).symm.trans (null_v hn))
  have hK : own_K s s.heap w_CHANGE_PROCESS w_NEW_PROCESS_INSTANCE_CHANGE w_PROCESS_INSTANCE_CHANGE w_PROCESS_TYPE_CHANGE w_MONITOR_PROCESS_INSTANCE w_NOTIFY_USER w_CREATE_SCHEMA w_EXECUTE_ACTIVITY w_INSTANTIATE_SCHEMA w_GRANT_PRIVILEGE w_REUSE_EXISTING_PROCESS_INSTANCE_CHANGE := ⟨S_w_CHANGE_PROCESS, E_w_CHANGE_PROCESS, S_w_NEW_PROCESS_INSTANCE_CHANGE, E_w_NEW_PROCESS_INSTANCE_CHANGE, F_ordinal_w_NEW_PROCESS_INSTANCE_CHANGE, F_ordinal_w_CHANGE_PROCESS, S_w_PROCESS_INSTANCE_CHANGE, E_w_PROCESS_INSTANCE_CHANGE, F_parent_w_NEW_PROCESS_INSTANCE_CHANGE, F_ordinal_w_PROCESS_INSTANCE_CHANGE, F_parent_w_PROCESS_INSTANCE_CHANGE, S_w_PROCESS_TYPE_CHANGE, E_w_PROCESS_TYPE_CHANGE, F_ordinal_w_PROCESS_TYPE_CHANGE, F_parent_w_PROCESS_TYPE_CHANGE, F_parent_w_CHANGE_PROCESS, S_w_MONITOR_PROCESS_INSTANCE, E_w_MONITOR_PROCESS_INSTANCE, S_w_NOTIFY_USER, E_w_NOTIFY_USER, F_ordinal_w_NOTIFY_USER, F_ordinal_w_MONITOR_PROCESS_INSTANCE, F_parent_w_NOTIFY_USER, S_w_CREATE_SCHEMA, E_w_CREATE_SCHEMA, F_ordinal_w_CREATE_SCHEMA, S_w_EXECUTE_ACTIVITY, E_w_EXECUTE_ACTIVITY, F_ordinal_w_EXECUTE_ACTIVITY, S_w_INSTANTIATE_SCHEMA, E_w_INSTANTIATE_SCHEMA, F_ordinal_w_INSTANTIATE_SCHEMA, F_parent_w_CREATE_SCHEMA, F_parent_w_EXECUTE_ACTIVITY, S_w_GRANT_PRIVILEGE, E_w_GRANT_PRIVILEGE, F_ordinal_w_GRANT_PRIVILEGE, F_parent_w_GRANT_PRIVILEGE, F_parent_w_INSTANTIATE_SCHEMA, S_w_REUSE_EXISTING_PROCESS_INSTANCE_CHANGE, E_w_REUSE_EXISTING_PROCESS_INSTANCE_CHANGE, F_ordinal_w_REUSE_EXISTING_PROCESS_INSTANCE_CHANGE, F_parent_w_REUSE_EXISTING_PROCESS_INSTANCE_CHANGE, F_parent_w_MONITOR_PROCESS_INSTANCE⟩
  obtain ⟨n, o, h1, h2, h3, _, L, rfl, ⟨rfl, N, -⟩, hq⟩ := rm_law l s _ hw tables_1 i0 i1 s.heap s.heap.size w_CHANGE_PROCESS w_NEW_PROCESS_INSTANCE_CHANGE w_PROCESS_INSTANCE_CHANGE w_PROCESS_TYPE_CHANGE w_MONITOR_PROCESS_INSTANCE w_NOTIFY_USER w_CREATE_SCHEMA w_EXECUTE_ACTIVITY w_INSTANTIATE_SCHEMA w_GRANT_PRIVILEGE w_REUSE_EXISTING_PROCESS_INSTANCE_CHANGE hK p e ha hc hk s m _ below hf ((Spec.applies_iff_loose hf).mp happ).1 ⟨rfl, State.Warmed39.refl s, rfl⟩ trivial
  refine ⟨n, _, h1, h2, h3, hpost _ _ _ _ _ _ ⟨Cond.after_iff.mpr rfl, Cond.after_iff.mpr (eq_i res_at (Term.int_eval (1)) rfl), trivial⟩ ⟨hq.1, hq.2.1, (hq.2.2.sift fun y hy => Or.inr (N y hy)).mono (by decide) (by decide)⟩⟩
theorem main_1_1 : Claimed_1_1 := comes_1 fun _ _ _ _ _ _ h hF => ⟨h.1, hF⟩
theorem main_1_2 : Claimed_1_2 := comes_1 fun _ _ _ _ _ _ h hF => ⟨h.2.1, hF⟩
end Jvm.Pilot.@@N@@
namespace Jvm.Pilot.@@N@@
open Jvm Jvm.ClassFile Sem Op Lib Jvm.Free Jvm.Stand Jvm.Pilot.@@N@@.Jvm.D
/-! MADE BY PROGRAM (witnessworld.py) out of the Statement's table words and the real class files: 10 classes; the members and pool entries that the words name. The judged class is class 1, her method 1. -/
namespace start1
open Jvm.ClassFile
def u (s : String) : CpInfo := .utf8 (stringToUtf16 s)
/-- a pool by its gaps: so many unusable entries, then the entry; so many at the end -/
def gap : Nat → List CpInfo → List CpInfo
  | 0, r => r
  | n + 1, r => .unusable :: gap n r
def poolList (es : List (Nat × CpInfo)) (last : Nat) : List CpInfo := es.foldr (fun e r => gap e.1 (e.2 :: r)) (gap last [])
def pool (es : List (Nat × CpInfo)) (last : Nat) : Array CpInfo := ⟨poolList es last⟩
def fileOf (pool : Array CpInfo) (this : Nat) (attrs : Array Attribute := #[]) (ms : Array MethodInfo := #[]) (fl : Nat := 33) (sup : Nat := 0) (ifs : Array Nat := #[]) (fds : Array FieldInfo := #[]) : ClassFile where
  minorVersion := 0
  majorVersion := 65
  constantPool := pool
  accessFlags := fl
  thisClass := this
  superClass := sup
  interfaces := ifs
  fields := fds
  methods := ms
  attributes := attrs
def plain (name : String) (sup : Option ClassId) : Class where
  name := name
  kind := .ordinary
  loader := none
  accessFlags := 33
  super := sup
  interfaces := #[]
  cf := none
  fields := #[]
  methods := #[]
  instanceTypes := #[]
  staticTypes := #[]
  resolved := #[]
  callSites := []
  init := .initialized
  statics := none
  mirror := none

def pool0 : Array CpInfo := pool [(5, u "<init>"), (0, u "()V"), (1, .class_ 10), (1, u "java/lang/Object")] 113

def k0m0 : Method := { name := "<init>", desc := "()V", sig := { parameters := [], returnType := none }, accessFlags := 1, code := none }
/-- java/lang/Object -/
def k0 : Class := { plain "java/lang/Object" none with
  accessFlags := 33
  interfaces := #[]
  cf := some (fileOf pool0 8 #[] #[{ accessFlags := 1, nameIndex := 5, descriptorIndex := 6, attributes := #[] }] 33 0 #[] #[])
  fields := #[]
  methods := #[k0m0]
  instanceTypes := #[]
  staticTypes := #[]
  resolved := Array.replicate 124 none
  statics := none }

def pool1 : Array CpInfo := pool [(2, .class_ 4), (1, u "java/lang/Object"), (0, u "<init>"), (0, u "()V"), (0, .integer 2147483647), (0, .methodref 9 10), (0, .class_ 11), (0, .nameAndType 12 13), (0, u "com/example/live_rbac/liverbac/ProcessOperationIncludesPinLaw"), (0, u "op"), (0, u "(I)Lcom/example/live_rbac/liverbac/ProcessOperation;"), (0, .methodref 15 16), (0, .class_ 17), (0, .nameAndType 18 19), (0, u "com/example/live_rbac/liverbac/ProcessOperation"), (0, u "includes"), (0, u "(Lcom/example/live_rbac/liverbac/ProcessOperation;)Z"), (0, .fieldref 15 21), (0, .nameAndType 22 23), (0, u "CHANGE_PROCESS"), (0, u "Lcom/example/live_rbac/liverbac/ProcessOperation;"), (0, .fieldref 15 25), (0, .nameAndType 26 23), (0, u "PROCESS_TYPE_CHANGE"), (0, .fieldref 15 28), (0, .nameAndType 29 23), (0, u "PROCESS_INSTANCE_CHANGE"), (0, .fieldref 15 31), (0, .nameAndType 32 23), (0, u "NEW_PROCESS_INSTANCE_CHANGE"), (0, .fieldref 15 34), (0, .nameAndType 35 23), (0, u "REUSE_EXISTING_PROCESS_INSTANCE_CHANGE"), (0, .fieldref 15 37), (0, .nameAndType 38 23), (0, u "CREATE_SCHEMA"), (0, .fieldref 15 40), (0, .nameAndType 41 23), (0, u "EXECUTE_ACTIVITY"), (0, .fieldref 15 43), (0, .nameAndType 44 23), (0, u "GRANT_PRIVILEGE"), (0, .fieldref 15 46), (0, .nameAndType 47 23), (0, u "INSTANTIATE_SCHEMA"), (0, .fieldref 15 49), (0, .nameAndType 50 23), (0, u "MONITOR_PROCESS_INSTANCE"), (0, .fieldref 15 52), (0, .nameAndType 53 23), (0, u "NOTIFY_USER"), (2, u "law"), (0, u "(II)Z")] 3

def k1m0 : Method := { name := "<init>", desc := "()V", sig := { parameters := [], returnType := none }, accessFlags := 1, code := none }
def k1c1 : Code := { maxStack := 2, maxLocals := 7, code := code, exceptionTable := #[], attributes := #[] }
def k1m1 : Method := { name := "law", desc := "(II)Z", sig := { parameters := [.int, .int], returnType := some .boolean }, accessFlags := 9, code := some k1c1 }
def k1c2 : Code := { maxStack := 2, maxLocals := 1, code := method_3_code, exceptionTable := #[], attributes := #[] }
def k1m2 : Method := { name := "op", desc := "(I)Lcom/example/live_rbac/liverbac/ProcessOperation;", sig := { parameters := [.int], returnType := some (.object "com/example/live_rbac/liverbac/ProcessOperation") }, accessFlags := 10, code := some k1c2 }
/-- com/example/live_rbac/liverbac/ProcessOperationIncludesPinLaw -/
def k1 : Class := { plain "com/example/live_rbac/liverbac/ProcessOperationIncludesPinLaw" (some 0) with
  accessFlags := 49
  interfaces := #[]
  cf := some (fileOf pool1 9 #[] #[{ accessFlags := 1, nameIndex := 5, descriptorIndex := 6, attributes := #[] }, { accessFlags := 9, nameIndex := 56, descriptorIndex := 57, attributes := #[] }, { accessFlags := 10, nameIndex := 12, descriptorIndex := 13, attributes := #[] }] 49 2 #[] #[])
  fields := #[]
  methods := #[k1m0, k1m1, k1m2]
  instanceTypes := #[]
  staticTypes := #[]
  resolved := Array.replicate 61 none
  statics := none }

def pool2 : Array CpInfo := pool [(1, .class_ 2), (0, u "java/lang/constant/Constable"), (0, .class_ 4), (0, u "java/lang/Object")] 6

/-- java/lang/constant/Constable -/
def k2 : Class := { plain "java/lang/constant/Constable" (some 0) with
  accessFlags := 1537
  interfaces := #[]
  cf := some (fileOf pool2 1 #[] #[] 1537 3 #[] #[])
  fields := #[]
  methods := #[]
  instanceTypes := #[]
  staticTypes := #[]
  resolved := Array.replicate 11 none
  statics := none }

def pool3 : Array CpInfo := pool [(1, .class_ 2), (0, u "java/lang/Comparable"), (0, .class_ 4), (0, u "java/lang/Object")] 7

/-- java/lang/Comparable -/
def k3 : Class := { plain "java/lang/Comparable" (some 0) with
  accessFlags := 1537
  interfaces := #[]
  cf := some (fileOf pool3 1 #[] #[] 1537 3 #[] #[])
  fields := #[]
  methods := #[]
  instanceTypes := #[]
  staticTypes := #[]
  resolved := Array.replicate 12 none
  statics := none }

def pool4 : Array CpInfo := pool [(1, .class_ 2), (0, u "java/io/Serializable"), (0, .class_ 4), (0, u "java/lang/Object")] 2

/-- java/io/Serializable -/
def k4 : Class := { plain "java/io/Serializable" (some 0) with
  accessFlags := 1537
  interfaces := #[]
  cf := some (fileOf pool4 1 #[] #[] 1537 3 #[] #[])
  fields := #[]
  methods := #[]
  instanceTypes := #[]
  staticTypes := #[]
  resolved := Array.replicate 7 none
  statics := none }

def pool5 : Array CpInfo := pool [(2, .class_ 4), (1, u "java/lang/Enum"), (0, u "name"), (0, u "Ljava/lang/String;"), (2, u "ordinal"), (0, u "I"), (1, .class_ 14), (1, u "java/lang/Object"), (4, u "hash"), (86, .class_ 108), (1, u "java/lang/Enum$EnumDesc"), (2, .class_ 112), (0, u "java/lang/constant/Constable"), (0, .class_ 114), (0, u "java/lang/Comparable"), (0, .class_ 116), (0, u "java/io/Serializable")] 87

/-- java/lang/Enum -/
def k5 : Class := { plain "java/lang/Enum" (some 0) with
  accessFlags := 1057
  interfaces := #[2, 3, 4]
  cf := some (fileOf pool5 2 #[.nestMembers #[106]] #[] 1057 12 #[111, 113, 115] #[{ accessFlags := 18, nameIndex := 5, descriptorIndex := 6, attributes := #[] }, { accessFlags := 18, nameIndex := 9, descriptorIndex := 10, attributes := #[] }, { accessFlags := 2, nameIndex := 19, descriptorIndex := 10, attributes := #[] }])
  fields := #[{ name := "name", type := (.object "java/lang/String"), accessFlags := 18, slot := 0, constantValue := 0 }, { name := "ordinal", type := .int, accessFlags := 18, slot := 1, constantValue := 0 }, { name := "hash", type := .int, accessFlags := 2, slot := 2, constantValue := 0 }]
  methods := #[]
  instanceTypes := #[(.object "java/lang/String"), .int, .int]
  staticTypes := #[]
  resolved := Array.replicate 204 none
  statics := none }

def pool6 : Array CpInfo := pool [(1, .class_ 2), (0, u "com/example/live_rbac/liverbac/ProcessOperation"), (2, u "CHANGE_PROCESS"), (0, u "Lcom/example/live_rbac/liverbac/ProcessOperation;"), (2, u "PROCESS_TYPE_CHANGE"), (2, u "PROCESS_INSTANCE_CHANGE"), (2, u "NEW_PROCESS_INSTANCE_CHANGE"), (2, u "REUSE_EXISTING_PROCESS_INSTANCE_CHANGE"), (2, u "CREATE_SCHEMA"), (2, u "EXECUTE_ACTIVITY"), (2, u "GRANT_PRIVILEGE"), (2, u "INSTANTIATE_SCHEMA"), (2, u "MONITOR_PROCESS_INSTANCE"), (2, u "NOTIFY_USER"), (2, u "$VALUES"), (0, u "[Lcom/example/live_rbac/liverbac/ProcessOperation;"), (6, .class_ 49), (1, u "java/lang/Enum"), (8, u "word"), (0, u "Ljava/lang/String;"), (0, .fieldref 1 61), (0, .nameAndType 62 6), (0, u "parent"), (8, u "kinds"), (0, u "Ljava/util/Set;"), (10, .methodref 1 84), (0, .nameAndType 85 86), (0, u "includes"), (0, u "(Lcom/example/live_rbac/liverbac/ProcessOperation;)Z")] 108

def k6c0 : Code := { maxStack := 2, maxLocals := 2, code := prog_25_method_5_code, exceptionTable := #[], attributes := #[] }
def k6m0 : Method := { name := "includes", desc := "(Lcom/example/live_rbac/liverbac/ProcessOperation;)Z", sig := { parameters := [(.object "com/example/live_rbac/liverbac/ProcessOperation")], returnType := some .boolean }, accessFlags := 1, code := some k6c0 }
/-- com/example/live_rbac/liverbac/ProcessOperation -/
def k6 : Class := { plain "com/example/live_rbac/liverbac/ProcessOperation" (some 5) with
  accessFlags := 16433
  interfaces := #[]
  cf := some (fileOf pool6 1 #[] #[{ accessFlags := 1, nameIndex := 85, descriptorIndex := 86, attributes := #[] }] 16433 47 #[] #[{ accessFlags := 16409, nameIndex := 5, descriptorIndex := 6, attributes := #[] }, { accessFlags := 16409, nameIndex := 9, descriptorIndex := 6, attributes := #[] }, { accessFlags := 16409, nameIndex := 12, descriptorIndex := 6, attributes := #[] }, { accessFlags := 16409, nameIndex := 15, descriptorIndex := 6, attributes := #[] }, { accessFlags := 16409, nameIndex := 18, descriptorIndex := 6, attributes := #[] }, { accessFlags := 16409, nameIndex := 21, descriptorIndex := 6, attributes := #[] }, { accessFlags := 16409, nameIndex := 24, descriptorIndex := 6, attributes := #[] }, { accessFlags := 16409, nameIndex := 27, descriptorIndex := 6, attributes := #[] }, { accessFlags := 16409, nameIndex := 30, descriptorIndex := 6, attributes := #[] }, { accessFlags := 16409, nameIndex := 33, descriptorIndex := 6, attributes := #[] }, { accessFlags := 16409, nameIndex := 36, descriptorIndex := 6, attributes := #[] }, { accessFlags := 18, nameIndex := 58, descriptorIndex := 59, attributes := #[] }, { accessFlags := 18, nameIndex := 62, descriptorIndex := 6, attributes := #[] }, { accessFlags := 18, nameIndex := 71, descriptorIndex := 72, attributes := #[] }, { accessFlags := 4122, nameIndex := 39, descriptorIndex := 40, attributes := #[] }])
  fields := #[{ name := "CHANGE_PROCESS", type := (.object "com/example/live_rbac/liverbac/ProcessOperation"), accessFlags := 16409, slot := 0, constantValue := 0 }, { name := "PROCESS_TYPE_CHANGE", type := (.object "com/example/live_rbac/liverbac/ProcessOperation"), accessFlags := 16409, slot := 1, constantValue := 0 }, { name := "PROCESS_INSTANCE_CHANGE", type := (.object "com/example/live_rbac/liverbac/ProcessOperation"), accessFlags := 16409, slot := 2, constantValue := 0 }, { name := "NEW_PROCESS_INSTANCE_CHANGE", type := (.object "com/example/live_rbac/liverbac/ProcessOperation"), accessFlags := 16409, slot := 3, constantValue := 0 }, { name := "REUSE_EXISTING_PROCESS_INSTANCE_CHANGE", type := (.object "com/example/live_rbac/liverbac/ProcessOperation"), accessFlags := 16409, slot := 4, constantValue := 0 }, { name := "CREATE_SCHEMA", type := (.object "com/example/live_rbac/liverbac/ProcessOperation"), accessFlags := 16409, slot := 5, constantValue := 0 }, { name := "EXECUTE_ACTIVITY", type := (.object "com/example/live_rbac/liverbac/ProcessOperation"), accessFlags := 16409, slot := 6, constantValue := 0 }, { name := "GRANT_PRIVILEGE", type := (.object "com/example/live_rbac/liverbac/ProcessOperation"), accessFlags := 16409, slot := 7, constantValue := 0 }, { name := "INSTANTIATE_SCHEMA", type := (.object "com/example/live_rbac/liverbac/ProcessOperation"), accessFlags := 16409, slot := 8, constantValue := 0 }, { name := "MONITOR_PROCESS_INSTANCE", type := (.object "com/example/live_rbac/liverbac/ProcessOperation"), accessFlags := 16409, slot := 9, constantValue := 0 }, { name := "NOTIFY_USER", type := (.object "com/example/live_rbac/liverbac/ProcessOperation"), accessFlags := 16409, slot := 10, constantValue := 0 }, { name := "word", type := (.object "java/lang/String"), accessFlags := 18, slot := 3, constantValue := 0 }, { name := "parent", type := (.object "com/example/live_rbac/liverbac/ProcessOperation"), accessFlags := 18, slot := 4, constantValue := 0 }, { name := "kinds", type := (.object "java/util/Set"), accessFlags := 18, slot := 5, constantValue := 0 }, { name := "$VALUES", type := (.array (.object "com/example/live_rbac/liverbac/ProcessOperation")), accessFlags := 4122, slot := 11, constantValue := 0 }]
  methods := #[k6m0]
  instanceTypes := #[(.object "java/lang/String"), .int, .int, (.object "java/lang/String"), (.object "com/example/live_rbac/liverbac/ProcessOperation"), (.object "java/util/Set")]
  staticTypes := #[(.object "com/example/live_rbac/liverbac/ProcessOperation"), (.object "com/example/live_rbac/liverbac/ProcessOperation"), (.object "com/example/live_rbac/liverbac/ProcessOperation"), (.object "com/example/live_rbac/liverbac/ProcessOperation"), (.object "com/example/live_rbac/liverbac/ProcessOperation"), (.object "com/example/live_rbac/liverbac/ProcessOperation"), (.object "com/example/live_rbac/liverbac/ProcessOperation"), (.object "com/example/live_rbac/liverbac/ProcessOperation"), (.object "com/example/live_rbac/liverbac/ProcessOperation"), (.object "com/example/live_rbac/liverbac/ProcessOperation"), (.object "com/example/live_rbac/liverbac/ProcessOperation"), (.array (.object "com/example/live_rbac/liverbac/ProcessOperation"))]
  resolved := Array.replicate 195 none
  statics := some 0 }

def pool7 : Array CpInfo := pool [(1, u "java/lang/Cloneable"), (0, .class_ 1), (0, u "java/lang/Object"), (0, .class_ 3)] 3

/-- java/lang/Cloneable -/
def k7 : Class := { plain "java/lang/Cloneable" (some 0) with
  accessFlags := 1537
  interfaces := #[]
  cf := some (fileOf pool7 2 #[] #[] 1537 4 #[] #[])
  fields := #[]
  methods := #[]
  instanceTypes := #[]
  staticTypes := #[]
  resolved := Array.replicate 8 none
  statics := none }

/-- the primitive byte -/
def k8 : Class := { plain "byte" none with kind := .primitive 'B', accessFlags := 0x411 }
/-- [B -/
def k9 : Class := { plain "[B" (some 0) with kind := .array 8 .byte, interfaces := #[7, 4], accessFlags := 1041 }

def heap : Heap := #[{ cls := 6, slots := #[.ref 1, .ref 4, .ref 3, .ref 2, .ref 11, .ref 7, .ref 8, .ref 10, .ref 9, .ref 5, .ref 6, .null], vm := .statics 6 },
  { cls := 6, slots := #[.null, .int 0, .int 0, .null, .null, .null], vm := .none },
  { cls := 6, slots := #[.null, .int 3, .int 0, .null, .ref 3, .null], vm := .none },
  { cls := 6, slots := #[.null, .int 2, .int 0, .null, .ref 1, .null], vm := .none },
  { cls := 6, slots := #[.null, .int 1, .int 0, .null, .ref 1, .null], vm := .none },
  { cls := 6, slots := #[.null, .int 9, .int 0, .null, .null, .null], vm := .none },
  { cls := 6, slots := #[.null, .int 10, .int 0, .null, .null, .null], vm := .none },
  { cls := 6, slots := #[.null, .int 5, .int 0, .null, .null, .null], vm := .none },
  { cls := 6, slots := #[.null, .int 6, .int 0, .null, .null, .null], vm := .none },
  { cls := 6, slots := #[.null, .int 8, .int 0, .null, .null, .null], vm := .none },
  { cls := 6, slots := #[.null, .int 7, .int 0, .null, .null, .null], vm := .none },
  { cls := 6, slots := #[.null, .int 4, .int 0, .null, .ref 3, .null], vm := .none }]
def classes : Array Class := #[k0, k1, k2, k3, k4, k5, k6, k7, k8, k9]
def interned : List (Array UInt16 × Addr) := []
def slotsUsed : Nat := 78
def theMethod : MethodId := ⟨1, 1⟩
def args0 : Array Value := #[.int 5, .int 4]
def aboutOver (below : List Frame) : State where
  vm := { classes := classes, interned := interned.toArray }
  heap := heap
  slotsUsed := slotsUsed
  threads := #[{ frames := .invoking theMethod args0 :: below }]
def below0 : List Frame := [.native { method := ⟨0, 0⟩, args := #[] }]
def about1 : State := aboutOver below0
def p0 : Program := .bare "" "" ""
def e0 : Env := launch0.env 0 0 0
theorem w_frames : about1.frames = Frame.invoking theMethod args0 :: below0 := rfl
set_option maxRecDepth 65536 in
theorem w_args : argsFit about1.vm theMethod args0 = true := by decide +kernel
set_option maxRecDepth 65536 in
theorem w_heap : heapFits about1 = true := by decide +kernel
set_option maxRecDepth 65536 in
theorem w_runnable : about1.curStatus? = some .runnable := by decide +kernel
set_option maxRecDepth 65536 in
theorem w_alone : about1.alone = true := by decide +kernel
set_option maxRecDepth 65536 in
theorem w_named : about1.methodNamed? x = some theMethod := by decide +kernel
set_option maxRecDepth 65536 in
theorem w_hears : about1.hears theMethod below0 = true := by decide +kernel
set_option maxRecDepth 65536 in
theorem w_ripe : about1.ripe theMethod args0 below0 = true := by decide +kernel
theorem w_running : about1.status = .running := rfl
set_option maxRecDepth 65536 in
theorem w_room : about1.hasRoom e0.platform room_1 = true :=
  launch0.hasRoom_least _ room_1 (by decide +kernel) (by decide +kernel) (by decide +kernel) (by decide +kernel) (by decide +kernel) (by decide +kernel)
theorem allAtoms_all (ts : List Jvm.Cond) (a : Array Jvm.Value) (st : Jvm.State) : (allAtoms ts).before a st = ts.all (fun c => c.before a st) := by
  induction ts with
  | nil => rfl
  | cons c t ih =>
    show (Jvm.Cond.and c (allAtoms t)).before a st = _
    rw [Jvm.Cond.before_and, ih, List.all_cons]
def words1 : List Jvm.Cond := Jvm.Cond.code x code maxLocals ret :: tables_1
/-- a 'code' word, met by the world's own term for the bytes: nothing is compared byte by byte -/
theorem code_word {y : MethodName} {bytes : ByteArray} {mx : Nat} {rt : Option FieldType} {a : Array Value} {s : State} {m : MethodId} {meth : Method} {c : Code} (h1 : s.methodNamed? y = some m) (h2 : s.vm.method? m = some meth) (h3 : meth.code = some c) (h4 : c.code = bytes)
    (h5 : (c.maxLocals == mx && c.exceptionTable.isEmpty && decide (c.maxStack ≤ mostOperands) && decide (meth.sig.returnType = rt) && !meth.locks && decide (parseMethodDescriptor y.desc = some meth.sig)) = true) : (Jvm.Cond.code y bytes mx rt).before a s = true := by
  simp only [Bool.and_eq_true, beq_iff_eq, Bool.not_eq_true', decide_eq_true_eq] at h5
  obtain ⟨⟨⟨⟨⟨g1, g2⟩, g3⟩, g4⟩, g5⟩, g6⟩ := h5
  simp [Cond.before, Cond.holds, Cond.value, h1, h2, h3, h4, g1, g2, g3, g4, g5, g6]
def isCode : Jvm.Cond → Bool
  | .code _ _ _ _ => true
  | _ => false
theorem all_split {L : List Jvm.Cond} {P : Jvm.Cond → Bool} (h1 : L.all (fun c => isCode c || P c) = true) (h2 : ∀ c ∈ L.filter isCode, P c = true) : L.all P = true := by
  refine List.all_eq_true.mpr fun c hc => ?_
  have h := List.all_eq_true.mp h1 c hc
  rcases Bool.eq_false_or_eq_true (isCode c) with hi | hi
  · exact h2 c (List.mem_filter.mpr ⟨hc, hi⟩)
  · simpa [hi] using h
set_option maxRecDepth 65536 in
theorem w_c0 : (Jvm.Cond.code x code maxLocals ret).before args0 about1 = true := code_word (m := ⟨1, 1⟩) (meth := k1m1) (c := k1c1) (by decide +kernel) rfl rfl rfl (by decide +kernel)
set_option maxRecDepth 65536 in
theorem w_c1 : (Jvm.Cond.code ({ cls := "com/example/live_rbac/liverbac/ProcessOperationIncludesPinLaw", name := "op", desc := "(I)Lcom/example/live_rbac/liverbac/ProcessOperation;" } : Jvm.MethodName) method_3_code (1 : Nat) (Option.some (Jvm.ClassFile.FieldType.object "com/example/live_rbac/liverbac/ProcessOperation"))).before args0 about1 = true := code_word (m := ⟨1, 2⟩) (meth := k1m2) (c := k1c2) (by decide +kernel) rfl rfl rfl (by decide +kernel)
set_option maxRecDepth 65536 in
theorem w_c2 : (Jvm.Cond.code ({ cls := "com/example/live_rbac/liverbac/ProcessOperation", name := "includes", desc := "(Lcom/example/live_rbac/liverbac/ProcessOperation;)Z" } : Jvm.MethodName) prog_25_method_5_code (2 : Nat) (Option.some Jvm.ClassFile.FieldType.boolean)).before args0 about1 = true := code_word (m := ⟨6, 0⟩) (meth := k6m0) (c := k6c0) (by decide +kernel) rfl rfl rfl (by decide +kernel)
def codes1 : List Jvm.Cond := [Jvm.Cond.code x code maxLocals ret, Jvm.Cond.code ({ cls := "com/example/live_rbac/liverbac/ProcessOperationIncludesPinLaw", name := "op", desc := "(I)Lcom/example/live_rbac/liverbac/ProcessOperation;" } : Jvm.MethodName) method_3_code (1 : Nat) (Option.some (Jvm.ClassFile.FieldType.object "com/example/live_rbac/liverbac/ProcessOperation")), Jvm.Cond.code ({ cls := "com/example/live_rbac/liverbac/ProcessOperation", name := "includes", desc := "(Lcom/example/live_rbac/liverbac/ProcessOperation;)Z" } : Jvm.MethodName) prog_25_method_5_code (2 : Nat) (Option.some Jvm.ClassFile.FieldType.boolean)]
set_option maxRecDepth 65536 in
theorem codes_eq : words1.filter isCode = codes1 := rfl
theorem w_codes : ∀ c ∈ words1.filter isCode, c.before args0 about1 = true := by
  rw [codes_eq]
  intro c hc
  simp only [codes1, List.mem_cons, List.not_mem_nil, or_false] at hc
  rcases hc with rfl | rfl | rfl
  · exact w_c0
  · exact w_c1
  · exact w_c2
set_option maxRecDepth 65536 in
theorem w_t1 : (words1.take 24).all (fun c => isCode c || c.before args0 about1) = true := by decide +kernel
set_option maxRecDepth 65536 in
theorem w_t2 : (words1.drop 24).all (fun c => isCode c || c.before args0 about1) = true := by decide +kernel
theorem w_tables : (allAtoms (Jvm.Cond.code x code maxLocals ret :: tables_1)).before args0 about1 = true := by
  rw [allAtoms_all]
  show words1.all (fun c => c.before args0 about1) = true
  refine all_split ?_ w_codes
  rw [← List.take_append_drop 24 words1, List.all_append, w_t1, w_t2]
  rfl
set_option maxRecDepth 65536 in
theorem w_case : (Jvm.Cond.and given_1 narrow_1).before args0 about1 = true := by decide +kernel
theorem w_applies : (headSpec (Jvm.Cond.code x code maxLocals ret :: tables_1) room_1).applies x e0.platform about1 = true :=
  (Spec.applies_iff w_frames).mpr ⟨w_running, w_runnable, w_alone, w_named, w_hears, w_ripe, w_room, w_tables⟩
theorem atStart : AtStart classFile x code maxLocals ret World_1 tables_1 room_1 Calls_1 rest_1 Pre_1 launch0 p0 e0 about1 theMethod args0 below0 :=
  ⟨lists_1, trivial, launch0.admits_env _ _ _, launch0.least_env, fairChoices_fair.cas, fairChoices_fair.clock, w_frames, w_args, w_heap, w_applies, trivial, trivial, w_case⟩
end start1
theorem witness_1 : WitnessClaimed_1 := ⟨start1.p0, start1.e0, start1.about1, start1.theMethod, start1.args0, start1.below0, start1.atStart⟩
end Jvm.Pilot.@@N@@
