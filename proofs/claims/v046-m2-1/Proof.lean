import JvmDerived
import JvmDerived.Pilot.@@N@@Statement
import JvmDerived.Pilot.@@N@@Code
set_option linter.unusedVariables false
set_option linter.unusedSimpArgs false
namespace Jvm.RoadKit
open Sem ClassFile Op Lib Jvm.Stand Jvm.Free Jvm.LawKit
section New
variable {p : Program} {l : Launch} {e : Env} {R : Room} {s : State} {m : MethodId} {args : Array Value} {below : List Frame} {meth : Method} {c : Code} {T : State} {locs : List Loc} {cells slots : Nat}
theorem retI (X : Stand p l e R s m args below meth c T locs cells slots) (hx : p.tables.exec = Jvm.exec) {pc : Nat} {Ls : Array Slot} {z : Int32} {rest : List Value} (hret : meth.sig.returnType = some .int) (hd : decode c.code pc = .ok (.ireturn, 1)) {fs : List Frame}
    (hl : ∀ (f : JFrame) (acts : List Action), f.method = m → f.locked = none → f.entered = [] → (doReturn e (T.setTop f) acts (some (.int z))).1 = T.setFrames fs) : Steps p.tables e below (T.setTop (mkF m pc Ls (.int z :: rest))) (T.setFrames fs) :=
  retOut X hx hret rfl (Or.inl ⟨rfl, Or.inl rfl, z, rfl⟩) hd hl
end New
end Jvm.RoadKit
namespace Jvm.Pilot.@@N@@
open Jvm Jvm.ClassFile Sem Op Lib Jvm.Free Jvm.Stand Jvm.LawKit Jvm.RoadKit Bundle Jvm.Pilot.@@N@@.Jvm.D
theorem ow {d : Jvm.Cond} (i : Nat) (h : tables_1[i]? = some d) : d ∈ tables_1 := List.mem_of_getElem? h
/-- what a body that only reads leaves: its answer, nothing written, the heap as it was -/
def own_Q (r : Option Value) (h0 : Heap) (n0 : Nat) (v : Option Value) (h : Heap) (L : List Loc) : Prop := v = r ∧ Fr n0 L ∧ h = h0
section OwnWords
variable {args : Array Value} {first s : State} {o : Option Outcome} {idx : List Nat} {a b : Term}
theorem own_eqI {k : Int32} (h : (Jvm.Cond.eq a (.int k)).value args first o s idx = some true) : a.eval args first o idx s = some (.int k) := by
  obtain ⟨x, y, hx, hy, k1, -⟩ := cmp_v (r := true) (Or.inl h)
  have hy' : y = .int k := (Option.some.inj hy).symm
  subst hy'
  cases x <;> simp [Kin, Value.isRef] at k1
  simp [Jvm.Cond.value, hx, Term.eval] at h
  rw [hx, h]
theorem own_eqR {y : Addr} (h : (Jvm.Cond.eq a b).value args first o s idx = some true) (hb : b.eval args first o idx s = some (.ref y)) : a.eval args first o idx s = some (.ref y) := by
  obtain ⟨x, z, hx, hy, k1, -⟩ := cmp_v (r := true) (Or.inl h)
  cases hb.symm.trans hy
  cases x <;> simp [Kin, Value.isRef] at k1
  · simp [Jvm.Cond.value, hx, hb] at h
  · simp [Jvm.Cond.value, hx, hb] at h
    rw [hx, h]
theorem own_len {y : Addr} {c : Cell} {n : Int32} (h : (Term.length a).eval args first o idx s = some (.int n)) (ht : a.eval args first o idx s = some (.ref y)) (hc : s.heap[y]? = some c) : (c.slots.size : Int) = n.toInt := by
  simp only [Term.eval, Option.bind_eq_bind, ht, Option.bind_some] at h
  obtain ⟨cell, hcell, h⟩ := Option.bind_eq_some_iff.mp h
  cases hc.symm.trans (State.arrayAt?_spec hcell).1
  by_cases hn : c.slots.size < 2147483648
  · rw [if_pos hn] at h; cases h; exact (len_toInt hn).symm
  · rw [if_neg hn] at h; cases h
end OwnWords
/-- an array that stands in the heap, with all that lies in it -/
def own_Arr (Z : State) (h : Heap) (a : Addr) (ty : FieldType) (vs : List Value) : Prop := ∃ c : Cell, Arr Z h a c ty ∧ c.slots = vs.toArray
/-- what a law leaves that makes arrays of its own -/
def own_QH (r : Option Value) (n0 : Nat) (v : Option Value) (h : Heap) (L : List Loc) : Prop := v = r ∧ Fr n0 L ∧ True
/-- the same of an array whose class is known -/
def own_ArrK (Z : State) (h : Heap) (a : Addr) (k : ClassId) (ty : FieldType) (vs : List Value) : Prop := ∃ c : Cell, Arr Z h a c ty ∧ c.cls = k ∧ c.slots = vs.toArray
section OwnArr
variable {Z : State} {h0 h h' : Heap} {a b : Addr} {k : ClassId} {ty : FieldType} {vs : List Value} {v : Value} {sl : Nat} {c : Cell}
theorem own_Arr.ext (F : own_Arr Z h a ty vs) (E : Ext h h') : own_Arr Z h' a ty vs := by obtain ⟨c, A, r⟩ := F; exact ⟨c, A.ext E, r⟩
theorem own_ArrK.lt (F : own_ArrK Z h a k ty vs) : a < h.size := by obtain ⟨c, A, -⟩ := F; exact A.lt
theorem own_ArrK.ext (F : own_ArrK Z h a k ty vs) (E : Ext h h') : own_ArrK Z h' a k ty vs := by obtain ⟨c, A, r⟩ := F; exact ⟨c, A.ext E, r⟩
theorem own_ArrK.other (F : own_ArrK Z h b k ty vs) (W : Wr h h' a sl v) (q : b ≠ a) : own_ArrK Z h' b k ty vs := by obtain ⟨c, A, r⟩ := F; exact ⟨c, A.other W q, r⟩
theorem own_set (W : Wr h h' a sl v) (A : Arr Z h a c ty) (q : c.cls = k) (e : c.slots = vs.toArray) : own_ArrK Z h' a k ty (vs.set sl v) := ⟨_, A.same W, q, by simp [Cell.setSlot, e]⟩
theorem own_inb {j : Int32} (n : Nat) (e : c.slots = vs.toArray) (hl : vs.length = n) (h0 : ¬ j < 0) (h1 : j.toNatClampNeg < n) : ¬ (j < 0 ∨ c.slots.size ≤ j.toNatClampNeg) := by
  rw [e]
  rintro (h | h)
  · exact h0 h
  · simp at h; omega
theorem own_get {j : Int32} (e : c.slots = vs.toArray) (hj : ¬ j < 0) (q : vs[j.toNatClampNeg]? = some v) : (¬ (j < 0 ∨ c.slots.size ≤ j.toNatClampNeg)) ∧ c.slots[j.toNatClampNeg]? = some v := by
  have hl := (List.getElem?_eq_some_iff.mp q).1
  rw [e]
  refine ⟨?_, by simpa using q⟩
  rintro (h | h)
  · exact hj h
  · simp at h; omega
theorem own_ext_trans {h'' : Heap} (E : Ext h h') (E' : Ext h' h'') : Ext h h'' := ⟨Nat.le_trans E.1 E'.1, fun x y q => E'.2 x y (E.2 x y q)⟩
theorem own_ext_wr (E : Ext h0 h) (W : Wr h h' a sl v) (q : h0.size ≤ a) : Ext h0 h' := by
  refine ⟨Nat.le_trans E.1 (Nat.le_of_eq W.size.symm), fun x y hx => ?_⟩
  have hlt := (Array.getElem?_eq_some_iff.mp hx).1
  obtain ⟨c', e1, -, -, -, e5, -⟩ := wr_at W (E.2 x y hx)
  rw [← e5 (Nat.ne_of_lt (Nat.lt_of_lt_of_le hlt q))]; exact e1
theorem own_ext_keep (E : Ext h0 h) (K : Keep h h' [a]) (q : h0.size ≤ a) : Ext h0 h' := ⟨Nat.le_trans E.1 K.1, fun x y hx => K.2.1 x y (E.2 x y hx) (ninS (Nat.ne_of_lt (Nat.lt_of_lt_of_le (Array.getElem?_eq_some_iff.mp hx).1 q)) nin0)⟩
end OwnArr
def own_K (Z : State) (h : Heap) (w_EQUAL w_NOT_EQUAL w_LESS w_LESS_OR_EQUAL w_GREATER w_GREATER_OR_EQUAL : Addr) : Prop := Sta Z h "com/example/cairn/cairn/expr/Comparison$Operator" "EQUAL" "Lcom/example/cairn/cairn/expr/Comparison$Operator;" (.ref w_EQUAL) ∧ Exa Z h w_EQUAL "com/example/cairn/cairn/expr/Comparison$Operator" ∧ Fld Z h w_EQUAL "java/lang/Enum" "ordinal" "I" (.int (0 : Int32)) ∧ Sta Z h "com/example/cairn/cairn/expr/Comparison$Operator" "NOT_EQUAL" "Lcom/example/cairn/cairn/expr/Comparison$Operator;" (.ref w_NOT_EQUAL) ∧ Exa Z h w_NOT_EQUAL "com/example/cairn/cairn/expr/Comparison$Operator" ∧ Fld Z h w_NOT_EQUAL "java/lang/Enum" "ordinal" "I" (.int (1 : Int32)) ∧ Sta Z h "com/example/cairn/cairn/expr/Comparison$Operator" "LESS" "Lcom/example/cairn/cairn/expr/Comparison$Operator;" (.ref w_LESS) ∧ Exa Z h w_LESS "com/example/cairn/cairn/expr/Comparison$Operator" ∧ Fld Z h w_LESS "java/lang/Enum" "ordinal" "I" (.int (2 : Int32)) ∧ Sta Z h "com/example/cairn/cairn/expr/Comparison$Operator" "LESS_OR_EQUAL" "Lcom/example/cairn/cairn/expr/Comparison$Operator;" (.ref w_LESS_OR_EQUAL) ∧ Exa Z h w_LESS_OR_EQUAL "com/example/cairn/cairn/expr/Comparison$Operator" ∧ Fld Z h w_LESS_OR_EQUAL "java/lang/Enum" "ordinal" "I" (.int (3 : Int32)) ∧ Sta Z h "com/example/cairn/cairn/expr/Comparison$Operator" "GREATER" "Lcom/example/cairn/cairn/expr/Comparison$Operator;" (.ref w_GREATER) ∧ Exa Z h w_GREATER "com/example/cairn/cairn/expr/Comparison$Operator" ∧ Fld Z h w_GREATER "java/lang/Enum" "ordinal" "I" (.int (4 : Int32)) ∧ Sta Z h "com/example/cairn/cairn/expr/Comparison$Operator" "GREATER_OR_EQUAL" "Lcom/example/cairn/cairn/expr/Comparison$Operator;" (.ref w_GREATER_OR_EQUAL) ∧ Exa Z h w_GREATER_OR_EQUAL "com/example/cairn/cairn/expr/Comparison$Operator" ∧ Fld Z h w_GREATER_OR_EQUAL "java/lang/Enum" "ordinal" "I" (.int (5 : Int32))
theorem d_jdk_37_method_2_0 : decode jdk_37_method_2_code 0 = .ok (.aload_n 0, 1) := by decide +kernel
theorem d_jdk_37_method_2_1 : decode jdk_37_method_2_code 1 = .ok (.getfield 7, 3) := by decide +kernel
theorem d_jdk_37_method_2_4 : decode jdk_37_method_2_code 4 = .ok (.ireturn, 1) := by decide +kernel
theorem pn_0 : plainName "java/lang/Enum" = true := by first | (simp [plainName, overriddenIn]; done) | decide +kernel
theorem ef_ordinal (m : MethodId) (x0 : Addr) : entryFrame m #[(.ref x0)] 1 = mkF m 0 #[.val (.ref x0)] [] := by first | (simp [entryFrame, mkF, argsToLocals, Value.category]; done) | rfl
set_option maxRecDepth 65536 in
set_option maxHeartbeats 40000000 in
theorem rm_ordinal (l : Launch) (Z : State) (a0 : Array Value) (hw : ∀ d ∈ tables_1, d.before a0 Z = true) (ws : List Jvm.Cond) (a1 : Addr) (f_ordinal : Int32) (h0 : Heap) (n0 : Nat) (w_EQUAL w_NOT_EQUAL w_LESS w_LESS_OR_EQUAL w_GREATER w_GREATER_OR_EQUAL : Addr) (hK : own_K Z h0 w_EQUAL w_NOT_EQUAL w_LESS w_LESS_OR_EQUAL w_GREATER w_GREATER_OR_EQUAL) (F_ordinal : Fld Z h0 a1 "java/lang/Enum" "ordinal" "I" (.int f_ordinal)) :
    MetFree l (⟨"java/lang/Enum", "ordinal", "()I"⟩ : MethodName) (head1 (Jvm.Cond.code (⟨"java/lang/Enum", "ordinal", "()I"⟩ : MethodName) jdk_37_method_2_code 1 (some .int) :: ws) ({ frames := 0, cells := 0, slots := 0, locals := 0 } : Room)) (fun a U => a = #[(.ref a1)] ∧ Z.Warmed39 U.vm ∧ U.heap = h0) (fun _ _ _ _ _ => True) (fun _ U o U' => ∃ v L, o = .returned v ∧ own_Q (some (.int f_ordinal)) h0 n0 v U'.heap L ∧ FrameEnd U o U' L ({ frames := 0, cells := 0, slots := 0, locals := 0 } : Room).cells ({ frames := 0, cells := 0, slots := 0, locals := 0 } : Room).slots) := by
  refine MetFree.of_bodySF (plainFor_of_name pn_0) hisR ?_
  intro p e s m args below meth c s₁ Bd hml0 hP hK0
  obtain ⟨rfl, hZ, hh⟩ := hP
  have hx := Bd.exec
  have hby := Bd.bytes
  have hml : c.maxLocals = 1 := hml0
  have hown : s.vm.findClass "java/lang/Enum" = some m.cls := findClass_of_methodNamed Bd.named
  have hnm := (name_of_methodNamed Bd.named Bd.method).1
  have X0 : Stand p l e ({ frames := 0, cells := 0, slots := 0, locals := 0 } : Room) s m #[(.ref a1)] below meth c s₁ [] 0 0 := Stand.of_body Bd
  have e0 : s₁.heap = h0 := by rw [← hh, Bd.state]; rfl
  have N0 := Fr.nil n0
  have pre0 : ∀ t, Steps p.tables e below (s₁.setTop (mkF m 0 #[.val (.ref a1)] [])) t → Steps p.tables e below (s₁.setTop (entryFrame m #[(.ref a1)] 1)) t := fun t k => castTop (ef_ordinal m a1) k
  have hK' := hK
  obtain ⟨S_w_EQUAL, E_w_EQUAL, F_ordinal_w_EQUAL, S_w_NOT_EQUAL, E_w_NOT_EQUAL, F_ordinal_w_NOT_EQUAL, S_w_LESS, E_w_LESS, F_ordinal_w_LESS, S_w_LESS_OR_EQUAL, E_w_LESS_OR_EQUAL, F_ordinal_w_LESS_OR_EQUAL, S_w_GREATER, E_w_GREATER, F_ordinal_w_GREATER, S_w_GREATER_OR_EQUAL, E_w_GREATER_OR_EQUAL, F_ordinal_w_GREATER_OR_EQUAL⟩ := hK'
  obtain ⟨T1, X1, e1, st1⟩ := getF X0 hx hZ hown (host := "") (Or.inl (hw _ (ow 15 rfl))) Via.refl e0 F_ordinal (g := (mkF m 1 #[.val (.ref a1)] [(.ref a1)])) rfl rfl (hb hby d_jdk_37_method_2_1)
  have pre2 : ∀ t, Steps p.tables e below (T1.setTop (mkF m 4 #[.val (.ref a1)] [(.int f_ordinal)])) t → Steps p.tables e below (s₁.setTop (entryFrame m #[(.ref a1)] 1)) t := fun t k => pre0 t (by
    show Steps p.tables e below (s₁.setTop (mkF m 0 #[.val (.ref a1)] [])) _
    refine XS.aloadN X0.here hx rfl (hb hby d_jdk_37_method_2_0) rfl rfl ?_
    show Steps p.tables e below (s₁.setTop (mkF m 1 #[.val (.ref a1)] [(.ref a1)])) _
    refine st1 _ ?_
    exact k)
  obtain ⟨fs, hr, hrun, hended, hW, hsame⟩ := X1.leave (v := some (.int f_ordinal)) (fun h => by rw [Bd.returns] at h; cases h)
  refine ⟨_, _, pre2 _ ?_, hrun, hended, _, _, rfl, ?_, ⟨_, rfl⟩, hW, hsame.mono (by decide) (by decide)⟩
  · show Steps p.tables e below (T1.setTop (mkF m 4 #[.val (.ref a1)] [(.int f_ordinal)])) _
    exact retI X1 hx Bd.returns (hb hby d_jdk_37_method_2_4) hr
  · exact ⟨rfl, N0, e1⟩
theorem d_prog_75_method_4_0 : decode prog_75_method_4_code 0 = .ok (.aload_n 0, 1) := by decide +kernel
theorem d_prog_75_method_4_1 : decode prog_75_method_4_code 1 = .ok (.invokevirtual 41, 3) := by decide +kernel
theorem pd_0 : parseMethodDescriptor "()I" = some ⟨[], some .int⟩ := by decide +kernel
theorem d_prog_75_method_4_4 : decode prog_75_method_4_code 4 = .ok (.tableswitch 40 0 5 #[50, 62, 74, 86, 98, 110], 40) := by decide +kernel
theorem d_prog_75_method_4_54 : decode prog_75_method_4_code 54 = .ok (.iload_n 1, 1) := by decide +kernel
theorem d_prog_75_method_4_55 : decode prog_75_method_4_code 55 = .ok (.ifCond .ne 7, 3) := by decide +kernel
theorem d_prog_75_method_4_58 : decode prog_75_method_4_code 58 = .ok (.iconst 1, 1) := by decide +kernel
theorem d_prog_75_method_4_59 : decode prog_75_method_4_code 59 = .ok (.goto 64, 3) := by decide +kernel
theorem d_prog_75_method_4_123 : decode prog_75_method_4_code 123 = .ok (.ireturn, 1) := by decide +kernel
theorem d_prog_75_method_4_62 : decode prog_75_method_4_code 62 = .ok (.iconst 0, 1) := by decide +kernel
theorem d_prog_75_method_4_63 : decode prog_75_method_4_code 63 = .ok (.goto 60, 3) := by decide +kernel
theorem pn_1 : plainName "com/example/cairn/cairn/expr/Comparison$Operator" = true := by first | (simp [plainName, overriddenIn]; done) | decide +kernel
theorem ef_holds_EQUAL (m : MethodId) (x0 : Addr) (x1 : Int32) : entryFrame m #[(.ref x0), (.int x1)] 2 = mkF m 0 #[.val (.ref x0), .val (.int x1)] [] := by first | (simp [entryFrame, mkF, argsToLocals, Value.category]; done) | rfl
set_option maxRecDepth 65536 in
set_option maxHeartbeats 40000000 in
theorem rm_holds_EQUAL (l : Launch) (Z : State) (a0 : Array Value) (hw : ∀ d ∈ tables_1, d.before a0 Z = true) (ws : List Jvm.Cond) (p1 : Int32) (h0 : Heap) (n0 : Nat) (w_EQUAL w_NOT_EQUAL w_LESS w_LESS_OR_EQUAL w_GREATER w_GREATER_OR_EQUAL : Addr) (hK : own_K Z h0 w_EQUAL w_NOT_EQUAL w_LESS w_LESS_OR_EQUAL w_GREATER w_GREATER_OR_EQUAL) :
    MetFree l (⟨"com/example/cairn/cairn/expr/Comparison$Operator", "holds", "(I)Z"⟩ : MethodName) (head1 (Jvm.Cond.code (⟨"com/example/cairn/cairn/expr/Comparison$Operator", "holds", "(I)Z"⟩ : MethodName) prog_75_method_4_code 2 (some .boolean) :: ws) ({ frames := 1, cells := 0, slots := 0, locals := 12 } : Room)) (fun a U => a = #[(.ref w_EQUAL), (.int p1)] ∧ Z.Warmed39 U.vm ∧ U.heap = h0) (fun _ _ _ _ _ => True) (fun _ U o U' => ∃ v L, o = .returned v ∧ own_Q (some (.int (if p1 = (0 : Int32) then (1 : Int32) else (0 : Int32)))) h0 n0 v U'.heap L ∧ FrameEnd U o U' L ({ frames := 1, cells := 0, slots := 0, locals := 12 } : Room).cells ({ frames := 1, cells := 0, slots := 0, locals := 12 } : Room).slots) := by
  refine MetFree.of_bodySF (plainFor_of_name pn_1) hisR ?_
  intro p e s m args below meth c s₁ Bd hml0 hP hK0
  obtain ⟨rfl, hZ, hh⟩ := hP
  have hx := Bd.exec
  have hby := Bd.bytes
  have hml : c.maxLocals = 2 := hml0
  have hown : s.vm.findClass "com/example/cairn/cairn/expr/Comparison$Operator" = some m.cls := findClass_of_methodNamed Bd.named
  have hnm := (name_of_methodNamed Bd.named Bd.method).1
  have X0 : Stand p l e ({ frames := 1, cells := 0, slots := 0, locals := 12 } : Room) s m #[(.ref w_EQUAL), (.int p1)] below meth c s₁ [] 0 0 := Stand.of_body Bd
  have e0 : s₁.heap = h0 := by rw [← hh, Bd.state]; rfl
  have N0 := Fr.nil n0
  have pre0 : ∀ t, Steps p.tables e below (s₁.setTop (mkF m 0 #[.val (.ref w_EQUAL), .val (.int p1)] [])) t → Steps p.tables e below (s₁.setTop (entryFrame m #[(.ref w_EQUAL), (.int p1)] 2)) t := fun t k => castTop (ef_holds_EQUAL m w_EQUAL p1) k
  have hK' := hK
  obtain ⟨S_w_EQUAL, E_w_EQUAL, F_ordinal_w_EQUAL, S_w_NOT_EQUAL, E_w_NOT_EQUAL, F_ordinal_w_NOT_EQUAL, S_w_LESS, E_w_LESS, F_ordinal_w_LESS, S_w_LESS_OR_EQUAL, E_w_LESS_OR_EQUAL, F_ordinal_w_LESS_OR_EQUAL, S_w_GREATER, E_w_GREATER, F_ordinal_w_GREATER, S_w_GREATER_OR_EQUAL, E_w_GREATER_OR_EQUAL, F_ordinal_w_GREATER_OR_EQUAL⟩ := hK'
  obtain ⟨cq1, kq1, q1a, q1b, q1c⟩ := isOf hZ e0 E_w_EQUAL
  obtain ⟨v1, _, ⟨T1, L1, k1, n1⟩, -, X1, ⟨Lc1, hQ1, l1, y1, z1⟩, st1⟩ := X0.virtualBackUp hx (x := (⟨"com/example/cairn/cairn/expr/Comparison$Operator", "ordinal", "()I"⟩ : MethodName)) (y := (⟨"java/lang/Enum", "ordinal", "()I"⟩ : MethodName)) (owner := "java/lang/Enum") hown (mvT hZ (hw _ (ow 8 rfl))) (mvT hZ (hw _ (ow 9 rfl))) (mvT hZ (hw _ (ow 10 rfl))) (by decide) (mvT hZ (hw _ (ow 12 rfl))) (mvT hZ (hw _ (ow 11 rfl))) (backOf (W := 0) (rm_ordinal l Z a0 hw [] w_EQUAL (0 : Int32) h0 n0 w_EQUAL w_NOT_EQUAL w_LESS w_LESS_OR_EQUAL w_GREATER w_GREATER_OR_EQUAL hK F_ordinal_w_EQUAL) hZ (hw _ (ow 14 rfl)) (hw _ (ow 13 rfl)) (by decide) (by decide)) q1a q1c (g := (mkF m 1 #[.val (.ref w_EQUAL), .val (.int p1)] [(.ref w_EQUAL)])) rfl (by rw [hml]; rfl) (Steps.refl _) (argsL := []) (rest := []) (lenOf pd_0 rfl) rfl (Nat.le_of_eq rfl) (hb hby d_prog_75_method_4_1) (fun _ _ => ⟨rfl, e0, (by decide : 0 + 0 ≤ _), (by decide : 0 + 0 ≤ _)⟩)
  dsimp only [Pt.U, Pt.locs, Pt.cells, Pt.slots] at X1 l1 y1 z1 st1 hQ1
  subst l1 y1 z1
  obtain ⟨hv1, Nq1, e1⟩ := hQ1
  obtain rfl : v1 = some (.int (0 : Int32)) := hv1
  have N1 := Fr.app N0 Nq1
  have pre3 : ∀ t, Steps p.tables e below (T1.setTop (mkF m 55 #[.val (.ref w_EQUAL), .val (.int p1)] [(.int p1)])) t → Steps p.tables e below (s₁.setTop (entryFrame m #[(.ref w_EQUAL), (.int p1)] 2)) t := fun t k => pre0 t (by
    show Steps p.tables e below (s₁.setTop (mkF m 0 #[.val (.ref w_EQUAL), .val (.int p1)] [])) _
    refine XS.aloadN X0.here hx rfl (hb hby d_prog_75_method_4_0) rfl rfl ?_
    show Steps p.tables e below (s₁.setTop (mkF m 1 #[.val (.ref w_EQUAL), .val (.int p1)] [(.ref w_EQUAL)])) _
    refine st1.trans ?_
    show Steps p.tables e below (T1.setTop (mkF m 4 #[.val (.ref w_EQUAL), .val (.int p1)] [(.int (0 : Int32))])) _
    refine XS.tswIn X1.here hx rfl (o := 50) (pc0 := 4) (pc' := 54) rfl (hb hby d_prog_75_method_4_4) rfl (by decide) (by decide) (by decide) (by decide) ?_
    show Steps p.tables e below (T1.setTop (mkF m 54 #[.val (.ref w_EQUAL), .val (.int p1)] [])) _
    refine XS.iloadN X1.here hx rfl (hb hby d_prog_75_method_4_54) rfl ?_
    exact k)
  by_cases hc55_2 : p1 = (0 : Int32)
  · have pre4 : ∀ t, Steps p.tables e below (T1.setTop (mkF m 123 #[.val (.ref w_EQUAL), .val (.int p1)] [(.int (1 : Int32))])) t → Steps p.tables e below (s₁.setTop (entryFrame m #[(.ref w_EQUAL), (.int p1)] 2)) t := fun t k => pre3 t (by
      show Steps p.tables e below (T1.setTop (mkF m 55 #[.val (.ref w_EQUAL), .val (.int p1)] [(.int p1)])) _
      refine XS.ifNo X1.here hx rfl (hb hby d_prog_75_method_4_55) rfl ((if0 _ _).trans (teq hc55_2).2) ?_
      show Steps p.tables e below (T1.setTop (mkF m 58 #[.val (.ref w_EQUAL), .val (.int p1)] [])) _
      refine XS.iconst X1.here hx rfl (hb hby d_prog_75_method_4_58) ?_
      show Steps p.tables e below (T1.setTop (mkF m 59 #[.val (.ref w_EQUAL), .val (.int p1)] [(.int (1 : Int32))])) _
      refine XS.goto X1.here hx rfl (pc0 := 59) (pc' := 123) rfl (hb hby d_prog_75_method_4_59) (by decide) (by decide) ?_
      exact k)
    obtain ⟨fs, hr, hrun, hended, hW, hsame⟩ := X1.leave (v := some (.int (1 : Int32))) (fun h => by rw [Bd.returns] at h; cases h)
    refine ⟨_, _, pre4 _ ?_, hrun, hended, _, _, rfl, ?_, ⟨_, rfl⟩, hW, hsame.mono (by decide) (by decide)⟩
    · show Steps p.tables e below (T1.setTop (mkF m 123 #[.val (.ref w_EQUAL), .val (.int p1)] [(.int (1 : Int32))])) _
      exact retN X1 hx (t := .boolean) Bd.returns (by simp) (hb hby d_prog_75_method_4_123) hr
    · exact ⟨congrArg (fun z => some (Value.int z)) (Eq.symm (if_pos hc55_2)), N1, e1⟩
  · have pre5 : ∀ t, Steps p.tables e below (T1.setTop (mkF m 123 #[.val (.ref w_EQUAL), .val (.int p1)] [(.int (0 : Int32))])) t → Steps p.tables e below (s₁.setTop (entryFrame m #[(.ref w_EQUAL), (.int p1)] 2)) t := fun t k => pre3 t (by
      show Steps p.tables e below (T1.setTop (mkF m 55 #[.val (.ref w_EQUAL), .val (.int p1)] [(.int p1)])) _
      refine XS.ifYes X1.here hx rfl (pc0 := 55) (pc' := 62) rfl (hb hby d_prog_75_method_4_55) rfl ((if0 _ _).trans (feq hc55_2).2) (by decide) (by decide) ?_
      show Steps p.tables e below (T1.setTop (mkF m 62 #[.val (.ref w_EQUAL), .val (.int p1)] [])) _
      refine XS.iconst X1.here hx rfl (hb hby d_prog_75_method_4_62) ?_
      show Steps p.tables e below (T1.setTop (mkF m 63 #[.val (.ref w_EQUAL), .val (.int p1)] [(.int (0 : Int32))])) _
      refine XS.goto X1.here hx rfl (pc0 := 63) (pc' := 123) rfl (hb hby d_prog_75_method_4_63) (by decide) (by decide) ?_
      exact k)
    obtain ⟨fs, hr, hrun, hended, hW, hsame⟩ := X1.leave (v := some (.int (0 : Int32))) (fun h => by rw [Bd.returns] at h; cases h)
    refine ⟨_, _, pre5 _ ?_, hrun, hended, _, _, rfl, ?_, ⟨_, rfl⟩, hW, hsame.mono (by decide) (by decide)⟩
    · show Steps p.tables e below (T1.setTop (mkF m 123 #[.val (.ref w_EQUAL), .val (.int p1)] [(.int (0 : Int32))])) _
      exact retN X1 hx (t := .boolean) Bd.returns (by simp) (hb hby d_prog_75_method_4_123) hr
    · exact ⟨congrArg (fun z => some (Value.int z)) (Eq.symm (if_neg hc55_2)), N1, e1⟩
theorem d_prog_75_method_4_66 : decode prog_75_method_4_code 66 = .ok (.iload_n 1, 1) := by decide +kernel
theorem d_prog_75_method_4_67 : decode prog_75_method_4_code 67 = .ok (.ifCond .eq 7, 3) := by decide +kernel
theorem d_prog_75_method_4_74 : decode prog_75_method_4_code 74 = .ok (.iconst 0, 1) := by decide +kernel
theorem d_prog_75_method_4_75 : decode prog_75_method_4_code 75 = .ok (.goto 48, 3) := by decide +kernel
theorem d_prog_75_method_4_70 : decode prog_75_method_4_code 70 = .ok (.iconst 1, 1) := by decide +kernel
theorem d_prog_75_method_4_71 : decode prog_75_method_4_code 71 = .ok (.goto 52, 3) := by decide +kernel
theorem ef_holds_NOT_EQUAL (m : MethodId) (x0 : Addr) (x1 : Int32) : entryFrame m #[(.ref x0), (.int x1)] 2 = mkF m 0 #[.val (.ref x0), .val (.int x1)] [] := by first | (simp [entryFrame, mkF, argsToLocals, Value.category]; done) | rfl
set_option maxRecDepth 65536 in
set_option maxHeartbeats 40000000 in
theorem rm_holds_NOT_EQUAL (l : Launch) (Z : State) (a0 : Array Value) (hw : ∀ d ∈ tables_1, d.before a0 Z = true) (ws : List Jvm.Cond) (p1 : Int32) (h0 : Heap) (n0 : Nat) (w_EQUAL w_NOT_EQUAL w_LESS w_LESS_OR_EQUAL w_GREATER w_GREATER_OR_EQUAL : Addr) (hK : own_K Z h0 w_EQUAL w_NOT_EQUAL w_LESS w_LESS_OR_EQUAL w_GREATER w_GREATER_OR_EQUAL) :
    MetFree l (⟨"com/example/cairn/cairn/expr/Comparison$Operator", "holds", "(I)Z"⟩ : MethodName) (head1 (Jvm.Cond.code (⟨"com/example/cairn/cairn/expr/Comparison$Operator", "holds", "(I)Z"⟩ : MethodName) prog_75_method_4_code 2 (some .boolean) :: ws) ({ frames := 1, cells := 0, slots := 0, locals := 12 } : Room)) (fun a U => a = #[(.ref w_NOT_EQUAL), (.int p1)] ∧ Z.Warmed39 U.vm ∧ U.heap = h0) (fun _ _ _ _ _ => True) (fun _ U o U' => ∃ v L, o = .returned v ∧ own_Q (some (.int (if p1 = (0 : Int32) then (0 : Int32) else (1 : Int32)))) h0 n0 v U'.heap L ∧ FrameEnd U o U' L ({ frames := 1, cells := 0, slots := 0, locals := 12 } : Room).cells ({ frames := 1, cells := 0, slots := 0, locals := 12 } : Room).slots) := by
  refine MetFree.of_bodySF (plainFor_of_name pn_1) hisR ?_
  intro p e s m args below meth c s₁ Bd hml0 hP hK0
  obtain ⟨rfl, hZ, hh⟩ := hP
  have hx := Bd.exec
  have hby := Bd.bytes
  have hml : c.maxLocals = 2 := hml0
  have hown : s.vm.findClass "com/example/cairn/cairn/expr/Comparison$Operator" = some m.cls := findClass_of_methodNamed Bd.named
  have hnm := (name_of_methodNamed Bd.named Bd.method).1
  have X0 : Stand p l e ({ frames := 1, cells := 0, slots := 0, locals := 12 } : Room) s m #[(.ref w_NOT_EQUAL), (.int p1)] below meth c s₁ [] 0 0 := Stand.of_body Bd
  have e0 : s₁.heap = h0 := by rw [← hh, Bd.state]; rfl
  have N0 := Fr.nil n0
  have pre0 : ∀ t, Steps p.tables e below (s₁.setTop (mkF m 0 #[.val (.ref w_NOT_EQUAL), .val (.int p1)] [])) t → Steps p.tables e below (s₁.setTop (entryFrame m #[(.ref w_NOT_EQUAL), (.int p1)] 2)) t := fun t k => castTop (ef_holds_NOT_EQUAL m w_NOT_EQUAL p1) k
  have hK' := hK
  obtain ⟨S_w_EQUAL, E_w_EQUAL, F_ordinal_w_EQUAL, S_w_NOT_EQUAL, E_w_NOT_EQUAL, F_ordinal_w_NOT_EQUAL, S_w_LESS, E_w_LESS, F_ordinal_w_LESS, S_w_LESS_OR_EQUAL, E_w_LESS_OR_EQUAL, F_ordinal_w_LESS_OR_EQUAL, S_w_GREATER, E_w_GREATER, F_ordinal_w_GREATER, S_w_GREATER_OR_EQUAL, E_w_GREATER_OR_EQUAL, F_ordinal_w_GREATER_OR_EQUAL⟩ := hK'
  obtain ⟨cq1, kq1, q1a, q1b, q1c⟩ := isOf hZ e0 E_w_NOT_EQUAL
  obtain ⟨v1, _, ⟨T1, L1, k1, n1⟩, -, X1, ⟨Lc1, hQ1, l1, y1, z1⟩, st1⟩ := X0.virtualBackUp hx (x := (⟨"com/example/cairn/cairn/expr/Comparison$Operator", "ordinal", "()I"⟩ : MethodName)) (y := (⟨"java/lang/Enum", "ordinal", "()I"⟩ : MethodName)) (owner := "java/lang/Enum") hown (mvT hZ (hw _ (ow 8 rfl))) (mvT hZ (hw _ (ow 9 rfl))) (mvT hZ (hw _ (ow 10 rfl))) (by decide) (mvT hZ (hw _ (ow 12 rfl))) (mvT hZ (hw _ (ow 11 rfl))) (backOf (W := 0) (rm_ordinal l Z a0 hw [] w_NOT_EQUAL (1 : Int32) h0 n0 w_EQUAL w_NOT_EQUAL w_LESS w_LESS_OR_EQUAL w_GREATER w_GREATER_OR_EQUAL hK F_ordinal_w_NOT_EQUAL) hZ (hw _ (ow 14 rfl)) (hw _ (ow 13 rfl)) (by decide) (by decide)) q1a q1c (g := (mkF m 1 #[.val (.ref w_NOT_EQUAL), .val (.int p1)] [(.ref w_NOT_EQUAL)])) rfl (by rw [hml]; rfl) (Steps.refl _) (argsL := []) (rest := []) (lenOf pd_0 rfl) rfl (Nat.le_of_eq rfl) (hb hby d_prog_75_method_4_1) (fun _ _ => ⟨rfl, e0, (by decide : 0 + 0 ≤ _), (by decide : 0 + 0 ≤ _)⟩)
  dsimp only [Pt.U, Pt.locs, Pt.cells, Pt.slots] at X1 l1 y1 z1 st1 hQ1
  subst l1 y1 z1
  obtain ⟨hv1, Nq1, e1⟩ := hQ1
  obtain rfl : v1 = some (.int (1 : Int32)) := hv1
  have N1 := Fr.app N0 Nq1
  have pre3 : ∀ t, Steps p.tables e below (T1.setTop (mkF m 67 #[.val (.ref w_NOT_EQUAL), .val (.int p1)] [(.int p1)])) t → Steps p.tables e below (s₁.setTop (entryFrame m #[(.ref w_NOT_EQUAL), (.int p1)] 2)) t := fun t k => pre0 t (by
    show Steps p.tables e below (s₁.setTop (mkF m 0 #[.val (.ref w_NOT_EQUAL), .val (.int p1)] [])) _
    refine XS.aloadN X0.here hx rfl (hb hby d_prog_75_method_4_0) rfl rfl ?_
    show Steps p.tables e below (s₁.setTop (mkF m 1 #[.val (.ref w_NOT_EQUAL), .val (.int p1)] [(.ref w_NOT_EQUAL)])) _
    refine st1.trans ?_
    show Steps p.tables e below (T1.setTop (mkF m 4 #[.val (.ref w_NOT_EQUAL), .val (.int p1)] [(.int (1 : Int32))])) _
    refine XS.tswIn X1.here hx rfl (o := 62) (pc0 := 4) (pc' := 66) rfl (hb hby d_prog_75_method_4_4) rfl (by decide) (by decide) (by decide) (by decide) ?_
    show Steps p.tables e below (T1.setTop (mkF m 66 #[.val (.ref w_NOT_EQUAL), .val (.int p1)] [])) _
    refine XS.iloadN X1.here hx rfl (hb hby d_prog_75_method_4_66) rfl ?_
    exact k)
  by_cases hc67_2 : p1 = (0 : Int32)
  · have pre4 : ∀ t, Steps p.tables e below (T1.setTop (mkF m 123 #[.val (.ref w_NOT_EQUAL), .val (.int p1)] [(.int (0 : Int32))])) t → Steps p.tables e below (s₁.setTop (entryFrame m #[(.ref w_NOT_EQUAL), (.int p1)] 2)) t := fun t k => pre3 t (by
      show Steps p.tables e below (T1.setTop (mkF m 67 #[.val (.ref w_NOT_EQUAL), .val (.int p1)] [(.int p1)])) _
      refine XS.ifYes X1.here hx rfl (pc0 := 67) (pc' := 74) rfl (hb hby d_prog_75_method_4_67) rfl ((if0 _ _).trans (teq hc67_2).1) (by decide) (by decide) ?_
      show Steps p.tables e below (T1.setTop (mkF m 74 #[.val (.ref w_NOT_EQUAL), .val (.int p1)] [])) _
      refine XS.iconst X1.here hx rfl (hb hby d_prog_75_method_4_74) ?_
      show Steps p.tables e below (T1.setTop (mkF m 75 #[.val (.ref w_NOT_EQUAL), .val (.int p1)] [(.int (0 : Int32))])) _
      refine XS.goto X1.here hx rfl (pc0 := 75) (pc' := 123) rfl (hb hby d_prog_75_method_4_75) (by decide) (by decide) ?_
      exact k)
    obtain ⟨fs, hr, hrun, hended, hW, hsame⟩ := X1.leave (v := some (.int (0 : Int32))) (fun h => by rw [Bd.returns] at h; cases h)
    refine ⟨_, _, pre4 _ ?_, hrun, hended, _, _, rfl, ?_, ⟨_, rfl⟩, hW, hsame.mono (by decide) (by decide)⟩
    · show Steps p.tables e below (T1.setTop (mkF m 123 #[.val (.ref w_NOT_EQUAL), .val (.int p1)] [(.int (0 : Int32))])) _
      exact retN X1 hx (t := .boolean) Bd.returns (by simp) (hb hby d_prog_75_method_4_123) hr
    · exact ⟨congrArg (fun z => some (Value.int z)) (Eq.symm (if_pos hc67_2)), N1, e1⟩
  · have pre5 : ∀ t, Steps p.tables e below (T1.setTop (mkF m 123 #[.val (.ref w_NOT_EQUAL), .val (.int p1)] [(.int (1 : Int32))])) t → Steps p.tables e below (s₁.setTop (entryFrame m #[(.ref w_NOT_EQUAL), (.int p1)] 2)) t := fun t k => pre3 t (by
      show Steps p.tables e below (T1.setTop (mkF m 67 #[.val (.ref w_NOT_EQUAL), .val (.int p1)] [(.int p1)])) _
      refine XS.ifNo X1.here hx rfl (hb hby d_prog_75_method_4_67) rfl ((if0 _ _).trans (feq hc67_2).1) ?_
      show Steps p.tables e below (T1.setTop (mkF m 70 #[.val (.ref w_NOT_EQUAL), .val (.int p1)] [])) _
      refine XS.iconst X1.here hx rfl (hb hby d_prog_75_method_4_70) ?_
      show Steps p.tables e below (T1.setTop (mkF m 71 #[.val (.ref w_NOT_EQUAL), .val (.int p1)] [(.int (1 : Int32))])) _
      refine XS.goto X1.here hx rfl (pc0 := 71) (pc' := 123) rfl (hb hby d_prog_75_method_4_71) (by decide) (by decide) ?_
      exact k)
    obtain ⟨fs, hr, hrun, hended, hW, hsame⟩ := X1.leave (v := some (.int (1 : Int32))) (fun h => by rw [Bd.returns] at h; cases h)
    refine ⟨_, _, pre5 _ ?_, hrun, hended, _, _, rfl, ?_, ⟨_, rfl⟩, hW, hsame.mono (by decide) (by decide)⟩
    · show Steps p.tables e below (T1.setTop (mkF m 123 #[.val (.ref w_NOT_EQUAL), .val (.int p1)] [(.int (1 : Int32))])) _
      exact retN X1 hx (t := .boolean) Bd.returns (by simp) (hb hby d_prog_75_method_4_123) hr
    · exact ⟨congrArg (fun z => some (Value.int z)) (Eq.symm (if_neg hc67_2)), N1, e1⟩
theorem d_prog_75_method_4_78 : decode prog_75_method_4_code 78 = .ok (.iload_n 1, 1) := by decide +kernel
theorem d_prog_75_method_4_79 : decode prog_75_method_4_code 79 = .ok (.ifCond .ge 7, 3) := by decide +kernel
theorem d_prog_75_method_4_82 : decode prog_75_method_4_code 82 = .ok (.iconst 1, 1) := by decide +kernel
theorem d_prog_75_method_4_83 : decode prog_75_method_4_code 83 = .ok (.goto 40, 3) := by decide +kernel
theorem d_prog_75_method_4_86 : decode prog_75_method_4_code 86 = .ok (.iconst 0, 1) := by decide +kernel
theorem d_prog_75_method_4_87 : decode prog_75_method_4_code 87 = .ok (.goto 36, 3) := by decide +kernel
theorem ef_holds_LESS (m : MethodId) (x0 : Addr) (x1 : Int32) : entryFrame m #[(.ref x0), (.int x1)] 2 = mkF m 0 #[.val (.ref x0), .val (.int x1)] [] := by first | (simp [entryFrame, mkF, argsToLocals, Value.category]; done) | rfl
set_option maxRecDepth 65536 in
set_option maxHeartbeats 40000000 in
theorem rm_holds_LESS (l : Launch) (Z : State) (a0 : Array Value) (hw : ∀ d ∈ tables_1, d.before a0 Z = true) (ws : List Jvm.Cond) (p1 : Int32) (h0 : Heap) (n0 : Nat) (w_EQUAL w_NOT_EQUAL w_LESS w_LESS_OR_EQUAL w_GREATER w_GREATER_OR_EQUAL : Addr) (hK : own_K Z h0 w_EQUAL w_NOT_EQUAL w_LESS w_LESS_OR_EQUAL w_GREATER w_GREATER_OR_EQUAL) :
    MetFree l (⟨"com/example/cairn/cairn/expr/Comparison$Operator", "holds", "(I)Z"⟩ : MethodName) (head1 (Jvm.Cond.code (⟨"com/example/cairn/cairn/expr/Comparison$Operator", "holds", "(I)Z"⟩ : MethodName) prog_75_method_4_code 2 (some .boolean) :: ws) ({ frames := 1, cells := 0, slots := 0, locals := 12 } : Room)) (fun a U => a = #[(.ref w_LESS), (.int p1)] ∧ Z.Warmed39 U.vm ∧ U.heap = h0) (fun _ _ _ _ _ => True) (fun _ U o U' => ∃ v L, o = .returned v ∧ own_Q (some (.int (if p1 < (0 : Int32) then (1 : Int32) else (0 : Int32)))) h0 n0 v U'.heap L ∧ FrameEnd U o U' L ({ frames := 1, cells := 0, slots := 0, locals := 12 } : Room).cells ({ frames := 1, cells := 0, slots := 0, locals := 12 } : Room).slots) := by
  refine MetFree.of_bodySF (plainFor_of_name pn_1) hisR ?_
  intro p e s m args below meth c s₁ Bd hml0 hP hK0
  obtain ⟨rfl, hZ, hh⟩ := hP
  have hx := Bd.exec
  have hby := Bd.bytes
  have hml : c.maxLocals = 2 := hml0
  have hown : s.vm.findClass "com/example/cairn/cairn/expr/Comparison$Operator" = some m.cls := findClass_of_methodNamed Bd.named
  have hnm := (name_of_methodNamed Bd.named Bd.method).1
  have X0 : Stand p l e ({ frames := 1, cells := 0, slots := 0, locals := 12 } : Room) s m #[(.ref w_LESS), (.int p1)] below meth c s₁ [] 0 0 := Stand.of_body Bd
  have e0 : s₁.heap = h0 := by rw [← hh, Bd.state]; rfl
  have N0 := Fr.nil n0
  have pre0 : ∀ t, Steps p.tables e below (s₁.setTop (mkF m 0 #[.val (.ref w_LESS), .val (.int p1)] [])) t → Steps p.tables e below (s₁.setTop (entryFrame m #[(.ref w_LESS), (.int p1)] 2)) t := fun t k => castTop (ef_holds_LESS m w_LESS p1) k
  have hK' := hK
  obtain ⟨S_w_EQUAL, E_w_EQUAL, F_ordinal_w_EQUAL, S_w_NOT_EQUAL, E_w_NOT_EQUAL, F_ordinal_w_NOT_EQUAL, S_w_LESS, E_w_LESS, F_ordinal_w_LESS, S_w_LESS_OR_EQUAL, E_w_LESS_OR_EQUAL, F_ordinal_w_LESS_OR_EQUAL, S_w_GREATER, E_w_GREATER, F_ordinal_w_GREATER, S_w_GREATER_OR_EQUAL, E_w_GREATER_OR_EQUAL, F_ordinal_w_GREATER_OR_EQUAL⟩ := hK'
  obtain ⟨cq1, kq1, q1a, q1b, q1c⟩ := isOf hZ e0 E_w_LESS
  obtain ⟨v1, _, ⟨T1, L1, k1, n1⟩, -, X1, ⟨Lc1, hQ1, l1, y1, z1⟩, st1⟩ := X0.virtualBackUp hx (x := (⟨"com/example/cairn/cairn/expr/Comparison$Operator", "ordinal", "()I"⟩ : MethodName)) (y := (⟨"java/lang/Enum", "ordinal", "()I"⟩ : MethodName)) (owner := "java/lang/Enum") hown (mvT hZ (hw _ (ow 8 rfl))) (mvT hZ (hw _ (ow 9 rfl))) (mvT hZ (hw _ (ow 10 rfl))) (by decide) (mvT hZ (hw _ (ow 12 rfl))) (mvT hZ (hw _ (ow 11 rfl))) (backOf (W := 0) (rm_ordinal l Z a0 hw [] w_LESS (2 : Int32) h0 n0 w_EQUAL w_NOT_EQUAL w_LESS w_LESS_OR_EQUAL w_GREATER w_GREATER_OR_EQUAL hK F_ordinal_w_LESS) hZ (hw _ (ow 14 rfl)) (hw _ (ow 13 rfl)) (by decide) (by decide)) q1a q1c (g := (mkF m 1 #[.val (.ref w_LESS), .val (.int p1)] [(.ref w_LESS)])) rfl (by rw [hml]; rfl) (Steps.refl _) (argsL := []) (rest := []) (lenOf pd_0 rfl) rfl (Nat.le_of_eq rfl) (hb hby d_prog_75_method_4_1) (fun _ _ => ⟨rfl, e0, (by decide : 0 + 0 ≤ _), (by decide : 0 + 0 ≤ _)⟩)
  dsimp only [Pt.U, Pt.locs, Pt.cells, Pt.slots] at X1 l1 y1 z1 st1 hQ1
  subst l1 y1 z1
  obtain ⟨hv1, Nq1, e1⟩ := hQ1
  obtain rfl : v1 = some (.int (2 : Int32)) := hv1
  have N1 := Fr.app N0 Nq1
  have pre3 : ∀ t, Steps p.tables e below (T1.setTop (mkF m 79 #[.val (.ref w_LESS), .val (.int p1)] [(.int p1)])) t → Steps p.tables e below (s₁.setTop (entryFrame m #[(.ref w_LESS), (.int p1)] 2)) t := fun t k => pre0 t (by
    show Steps p.tables e below (s₁.setTop (mkF m 0 #[.val (.ref w_LESS), .val (.int p1)] [])) _
    refine XS.aloadN X0.here hx rfl (hb hby d_prog_75_method_4_0) rfl rfl ?_
    show Steps p.tables e below (s₁.setTop (mkF m 1 #[.val (.ref w_LESS), .val (.int p1)] [(.ref w_LESS)])) _
    refine st1.trans ?_
    show Steps p.tables e below (T1.setTop (mkF m 4 #[.val (.ref w_LESS), .val (.int p1)] [(.int (2 : Int32))])) _
    refine XS.tswIn X1.here hx rfl (o := 74) (pc0 := 4) (pc' := 78) rfl (hb hby d_prog_75_method_4_4) rfl (by decide) (by decide) (by decide) (by decide) ?_
    show Steps p.tables e below (T1.setTop (mkF m 78 #[.val (.ref w_LESS), .val (.int p1)] [])) _
    refine XS.iloadN X1.here hx rfl (hb hby d_prog_75_method_4_78) rfl ?_
    exact k)
  by_cases hc79_2 : p1 < (0 : Int32)
  · have pre4 : ∀ t, Steps p.tables e below (T1.setTop (mkF m 123 #[.val (.ref w_LESS), .val (.int p1)] [(.int (1 : Int32))])) t → Steps p.tables e below (s₁.setTop (entryFrame m #[(.ref w_LESS), (.int p1)] 2)) t := fun t k => pre3 t (by
      show Steps p.tables e below (T1.setTop (mkF m 79 #[.val (.ref w_LESS), .val (.int p1)] [(.int p1)])) _
      refine XS.ifNo X1.here hx rfl (hb hby d_prog_75_method_4_79) rfl ((if0 _ _).trans (tlt hc79_2).2.1) ?_
      show Steps p.tables e below (T1.setTop (mkF m 82 #[.val (.ref w_LESS), .val (.int p1)] [])) _
      refine XS.iconst X1.here hx rfl (hb hby d_prog_75_method_4_82) ?_
      show Steps p.tables e below (T1.setTop (mkF m 83 #[.val (.ref w_LESS), .val (.int p1)] [(.int (1 : Int32))])) _
      refine XS.goto X1.here hx rfl (pc0 := 83) (pc' := 123) rfl (hb hby d_prog_75_method_4_83) (by decide) (by decide) ?_
      exact k)
    obtain ⟨fs, hr, hrun, hended, hW, hsame⟩ := X1.leave (v := some (.int (1 : Int32))) (fun h => by rw [Bd.returns] at h; cases h)
    refine ⟨_, _, pre4 _ ?_, hrun, hended, _, _, rfl, ?_, ⟨_, rfl⟩, hW, hsame.mono (by decide) (by decide)⟩
    · show Steps p.tables e below (T1.setTop (mkF m 123 #[.val (.ref w_LESS), .val (.int p1)] [(.int (1 : Int32))])) _
      exact retN X1 hx (t := .boolean) Bd.returns (by simp) (hb hby d_prog_75_method_4_123) hr
    · exact ⟨congrArg (fun z => some (Value.int z)) (Eq.symm (if_pos hc79_2)), N1, e1⟩
  · have pre5 : ∀ t, Steps p.tables e below (T1.setTop (mkF m 123 #[.val (.ref w_LESS), .val (.int p1)] [(.int (0 : Int32))])) t → Steps p.tables e below (s₁.setTop (entryFrame m #[(.ref w_LESS), (.int p1)] 2)) t := fun t k => pre3 t (by
      show Steps p.tables e below (T1.setTop (mkF m 79 #[.val (.ref w_LESS), .val (.int p1)] [(.int p1)])) _
      refine XS.ifYes X1.here hx rfl (pc0 := 79) (pc' := 86) rfl (hb hby d_prog_75_method_4_79) rfl ((if0 _ _).trans (flt hc79_2).2.1) (by decide) (by decide) ?_
      show Steps p.tables e below (T1.setTop (mkF m 86 #[.val (.ref w_LESS), .val (.int p1)] [])) _
      refine XS.iconst X1.here hx rfl (hb hby d_prog_75_method_4_86) ?_
      show Steps p.tables e below (T1.setTop (mkF m 87 #[.val (.ref w_LESS), .val (.int p1)] [(.int (0 : Int32))])) _
      refine XS.goto X1.here hx rfl (pc0 := 87) (pc' := 123) rfl (hb hby d_prog_75_method_4_87) (by decide) (by decide) ?_
      exact k)
    obtain ⟨fs, hr, hrun, hended, hW, hsame⟩ := X1.leave (v := some (.int (0 : Int32))) (fun h => by rw [Bd.returns] at h; cases h)
    refine ⟨_, _, pre5 _ ?_, hrun, hended, _, _, rfl, ?_, ⟨_, rfl⟩, hW, hsame.mono (by decide) (by decide)⟩
    · show Steps p.tables e below (T1.setTop (mkF m 123 #[.val (.ref w_LESS), .val (.int p1)] [(.int (0 : Int32))])) _
      exact retN X1 hx (t := .boolean) Bd.returns (by simp) (hb hby d_prog_75_method_4_123) hr
    · exact ⟨congrArg (fun z => some (Value.int z)) (Eq.symm (if_neg hc79_2)), N1, e1⟩
theorem d_prog_75_method_4_90 : decode prog_75_method_4_code 90 = .ok (.iload_n 1, 1) := by decide +kernel
theorem d_prog_75_method_4_91 : decode prog_75_method_4_code 91 = .ok (.ifCond .gt 7, 3) := by decide +kernel
theorem d_prog_75_method_4_98 : decode prog_75_method_4_code 98 = .ok (.iconst 0, 1) := by decide +kernel
theorem d_prog_75_method_4_99 : decode prog_75_method_4_code 99 = .ok (.goto 24, 3) := by decide +kernel
theorem d_prog_75_method_4_94 : decode prog_75_method_4_code 94 = .ok (.iconst 1, 1) := by decide +kernel
theorem d_prog_75_method_4_95 : decode prog_75_method_4_code 95 = .ok (.goto 28, 3) := by decide +kernel
theorem ef_holds_LESS_OR_EQUAL (m : MethodId) (x0 : Addr) (x1 : Int32) : entryFrame m #[(.ref x0), (.int x1)] 2 = mkF m 0 #[.val (.ref x0), .val (.int x1)] [] := by first | (simp [entryFrame, mkF, argsToLocals, Value.category]; done) | rfl
set_option maxRecDepth 65536 in
set_option maxHeartbeats 40000000 in
theorem rm_holds_LESS_OR_EQUAL (l : Launch) (Z : State) (a0 : Array Value) (hw : ∀ d ∈ tables_1, d.before a0 Z = true) (ws : List Jvm.Cond) (p1 : Int32) (h0 : Heap) (n0 : Nat) (w_EQUAL w_NOT_EQUAL w_LESS w_LESS_OR_EQUAL w_GREATER w_GREATER_OR_EQUAL : Addr) (hK : own_K Z h0 w_EQUAL w_NOT_EQUAL w_LESS w_LESS_OR_EQUAL w_GREATER w_GREATER_OR_EQUAL) :
    MetFree l (⟨"com/example/cairn/cairn/expr/Comparison$Operator", "holds", "(I)Z"⟩ : MethodName) (head1 (Jvm.Cond.code (⟨"com/example/cairn/cairn/expr/Comparison$Operator", "holds", "(I)Z"⟩ : MethodName) prog_75_method_4_code 2 (some .boolean) :: ws) ({ frames := 1, cells := 0, slots := 0, locals := 12 } : Room)) (fun a U => a = #[(.ref w_LESS_OR_EQUAL), (.int p1)] ∧ Z.Warmed39 U.vm ∧ U.heap = h0) (fun _ _ _ _ _ => True) (fun _ U o U' => ∃ v L, o = .returned v ∧ own_Q (some (.int (if (0 : Int32) < p1 then (0 : Int32) else (1 : Int32)))) h0 n0 v U'.heap L ∧ FrameEnd U o U' L ({ frames := 1, cells := 0, slots := 0, locals := 12 } : Room).cells ({ frames := 1, cells := 0, slots := 0, locals := 12 } : Room).slots) := by
  refine MetFree.of_bodySF (plainFor_of_name pn_1) hisR ?_
  intro p e s m args below meth c s₁ Bd hml0 hP hK0
  obtain ⟨rfl, hZ, hh⟩ := hP
  have hx := Bd.exec
  have hby := Bd.bytes
  have hml : c.maxLocals = 2 := hml0
  have hown : s.vm.findClass "com/example/cairn/cairn/expr/Comparison$Operator" = some m.cls := findClass_of_methodNamed Bd.named
  have hnm := (name_of_methodNamed Bd.named Bd.method).1
  have X0 : Stand p l e ({ frames := 1, cells := 0, slots := 0, locals := 12 } : Room) s m #[(.ref w_LESS_OR_EQUAL), (.int p1)] below meth c s₁ [] 0 0 := Stand.of_body Bd
  have e0 : s₁.heap = h0 := by rw [← hh, Bd.state]; rfl
  have N0 := Fr.nil n0
  have pre0 : ∀ t, Steps p.tables e below (s₁.setTop (mkF m 0 #[.val (.ref w_LESS_OR_EQUAL), .val (.int p1)] [])) t → Steps p.tables e below (s₁.setTop (entryFrame m #[(.ref w_LESS_OR_EQUAL), (.int p1)] 2)) t := fun t k => castTop (ef_holds_LESS_OR_EQUAL m w_LESS_OR_EQUAL p1) k
  have hK' := hK
  obtain ⟨S_w_EQUAL, E_w_EQUAL, F_ordinal_w_EQUAL, S_w_NOT_EQUAL, E_w_NOT_EQUAL, F_ordinal_w_NOT_EQUAL, S_w_LESS, E_w_LESS, F_ordinal_w_LESS, S_w_LESS_OR_EQUAL, E_w_LESS_OR_EQUAL, F_ordinal_w_LESS_OR_EQUAL, S_w_GREATER, E_w_GREATER, F_ordinal_w_GREATER, S_w_GREATER_OR_EQUAL, E_w_GREATER_OR_EQUAL, F_ordinal_w_GREATER_OR_EQUAL⟩ := hK'
  obtain ⟨cq1, kq1, q1a, q1b, q1c⟩ := isOf hZ e0 E_w_LESS_OR_EQUAL
  obtain ⟨v1, _, ⟨T1, L1, k1, n1⟩, -, X1, ⟨Lc1, hQ1, l1, y1, z1⟩, st1⟩ := X0.virtualBackUp hx (x := (⟨"com/example/cairn/cairn/expr/Comparison$Operator", "ordinal", "()I"⟩ : MethodName)) (y := (⟨"java/lang/Enum", "ordinal", "()I"⟩ : MethodName)) (owner := "java/lang/Enum") hown (mvT hZ (hw _ (ow 8 rfl))) (mvT hZ (hw _ (ow 9 rfl))) (mvT hZ (hw _ (ow 10 rfl))) (by decide) (mvT hZ (hw _ (ow 12 rfl))) (mvT hZ (hw _ (ow 11 rfl))) (backOf (W := 0) (rm_ordinal l Z a0 hw [] w_LESS_OR_EQUAL (3 : Int32) h0 n0 w_EQUAL w_NOT_EQUAL w_LESS w_LESS_OR_EQUAL w_GREATER w_GREATER_OR_EQUAL hK F_ordinal_w_LESS_OR_EQUAL) hZ (hw _ (ow 14 rfl)) (hw _ (ow 13 rfl)) (by decide) (by decide)) q1a q1c (g := (mkF m 1 #[.val (.ref w_LESS_OR_EQUAL), .val (.int p1)] [(.ref w_LESS_OR_EQUAL)])) rfl (by rw [hml]; rfl) (Steps.refl _) (argsL := []) (rest := []) (lenOf pd_0 rfl) rfl (Nat.le_of_eq rfl) (hb hby d_prog_75_method_4_1) (fun _ _ => ⟨rfl, e0, (by decide : 0 + 0 ≤ _), (by decide : 0 + 0 ≤ _)⟩)
  dsimp only [Pt.U, Pt.locs, Pt.cells, Pt.slots] at X1 l1 y1 z1 st1 hQ1
  subst l1 y1 z1
  obtain ⟨hv1, Nq1, e1⟩ := hQ1
  obtain rfl : v1 = some (.int (3 : Int32)) := hv1
  have N1 := Fr.app N0 Nq1
  have pre3 : ∀ t, Steps p.tables e below (T1.setTop (mkF m 91 #[.val (.ref w_LESS_OR_EQUAL), .val (.int p1)] [(.int p1)])) t → Steps p.tables e below (s₁.setTop (entryFrame m #[(.ref w_LESS_OR_EQUAL), (.int p1)] 2)) t := fun t k => pre0 t (by
    show Steps p.tables e below (s₁.setTop (mkF m 0 #[.val (.ref w_LESS_OR_EQUAL), .val (.int p1)] [])) _
    refine XS.aloadN X0.here hx rfl (hb hby d_prog_75_method_4_0) rfl rfl ?_
    show Steps p.tables e below (s₁.setTop (mkF m 1 #[.val (.ref w_LESS_OR_EQUAL), .val (.int p1)] [(.ref w_LESS_OR_EQUAL)])) _
    refine st1.trans ?_
    show Steps p.tables e below (T1.setTop (mkF m 4 #[.val (.ref w_LESS_OR_EQUAL), .val (.int p1)] [(.int (3 : Int32))])) _
    refine XS.tswIn X1.here hx rfl (o := 86) (pc0 := 4) (pc' := 90) rfl (hb hby d_prog_75_method_4_4) rfl (by decide) (by decide) (by decide) (by decide) ?_
    show Steps p.tables e below (T1.setTop (mkF m 90 #[.val (.ref w_LESS_OR_EQUAL), .val (.int p1)] [])) _
    refine XS.iloadN X1.here hx rfl (hb hby d_prog_75_method_4_90) rfl ?_
    exact k)
  by_cases hc91_2 : (0 : Int32) < p1
  · have pre4 : ∀ t, Steps p.tables e below (T1.setTop (mkF m 123 #[.val (.ref w_LESS_OR_EQUAL), .val (.int p1)] [(.int (0 : Int32))])) t → Steps p.tables e below (s₁.setTop (entryFrame m #[(.ref w_LESS_OR_EQUAL), (.int p1)] 2)) t := fun t k => pre3 t (by
      show Steps p.tables e below (T1.setTop (mkF m 91 #[.val (.ref w_LESS_OR_EQUAL), .val (.int p1)] [(.int p1)])) _
      refine XS.ifYes X1.here hx rfl (pc0 := 91) (pc' := 98) rfl (hb hby d_prog_75_method_4_91) rfl ((if0 _ _).trans (tlt hc91_2).2.2.1) (by decide) (by decide) ?_
      show Steps p.tables e below (T1.setTop (mkF m 98 #[.val (.ref w_LESS_OR_EQUAL), .val (.int p1)] [])) _
      refine XS.iconst X1.here hx rfl (hb hby d_prog_75_method_4_98) ?_
      show Steps p.tables e below (T1.setTop (mkF m 99 #[.val (.ref w_LESS_OR_EQUAL), .val (.int p1)] [(.int (0 : Int32))])) _
      refine XS.goto X1.here hx rfl (pc0 := 99) (pc' := 123) rfl (hb hby d_prog_75_method_4_99) (by decide) (by decide) ?_
      exact k)
    obtain ⟨fs, hr, hrun, hended, hW, hsame⟩ := X1.leave (v := some (.int (0 : Int32))) (fun h => by rw [Bd.returns] at h; cases h)
    refine ⟨_, _, pre4 _ ?_, hrun, hended, _, _, rfl, ?_, ⟨_, rfl⟩, hW, hsame.mono (by decide) (by decide)⟩
    · show Steps p.tables e below (T1.setTop (mkF m 123 #[.val (.ref w_LESS_OR_EQUAL), .val (.int p1)] [(.int (0 : Int32))])) _
      exact retN X1 hx (t := .boolean) Bd.returns (by simp) (hb hby d_prog_75_method_4_123) hr
    · exact ⟨congrArg (fun z => some (Value.int z)) (Eq.symm (if_pos hc91_2)), N1, e1⟩
  · have pre5 : ∀ t, Steps p.tables e below (T1.setTop (mkF m 123 #[.val (.ref w_LESS_OR_EQUAL), .val (.int p1)] [(.int (1 : Int32))])) t → Steps p.tables e below (s₁.setTop (entryFrame m #[(.ref w_LESS_OR_EQUAL), (.int p1)] 2)) t := fun t k => pre3 t (by
      show Steps p.tables e below (T1.setTop (mkF m 91 #[.val (.ref w_LESS_OR_EQUAL), .val (.int p1)] [(.int p1)])) _
      refine XS.ifNo X1.here hx rfl (hb hby d_prog_75_method_4_91) rfl ((if0 _ _).trans (flt hc91_2).2.2.1) ?_
      show Steps p.tables e below (T1.setTop (mkF m 94 #[.val (.ref w_LESS_OR_EQUAL), .val (.int p1)] [])) _
      refine XS.iconst X1.here hx rfl (hb hby d_prog_75_method_4_94) ?_
      show Steps p.tables e below (T1.setTop (mkF m 95 #[.val (.ref w_LESS_OR_EQUAL), .val (.int p1)] [(.int (1 : Int32))])) _
      refine XS.goto X1.here hx rfl (pc0 := 95) (pc' := 123) rfl (hb hby d_prog_75_method_4_95) (by decide) (by decide) ?_
      exact k)
    obtain ⟨fs, hr, hrun, hended, hW, hsame⟩ := X1.leave (v := some (.int (1 : Int32))) (fun h => by rw [Bd.returns] at h; cases h)
    refine ⟨_, _, pre5 _ ?_, hrun, hended, _, _, rfl, ?_, ⟨_, rfl⟩, hW, hsame.mono (by decide) (by decide)⟩
    · show Steps p.tables e below (T1.setTop (mkF m 123 #[.val (.ref w_LESS_OR_EQUAL), .val (.int p1)] [(.int (1 : Int32))])) _
      exact retN X1 hx (t := .boolean) Bd.returns (by simp) (hb hby d_prog_75_method_4_123) hr
    · exact ⟨congrArg (fun z => some (Value.int z)) (Eq.symm (if_neg hc91_2)), N1, e1⟩
theorem d_prog_75_method_4_102 : decode prog_75_method_4_code 102 = .ok (.iload_n 1, 1) := by decide +kernel
theorem d_prog_75_method_4_103 : decode prog_75_method_4_code 103 = .ok (.ifCond .le 7, 3) := by decide +kernel
theorem d_prog_75_method_4_106 : decode prog_75_method_4_code 106 = .ok (.iconst 1, 1) := by decide +kernel
theorem d_prog_75_method_4_107 : decode prog_75_method_4_code 107 = .ok (.goto 16, 3) := by decide +kernel
theorem d_prog_75_method_4_110 : decode prog_75_method_4_code 110 = .ok (.iconst 0, 1) := by decide +kernel
theorem d_prog_75_method_4_111 : decode prog_75_method_4_code 111 = .ok (.goto 12, 3) := by decide +kernel
theorem ef_holds_GREATER (m : MethodId) (x0 : Addr) (x1 : Int32) : entryFrame m #[(.ref x0), (.int x1)] 2 = mkF m 0 #[.val (.ref x0), .val (.int x1)] [] := by first | (simp [entryFrame, mkF, argsToLocals, Value.category]; done) | rfl
set_option maxRecDepth 65536 in
set_option maxHeartbeats 40000000 in
theorem rm_holds_GREATER (l : Launch) (Z : State) (a0 : Array Value) (hw : ∀ d ∈ tables_1, d.before a0 Z = true) (ws : List Jvm.Cond) (p1 : Int32) (h0 : Heap) (n0 : Nat) (w_EQUAL w_NOT_EQUAL w_LESS w_LESS_OR_EQUAL w_GREATER w_GREATER_OR_EQUAL : Addr) (hK : own_K Z h0 w_EQUAL w_NOT_EQUAL w_LESS w_LESS_OR_EQUAL w_GREATER w_GREATER_OR_EQUAL) :
    MetFree l (⟨"com/example/cairn/cairn/expr/Comparison$Operator", "holds", "(I)Z"⟩ : MethodName) (head1 (Jvm.Cond.code (⟨"com/example/cairn/cairn/expr/Comparison$Operator", "holds", "(I)Z"⟩ : MethodName) prog_75_method_4_code 2 (some .boolean) :: ws) ({ frames := 1, cells := 0, slots := 0, locals := 12 } : Room)) (fun a U => a = #[(.ref w_GREATER), (.int p1)] ∧ Z.Warmed39 U.vm ∧ U.heap = h0) (fun _ _ _ _ _ => True) (fun _ U o U' => ∃ v L, o = .returned v ∧ own_Q (some (.int (if (0 : Int32) < p1 then (1 : Int32) else (0 : Int32)))) h0 n0 v U'.heap L ∧ FrameEnd U o U' L ({ frames := 1, cells := 0, slots := 0, locals := 12 } : Room).cells ({ frames := 1, cells := 0, slots := 0, locals := 12 } : Room).slots) := by
  refine MetFree.of_bodySF (plainFor_of_name pn_1) hisR ?_
  intro p e s m args below meth c s₁ Bd hml0 hP hK0
  obtain ⟨rfl, hZ, hh⟩ := hP
  have hx := Bd.exec
  have hby := Bd.bytes
  have hml : c.maxLocals = 2 := hml0
  have hown : s.vm.findClass "com/example/cairn/cairn/expr/Comparison$Operator" = some m.cls := findClass_of_methodNamed Bd.named
  have hnm := (name_of_methodNamed Bd.named Bd.method).1
  have X0 : Stand p l e ({ frames := 1, cells := 0, slots := 0, locals := 12 } : Room) s m #[(.ref w_GREATER), (.int p1)] below meth c s₁ [] 0 0 := Stand.of_body Bd
  have e0 : s₁.heap = h0 := by rw [← hh, Bd.state]; rfl
  have N0 := Fr.nil n0
  have pre0 : ∀ t, Steps p.tables e below (s₁.setTop (mkF m 0 #[.val (.ref w_GREATER), .val (.int p1)] [])) t → Steps p.tables e below (s₁.setTop (entryFrame m #[(.ref w_GREATER), (.int p1)] 2)) t := fun t k => castTop (ef_holds_GREATER m w_GREATER p1) k
  have hK' := hK
  obtain ⟨S_w_EQUAL, E_w_EQUAL, F_ordinal_w_EQUAL, S_w_NOT_EQUAL, E_w_NOT_EQUAL, F_ordinal_w_NOT_EQUAL, S_w_LESS, E_w_LESS, F_ordinal_w_LESS, S_w_LESS_OR_EQUAL, E_w_LESS_OR_EQUAL, F_ordinal_w_LESS_OR_EQUAL, S_w_GREATER, E_w_GREATER, F_ordinal_w_GREATER, S_w_GREATER_OR_EQUAL, E_w_GREATER_OR_EQUAL, F_ordinal_w_GREATER_OR_EQUAL⟩ := hK'
  obtain ⟨cq1, kq1, q1a, q1b, q1c⟩ := isOf hZ e0 E_w_GREATER
  obtain ⟨v1, _, ⟨T1, L1, k1, n1⟩, -, X1, ⟨Lc1, hQ1, l1, y1, z1⟩, st1⟩ := X0.virtualBackUp hx (x := (⟨"com/example/cairn/cairn/expr/Comparison$Operator", "ordinal", "()I"⟩ : MethodName)) (y := (⟨"java/lang/Enum", "ordinal", "()I"⟩ : MethodName)) (owner := "java/lang/Enum") hown (mvT hZ (hw _ (ow 8 rfl))) (mvT hZ (hw _ (ow 9 rfl))) (mvT hZ (hw _ (ow 10 rfl))) (by decide) (mvT hZ (hw _ (ow 12 rfl))) (mvT hZ (hw _ (ow 11 rfl))) (backOf (W := 0) (rm_ordinal l Z a0 hw [] w_GREATER (4 : Int32) h0 n0 w_EQUAL w_NOT_EQUAL w_LESS w_LESS_OR_EQUAL w_GREATER w_GREATER_OR_EQUAL hK F_ordinal_w_GREATER) hZ (hw _ (ow 14 rfl)) (hw _ (ow 13 rfl)) (by decide) (by decide)) q1a q1c (g := (mkF m 1 #[.val (.ref w_GREATER), .val (.int p1)] [(.ref w_GREATER)])) rfl (by rw [hml]; rfl) (Steps.refl _) (argsL := []) (rest := []) (lenOf pd_0 rfl) rfl (Nat.le_of_eq rfl) (hb hby d_prog_75_method_4_1) (fun _ _ => ⟨rfl, e0, (by decide : 0 + 0 ≤ _), (by decide : 0 + 0 ≤ _)⟩)
  dsimp only [Pt.U, Pt.locs, Pt.cells, Pt.slots] at X1 l1 y1 z1 st1 hQ1
  subst l1 y1 z1
  obtain ⟨hv1, Nq1, e1⟩ := hQ1
  obtain rfl : v1 = some (.int (4 : Int32)) := hv1
  have N1 := Fr.app N0 Nq1
  have pre3 : ∀ t, Steps p.tables e below (T1.setTop (mkF m 103 #[.val (.ref w_GREATER), .val (.int p1)] [(.int p1)])) t → Steps p.tables e below (s₁.setTop (entryFrame m #[(.ref w_GREATER), (.int p1)] 2)) t := fun t k => pre0 t (by
    show Steps p.tables e below (s₁.setTop (mkF m 0 #[.val (.ref w_GREATER), .val (.int p1)] [])) _
    refine XS.aloadN X0.here hx rfl (hb hby d_prog_75_method_4_0) rfl rfl ?_
    show Steps p.tables e below (s₁.setTop (mkF m 1 #[.val (.ref w_GREATER), .val (.int p1)] [(.ref w_GREATER)])) _
    refine st1.trans ?_
    show Steps p.tables e below (T1.setTop (mkF m 4 #[.val (.ref w_GREATER), .val (.int p1)] [(.int (4 : Int32))])) _
    refine XS.tswIn X1.here hx rfl (o := 98) (pc0 := 4) (pc' := 102) rfl (hb hby d_prog_75_method_4_4) rfl (by decide) (by decide) (by decide) (by decide) ?_
    show Steps p.tables e below (T1.setTop (mkF m 102 #[.val (.ref w_GREATER), .val (.int p1)] [])) _
    refine XS.iloadN X1.here hx rfl (hb hby d_prog_75_method_4_102) rfl ?_
    exact k)
  by_cases hc103_2 : (0 : Int32) < p1
  · have pre4 : ∀ t, Steps p.tables e below (T1.setTop (mkF m 123 #[.val (.ref w_GREATER), .val (.int p1)] [(.int (1 : Int32))])) t → Steps p.tables e below (s₁.setTop (entryFrame m #[(.ref w_GREATER), (.int p1)] 2)) t := fun t k => pre3 t (by
      show Steps p.tables e below (T1.setTop (mkF m 103 #[.val (.ref w_GREATER), .val (.int p1)] [(.int p1)])) _
      refine XS.ifNo X1.here hx rfl (hb hby d_prog_75_method_4_103) rfl ((if0 _ _).trans (tlt hc103_2).2.2.2) ?_
      show Steps p.tables e below (T1.setTop (mkF m 106 #[.val (.ref w_GREATER), .val (.int p1)] [])) _
      refine XS.iconst X1.here hx rfl (hb hby d_prog_75_method_4_106) ?_
      show Steps p.tables e below (T1.setTop (mkF m 107 #[.val (.ref w_GREATER), .val (.int p1)] [(.int (1 : Int32))])) _
      refine XS.goto X1.here hx rfl (pc0 := 107) (pc' := 123) rfl (hb hby d_prog_75_method_4_107) (by decide) (by decide) ?_
      exact k)
    obtain ⟨fs, hr, hrun, hended, hW, hsame⟩ := X1.leave (v := some (.int (1 : Int32))) (fun h => by rw [Bd.returns] at h; cases h)
    refine ⟨_, _, pre4 _ ?_, hrun, hended, _, _, rfl, ?_, ⟨_, rfl⟩, hW, hsame.mono (by decide) (by decide)⟩
    · show Steps p.tables e below (T1.setTop (mkF m 123 #[.val (.ref w_GREATER), .val (.int p1)] [(.int (1 : Int32))])) _
      exact retN X1 hx (t := .boolean) Bd.returns (by simp) (hb hby d_prog_75_method_4_123) hr
    · exact ⟨congrArg (fun z => some (Value.int z)) (Eq.symm (if_pos hc103_2)), N1, e1⟩
  · have pre5 : ∀ t, Steps p.tables e below (T1.setTop (mkF m 123 #[.val (.ref w_GREATER), .val (.int p1)] [(.int (0 : Int32))])) t → Steps p.tables e below (s₁.setTop (entryFrame m #[(.ref w_GREATER), (.int p1)] 2)) t := fun t k => pre3 t (by
      show Steps p.tables e below (T1.setTop (mkF m 103 #[.val (.ref w_GREATER), .val (.int p1)] [(.int p1)])) _
      refine XS.ifYes X1.here hx rfl (pc0 := 103) (pc' := 110) rfl (hb hby d_prog_75_method_4_103) rfl ((if0 _ _).trans (flt hc103_2).2.2.2) (by decide) (by decide) ?_
      show Steps p.tables e below (T1.setTop (mkF m 110 #[.val (.ref w_GREATER), .val (.int p1)] [])) _
      refine XS.iconst X1.here hx rfl (hb hby d_prog_75_method_4_110) ?_
      show Steps p.tables e below (T1.setTop (mkF m 111 #[.val (.ref w_GREATER), .val (.int p1)] [(.int (0 : Int32))])) _
      refine XS.goto X1.here hx rfl (pc0 := 111) (pc' := 123) rfl (hb hby d_prog_75_method_4_111) (by decide) (by decide) ?_
      exact k)
    obtain ⟨fs, hr, hrun, hended, hW, hsame⟩ := X1.leave (v := some (.int (0 : Int32))) (fun h => by rw [Bd.returns] at h; cases h)
    refine ⟨_, _, pre5 _ ?_, hrun, hended, _, _, rfl, ?_, ⟨_, rfl⟩, hW, hsame.mono (by decide) (by decide)⟩
    · show Steps p.tables e below (T1.setTop (mkF m 123 #[.val (.ref w_GREATER), .val (.int p1)] [(.int (0 : Int32))])) _
      exact retN X1 hx (t := .boolean) Bd.returns (by simp) (hb hby d_prog_75_method_4_123) hr
    · exact ⟨congrArg (fun z => some (Value.int z)) (Eq.symm (if_neg hc103_2)), N1, e1⟩
theorem d_prog_75_method_4_114 : decode prog_75_method_4_code 114 = .ok (.iload_n 1, 1) := by decide +kernel
theorem d_prog_75_method_4_115 : decode prog_75_method_4_code 115 = .ok (.ifCond .lt 7, 3) := by decide +kernel
theorem d_prog_75_method_4_122 : decode prog_75_method_4_code 122 = .ok (.iconst 0, 1) := by decide +kernel
theorem d_prog_75_method_4_118 : decode prog_75_method_4_code 118 = .ok (.iconst 1, 1) := by decide +kernel
theorem d_prog_75_method_4_119 : decode prog_75_method_4_code 119 = .ok (.goto 4, 3) := by decide +kernel
theorem ef_holds_GREATER_OR_EQUAL (m : MethodId) (x0 : Addr) (x1 : Int32) : entryFrame m #[(.ref x0), (.int x1)] 2 = mkF m 0 #[.val (.ref x0), .val (.int x1)] [] := by first | (simp [entryFrame, mkF, argsToLocals, Value.category]; done) | rfl
set_option maxRecDepth 65536 in
set_option maxHeartbeats 40000000 in
theorem rm_holds_GREATER_OR_EQUAL (l : Launch) (Z : State) (a0 : Array Value) (hw : ∀ d ∈ tables_1, d.before a0 Z = true) (ws : List Jvm.Cond) (p1 : Int32) (h0 : Heap) (n0 : Nat) (w_EQUAL w_NOT_EQUAL w_LESS w_LESS_OR_EQUAL w_GREATER w_GREATER_OR_EQUAL : Addr) (hK : own_K Z h0 w_EQUAL w_NOT_EQUAL w_LESS w_LESS_OR_EQUAL w_GREATER w_GREATER_OR_EQUAL) :
    MetFree l (⟨"com/example/cairn/cairn/expr/Comparison$Operator", "holds", "(I)Z"⟩ : MethodName) (head1 (Jvm.Cond.code (⟨"com/example/cairn/cairn/expr/Comparison$Operator", "holds", "(I)Z"⟩ : MethodName) prog_75_method_4_code 2 (some .boolean) :: ws) ({ frames := 1, cells := 0, slots := 0, locals := 12 } : Room)) (fun a U => a = #[(.ref w_GREATER_OR_EQUAL), (.int p1)] ∧ Z.Warmed39 U.vm ∧ U.heap = h0) (fun _ _ _ _ _ => True) (fun _ U o U' => ∃ v L, o = .returned v ∧ own_Q (some (.int (if p1 < (0 : Int32) then (0 : Int32) else (1 : Int32)))) h0 n0 v U'.heap L ∧ FrameEnd U o U' L ({ frames := 1, cells := 0, slots := 0, locals := 12 } : Room).cells ({ frames := 1, cells := 0, slots := 0, locals := 12 } : Room).slots) := by
  refine MetFree.of_bodySF (plainFor_of_name pn_1) hisR ?_
  intro p e s m args below meth c s₁ Bd hml0 hP hK0
  obtain ⟨rfl, hZ, hh⟩ := hP
  have hx := Bd.exec
  have hby := Bd.bytes
  have hml : c.maxLocals = 2 := hml0
  have hown : s.vm.findClass "com/example/cairn/cairn/expr/Comparison$Operator" = some m.cls := findClass_of_methodNamed Bd.named
  have hnm := (name_of_methodNamed Bd.named Bd.method).1
  have X0 : Stand p l e ({ frames := 1, cells := 0, slots := 0, locals := 12 } : Room) s m #[(.ref w_GREATER_OR_EQUAL), (.int p1)] below meth c s₁ [] 0 0 := Stand.of_body Bd
  have e0 : s₁.heap = h0 := by rw [← hh, Bd.state]; rfl
  have N0 := Fr.nil n0
  have pre0 : ∀ t, Steps p.tables e below (s₁.setTop (mkF m 0 #[.val (.ref w_GREATER_OR_EQUAL), .val (.int p1)] [])) t → Steps p.tables e below (s₁.setTop (entryFrame m #[(.ref w_GREATER_OR_EQUAL), (.int p1)] 2)) t := fun t k => castTop (ef_holds_GREATER_OR_EQUAL m w_GREATER_OR_EQUAL p1) k
  have hK' := hK
  obtain ⟨S_w_EQUAL, E_w_EQUAL, F_ordinal_w_EQUAL, S_w_NOT_EQUAL, E_w_NOT_EQUAL, F_ordinal_w_NOT_EQUAL, S_w_LESS, E_w_LESS, F_ordinal_w_LESS, S_w_LESS_OR_EQUAL, E_w_LESS_OR_EQUAL, F_ordinal_w_LESS_OR_EQUAL, S_w_GREATER, E_w_GREATER, F_ordinal_w_GREATER, S_w_GREATER_OR_EQUAL, E_w_GREATER_OR_EQUAL, F_ordinal_w_GREATER_OR_EQUAL⟩ := hK'
  obtain ⟨cq1, kq1, q1a, q1b, q1c⟩ := isOf hZ e0 E_w_GREATER_OR_EQUAL
  obtain ⟨v1, _, ⟨T1, L1, k1, n1⟩, -, X1, ⟨Lc1, hQ1, l1, y1, z1⟩, st1⟩ := X0.virtualBackUp hx (x := (⟨"com/example/cairn/cairn/expr/Comparison$Operator", "ordinal", "()I"⟩ : MethodName)) (y := (⟨"java/lang/Enum", "ordinal", "()I"⟩ : MethodName)) (owner := "java/lang/Enum") hown (mvT hZ (hw _ (ow 8 rfl))) (mvT hZ (hw _ (ow 9 rfl))) (mvT hZ (hw _ (ow 10 rfl))) (by decide) (mvT hZ (hw _ (ow 12 rfl))) (mvT hZ (hw _ (ow 11 rfl))) (backOf (W := 0) (rm_ordinal l Z a0 hw [] w_GREATER_OR_EQUAL (5 : Int32) h0 n0 w_EQUAL w_NOT_EQUAL w_LESS w_LESS_OR_EQUAL w_GREATER w_GREATER_OR_EQUAL hK F_ordinal_w_GREATER_OR_EQUAL) hZ (hw _ (ow 14 rfl)) (hw _ (ow 13 rfl)) (by decide) (by decide)) q1a q1c (g := (mkF m 1 #[.val (.ref w_GREATER_OR_EQUAL), .val (.int p1)] [(.ref w_GREATER_OR_EQUAL)])) rfl (by rw [hml]; rfl) (Steps.refl _) (argsL := []) (rest := []) (lenOf pd_0 rfl) rfl (Nat.le_of_eq rfl) (hb hby d_prog_75_method_4_1) (fun _ _ => ⟨rfl, e0, (by decide : 0 + 0 ≤ _), (by decide : 0 + 0 ≤ _)⟩)
  dsimp only [Pt.U, Pt.locs, Pt.cells, Pt.slots] at X1 l1 y1 z1 st1 hQ1
  subst l1 y1 z1
  obtain ⟨hv1, Nq1, e1⟩ := hQ1
  obtain rfl : v1 = some (.int (5 : Int32)) := hv1
  have N1 := Fr.app N0 Nq1
  have pre3 : ∀ t, Steps p.tables e below (T1.setTop (mkF m 115 #[.val (.ref w_GREATER_OR_EQUAL), .val (.int p1)] [(.int p1)])) t → Steps p.tables e below (s₁.setTop (entryFrame m #[(.ref w_GREATER_OR_EQUAL), (.int p1)] 2)) t := fun t k => pre0 t (by
    show Steps p.tables e below (s₁.setTop (mkF m 0 #[.val (.ref w_GREATER_OR_EQUAL), .val (.int p1)] [])) _
    refine XS.aloadN X0.here hx rfl (hb hby d_prog_75_method_4_0) rfl rfl ?_
    show Steps p.tables e below (s₁.setTop (mkF m 1 #[.val (.ref w_GREATER_OR_EQUAL), .val (.int p1)] [(.ref w_GREATER_OR_EQUAL)])) _
    refine st1.trans ?_
    show Steps p.tables e below (T1.setTop (mkF m 4 #[.val (.ref w_GREATER_OR_EQUAL), .val (.int p1)] [(.int (5 : Int32))])) _
    refine XS.tswIn X1.here hx rfl (o := 110) (pc0 := 4) (pc' := 114) rfl (hb hby d_prog_75_method_4_4) rfl (by decide) (by decide) (by decide) (by decide) ?_
    show Steps p.tables e below (T1.setTop (mkF m 114 #[.val (.ref w_GREATER_OR_EQUAL), .val (.int p1)] [])) _
    refine XS.iloadN X1.here hx rfl (hb hby d_prog_75_method_4_114) rfl ?_
    exact k)
  by_cases hc115_2 : p1 < (0 : Int32)
  · have pre4 : ∀ t, Steps p.tables e below (T1.setTop (mkF m 123 #[.val (.ref w_GREATER_OR_EQUAL), .val (.int p1)] [(.int (0 : Int32))])) t → Steps p.tables e below (s₁.setTop (entryFrame m #[(.ref w_GREATER_OR_EQUAL), (.int p1)] 2)) t := fun t k => pre3 t (by
      show Steps p.tables e below (T1.setTop (mkF m 115 #[.val (.ref w_GREATER_OR_EQUAL), .val (.int p1)] [(.int p1)])) _
      refine XS.ifYes X1.here hx rfl (pc0 := 115) (pc' := 122) rfl (hb hby d_prog_75_method_4_115) rfl ((if0 _ _).trans (tlt hc115_2).1) (by decide) (by decide) ?_
      show Steps p.tables e below (T1.setTop (mkF m 122 #[.val (.ref w_GREATER_OR_EQUAL), .val (.int p1)] [])) _
      refine XS.iconst X1.here hx rfl (hb hby d_prog_75_method_4_122) ?_
      exact k)
    obtain ⟨fs, hr, hrun, hended, hW, hsame⟩ := X1.leave (v := some (.int (0 : Int32))) (fun h => by rw [Bd.returns] at h; cases h)
    refine ⟨_, _, pre4 _ ?_, hrun, hended, _, _, rfl, ?_, ⟨_, rfl⟩, hW, hsame.mono (by decide) (by decide)⟩
    · show Steps p.tables e below (T1.setTop (mkF m 123 #[.val (.ref w_GREATER_OR_EQUAL), .val (.int p1)] [(.int (0 : Int32))])) _
      exact retN X1 hx (t := .boolean) Bd.returns (by simp) (hb hby d_prog_75_method_4_123) hr
    · exact ⟨congrArg (fun z => some (Value.int z)) (Eq.symm (if_pos hc115_2)), N1, e1⟩
  · have pre5 : ∀ t, Steps p.tables e below (T1.setTop (mkF m 123 #[.val (.ref w_GREATER_OR_EQUAL), .val (.int p1)] [(.int (1 : Int32))])) t → Steps p.tables e below (s₁.setTop (entryFrame m #[(.ref w_GREATER_OR_EQUAL), (.int p1)] 2)) t := fun t k => pre3 t (by
      show Steps p.tables e below (T1.setTop (mkF m 115 #[.val (.ref w_GREATER_OR_EQUAL), .val (.int p1)] [(.int p1)])) _
      refine XS.ifNo X1.here hx rfl (hb hby d_prog_75_method_4_115) rfl ((if0 _ _).trans (flt hc115_2).1) ?_
      show Steps p.tables e below (T1.setTop (mkF m 118 #[.val (.ref w_GREATER_OR_EQUAL), .val (.int p1)] [])) _
      refine XS.iconst X1.here hx rfl (hb hby d_prog_75_method_4_118) ?_
      show Steps p.tables e below (T1.setTop (mkF m 119 #[.val (.ref w_GREATER_OR_EQUAL), .val (.int p1)] [(.int (1 : Int32))])) _
      refine XS.goto X1.here hx rfl (pc0 := 119) (pc' := 123) rfl (hb hby d_prog_75_method_4_119) (by decide) (by decide) ?_
      exact k)
    obtain ⟨fs, hr, hrun, hended, hW, hsame⟩ := X1.leave (v := some (.int (1 : Int32))) (fun h => by rw [Bd.returns] at h; cases h)
    refine ⟨_, _, pre5 _ ?_, hrun, hended, _, _, rfl, ?_, ⟨_, rfl⟩, hW, hsame.mono (by decide) (by decide)⟩
    · show Steps p.tables e below (T1.setTop (mkF m 123 #[.val (.ref w_GREATER_OR_EQUAL), .val (.int p1)] [(.int (1 : Int32))])) _
      exact retN X1 hx (t := .boolean) Bd.returns (by simp) (hb hby d_prog_75_method_4_123) hr
    · exact ⟨congrArg (fun z => some (Value.int z)) (Eq.symm (if_neg hc115_2)), N1, e1⟩
theorem d_method_2_0 : decode method_2_code 0 = .ok (.iload_n 1, 1) := by decide +kernel
theorem d_method_2_1 : decode method_2_code 1 = .ok (.ifCond .ge 7, 3) := by decide +kernel
theorem d_method_2_4 : decode method_2_code 4 = .ok (.iconst 0, 1) := by decide +kernel
theorem d_method_2_5 : decode method_2_code 5 = .ok (.goto 12, 3) := by decide +kernel
theorem d_method_2_17 : decode method_2_code 17 = .ok (.istore_n 2, 1) := by decide +kernel
theorem d_method_2_18 : decode method_2_code 18 = .ok (.iload_n 0, 1) := by decide +kernel
theorem d_method_2_19 : decode method_2_code 19 = .ok (.iload_n 2, 1) := by decide +kernel
theorem d_method_2_20 : decode method_2_code 20 = .ok (.ishr, 1) := by decide +kernel
theorem d_method_2_21 : decode method_2_code 21 = .ok (.iconst 1, 1) := by decide +kernel
theorem d_method_2_22 : decode method_2_code 22 = .ok (.iand, 1) := by decide +kernel
theorem d_method_2_23 : decode method_2_code 23 = .ok (.ifCond .eq 7, 3) := by decide +kernel
theorem d_method_2_30 : decode method_2_code 30 = .ok (.iconst 0, 1) := by decide +kernel
theorem d_method_2_31 : decode method_2_code 31 = .ok (.ireturn, 1) := by decide +kernel
theorem d_method_2_26 : decode method_2_code 26 = .ok (.iconst 1, 1) := by decide +kernel
theorem d_method_2_27 : decode method_2_code 27 = .ok (.goto 4, 3) := by decide +kernel
theorem d_method_2_8 : decode method_2_code 8 = .ok (.iload_n 1, 1) := by decide +kernel
theorem d_method_2_9 : decode method_2_code 9 = .ok (.ifCond .ne 7, 3) := by decide +kernel
theorem d_method_2_12 : decode method_2_code 12 = .ok (.iconst 1, 1) := by decide +kernel
theorem d_method_2_13 : decode method_2_code 13 = .ok (.goto 4, 3) := by decide +kernel
theorem d_method_2_16 : decode method_2_code 16 = .ok (.iconst 2, 1) := by decide +kernel
theorem pn_2 : plainName "com/example/cairn/cairn/expr/OperatorHoldsPinLaw" = true := by first | (simp [plainName, overriddenIn]; done) | decide +kernel
theorem ef_accepts (m : MethodId) (x0 : Int32) (x1 : Int32) : entryFrame m #[(.int x0), (.int x1)] 3 = mkF m 0 #[.val (.int x0), .val (.int x1), .unset] [] := by first | (simp [entryFrame, mkF, argsToLocals, Value.category]; done) | rfl
set_option maxRecDepth 65536 in
set_option maxHeartbeats 40000000 in
theorem rm_accepts (l : Launch) (Z : State) (a0 : Array Value) (hw : ∀ d ∈ tables_1, d.before a0 Z = true) (ws : List Jvm.Cond) (p0 : Int32) (p1 : Int32) (h0 : Heap) (n0 : Nat) (w_EQUAL w_NOT_EQUAL w_LESS w_LESS_OR_EQUAL w_GREATER w_GREATER_OR_EQUAL : Addr) (hK : own_K Z h0 w_EQUAL w_NOT_EQUAL w_LESS w_LESS_OR_EQUAL w_GREATER w_GREATER_OR_EQUAL) :
    MetFree l (⟨"com/example/cairn/cairn/expr/OperatorHoldsPinLaw", "accepts", "(II)Z"⟩ : MethodName) (head1 (Jvm.Cond.code (⟨"com/example/cairn/cairn/expr/OperatorHoldsPinLaw", "accepts", "(II)Z"⟩ : MethodName) method_2_code 3 (some .boolean) :: ws) ({ frames := 0, cells := 0, slots := 0, locals := 0 } : Room)) (fun a U => a = #[(.int p0), (.int p1)] ∧ Z.Warmed39 U.vm ∧ U.heap = h0) (fun _ _ _ _ _ => True) (fun _ U o U' => ∃ v L, o = .returned v ∧ own_Q (some (.int (if p1 < (0 : Int32) then (if ((p0 >>> ((0 : Int32) &&& 31)) &&& (1 : Int32)) = (0 : Int32) then (0 : Int32) else (1 : Int32)) else (if p1 = (0 : Int32) then (if ((p0 >>> ((1 : Int32) &&& 31)) &&& (1 : Int32)) = (0 : Int32) then (0 : Int32) else (1 : Int32)) else (if ((p0 >>> ((2 : Int32) &&& 31)) &&& (1 : Int32)) = (0 : Int32) then (0 : Int32) else (1 : Int32)))))) h0 n0 v U'.heap L ∧ FrameEnd U o U' L ({ frames := 0, cells := 0, slots := 0, locals := 0 } : Room).cells ({ frames := 0, cells := 0, slots := 0, locals := 0 } : Room).slots) := by
  refine MetFree.of_bodySF (plainFor_of_name pn_2) hisR ?_
  intro p e s m args below meth c s₁ Bd hml0 hP hK0
  obtain ⟨rfl, hZ, hh⟩ := hP
  have hx := Bd.exec
  have hby := Bd.bytes
  have hml : c.maxLocals = 3 := hml0
  have hown : s.vm.findClass "com/example/cairn/cairn/expr/OperatorHoldsPinLaw" = some m.cls := findClass_of_methodNamed Bd.named
  have hnm := (name_of_methodNamed Bd.named Bd.method).1
  have X0 : Stand p l e ({ frames := 0, cells := 0, slots := 0, locals := 0 } : Room) s m #[(.int p0), (.int p1)] below meth c s₁ [] 0 0 := Stand.of_body Bd
  have e0 : s₁.heap = h0 := by rw [← hh, Bd.state]; rfl
  have N0 := Fr.nil n0
  have pre0 : ∀ t, Steps p.tables e below (s₁.setTop (mkF m 0 #[.val (.int p0), .val (.int p1), .unset] [])) t → Steps p.tables e below (s₁.setTop (entryFrame m #[(.int p0), (.int p1)] 3)) t := fun t k => castTop (ef_accepts m p0 p1) k
  have hK' := hK
  obtain ⟨S_w_EQUAL, E_w_EQUAL, F_ordinal_w_EQUAL, S_w_NOT_EQUAL, E_w_NOT_EQUAL, F_ordinal_w_NOT_EQUAL, S_w_LESS, E_w_LESS, F_ordinal_w_LESS, S_w_LESS_OR_EQUAL, E_w_LESS_OR_EQUAL, F_ordinal_w_LESS_OR_EQUAL, S_w_GREATER, E_w_GREATER, F_ordinal_w_GREATER, S_w_GREATER_OR_EQUAL, E_w_GREATER_OR_EQUAL, F_ordinal_w_GREATER_OR_EQUAL⟩ := hK'
  have pre2 : ∀ t, Steps p.tables e below (s₁.setTop (mkF m 1 #[.val (.int p0), .val (.int p1), .unset] [(.int p1)])) t → Steps p.tables e below (s₁.setTop (entryFrame m #[(.int p0), (.int p1)] 3)) t := fun t k => pre0 t (by
    show Steps p.tables e below (s₁.setTop (mkF m 0 #[.val (.int p0), .val (.int p1), .unset] [])) _
    refine XS.iloadN X0.here hx rfl (hb hby d_method_2_0) rfl ?_
    exact k)
  by_cases hc1_1 : p1 < (0 : Int32)
  · have pre4 : ∀ t, Steps p.tables e below (s₁.setTop (mkF m 23 #[.val (.int p0), .val (.int p1), .val (.int (0 : Int32))] [(.int ((p0 >>> ((0 : Int32) &&& 31)) &&& (1 : Int32)))])) t → Steps p.tables e below (s₁.setTop (entryFrame m #[(.int p0), (.int p1)] 3)) t := fun t k => pre2 t (by
      show Steps p.tables e below (s₁.setTop (mkF m 1 #[.val (.int p0), .val (.int p1), .unset] [(.int p1)])) _
      refine XS.ifNo X0.here hx rfl (hb hby d_method_2_1) rfl ((if0 _ _).trans (tlt hc1_1).2.1) ?_
      show Steps p.tables e below (s₁.setTop (mkF m 4 #[.val (.int p0), .val (.int p1), .unset] [])) _
      refine XS.iconst X0.here hx rfl (hb hby d_method_2_4) ?_
      show Steps p.tables e below (s₁.setTop (mkF m 5 #[.val (.int p0), .val (.int p1), .unset] [(.int (0 : Int32))])) _
      refine XS.goto X0.here hx rfl (pc0 := 5) (pc' := 17) rfl (hb hby d_method_2_5) (by decide) (by decide) ?_
      show Steps p.tables e below (s₁.setTop (mkF m 17 #[.val (.int p0), .val (.int p1), .unset] [(.int (0 : Int32))])) _
      refine XS.istoreN X0.here hx rfl (hb hby d_method_2_17) rfl (l' := #[.val (.int p0), .val (.int p1), .val (.int (0 : Int32))]) rfl ?_
      show Steps p.tables e below (s₁.setTop (mkF m 18 #[.val (.int p0), .val (.int p1), .val (.int (0 : Int32))] [])) _
      refine XS.iloadN X0.here hx rfl (hb hby d_method_2_18) rfl ?_
      show Steps p.tables e below (s₁.setTop (mkF m 19 #[.val (.int p0), .val (.int p1), .val (.int (0 : Int32))] [(.int p0)])) _
      refine XS.iloadN X0.here hx rfl (hb hby d_method_2_19) rfl ?_
      show Steps p.tables e below (s₁.setTop (mkF m 20 #[.val (.int p0), .val (.int p1), .val (.int (0 : Int32))] [(.int (0 : Int32)), (.int p0)])) _
      refine XS.ishr X0.here hx rfl (hb hby d_method_2_20) rfl ?_
      show Steps p.tables e below (s₁.setTop (mkF m 21 #[.val (.int p0), .val (.int p1), .val (.int (0 : Int32))] [(.int (p0 >>> ((0 : Int32) &&& 31)))])) _
      refine XS.iconst X0.here hx rfl (hb hby d_method_2_21) ?_
      show Steps p.tables e below (s₁.setTop (mkF m 22 #[.val (.int p0), .val (.int p1), .val (.int (0 : Int32))] [(.int (1 : Int32)), (.int (p0 >>> ((0 : Int32) &&& 31)))])) _
      refine XS.iand X0.here hx rfl (hb hby d_method_2_22) rfl ?_
      exact k)
    by_cases hc23_3 : ((p0 >>> ((0 : Int32) &&& 31)) &&& (1 : Int32)) = (0 : Int32)
    · have pre5 : ∀ t, Steps p.tables e below (s₁.setTop (mkF m 31 #[.val (.int p0), .val (.int p1), .val (.int (0 : Int32))] [(.int (0 : Int32))])) t → Steps p.tables e below (s₁.setTop (entryFrame m #[(.int p0), (.int p1)] 3)) t := fun t k => pre4 t (by
        show Steps p.tables e below (s₁.setTop (mkF m 23 #[.val (.int p0), .val (.int p1), .val (.int (0 : Int32))] [(.int ((p0 >>> ((0 : Int32) &&& 31)) &&& (1 : Int32)))])) _
        refine XS.ifYes X0.here hx rfl (pc0 := 23) (pc' := 30) rfl (hb hby d_method_2_23) rfl ((if0 _ _).trans (teq hc23_3).1) (by decide) (by decide) ?_
        show Steps p.tables e below (s₁.setTop (mkF m 30 #[.val (.int p0), .val (.int p1), .val (.int (0 : Int32))] [])) _
        refine XS.iconst X0.here hx rfl (hb hby d_method_2_30) ?_
        exact k)
      obtain ⟨fs, hr, hrun, hended, hW, hsame⟩ := X0.leave (v := some (.int (0 : Int32))) (fun h => by rw [Bd.returns] at h; cases h)
      refine ⟨_, _, pre5 _ ?_, hrun, hended, _, _, rfl, ?_, ⟨_, rfl⟩, hW, hsame.mono (by decide) (by decide)⟩
      · show Steps p.tables e below (s₁.setTop (mkF m 31 #[.val (.int p0), .val (.int p1), .val (.int (0 : Int32))] [(.int (0 : Int32))])) _
        exact retN X0 hx (t := .boolean) Bd.returns (by simp) (hb hby d_method_2_31) hr
      · exact ⟨congrArg (fun z => some (Value.int z)) (Eq.symm ((if_pos hc1_1).trans (if_pos hc23_3))), N0, e0⟩
    · have pre6 : ∀ t, Steps p.tables e below (s₁.setTop (mkF m 31 #[.val (.int p0), .val (.int p1), .val (.int (0 : Int32))] [(.int (1 : Int32))])) t → Steps p.tables e below (s₁.setTop (entryFrame m #[(.int p0), (.int p1)] 3)) t := fun t k => pre4 t (by
        show Steps p.tables e below (s₁.setTop (mkF m 23 #[.val (.int p0), .val (.int p1), .val (.int (0 : Int32))] [(.int ((p0 >>> ((0 : Int32) &&& 31)) &&& (1 : Int32)))])) _
        refine XS.ifNo X0.here hx rfl (hb hby d_method_2_23) rfl ((if0 _ _).trans (feq hc23_3).1) ?_
        show Steps p.tables e below (s₁.setTop (mkF m 26 #[.val (.int p0), .val (.int p1), .val (.int (0 : Int32))] [])) _
        refine XS.iconst X0.here hx rfl (hb hby d_method_2_26) ?_
        show Steps p.tables e below (s₁.setTop (mkF m 27 #[.val (.int p0), .val (.int p1), .val (.int (0 : Int32))] [(.int (1 : Int32))])) _
        refine XS.goto X0.here hx rfl (pc0 := 27) (pc' := 31) rfl (hb hby d_method_2_27) (by decide) (by decide) ?_
        exact k)
      obtain ⟨fs, hr, hrun, hended, hW, hsame⟩ := X0.leave (v := some (.int (1 : Int32))) (fun h => by rw [Bd.returns] at h; cases h)
      refine ⟨_, _, pre6 _ ?_, hrun, hended, _, _, rfl, ?_, ⟨_, rfl⟩, hW, hsame.mono (by decide) (by decide)⟩
      · show Steps p.tables e below (s₁.setTop (mkF m 31 #[.val (.int p0), .val (.int p1), .val (.int (0 : Int32))] [(.int (1 : Int32))])) _
        exact retN X0 hx (t := .boolean) Bd.returns (by simp) (hb hby d_method_2_31) hr
      · exact ⟨congrArg (fun z => some (Value.int z)) (Eq.symm ((if_pos hc1_1).trans (if_neg hc23_3))), N0, e0⟩
  · have pre8 : ∀ t, Steps p.tables e below (s₁.setTop (mkF m 9 #[.val (.int p0), .val (.int p1), .unset] [(.int p1)])) t → Steps p.tables e below (s₁.setTop (entryFrame m #[(.int p0), (.int p1)] 3)) t := fun t k => pre2 t (by
      show Steps p.tables e below (s₁.setTop (mkF m 1 #[.val (.int p0), .val (.int p1), .unset] [(.int p1)])) _
      refine XS.ifYes X0.here hx rfl (pc0 := 1) (pc' := 8) rfl (hb hby d_method_2_1) rfl ((if0 _ _).trans (flt hc1_1).2.1) (by decide) (by decide) ?_
      show Steps p.tables e below (s₁.setTop (mkF m 8 #[.val (.int p0), .val (.int p1), .unset] [])) _
      refine XS.iloadN X0.here hx rfl (hb hby d_method_2_8) rfl ?_
      exact k)
    by_cases hc9_7 : p1 = (0 : Int32)
    · have pre10 : ∀ t, Steps p.tables e below (s₁.setTop (mkF m 23 #[.val (.int p0), .val (.int p1), .val (.int (1 : Int32))] [(.int ((p0 >>> ((1 : Int32) &&& 31)) &&& (1 : Int32)))])) t → Steps p.tables e below (s₁.setTop (entryFrame m #[(.int p0), (.int p1)] 3)) t := fun t k => pre8 t (by
        show Steps p.tables e below (s₁.setTop (mkF m 9 #[.val (.int p0), .val (.int p1), .unset] [(.int p1)])) _
        refine XS.ifNo X0.here hx rfl (hb hby d_method_2_9) rfl ((if0 _ _).trans (teq hc9_7).2) ?_
        show Steps p.tables e below (s₁.setTop (mkF m 12 #[.val (.int p0), .val (.int p1), .unset] [])) _
        refine XS.iconst X0.here hx rfl (hb hby d_method_2_12) ?_
        show Steps p.tables e below (s₁.setTop (mkF m 13 #[.val (.int p0), .val (.int p1), .unset] [(.int (1 : Int32))])) _
        refine XS.goto X0.here hx rfl (pc0 := 13) (pc' := 17) rfl (hb hby d_method_2_13) (by decide) (by decide) ?_
        show Steps p.tables e below (s₁.setTop (mkF m 17 #[.val (.int p0), .val (.int p1), .unset] [(.int (1 : Int32))])) _
        refine XS.istoreN X0.here hx rfl (hb hby d_method_2_17) rfl (l' := #[.val (.int p0), .val (.int p1), .val (.int (1 : Int32))]) rfl ?_
        show Steps p.tables e below (s₁.setTop (mkF m 18 #[.val (.int p0), .val (.int p1), .val (.int (1 : Int32))] [])) _
        refine XS.iloadN X0.here hx rfl (hb hby d_method_2_18) rfl ?_
        show Steps p.tables e below (s₁.setTop (mkF m 19 #[.val (.int p0), .val (.int p1), .val (.int (1 : Int32))] [(.int p0)])) _
        refine XS.iloadN X0.here hx rfl (hb hby d_method_2_19) rfl ?_
        show Steps p.tables e below (s₁.setTop (mkF m 20 #[.val (.int p0), .val (.int p1), .val (.int (1 : Int32))] [(.int (1 : Int32)), (.int p0)])) _
        refine XS.ishr X0.here hx rfl (hb hby d_method_2_20) rfl ?_
        show Steps p.tables e below (s₁.setTop (mkF m 21 #[.val (.int p0), .val (.int p1), .val (.int (1 : Int32))] [(.int (p0 >>> ((1 : Int32) &&& 31)))])) _
        refine XS.iconst X0.here hx rfl (hb hby d_method_2_21) ?_
        show Steps p.tables e below (s₁.setTop (mkF m 22 #[.val (.int p0), .val (.int p1), .val (.int (1 : Int32))] [(.int (1 : Int32)), (.int (p0 >>> ((1 : Int32) &&& 31)))])) _
        refine XS.iand X0.here hx rfl (hb hby d_method_2_22) rfl ?_
        exact k)
      by_cases hc23_9 : ((p0 >>> ((1 : Int32) &&& 31)) &&& (1 : Int32)) = (0 : Int32)
      · have pre11 : ∀ t, Steps p.tables e below (s₁.setTop (mkF m 31 #[.val (.int p0), .val (.int p1), .val (.int (1 : Int32))] [(.int (0 : Int32))])) t → Steps p.tables e below (s₁.setTop (entryFrame m #[(.int p0), (.int p1)] 3)) t := fun t k => pre10 t (by
          show Steps p.tables e below (s₁.setTop (mkF m 23 #[.val (.int p0), .val (.int p1), .val (.int (1 : Int32))] [(.int ((p0 >>> ((1 : Int32) &&& 31)) &&& (1 : Int32)))])) _
          refine XS.ifYes X0.here hx rfl (pc0 := 23) (pc' := 30) rfl (hb hby d_method_2_23) rfl ((if0 _ _).trans (teq hc23_9).1) (by decide) (by decide) ?_
          show Steps p.tables e below (s₁.setTop (mkF m 30 #[.val (.int p0), .val (.int p1), .val (.int (1 : Int32))] [])) _
          refine XS.iconst X0.here hx rfl (hb hby d_method_2_30) ?_
          exact k)
        obtain ⟨fs, hr, hrun, hended, hW, hsame⟩ := X0.leave (v := some (.int (0 : Int32))) (fun h => by rw [Bd.returns] at h; cases h)
        refine ⟨_, _, pre11 _ ?_, hrun, hended, _, _, rfl, ?_, ⟨_, rfl⟩, hW, hsame.mono (by decide) (by decide)⟩
        · show Steps p.tables e below (s₁.setTop (mkF m 31 #[.val (.int p0), .val (.int p1), .val (.int (1 : Int32))] [(.int (0 : Int32))])) _
          exact retN X0 hx (t := .boolean) Bd.returns (by simp) (hb hby d_method_2_31) hr
        · exact ⟨congrArg (fun z => some (Value.int z)) (Eq.symm ((if_neg hc1_1).trans ((if_pos hc9_7).trans (if_pos hc23_9)))), N0, e0⟩
      · have pre12 : ∀ t, Steps p.tables e below (s₁.setTop (mkF m 31 #[.val (.int p0), .val (.int p1), .val (.int (1 : Int32))] [(.int (1 : Int32))])) t → Steps p.tables e below (s₁.setTop (entryFrame m #[(.int p0), (.int p1)] 3)) t := fun t k => pre10 t (by
          show Steps p.tables e below (s₁.setTop (mkF m 23 #[.val (.int p0), .val (.int p1), .val (.int (1 : Int32))] [(.int ((p0 >>> ((1 : Int32) &&& 31)) &&& (1 : Int32)))])) _
          refine XS.ifNo X0.here hx rfl (hb hby d_method_2_23) rfl ((if0 _ _).trans (feq hc23_9).1) ?_
          show Steps p.tables e below (s₁.setTop (mkF m 26 #[.val (.int p0), .val (.int p1), .val (.int (1 : Int32))] [])) _
          refine XS.iconst X0.here hx rfl (hb hby d_method_2_26) ?_
          show Steps p.tables e below (s₁.setTop (mkF m 27 #[.val (.int p0), .val (.int p1), .val (.int (1 : Int32))] [(.int (1 : Int32))])) _
          refine XS.goto X0.here hx rfl (pc0 := 27) (pc' := 31) rfl (hb hby d_method_2_27) (by decide) (by decide) ?_
          exact k)
        obtain ⟨fs, hr, hrun, hended, hW, hsame⟩ := X0.leave (v := some (.int (1 : Int32))) (fun h => by rw [Bd.returns] at h; cases h)
        refine ⟨_, _, pre12 _ ?_, hrun, hended, _, _, rfl, ?_, ⟨_, rfl⟩, hW, hsame.mono (by decide) (by decide)⟩
        · show Steps p.tables e below (s₁.setTop (mkF m 31 #[.val (.int p0), .val (.int p1), .val (.int (1 : Int32))] [(.int (1 : Int32))])) _
          exact retN X0 hx (t := .boolean) Bd.returns (by simp) (hb hby d_method_2_31) hr
        · exact ⟨congrArg (fun z => some (Value.int z)) (Eq.symm ((if_neg hc1_1).trans ((if_pos hc9_7).trans (if_neg hc23_9)))), N0, e0⟩
    · have pre14 : ∀ t, Steps p.tables e below (s₁.setTop (mkF m 23 #[.val (.int p0), .val (.int p1), .val (.int (2 : Int32))] [(.int ((p0 >>> ((2 : Int32) &&& 31)) &&& (1 : Int32)))])) t → Steps p.tables e below (s₁.setTop (entryFrame m #[(.int p0), (.int p1)] 3)) t := fun t k => pre8 t (by
        show Steps p.tables e below (s₁.setTop (mkF m 9 #[.val (.int p0), .val (.int p1), .unset] [(.int p1)])) _
        refine XS.ifYes X0.here hx rfl (pc0 := 9) (pc' := 16) rfl (hb hby d_method_2_9) rfl ((if0 _ _).trans (feq hc9_7).2) (by decide) (by decide) ?_
        show Steps p.tables e below (s₁.setTop (mkF m 16 #[.val (.int p0), .val (.int p1), .unset] [])) _
        refine XS.iconst X0.here hx rfl (hb hby d_method_2_16) ?_
        show Steps p.tables e below (s₁.setTop (mkF m 17 #[.val (.int p0), .val (.int p1), .unset] [(.int (2 : Int32))])) _
        refine XS.istoreN X0.here hx rfl (hb hby d_method_2_17) rfl (l' := #[.val (.int p0), .val (.int p1), .val (.int (2 : Int32))]) rfl ?_
        show Steps p.tables e below (s₁.setTop (mkF m 18 #[.val (.int p0), .val (.int p1), .val (.int (2 : Int32))] [])) _
        refine XS.iloadN X0.here hx rfl (hb hby d_method_2_18) rfl ?_
        show Steps p.tables e below (s₁.setTop (mkF m 19 #[.val (.int p0), .val (.int p1), .val (.int (2 : Int32))] [(.int p0)])) _
        refine XS.iloadN X0.here hx rfl (hb hby d_method_2_19) rfl ?_
        show Steps p.tables e below (s₁.setTop (mkF m 20 #[.val (.int p0), .val (.int p1), .val (.int (2 : Int32))] [(.int (2 : Int32)), (.int p0)])) _
        refine XS.ishr X0.here hx rfl (hb hby d_method_2_20) rfl ?_
        show Steps p.tables e below (s₁.setTop (mkF m 21 #[.val (.int p0), .val (.int p1), .val (.int (2 : Int32))] [(.int (p0 >>> ((2 : Int32) &&& 31)))])) _
        refine XS.iconst X0.here hx rfl (hb hby d_method_2_21) ?_
        show Steps p.tables e below (s₁.setTop (mkF m 22 #[.val (.int p0), .val (.int p1), .val (.int (2 : Int32))] [(.int (1 : Int32)), (.int (p0 >>> ((2 : Int32) &&& 31)))])) _
        refine XS.iand X0.here hx rfl (hb hby d_method_2_22) rfl ?_
        exact k)
      by_cases hc23_13 : ((p0 >>> ((2 : Int32) &&& 31)) &&& (1 : Int32)) = (0 : Int32)
      · have pre15 : ∀ t, Steps p.tables e below (s₁.setTop (mkF m 31 #[.val (.int p0), .val (.int p1), .val (.int (2 : Int32))] [(.int (0 : Int32))])) t → Steps p.tables e below (s₁.setTop (entryFrame m #[(.int p0), (.int p1)] 3)) t := fun t k => pre14 t (by
          show Steps p.tables e below (s₁.setTop (mkF m 23 #[.val (.int p0), .val (.int p1), .val (.int (2 : Int32))] [(.int ((p0 >>> ((2 : Int32) &&& 31)) &&& (1 : Int32)))])) _
          refine XS.ifYes X0.here hx rfl (pc0 := 23) (pc' := 30) rfl (hb hby d_method_2_23) rfl ((if0 _ _).trans (teq hc23_13).1) (by decide) (by decide) ?_
          show Steps p.tables e below (s₁.setTop (mkF m 30 #[.val (.int p0), .val (.int p1), .val (.int (2 : Int32))] [])) _
          refine XS.iconst X0.here hx rfl (hb hby d_method_2_30) ?_
          exact k)
        obtain ⟨fs, hr, hrun, hended, hW, hsame⟩ := X0.leave (v := some (.int (0 : Int32))) (fun h => by rw [Bd.returns] at h; cases h)
        refine ⟨_, _, pre15 _ ?_, hrun, hended, _, _, rfl, ?_, ⟨_, rfl⟩, hW, hsame.mono (by decide) (by decide)⟩
        · show Steps p.tables e below (s₁.setTop (mkF m 31 #[.val (.int p0), .val (.int p1), .val (.int (2 : Int32))] [(.int (0 : Int32))])) _
          exact retN X0 hx (t := .boolean) Bd.returns (by simp) (hb hby d_method_2_31) hr
        · exact ⟨congrArg (fun z => some (Value.int z)) (Eq.symm ((if_neg hc1_1).trans ((if_neg hc9_7).trans (if_pos hc23_13)))), N0, e0⟩
      · have pre16 : ∀ t, Steps p.tables e below (s₁.setTop (mkF m 31 #[.val (.int p0), .val (.int p1), .val (.int (2 : Int32))] [(.int (1 : Int32))])) t → Steps p.tables e below (s₁.setTop (entryFrame m #[(.int p0), (.int p1)] 3)) t := fun t k => pre14 t (by
          show Steps p.tables e below (s₁.setTop (mkF m 23 #[.val (.int p0), .val (.int p1), .val (.int (2 : Int32))] [(.int ((p0 >>> ((2 : Int32) &&& 31)) &&& (1 : Int32)))])) _
          refine XS.ifNo X0.here hx rfl (hb hby d_method_2_23) rfl ((if0 _ _).trans (feq hc23_13).1) ?_
          show Steps p.tables e below (s₁.setTop (mkF m 26 #[.val (.int p0), .val (.int p1), .val (.int (2 : Int32))] [])) _
          refine XS.iconst X0.here hx rfl (hb hby d_method_2_26) ?_
          show Steps p.tables e below (s₁.setTop (mkF m 27 #[.val (.int p0), .val (.int p1), .val (.int (2 : Int32))] [(.int (1 : Int32))])) _
          refine XS.goto X0.here hx rfl (pc0 := 27) (pc' := 31) rfl (hb hby d_method_2_27) (by decide) (by decide) ?_
          exact k)
        obtain ⟨fs, hr, hrun, hended, hW, hsame⟩ := X0.leave (v := some (.int (1 : Int32))) (fun h => by rw [Bd.returns] at h; cases h)
        refine ⟨_, _, pre16 _ ?_, hrun, hended, _, _, rfl, ?_, ⟨_, rfl⟩, hW, hsame.mono (by decide) (by decide)⟩
        · show Steps p.tables e below (s₁.setTop (mkF m 31 #[.val (.int p0), .val (.int p1), .val (.int (2 : Int32))] [(.int (1 : Int32))])) _
          exact retN X0 hx (t := .boolean) Bd.returns (by simp) (hb hby d_method_2_31) hr
        · exact ⟨congrArg (fun z => some (Value.int z)) (Eq.symm ((if_neg hc1_1).trans ((if_neg hc9_7).trans (if_neg hc23_13)))), N0, e0⟩
theorem pd_1 : parseMethodDescriptor "(I)Z" = some ⟨[.int], some .boolean⟩ := by decide +kernel
theorem pd_2 : parseMethodDescriptor "(II)Z" = some ⟨[.int, .int], some .boolean⟩ := by decide +kernel
theorem ef_law_neg (m : MethodId) (x0 : Int32) : entryFrame m #[(.int x0)] maxLocals = mkF m 0 #[.val (.int x0), .unset, .unset, .unset, .unset, .unset, .unset] [] := by first | (simp [entryFrame, mkF, argsToLocals, Value.category, maxLocals]; done) | rfl
set_option maxRecDepth 65536 in
set_option maxHeartbeats 40000000 in
theorem rm_law_neg (l : Launch) (Z : State) (a0 : Array Value) (hw : ∀ d ∈ tables_1, d.before a0 Z = true) (ws : List Jvm.Cond) (p1 : Int32) (h0 : Heap) (n0 : Nat) (w_EQUAL w_NOT_EQUAL w_LESS w_LESS_OR_EQUAL w_GREATER w_GREATER_OR_EQUAL : Addr) (hK : own_K Z h0 w_EQUAL w_NOT_EQUAL w_LESS w_LESS_OR_EQUAL w_GREATER w_GREATER_OR_EQUAL) (h1 : p1 < (0 : Int32)) (h2 : ¬ (p1 = (0 : Int32))) (h3 : ¬ ((0 : Int32) < p1)) :
    MetFree l x (head1 (Jvm.Cond.code x code maxLocals ret :: ws) room_1) (fun a U => a = #[(.int p1)] ∧ Z.Warmed39 U.vm ∧ U.heap = h0) (fun _ _ _ _ _ => True) (fun _ U o U' => ∃ v L, o = .returned v ∧ own_Q (some (.int (1 : Int32))) h0 n0 v U'.heap L ∧ FrameEnd U o U' L room_1.cells room_1.slots) := by
  refine MetFree.of_bodySF (plainFor_of_name pn_2) hisR ?_
  intro p e s m args below meth c s₁ Bd hml0 hP hK0
  obtain ⟨rfl, hZ, hh⟩ := hP
  have hx := Bd.exec
  have hby := Bd.bytes
  have hml : c.maxLocals = 7 := hml0
  have hown : s.vm.findClass "com/example/cairn/cairn/expr/OperatorHoldsPinLaw" = some m.cls := findClass_of_methodNamed Bd.named
  have hnm := (name_of_methodNamed Bd.named Bd.method).1
  have X0 : Stand p l e room_1 s m #[(.int p1)] below meth c s₁ [] 0 0 := Stand.of_body Bd
  have e0 : s₁.heap = h0 := by rw [← hh, Bd.state]; rfl
  have N0 := Fr.nil n0
  have pre0 : ∀ t, Steps p.tables e below (s₁.setTop (mkF m 0 #[.val (.int p1), .unset, .unset, .unset, .unset, .unset, .unset] [])) t → Steps p.tables e below (s₁.setTop (entryFrame m #[(.int p1)] maxLocals)) t := fun t k => castTop (ef_law_neg m p1) k
  have hK' := hK
  obtain ⟨S_w_EQUAL, E_w_EQUAL, F_ordinal_w_EQUAL, S_w_NOT_EQUAL, E_w_NOT_EQUAL, F_ordinal_w_NOT_EQUAL, S_w_LESS, E_w_LESS, F_ordinal_w_LESS, S_w_LESS_OR_EQUAL, E_w_LESS_OR_EQUAL, F_ordinal_w_LESS_OR_EQUAL, S_w_GREATER, E_w_GREATER, F_ordinal_w_GREATER, S_w_GREATER_OR_EQUAL, E_w_GREATER_OR_EQUAL, F_ordinal_w_GREATER_OR_EQUAL⟩ := hK'
  obtain ⟨T1, X1, e1, st1⟩ := getS2 X0 hx hZ hown (host := "") (Or.inl (hw _ (ow 0 rfl))) Via.refl e0 S_w_EQUAL (g := (mkF m 0 #[.val (.int p1), .unset, .unset, .unset, .unset, .unset, .unset] [])) rfl (hb hby at_0)
  obtain ⟨cq2, kq2, q2a, q2b, q2c⟩ := isOf hZ e1 E_w_EQUAL
  obtain ⟨v2, _, ⟨T2, L2, k2, n2⟩, -, X2, ⟨Lc2, hQ2, l2, y2, z2⟩, st2⟩ := X1.virtualBack hx (y := (⟨"com/example/cairn/cairn/expr/Comparison$Operator", "holds", "(I)Z"⟩ : MethodName)) (z := (⟨"com/example/cairn/cairn/expr/Comparison$Operator", "holds", "(I)Z"⟩ : MethodName)) hown (mvT hZ (hw _ (ow 3 rfl))) (mvT hZ (hw _ (ow 4 rfl))) (notFace_of_selects (args := #[]) (mvT hZ (hw _ (ow 6 rfl)))) (mvT hZ (hw _ (ow 6 rfl))) (mvT hZ (hw _ (ow 5 rfl))) (by decide) (backOf (W := 0) (rm_holds_EQUAL l Z a0 hw [] p1 h0 n0 w_EQUAL w_NOT_EQUAL w_LESS w_LESS_OR_EQUAL w_GREATER w_GREATER_OR_EQUAL hK) hZ (hw _ (ow 7 rfl)) (hw _ (ow 1 rfl)) (by decide) (by decide)) q2a q2c (g := (mkF m 4 #[.val (.int p1), .unset, .unset, .unset, .unset, .unset, .unset] [(.int p1), (.ref w_EQUAL)])) rfl (by rw [hml]; rfl) (Steps.refl _) (argsL := [(.int p1)]) (rest := []) (lenOf pd_1 rfl) rfl (Nat.le_of_eq rfl) (hb hby at_4) (fun _ _ => ⟨rfl, e1, (by decide : 0 + 0 ≤ _), (by decide : 0 + 0 ≤ _)⟩)
  dsimp only [Pt.U, Pt.locs, Pt.cells, Pt.slots] at X2 l2 y2 z2 st2 hQ2
  subst l2 y2 z2
  obtain ⟨hv2, Nq2, e2⟩ := hQ2
  obtain rfl : v2 = some (.int (0 : Int32)) := hv2.trans (congrArg some (congrArg Value.int (if_neg h2)))
  have N2 := Fr.app N0 Nq2
  obtain ⟨v3, _, ⟨T3, L3, k3, n3⟩, -, X3, ⟨Lc3, hQ3, l3, y3, z3⟩, st3⟩ := Jvm.LawKit.callS X2 hx (y := (⟨"com/example/cairn/cairn/expr/OperatorHoldsPinLaw", "accepts", "(II)Z"⟩ : MethodName)) hown (mvT hZ (hw _ (ow 17 rfl))) (mvT hZ (hw _ (ow 18 rfl))) (mvT hZ (hw _ (ow 19 rfl))) (mvT hZ (hw _ (ow 20 rfl))) (by decide) (backOf (W := 1) (rm_accepts l Z a0 hw [] (2 : Int32) p1 h0 n0 w_EQUAL w_NOT_EQUAL w_LESS w_LESS_OR_EQUAL w_GREATER w_GREATER_OR_EQUAL hK) hZ (hw _ (ow 20 rfl)) (hw _ (ow 19 rfl)) (by decide) (by decide)) (g := (mkF m 9 #[.val (.int p1), .unset, .unset, .unset, .unset, .unset, .unset] [(.int p1), (.int (2 : Int32)), (.int (0 : Int32))])) rfl (by rw [hml]; rfl) (argsL := [(.int (2 : Int32)), (.int p1)]) (rest := [(.int (0 : Int32))]) (lenOf pd_2 rfl) rfl (Nat.le_of_eq rfl) (hb hby at_9) (fun _ _ => ⟨rfl, e2, (by decide : 0 + 0 ≤ _), (by decide : 0 + 0 ≤ _)⟩)
  dsimp only [Pt.U, Pt.locs, Pt.cells, Pt.slots] at X3 l3 y3 z3 st3 hQ3
  subst l3 y3 z3
  obtain ⟨hv3, Nq3, e3⟩ := hQ3
  obtain rfl : v3 = some (.int (0 : Int32)) := hv3.trans (congrArg some (congrArg Value.int ((if_pos h1).trans (if_pos (by decide)))))
  have N3 := Fr.app N2 Nq3
  obtain ⟨T4, X4, e4, st4⟩ := getS2 X3 hx hZ hown (host := "") (Or.inl (hw _ (ow 21 rfl))) Via.refl e3 S_w_NOT_EQUAL (g := (mkF m 21 #[.val (.int p1), .val (.int (1 : Int32)), .unset, .unset, .unset, .unset, .unset] [])) rfl (hb hby at_21)
  obtain ⟨cq5, kq5, q5a, q5b, q5c⟩ := isOf hZ e4 E_w_NOT_EQUAL
  obtain ⟨v5, _, ⟨T5, L5, k5, n5⟩, -, X5, ⟨Lc5, hQ5, l5, y5, z5⟩, st5⟩ := X4.virtualBack hx (y := (⟨"com/example/cairn/cairn/expr/Comparison$Operator", "holds", "(I)Z"⟩ : MethodName)) (z := (⟨"com/example/cairn/cairn/expr/Comparison$Operator", "holds", "(I)Z"⟩ : MethodName)) hown (mvT hZ (hw _ (ow 3 rfl))) (mvT hZ (hw _ (ow 4 rfl))) (notFace_of_selects (args := #[]) (mvT hZ (hw _ (ow 6 rfl)))) (mvT hZ (hw _ (ow 6 rfl))) (mvT hZ (hw _ (ow 5 rfl))) (by decide) (backOf (W := 0) (rm_holds_NOT_EQUAL l Z a0 hw [] p1 h0 n0 w_EQUAL w_NOT_EQUAL w_LESS w_LESS_OR_EQUAL w_GREATER w_GREATER_OR_EQUAL hK) hZ (hw _ (ow 7 rfl)) (hw _ (ow 1 rfl)) (by decide) (by decide)) q5a q5c (g := (mkF m 25 #[.val (.int p1), .val (.int (1 : Int32)), .unset, .unset, .unset, .unset, .unset] [(.int p1), (.ref w_NOT_EQUAL)])) rfl (by rw [hml]; rfl) (Steps.refl _) (argsL := [(.int p1)]) (rest := []) (lenOf pd_1 rfl) rfl (Nat.le_of_eq rfl) (hb hby at_25) (fun _ _ => ⟨rfl, e4, (by decide : 0 + 0 ≤ _), (by decide : 0 + 0 ≤ _)⟩)
  dsimp only [Pt.U, Pt.locs, Pt.cells, Pt.slots] at X5 l5 y5 z5 st5 hQ5
  subst l5 y5 z5
  obtain ⟨hv5, Nq5, e5⟩ := hQ5
  obtain rfl : v5 = some (.int (1 : Int32)) := hv5.trans (congrArg some (congrArg Value.int (if_neg h2)))
  have N5 := Fr.app N3 Nq5
  obtain ⟨v6, _, ⟨T6, L6, k6, n6⟩, -, X6, ⟨Lc6, hQ6, l6, y6, z6⟩, st6⟩ := Jvm.LawKit.callS X5 hx (y := (⟨"com/example/cairn/cairn/expr/OperatorHoldsPinLaw", "accepts", "(II)Z"⟩ : MethodName)) hown (mvT hZ (hw _ (ow 17 rfl))) (mvT hZ (hw _ (ow 18 rfl))) (mvT hZ (hw _ (ow 19 rfl))) (mvT hZ (hw _ (ow 20 rfl))) (by decide) (backOf (W := 1) (rm_accepts l Z a0 hw [] (5 : Int32) p1 h0 n0 w_EQUAL w_NOT_EQUAL w_LESS w_LESS_OR_EQUAL w_GREATER w_GREATER_OR_EQUAL hK) hZ (hw _ (ow 20 rfl)) (hw _ (ow 19 rfl)) (by decide) (by decide)) (g := (mkF m 30 #[.val (.int p1), .val (.int (1 : Int32)), .unset, .unset, .unset, .unset, .unset] [(.int p1), (.int (5 : Int32)), (.int (1 : Int32))])) rfl (by rw [hml]; rfl) (argsL := [(.int (5 : Int32)), (.int p1)]) (rest := [(.int (1 : Int32))]) (lenOf pd_2 rfl) rfl (Nat.le_of_eq rfl) (hb hby at_30) (fun _ _ => ⟨rfl, e5, (by decide : 0 + 0 ≤ _), (by decide : 0 + 0 ≤ _)⟩)
  dsimp only [Pt.U, Pt.locs, Pt.cells, Pt.slots] at X6 l6 y6 z6 st6 hQ6
  subst l6 y6 z6
  obtain ⟨hv6, Nq6, e6⟩ := hQ6
  obtain rfl : v6 = some (.int (1 : Int32)) := hv6.trans (congrArg some (congrArg Value.int ((if_pos h1).trans (if_neg (by decide)))))
  have N6 := Fr.app N5 Nq6
  obtain ⟨T7, X7, e7, st7⟩ := getS2 X6 hx hZ hown (host := "") (Or.inl (hw _ (ow 23 rfl))) Via.refl e6 S_w_LESS (g := (mkF m 42 #[.val (.int p1), .val (.int (1 : Int32)), .val (.int (1 : Int32)), .unset, .unset, .unset, .unset] [])) rfl (hb hby at_42)
  obtain ⟨cq8, kq8, q8a, q8b, q8c⟩ := isOf hZ e7 E_w_LESS
  obtain ⟨v8, _, ⟨T8, L8, k8, n8⟩, -, X8, ⟨Lc8, hQ8, l8, y8, z8⟩, st8⟩ := X7.virtualBack hx (y := (⟨"com/example/cairn/cairn/expr/Comparison$Operator", "holds", "(I)Z"⟩ : MethodName)) (z := (⟨"com/example/cairn/cairn/expr/Comparison$Operator", "holds", "(I)Z"⟩ : MethodName)) hown (mvT hZ (hw _ (ow 3 rfl))) (mvT hZ (hw _ (ow 4 rfl))) (notFace_of_selects (args := #[]) (mvT hZ (hw _ (ow 6 rfl)))) (mvT hZ (hw _ (ow 6 rfl))) (mvT hZ (hw _ (ow 5 rfl))) (by decide) (backOf (W := 0) (rm_holds_LESS l Z a0 hw [] p1 h0 n0 w_EQUAL w_NOT_EQUAL w_LESS w_LESS_OR_EQUAL w_GREATER w_GREATER_OR_EQUAL hK) hZ (hw _ (ow 7 rfl)) (hw _ (ow 1 rfl)) (by decide) (by decide)) q8a q8c (g := (mkF m 46 #[.val (.int p1), .val (.int (1 : Int32)), .val (.int (1 : Int32)), .unset, .unset, .unset, .unset] [(.int p1), (.ref w_LESS)])) rfl (by rw [hml]; rfl) (Steps.refl _) (argsL := [(.int p1)]) (rest := []) (lenOf pd_1 rfl) rfl (Nat.le_of_eq rfl) (hb hby at_46) (fun _ _ => ⟨rfl, e7, (by decide : 0 + 0 ≤ _), (by decide : 0 + 0 ≤ _)⟩)
  dsimp only [Pt.U, Pt.locs, Pt.cells, Pt.slots] at X8 l8 y8 z8 st8 hQ8
  subst l8 y8 z8
  obtain ⟨hv8, Nq8, e8⟩ := hQ8
  obtain rfl : v8 = some (.int (1 : Int32)) := hv8.trans (congrArg some (congrArg Value.int (if_pos h1)))
  have N8 := Fr.app N6 Nq8
  obtain ⟨v9, _, ⟨T9, L9, k9, n9⟩, -, X9, ⟨Lc9, hQ9, l9, y9, z9⟩, st9⟩ := Jvm.LawKit.callS X8 hx (y := (⟨"com/example/cairn/cairn/expr/OperatorHoldsPinLaw", "accepts", "(II)Z"⟩ : MethodName)) hown (mvT hZ (hw _ (ow 17 rfl))) (mvT hZ (hw _ (ow 18 rfl))) (mvT hZ (hw _ (ow 19 rfl))) (mvT hZ (hw _ (ow 20 rfl))) (by decide) (backOf (W := 1) (rm_accepts l Z a0 hw [] (1 : Int32) p1 h0 n0 w_EQUAL w_NOT_EQUAL w_LESS w_LESS_OR_EQUAL w_GREATER w_GREATER_OR_EQUAL hK) hZ (hw _ (ow 20 rfl)) (hw _ (ow 19 rfl)) (by decide) (by decide)) (g := (mkF m 51 #[.val (.int p1), .val (.int (1 : Int32)), .val (.int (1 : Int32)), .unset, .unset, .unset, .unset] [(.int p1), (.int (1 : Int32)), (.int (1 : Int32))])) rfl (by rw [hml]; rfl) (argsL := [(.int (1 : Int32)), (.int p1)]) (rest := [(.int (1 : Int32))]) (lenOf pd_2 rfl) rfl (Nat.le_of_eq rfl) (hb hby at_51) (fun _ _ => ⟨rfl, e8, (by decide : 0 + 0 ≤ _), (by decide : 0 + 0 ≤ _)⟩)
  dsimp only [Pt.U, Pt.locs, Pt.cells, Pt.slots] at X9 l9 y9 z9 st9 hQ9
  subst l9 y9 z9
  obtain ⟨hv9, Nq9, e9⟩ := hQ9
  obtain rfl : v9 = some (.int (1 : Int32)) := hv9.trans (congrArg some (congrArg Value.int ((if_pos h1).trans (if_neg (by decide)))))
  have N9 := Fr.app N8 Nq9
  obtain ⟨T10, X10, e10, st10⟩ := getS2 X9 hx hZ hown (host := "") (Or.inl (hw _ (ow 25 rfl))) Via.refl e9 S_w_LESS_OR_EQUAL (g := (mkF m 63 #[.val (.int p1), .val (.int (1 : Int32)), .val (.int (1 : Int32)), .val (.int (1 : Int32)), .unset, .unset, .unset] [])) rfl (hb hby at_63)
  obtain ⟨cq11, kq11, q11a, q11b, q11c⟩ := isOf hZ e10 E_w_LESS_OR_EQUAL
  obtain ⟨v11, _, ⟨T11, L11, k11, n11⟩, -, X11, ⟨Lc11, hQ11, l11, y11, z11⟩, st11⟩ := X10.virtualBack hx (y := (⟨"com/example/cairn/cairn/expr/Comparison$Operator", "holds", "(I)Z"⟩ : MethodName)) (z := (⟨"com/example/cairn/cairn/expr/Comparison$Operator", "holds", "(I)Z"⟩ : MethodName)) hown (mvT hZ (hw _ (ow 3 rfl))) (mvT hZ (hw _ (ow 4 rfl))) (notFace_of_selects (args := #[]) (mvT hZ (hw _ (ow 6 rfl)))) (mvT hZ (hw _ (ow 6 rfl))) (mvT hZ (hw _ (ow 5 rfl))) (by decide) (backOf (W := 0) (rm_holds_LESS_OR_EQUAL l Z a0 hw [] p1 h0 n0 w_EQUAL w_NOT_EQUAL w_LESS w_LESS_OR_EQUAL w_GREATER w_GREATER_OR_EQUAL hK) hZ (hw _ (ow 7 rfl)) (hw _ (ow 1 rfl)) (by decide) (by decide)) q11a q11c (g := (mkF m 67 #[.val (.int p1), .val (.int (1 : Int32)), .val (.int (1 : Int32)), .val (.int (1 : Int32)), .unset, .unset, .unset] [(.int p1), (.ref w_LESS_OR_EQUAL)])) rfl (by rw [hml]; rfl) (Steps.refl _) (argsL := [(.int p1)]) (rest := []) (lenOf pd_1 rfl) rfl (Nat.le_of_eq rfl) (hb hby at_67) (fun _ _ => ⟨rfl, e10, (by decide : 0 + 0 ≤ _), (by decide : 0 + 0 ≤ _)⟩)
  dsimp only [Pt.U, Pt.locs, Pt.cells, Pt.slots] at X11 l11 y11 z11 st11 hQ11
  subst l11 y11 z11
  obtain ⟨hv11, Nq11, e11⟩ := hQ11
  obtain rfl : v11 = some (.int (1 : Int32)) := hv11.trans (congrArg some (congrArg Value.int (if_neg h3)))
  have N11 := Fr.app N9 Nq11
  obtain ⟨v12, _, ⟨T12, L12, k12, n12⟩, -, X12, ⟨Lc12, hQ12, l12, y12, z12⟩, st12⟩ := Jvm.LawKit.callS X11 hx (y := (⟨"com/example/cairn/cairn/expr/OperatorHoldsPinLaw", "accepts", "(II)Z"⟩ : MethodName)) hown (mvT hZ (hw _ (ow 17 rfl))) (mvT hZ (hw _ (ow 18 rfl))) (mvT hZ (hw _ (ow 19 rfl))) (mvT hZ (hw _ (ow 20 rfl))) (by decide) (backOf (W := 1) (rm_accepts l Z a0 hw [] (3 : Int32) p1 h0 n0 w_EQUAL w_NOT_EQUAL w_LESS w_LESS_OR_EQUAL w_GREATER w_GREATER_OR_EQUAL hK) hZ (hw _ (ow 20 rfl)) (hw _ (ow 19 rfl)) (by decide) (by decide)) (g := (mkF m 72 #[.val (.int p1), .val (.int (1 : Int32)), .val (.int (1 : Int32)), .val (.int (1 : Int32)), .unset, .unset, .unset] [(.int p1), (.int (3 : Int32)), (.int (1 : Int32))])) rfl (by rw [hml]; rfl) (argsL := [(.int (3 : Int32)), (.int p1)]) (rest := [(.int (1 : Int32))]) (lenOf pd_2 rfl) rfl (Nat.le_of_eq rfl) (hb hby at_72) (fun _ _ => ⟨rfl, e11, (by decide : 0 + 0 ≤ _), (by decide : 0 + 0 ≤ _)⟩)
  dsimp only [Pt.U, Pt.locs, Pt.cells, Pt.slots] at X12 l12 y12 z12 st12 hQ12
  subst l12 y12 z12
  obtain ⟨hv12, Nq12, e12⟩ := hQ12
  obtain rfl : v12 = some (.int (1 : Int32)) := hv12.trans (congrArg some (congrArg Value.int ((if_pos h1).trans (if_neg (by decide)))))
  have N12 := Fr.app N11 Nq12
  obtain ⟨T13, X13, e13, st13⟩ := getS2 X12 hx hZ hown (host := "") (Or.inl (hw _ (ow 27 rfl))) Via.refl e12 S_w_GREATER (g := (mkF m 85 #[.val (.int p1), .val (.int (1 : Int32)), .val (.int (1 : Int32)), .val (.int (1 : Int32)), .val (.int (1 : Int32)), .unset, .unset] [])) rfl (hb hby at_85)
  obtain ⟨cq14, kq14, q14a, q14b, q14c⟩ := isOf hZ e13 E_w_GREATER
  obtain ⟨v14, _, ⟨T14, L14, k14, n14⟩, -, X14, ⟨Lc14, hQ14, l14, y14, z14⟩, st14⟩ := X13.virtualBack hx (y := (⟨"com/example/cairn/cairn/expr/Comparison$Operator", "holds", "(I)Z"⟩ : MethodName)) (z := (⟨"com/example/cairn/cairn/expr/Comparison$Operator", "holds", "(I)Z"⟩ : MethodName)) hown (mvT hZ (hw _ (ow 3 rfl))) (mvT hZ (hw _ (ow 4 rfl))) (notFace_of_selects (args := #[]) (mvT hZ (hw _ (ow 6 rfl)))) (mvT hZ (hw _ (ow 6 rfl))) (mvT hZ (hw _ (ow 5 rfl))) (by decide) (backOf (W := 0) (rm_holds_GREATER l Z a0 hw [] p1 h0 n0 w_EQUAL w_NOT_EQUAL w_LESS w_LESS_OR_EQUAL w_GREATER w_GREATER_OR_EQUAL hK) hZ (hw _ (ow 7 rfl)) (hw _ (ow 1 rfl)) (by decide) (by decide)) q14a q14c (g := (mkF m 89 #[.val (.int p1), .val (.int (1 : Int32)), .val (.int (1 : Int32)), .val (.int (1 : Int32)), .val (.int (1 : Int32)), .unset, .unset] [(.int p1), (.ref w_GREATER)])) rfl (by rw [hml]; rfl) (Steps.refl _) (argsL := [(.int p1)]) (rest := []) (lenOf pd_1 rfl) rfl (Nat.le_of_eq rfl) (hb hby at_89) (fun _ _ => ⟨rfl, e13, (by decide : 0 + 0 ≤ _), (by decide : 0 + 0 ≤ _)⟩)
  dsimp only [Pt.U, Pt.locs, Pt.cells, Pt.slots] at X14 l14 y14 z14 st14 hQ14
  subst l14 y14 z14
  obtain ⟨hv14, Nq14, e14⟩ := hQ14
  obtain rfl : v14 = some (.int (0 : Int32)) := hv14.trans (congrArg some (congrArg Value.int (if_neg h3)))
  have N14 := Fr.app N12 Nq14
  obtain ⟨v15, _, ⟨T15, L15, k15, n15⟩, -, X15, ⟨Lc15, hQ15, l15, y15, z15⟩, st15⟩ := Jvm.LawKit.callS X14 hx (y := (⟨"com/example/cairn/cairn/expr/OperatorHoldsPinLaw", "accepts", "(II)Z"⟩ : MethodName)) hown (mvT hZ (hw _ (ow 17 rfl))) (mvT hZ (hw _ (ow 18 rfl))) (mvT hZ (hw _ (ow 19 rfl))) (mvT hZ (hw _ (ow 20 rfl))) (by decide) (backOf (W := 1) (rm_accepts l Z a0 hw [] (4 : Int32) p1 h0 n0 w_EQUAL w_NOT_EQUAL w_LESS w_LESS_OR_EQUAL w_GREATER w_GREATER_OR_EQUAL hK) hZ (hw _ (ow 20 rfl)) (hw _ (ow 19 rfl)) (by decide) (by decide)) (g := (mkF m 94 #[.val (.int p1), .val (.int (1 : Int32)), .val (.int (1 : Int32)), .val (.int (1 : Int32)), .val (.int (1 : Int32)), .unset, .unset] [(.int p1), (.int (4 : Int32)), (.int (0 : Int32))])) rfl (by rw [hml]; rfl) (argsL := [(.int (4 : Int32)), (.int p1)]) (rest := [(.int (0 : Int32))]) (lenOf pd_2 rfl) rfl (Nat.le_of_eq rfl) (hb hby at_94) (fun _ _ => ⟨rfl, e14, (by decide : 0 + 0 ≤ _), (by decide : 0 + 0 ≤ _)⟩)
  dsimp only [Pt.U, Pt.locs, Pt.cells, Pt.slots] at X15 l15 y15 z15 st15 hQ15
  subst l15 y15 z15
  obtain ⟨hv15, Nq15, e15⟩ := hQ15
  obtain rfl : v15 = some (.int (0 : Int32)) := hv15.trans (congrArg some (congrArg Value.int ((if_pos h1).trans (if_pos (by decide)))))
  have N15 := Fr.app N14 Nq15
  obtain ⟨T16, X16, e16, st16⟩ := getS2 X15 hx hZ hown (host := "") (Or.inl (hw _ (ow 29 rfl))) Via.refl e15 S_w_GREATER_OR_EQUAL (g := (mkF m 107 #[.val (.int p1), .val (.int (1 : Int32)), .val (.int (1 : Int32)), .val (.int (1 : Int32)), .val (.int (1 : Int32)), .val (.int (1 : Int32)), .unset] [])) rfl (hb hby at_107)
  obtain ⟨cq17, kq17, q17a, q17b, q17c⟩ := isOf hZ e16 E_w_GREATER_OR_EQUAL
  obtain ⟨v17, _, ⟨T17, L17, k17, n17⟩, -, X17, ⟨Lc17, hQ17, l17, y17, z17⟩, st17⟩ := X16.virtualBack hx (y := (⟨"com/example/cairn/cairn/expr/Comparison$Operator", "holds", "(I)Z"⟩ : MethodName)) (z := (⟨"com/example/cairn/cairn/expr/Comparison$Operator", "holds", "(I)Z"⟩ : MethodName)) hown (mvT hZ (hw _ (ow 3 rfl))) (mvT hZ (hw _ (ow 4 rfl))) (notFace_of_selects (args := #[]) (mvT hZ (hw _ (ow 6 rfl)))) (mvT hZ (hw _ (ow 6 rfl))) (mvT hZ (hw _ (ow 5 rfl))) (by decide) (backOf (W := 0) (rm_holds_GREATER_OR_EQUAL l Z a0 hw [] p1 h0 n0 w_EQUAL w_NOT_EQUAL w_LESS w_LESS_OR_EQUAL w_GREATER w_GREATER_OR_EQUAL hK) hZ (hw _ (ow 7 rfl)) (hw _ (ow 1 rfl)) (by decide) (by decide)) q17a q17c (g := (mkF m 111 #[.val (.int p1), .val (.int (1 : Int32)), .val (.int (1 : Int32)), .val (.int (1 : Int32)), .val (.int (1 : Int32)), .val (.int (1 : Int32)), .unset] [(.int p1), (.ref w_GREATER_OR_EQUAL)])) rfl (by rw [hml]; rfl) (Steps.refl _) (argsL := [(.int p1)]) (rest := []) (lenOf pd_1 rfl) rfl (Nat.le_of_eq rfl) (hb hby at_111) (fun _ _ => ⟨rfl, e16, (by decide : 0 + 0 ≤ _), (by decide : 0 + 0 ≤ _)⟩)
  dsimp only [Pt.U, Pt.locs, Pt.cells, Pt.slots] at X17 l17 y17 z17 st17 hQ17
  subst l17 y17 z17
  obtain ⟨hv17, Nq17, e17⟩ := hQ17
  obtain rfl : v17 = some (.int (0 : Int32)) := hv17.trans (congrArg some (congrArg Value.int (if_pos h1)))
  have N17 := Fr.app N15 Nq17
  obtain ⟨v18, _, ⟨T18, L18, k18, n18⟩, -, X18, ⟨Lc18, hQ18, l18, y18, z18⟩, st18⟩ := Jvm.LawKit.callS X17 hx (y := (⟨"com/example/cairn/cairn/expr/OperatorHoldsPinLaw", "accepts", "(II)Z"⟩ : MethodName)) hown (mvT hZ (hw _ (ow 17 rfl))) (mvT hZ (hw _ (ow 18 rfl))) (mvT hZ (hw _ (ow 19 rfl))) (mvT hZ (hw _ (ow 20 rfl))) (by decide) (backOf (W := 1) (rm_accepts l Z a0 hw [] (6 : Int32) p1 h0 n0 w_EQUAL w_NOT_EQUAL w_LESS w_LESS_OR_EQUAL w_GREATER w_GREATER_OR_EQUAL hK) hZ (hw _ (ow 20 rfl)) (hw _ (ow 19 rfl)) (by decide) (by decide)) (g := (mkF m 117 #[.val (.int p1), .val (.int (1 : Int32)), .val (.int (1 : Int32)), .val (.int (1 : Int32)), .val (.int (1 : Int32)), .val (.int (1 : Int32)), .unset] [(.int p1), (.int (6 : Int32)), (.int (0 : Int32))])) rfl (by rw [hml]; rfl) (argsL := [(.int (6 : Int32)), (.int p1)]) (rest := [(.int (0 : Int32))]) (lenOf pd_2 rfl) rfl (Nat.le_of_eq rfl) (hb hby at_117) (fun _ _ => ⟨rfl, e17, (by decide : 0 + 0 ≤ _), (by decide : 0 + 0 ≤ _)⟩)
  dsimp only [Pt.U, Pt.locs, Pt.cells, Pt.slots] at X18 l18 y18 z18 st18 hQ18
  subst l18 y18 z18
  obtain ⟨hv18, Nq18, e18⟩ := hQ18
  obtain rfl : v18 = some (.int (0 : Int32)) := hv18.trans (congrArg some (congrArg Value.int ((if_pos h1).trans (if_pos (by decide)))))
  have N18 := Fr.app N17 Nq18
  have pre19 : ∀ t, Steps p.tables e below (T18.setTop (mkF m 162 #[.val (.int p1), .val (.int (1 : Int32)), .val (.int (1 : Int32)), .val (.int (1 : Int32)), .val (.int (1 : Int32)), .val (.int (1 : Int32)), .val (.int (1 : Int32))] [(.int (1 : Int32))])) t → Steps p.tables e below (s₁.setTop (entryFrame m #[(.int p1)] maxLocals)) t := fun t k => pre0 t (by
    show Steps p.tables e below (s₁.setTop (mkF m 0 #[.val (.int p1), .unset, .unset, .unset, .unset, .unset, .unset] [])) _
    refine st1 _ ?_
    show Steps p.tables e below (T1.setTop (mkF m 3 #[.val (.int p1), .unset, .unset, .unset, .unset, .unset, .unset] [(.ref w_EQUAL)])) _
    refine XS.iloadN X1.here hx rfl (hb hby at_3) rfl ?_
    show Steps p.tables e below (T1.setTop (mkF m 4 #[.val (.int p1), .unset, .unset, .unset, .unset, .unset, .unset] [(.int p1), (.ref w_EQUAL)])) _
    refine st2.trans ?_
    show Steps p.tables e below (T2.setTop (mkF m 7 #[.val (.int p1), .unset, .unset, .unset, .unset, .unset, .unset] [(.int (0 : Int32))])) _
    refine XS.iconst X2.here hx rfl (hb hby at_7) ?_
    show Steps p.tables e below (T2.setTop (mkF m 8 #[.val (.int p1), .unset, .unset, .unset, .unset, .unset, .unset] [(.int (2 : Int32)), (.int (0 : Int32))])) _
    refine XS.iloadN X2.here hx rfl (hb hby at_8) rfl ?_
    show Steps p.tables e below (T2.setTop (mkF m 9 #[.val (.int p1), .unset, .unset, .unset, .unset, .unset, .unset] [(.int p1), (.int (2 : Int32)), (.int (0 : Int32))])) _
    refine st3 _ ?_
    show Steps p.tables e below (T3.setTop (mkF m 12 #[.val (.int p1), .unset, .unset, .unset, .unset, .unset, .unset] [(.int (0 : Int32)), (.int (0 : Int32))])) _
    refine XS.icmpNo X3.here hx rfl (hb hby at_12) rfl (teq (by decide)).2 ?_
    show Steps p.tables e below (T3.setTop (mkF m 15 #[.val (.int p1), .unset, .unset, .unset, .unset, .unset, .unset] [])) _
    refine XS.iconst X3.here hx rfl (hb hby at_15) ?_
    show Steps p.tables e below (T3.setTop (mkF m 16 #[.val (.int p1), .unset, .unset, .unset, .unset, .unset, .unset] [(.int (1 : Int32))])) _
    refine XS.goto X3.here hx rfl (pc0 := 16) (pc' := 20) rfl (hb hby at_16) (by decide) (by decide) ?_
    show Steps p.tables e below (T3.setTop (mkF m 20 #[.val (.int p1), .unset, .unset, .unset, .unset, .unset, .unset] [(.int (1 : Int32))])) _
    refine XS.istoreN X3.here hx rfl (hb hby at_20) rfl (l' := #[.val (.int p1), .val (.int (1 : Int32)), .unset, .unset, .unset, .unset, .unset]) rfl ?_
    show Steps p.tables e below (T3.setTop (mkF m 21 #[.val (.int p1), .val (.int (1 : Int32)), .unset, .unset, .unset, .unset, .unset] [])) _
    refine st4 _ ?_
    show Steps p.tables e below (T4.setTop (mkF m 24 #[.val (.int p1), .val (.int (1 : Int32)), .unset, .unset, .unset, .unset, .unset] [(.ref w_NOT_EQUAL)])) _
    refine XS.iloadN X4.here hx rfl (hb hby at_24) rfl ?_
    show Steps p.tables e below (T4.setTop (mkF m 25 #[.val (.int p1), .val (.int (1 : Int32)), .unset, .unset, .unset, .unset, .unset] [(.int p1), (.ref w_NOT_EQUAL)])) _
    refine st5.trans ?_
    show Steps p.tables e below (T5.setTop (mkF m 28 #[.val (.int p1), .val (.int (1 : Int32)), .unset, .unset, .unset, .unset, .unset] [(.int (1 : Int32))])) _
    refine XS.iconst X5.here hx rfl (hb hby at_28) ?_
    show Steps p.tables e below (T5.setTop (mkF m 29 #[.val (.int p1), .val (.int (1 : Int32)), .unset, .unset, .unset, .unset, .unset] [(.int (5 : Int32)), (.int (1 : Int32))])) _
    refine XS.iloadN X5.here hx rfl (hb hby at_29) rfl ?_
    show Steps p.tables e below (T5.setTop (mkF m 30 #[.val (.int p1), .val (.int (1 : Int32)), .unset, .unset, .unset, .unset, .unset] [(.int p1), (.int (5 : Int32)), (.int (1 : Int32))])) _
    refine st6 _ ?_
    show Steps p.tables e below (T6.setTop (mkF m 33 #[.val (.int p1), .val (.int (1 : Int32)), .unset, .unset, .unset, .unset, .unset] [(.int (1 : Int32)), (.int (1 : Int32))])) _
    refine XS.icmpNo X6.here hx rfl (hb hby at_33) rfl (teq (by decide)).2 ?_
    show Steps p.tables e below (T6.setTop (mkF m 36 #[.val (.int p1), .val (.int (1 : Int32)), .unset, .unset, .unset, .unset, .unset] [])) _
    refine XS.iconst X6.here hx rfl (hb hby at_36) ?_
    show Steps p.tables e below (T6.setTop (mkF m 37 #[.val (.int p1), .val (.int (1 : Int32)), .unset, .unset, .unset, .unset, .unset] [(.int (1 : Int32))])) _
    refine XS.goto X6.here hx rfl (pc0 := 37) (pc' := 41) rfl (hb hby at_37) (by decide) (by decide) ?_
    show Steps p.tables e below (T6.setTop (mkF m 41 #[.val (.int p1), .val (.int (1 : Int32)), .unset, .unset, .unset, .unset, .unset] [(.int (1 : Int32))])) _
    refine XS.istoreN X6.here hx rfl (hb hby at_41) rfl (l' := #[.val (.int p1), .val (.int (1 : Int32)), .val (.int (1 : Int32)), .unset, .unset, .unset, .unset]) rfl ?_
    show Steps p.tables e below (T6.setTop (mkF m 42 #[.val (.int p1), .val (.int (1 : Int32)), .val (.int (1 : Int32)), .unset, .unset, .unset, .unset] [])) _
    refine st7 _ ?_
    show Steps p.tables e below (T7.setTop (mkF m 45 #[.val (.int p1), .val (.int (1 : Int32)), .val (.int (1 : Int32)), .unset, .unset, .unset, .unset] [(.ref w_LESS)])) _
    refine XS.iloadN X7.here hx rfl (hb hby at_45) rfl ?_
    show Steps p.tables e below (T7.setTop (mkF m 46 #[.val (.int p1), .val (.int (1 : Int32)), .val (.int (1 : Int32)), .unset, .unset, .unset, .unset] [(.int p1), (.ref w_LESS)])) _
    refine st8.trans ?_
    show Steps p.tables e below (T8.setTop (mkF m 49 #[.val (.int p1), .val (.int (1 : Int32)), .val (.int (1 : Int32)), .unset, .unset, .unset, .unset] [(.int (1 : Int32))])) _
    refine XS.iconst X8.here hx rfl (hb hby at_49) ?_
    show Steps p.tables e below (T8.setTop (mkF m 50 #[.val (.int p1), .val (.int (1 : Int32)), .val (.int (1 : Int32)), .unset, .unset, .unset, .unset] [(.int (1 : Int32)), (.int (1 : Int32))])) _
    refine XS.iloadN X8.here hx rfl (hb hby at_50) rfl ?_
    show Steps p.tables e below (T8.setTop (mkF m 51 #[.val (.int p1), .val (.int (1 : Int32)), .val (.int (1 : Int32)), .unset, .unset, .unset, .unset] [(.int p1), (.int (1 : Int32)), (.int (1 : Int32))])) _
    refine st9 _ ?_
    show Steps p.tables e below (T9.setTop (mkF m 54 #[.val (.int p1), .val (.int (1 : Int32)), .val (.int (1 : Int32)), .unset, .unset, .unset, .unset] [(.int (1 : Int32)), (.int (1 : Int32))])) _
    refine XS.icmpNo X9.here hx rfl (hb hby at_54) rfl (teq (by decide)).2 ?_
    show Steps p.tables e below (T9.setTop (mkF m 57 #[.val (.int p1), .val (.int (1 : Int32)), .val (.int (1 : Int32)), .unset, .unset, .unset, .unset] [])) _
    refine XS.iconst X9.here hx rfl (hb hby at_57) ?_
    show Steps p.tables e below (T9.setTop (mkF m 58 #[.val (.int p1), .val (.int (1 : Int32)), .val (.int (1 : Int32)), .unset, .unset, .unset, .unset] [(.int (1 : Int32))])) _
    refine XS.goto X9.here hx rfl (pc0 := 58) (pc' := 62) rfl (hb hby at_58) (by decide) (by decide) ?_
    show Steps p.tables e below (T9.setTop (mkF m 62 #[.val (.int p1), .val (.int (1 : Int32)), .val (.int (1 : Int32)), .unset, .unset, .unset, .unset] [(.int (1 : Int32))])) _
    refine XS.istoreN X9.here hx rfl (hb hby at_62) rfl (l' := #[.val (.int p1), .val (.int (1 : Int32)), .val (.int (1 : Int32)), .val (.int (1 : Int32)), .unset, .unset, .unset]) rfl ?_
    show Steps p.tables e below (T9.setTop (mkF m 63 #[.val (.int p1), .val (.int (1 : Int32)), .val (.int (1 : Int32)), .val (.int (1 : Int32)), .unset, .unset, .unset] [])) _
    refine st10 _ ?_
    show Steps p.tables e below (T10.setTop (mkF m 66 #[.val (.int p1), .val (.int (1 : Int32)), .val (.int (1 : Int32)), .val (.int (1 : Int32)), .unset, .unset, .unset] [(.ref w_LESS_OR_EQUAL)])) _
    refine XS.iloadN X10.here hx rfl (hb hby at_66) rfl ?_
    show Steps p.tables e below (T10.setTop (mkF m 67 #[.val (.int p1), .val (.int (1 : Int32)), .val (.int (1 : Int32)), .val (.int (1 : Int32)), .unset, .unset, .unset] [(.int p1), (.ref w_LESS_OR_EQUAL)])) _
    refine st11.trans ?_
    show Steps p.tables e below (T11.setTop (mkF m 70 #[.val (.int p1), .val (.int (1 : Int32)), .val (.int (1 : Int32)), .val (.int (1 : Int32)), .unset, .unset, .unset] [(.int (1 : Int32))])) _
    refine XS.iconst X11.here hx rfl (hb hby at_70) ?_
    show Steps p.tables e below (T11.setTop (mkF m 71 #[.val (.int p1), .val (.int (1 : Int32)), .val (.int (1 : Int32)), .val (.int (1 : Int32)), .unset, .unset, .unset] [(.int (3 : Int32)), (.int (1 : Int32))])) _
    refine XS.iloadN X11.here hx rfl (hb hby at_71) rfl ?_
    show Steps p.tables e below (T11.setTop (mkF m 72 #[.val (.int p1), .val (.int (1 : Int32)), .val (.int (1 : Int32)), .val (.int (1 : Int32)), .unset, .unset, .unset] [(.int p1), (.int (3 : Int32)), (.int (1 : Int32))])) _
    refine st12 _ ?_
    show Steps p.tables e below (T12.setTop (mkF m 75 #[.val (.int p1), .val (.int (1 : Int32)), .val (.int (1 : Int32)), .val (.int (1 : Int32)), .unset, .unset, .unset] [(.int (1 : Int32)), (.int (1 : Int32))])) _
    refine XS.icmpNo X12.here hx rfl (hb hby at_75) rfl (teq (by decide)).2 ?_
    show Steps p.tables e below (T12.setTop (mkF m 78 #[.val (.int p1), .val (.int (1 : Int32)), .val (.int (1 : Int32)), .val (.int (1 : Int32)), .unset, .unset, .unset] [])) _
    refine XS.iconst X12.here hx rfl (hb hby at_78) ?_
    show Steps p.tables e below (T12.setTop (mkF m 79 #[.val (.int p1), .val (.int (1 : Int32)), .val (.int (1 : Int32)), .val (.int (1 : Int32)), .unset, .unset, .unset] [(.int (1 : Int32))])) _
    refine XS.goto X12.here hx rfl (pc0 := 79) (pc' := 83) rfl (hb hby at_79) (by decide) (by decide) ?_
    show Steps p.tables e below (T12.setTop (mkF m 83 #[.val (.int p1), .val (.int (1 : Int32)), .val (.int (1 : Int32)), .val (.int (1 : Int32)), .unset, .unset, .unset] [(.int (1 : Int32))])) _
    refine XS.istore X12.here hx rfl (hb hby at_83) rfl (l' := #[.val (.int p1), .val (.int (1 : Int32)), .val (.int (1 : Int32)), .val (.int (1 : Int32)), .val (.int (1 : Int32)), .unset, .unset]) rfl ?_
    show Steps p.tables e below (T12.setTop (mkF m 85 #[.val (.int p1), .val (.int (1 : Int32)), .val (.int (1 : Int32)), .val (.int (1 : Int32)), .val (.int (1 : Int32)), .unset, .unset] [])) _
    refine st13 _ ?_
    show Steps p.tables e below (T13.setTop (mkF m 88 #[.val (.int p1), .val (.int (1 : Int32)), .val (.int (1 : Int32)), .val (.int (1 : Int32)), .val (.int (1 : Int32)), .unset, .unset] [(.ref w_GREATER)])) _
    refine XS.iloadN X13.here hx rfl (hb hby at_88) rfl ?_
    show Steps p.tables e below (T13.setTop (mkF m 89 #[.val (.int p1), .val (.int (1 : Int32)), .val (.int (1 : Int32)), .val (.int (1 : Int32)), .val (.int (1 : Int32)), .unset, .unset] [(.int p1), (.ref w_GREATER)])) _
    refine st14.trans ?_
    show Steps p.tables e below (T14.setTop (mkF m 92 #[.val (.int p1), .val (.int (1 : Int32)), .val (.int (1 : Int32)), .val (.int (1 : Int32)), .val (.int (1 : Int32)), .unset, .unset] [(.int (0 : Int32))])) _
    refine XS.iconst X14.here hx rfl (hb hby at_92) ?_
    show Steps p.tables e below (T14.setTop (mkF m 93 #[.val (.int p1), .val (.int (1 : Int32)), .val (.int (1 : Int32)), .val (.int (1 : Int32)), .val (.int (1 : Int32)), .unset, .unset] [(.int (4 : Int32)), (.int (0 : Int32))])) _
    refine XS.iloadN X14.here hx rfl (hb hby at_93) rfl ?_
    show Steps p.tables e below (T14.setTop (mkF m 94 #[.val (.int p1), .val (.int (1 : Int32)), .val (.int (1 : Int32)), .val (.int (1 : Int32)), .val (.int (1 : Int32)), .unset, .unset] [(.int p1), (.int (4 : Int32)), (.int (0 : Int32))])) _
    refine st15 _ ?_
    show Steps p.tables e below (T15.setTop (mkF m 97 #[.val (.int p1), .val (.int (1 : Int32)), .val (.int (1 : Int32)), .val (.int (1 : Int32)), .val (.int (1 : Int32)), .unset, .unset] [(.int (0 : Int32)), (.int (0 : Int32))])) _
    refine XS.icmpNo X15.here hx rfl (hb hby at_97) rfl (teq (by decide)).2 ?_
    show Steps p.tables e below (T15.setTop (mkF m 100 #[.val (.int p1), .val (.int (1 : Int32)), .val (.int (1 : Int32)), .val (.int (1 : Int32)), .val (.int (1 : Int32)), .unset, .unset] [])) _
    refine XS.iconst X15.here hx rfl (hb hby at_100) ?_
    show Steps p.tables e below (T15.setTop (mkF m 101 #[.val (.int p1), .val (.int (1 : Int32)), .val (.int (1 : Int32)), .val (.int (1 : Int32)), .val (.int (1 : Int32)), .unset, .unset] [(.int (1 : Int32))])) _
    refine XS.goto X15.here hx rfl (pc0 := 101) (pc' := 105) rfl (hb hby at_101) (by decide) (by decide) ?_
    show Steps p.tables e below (T15.setTop (mkF m 105 #[.val (.int p1), .val (.int (1 : Int32)), .val (.int (1 : Int32)), .val (.int (1 : Int32)), .val (.int (1 : Int32)), .unset, .unset] [(.int (1 : Int32))])) _
    refine XS.istore X15.here hx rfl (hb hby at_105) rfl (l' := #[.val (.int p1), .val (.int (1 : Int32)), .val (.int (1 : Int32)), .val (.int (1 : Int32)), .val (.int (1 : Int32)), .val (.int (1 : Int32)), .unset]) rfl ?_
    show Steps p.tables e below (T15.setTop (mkF m 107 #[.val (.int p1), .val (.int (1 : Int32)), .val (.int (1 : Int32)), .val (.int (1 : Int32)), .val (.int (1 : Int32)), .val (.int (1 : Int32)), .unset] [])) _
    refine st16 _ ?_
    show Steps p.tables e below (T16.setTop (mkF m 110 #[.val (.int p1), .val (.int (1 : Int32)), .val (.int (1 : Int32)), .val (.int (1 : Int32)), .val (.int (1 : Int32)), .val (.int (1 : Int32)), .unset] [(.ref w_GREATER_OR_EQUAL)])) _
    refine XS.iloadN X16.here hx rfl (hb hby at_110) rfl ?_
    show Steps p.tables e below (T16.setTop (mkF m 111 #[.val (.int p1), .val (.int (1 : Int32)), .val (.int (1 : Int32)), .val (.int (1 : Int32)), .val (.int (1 : Int32)), .val (.int (1 : Int32)), .unset] [(.int p1), (.ref w_GREATER_OR_EQUAL)])) _
    refine st17.trans ?_
    show Steps p.tables e below (T17.setTop (mkF m 114 #[.val (.int p1), .val (.int (1 : Int32)), .val (.int (1 : Int32)), .val (.int (1 : Int32)), .val (.int (1 : Int32)), .val (.int (1 : Int32)), .unset] [(.int (0 : Int32))])) _
    refine XS.bipush X17.here hx rfl (hb hby at_114) ?_
    show Steps p.tables e below (T17.setTop (mkF m 116 #[.val (.int p1), .val (.int (1 : Int32)), .val (.int (1 : Int32)), .val (.int (1 : Int32)), .val (.int (1 : Int32)), .val (.int (1 : Int32)), .unset] [(.int (6 : Int32)), (.int (0 : Int32))])) _
    refine XS.iloadN X17.here hx rfl (hb hby at_116) rfl ?_
    show Steps p.tables e below (T17.setTop (mkF m 117 #[.val (.int p1), .val (.int (1 : Int32)), .val (.int (1 : Int32)), .val (.int (1 : Int32)), .val (.int (1 : Int32)), .val (.int (1 : Int32)), .unset] [(.int p1), (.int (6 : Int32)), (.int (0 : Int32))])) _
    refine st18 _ ?_
    show Steps p.tables e below (T18.setTop (mkF m 120 #[.val (.int p1), .val (.int (1 : Int32)), .val (.int (1 : Int32)), .val (.int (1 : Int32)), .val (.int (1 : Int32)), .val (.int (1 : Int32)), .unset] [(.int (0 : Int32)), (.int (0 : Int32))])) _
    refine XS.icmpNo X18.here hx rfl (hb hby at_120) rfl (teq (by decide)).2 ?_
    show Steps p.tables e below (T18.setTop (mkF m 123 #[.val (.int p1), .val (.int (1 : Int32)), .val (.int (1 : Int32)), .val (.int (1 : Int32)), .val (.int (1 : Int32)), .val (.int (1 : Int32)), .unset] [])) _
    refine XS.iconst X18.here hx rfl (hb hby at_123) ?_
    show Steps p.tables e below (T18.setTop (mkF m 124 #[.val (.int p1), .val (.int (1 : Int32)), .val (.int (1 : Int32)), .val (.int (1 : Int32)), .val (.int (1 : Int32)), .val (.int (1 : Int32)), .unset] [(.int (1 : Int32))])) _
    refine XS.goto X18.here hx rfl (pc0 := 124) (pc' := 128) rfl (hb hby at_124) (by decide) (by decide) ?_
    show Steps p.tables e below (T18.setTop (mkF m 128 #[.val (.int p1), .val (.int (1 : Int32)), .val (.int (1 : Int32)), .val (.int (1 : Int32)), .val (.int (1 : Int32)), .val (.int (1 : Int32)), .unset] [(.int (1 : Int32))])) _
    refine XS.istore X18.here hx rfl (hb hby at_128) rfl (l' := #[.val (.int p1), .val (.int (1 : Int32)), .val (.int (1 : Int32)), .val (.int (1 : Int32)), .val (.int (1 : Int32)), .val (.int (1 : Int32)), .val (.int (1 : Int32))]) rfl ?_
    show Steps p.tables e below (T18.setTop (mkF m 130 #[.val (.int p1), .val (.int (1 : Int32)), .val (.int (1 : Int32)), .val (.int (1 : Int32)), .val (.int (1 : Int32)), .val (.int (1 : Int32)), .val (.int (1 : Int32))] [])) _
    refine XS.iloadN X18.here hx rfl (hb hby at_130) rfl ?_
    show Steps p.tables e below (T18.setTop (mkF m 131 #[.val (.int p1), .val (.int (1 : Int32)), .val (.int (1 : Int32)), .val (.int (1 : Int32)), .val (.int (1 : Int32)), .val (.int (1 : Int32)), .val (.int (1 : Int32))] [(.int (1 : Int32))])) _
    refine XS.ifNo X18.here hx rfl (hb hby at_131) rfl ((if0 _ _).trans (feq (by decide)).1) ?_
    show Steps p.tables e below (T18.setTop (mkF m 134 #[.val (.int p1), .val (.int (1 : Int32)), .val (.int (1 : Int32)), .val (.int (1 : Int32)), .val (.int (1 : Int32)), .val (.int (1 : Int32)), .val (.int (1 : Int32))] [])) _
    refine XS.iloadN X18.here hx rfl (hb hby at_134) rfl ?_
    show Steps p.tables e below (T18.setTop (mkF m 135 #[.val (.int p1), .val (.int (1 : Int32)), .val (.int (1 : Int32)), .val (.int (1 : Int32)), .val (.int (1 : Int32)), .val (.int (1 : Int32)), .val (.int (1 : Int32))] [(.int (1 : Int32))])) _
    refine XS.ifNo X18.here hx rfl (hb hby at_135) rfl ((if0 _ _).trans (feq (by decide)).1) ?_
    show Steps p.tables e below (T18.setTop (mkF m 138 #[.val (.int p1), .val (.int (1 : Int32)), .val (.int (1 : Int32)), .val (.int (1 : Int32)), .val (.int (1 : Int32)), .val (.int (1 : Int32)), .val (.int (1 : Int32))] [])) _
    refine XS.iloadN X18.here hx rfl (hb hby at_138) rfl ?_
    show Steps p.tables e below (T18.setTop (mkF m 139 #[.val (.int p1), .val (.int (1 : Int32)), .val (.int (1 : Int32)), .val (.int (1 : Int32)), .val (.int (1 : Int32)), .val (.int (1 : Int32)), .val (.int (1 : Int32))] [(.int (1 : Int32))])) _
    refine XS.ifNo X18.here hx rfl (hb hby at_139) rfl ((if0 _ _).trans (feq (by decide)).1) ?_
    show Steps p.tables e below (T18.setTop (mkF m 142 #[.val (.int p1), .val (.int (1 : Int32)), .val (.int (1 : Int32)), .val (.int (1 : Int32)), .val (.int (1 : Int32)), .val (.int (1 : Int32)), .val (.int (1 : Int32))] [])) _
    refine XS.iload X18.here hx rfl (hb hby at_142) rfl ?_
    show Steps p.tables e below (T18.setTop (mkF m 144 #[.val (.int p1), .val (.int (1 : Int32)), .val (.int (1 : Int32)), .val (.int (1 : Int32)), .val (.int (1 : Int32)), .val (.int (1 : Int32)), .val (.int (1 : Int32))] [(.int (1 : Int32))])) _
    refine XS.ifNo X18.here hx rfl (hb hby at_144) rfl ((if0 _ _).trans (feq (by decide)).1) ?_
    show Steps p.tables e below (T18.setTop (mkF m 147 #[.val (.int p1), .val (.int (1 : Int32)), .val (.int (1 : Int32)), .val (.int (1 : Int32)), .val (.int (1 : Int32)), .val (.int (1 : Int32)), .val (.int (1 : Int32))] [])) _
    refine XS.iload X18.here hx rfl (hb hby at_147) rfl ?_
    show Steps p.tables e below (T18.setTop (mkF m 149 #[.val (.int p1), .val (.int (1 : Int32)), .val (.int (1 : Int32)), .val (.int (1 : Int32)), .val (.int (1 : Int32)), .val (.int (1 : Int32)), .val (.int (1 : Int32))] [(.int (1 : Int32))])) _
    refine XS.ifNo X18.here hx rfl (hb hby at_149) rfl ((if0 _ _).trans (feq (by decide)).1) ?_
    show Steps p.tables e below (T18.setTop (mkF m 152 #[.val (.int p1), .val (.int (1 : Int32)), .val (.int (1 : Int32)), .val (.int (1 : Int32)), .val (.int (1 : Int32)), .val (.int (1 : Int32)), .val (.int (1 : Int32))] [])) _
    refine XS.iload X18.here hx rfl (hb hby at_152) rfl ?_
    show Steps p.tables e below (T18.setTop (mkF m 154 #[.val (.int p1), .val (.int (1 : Int32)), .val (.int (1 : Int32)), .val (.int (1 : Int32)), .val (.int (1 : Int32)), .val (.int (1 : Int32)), .val (.int (1 : Int32))] [(.int (1 : Int32))])) _
    refine XS.ifNo X18.here hx rfl (hb hby at_154) rfl ((if0 _ _).trans (feq (by decide)).1) ?_
    show Steps p.tables e below (T18.setTop (mkF m 157 #[.val (.int p1), .val (.int (1 : Int32)), .val (.int (1 : Int32)), .val (.int (1 : Int32)), .val (.int (1 : Int32)), .val (.int (1 : Int32)), .val (.int (1 : Int32))] [])) _
    refine XS.iconst X18.here hx rfl (hb hby at_157) ?_
    show Steps p.tables e below (T18.setTop (mkF m 158 #[.val (.int p1), .val (.int (1 : Int32)), .val (.int (1 : Int32)), .val (.int (1 : Int32)), .val (.int (1 : Int32)), .val (.int (1 : Int32)), .val (.int (1 : Int32))] [(.int (1 : Int32))])) _
    refine XS.goto X18.here hx rfl (pc0 := 158) (pc' := 162) rfl (hb hby at_158) (by decide) (by decide) ?_
    exact k)
  obtain ⟨fs, hr, hrun, hended, hW, hsame⟩ := X18.leave (v := some (.int (1 : Int32))) (fun h => by rw [Bd.returns] at h; cases h)
  refine ⟨_, _, pre19 _ ?_, hrun, hended, _, _, rfl, ?_, ⟨_, rfl⟩, hW, hsame.mono (by decide) (by decide)⟩
  · show Steps p.tables e below (T18.setTop (mkF m 162 #[.val (.int p1), .val (.int (1 : Int32)), .val (.int (1 : Int32)), .val (.int (1 : Int32)), .val (.int (1 : Int32)), .val (.int (1 : Int32)), .val (.int (1 : Int32))] [(.int (1 : Int32))])) _
    exact retN X18 hx (t := .boolean) Bd.returns (by simp) (hb hby at_162) hr
  · exact ⟨rfl, N18, e18⟩
theorem ef_law_zero (m : MethodId) (x0 : Int32) : entryFrame m #[(.int x0)] maxLocals = mkF m 0 #[.val (.int x0), .unset, .unset, .unset, .unset, .unset, .unset] [] := by first | (simp [entryFrame, mkF, argsToLocals, Value.category, maxLocals]; done) | rfl
set_option maxRecDepth 65536 in
set_option maxHeartbeats 40000000 in
theorem rm_law_zero (l : Launch) (Z : State) (a0 : Array Value) (hw : ∀ d ∈ tables_1, d.before a0 Z = true) (ws : List Jvm.Cond) (p1 : Int32) (h0 : Heap) (n0 : Nat) (w_EQUAL w_NOT_EQUAL w_LESS w_LESS_OR_EQUAL w_GREATER w_GREATER_OR_EQUAL : Addr) (hK : own_K Z h0 w_EQUAL w_NOT_EQUAL w_LESS w_LESS_OR_EQUAL w_GREATER w_GREATER_OR_EQUAL) (h1 : ¬ (p1 < (0 : Int32))) (h2 : p1 = (0 : Int32)) (h3 : ¬ ((0 : Int32) < p1)) :
    MetFree l x (head1 (Jvm.Cond.code x code maxLocals ret :: ws) room_1) (fun a U => a = #[(.int p1)] ∧ Z.Warmed39 U.vm ∧ U.heap = h0) (fun _ _ _ _ _ => True) (fun _ U o U' => ∃ v L, o = .returned v ∧ own_Q (some (.int (1 : Int32))) h0 n0 v U'.heap L ∧ FrameEnd U o U' L room_1.cells room_1.slots) := by
  refine MetFree.of_bodySF (plainFor_of_name pn_2) hisR ?_
  intro p e s m args below meth c s₁ Bd hml0 hP hK0
  obtain ⟨rfl, hZ, hh⟩ := hP
  have hx := Bd.exec
  have hby := Bd.bytes
  have hml : c.maxLocals = 7 := hml0
  have hown : s.vm.findClass "com/example/cairn/cairn/expr/OperatorHoldsPinLaw" = some m.cls := findClass_of_methodNamed Bd.named
  have hnm := (name_of_methodNamed Bd.named Bd.method).1
  have X0 : Stand p l e room_1 s m #[(.int p1)] below meth c s₁ [] 0 0 := Stand.of_body Bd
  have e0 : s₁.heap = h0 := by rw [← hh, Bd.state]; rfl
  have N0 := Fr.nil n0
  have pre0 : ∀ t, Steps p.tables e below (s₁.setTop (mkF m 0 #[.val (.int p1), .unset, .unset, .unset, .unset, .unset, .unset] [])) t → Steps p.tables e below (s₁.setTop (entryFrame m #[(.int p1)] maxLocals)) t := fun t k => castTop (ef_law_zero m p1) k
  have hK' := hK
  obtain ⟨S_w_EQUAL, E_w_EQUAL, F_ordinal_w_EQUAL, S_w_NOT_EQUAL, E_w_NOT_EQUAL, F_ordinal_w_NOT_EQUAL, S_w_LESS, E_w_LESS, F_ordinal_w_LESS, S_w_LESS_OR_EQUAL, E_w_LESS_OR_EQUAL, F_ordinal_w_LESS_OR_EQUAL, S_w_GREATER, E_w_GREATER, F_ordinal_w_GREATER, S_w_GREATER_OR_EQUAL, E_w_GREATER_OR_EQUAL, F_ordinal_w_GREATER_OR_EQUAL⟩ := hK'
  obtain ⟨T1, X1, e1, st1⟩ := getS2 X0 hx hZ hown (host := "") (Or.inl (hw _ (ow 0 rfl))) Via.refl e0 S_w_EQUAL (g := (mkF m 0 #[.val (.int p1), .unset, .unset, .unset, .unset, .unset, .unset] [])) rfl (hb hby at_0)
  obtain ⟨cq2, kq2, q2a, q2b, q2c⟩ := isOf hZ e1 E_w_EQUAL
  obtain ⟨v2, _, ⟨T2, L2, k2, n2⟩, -, X2, ⟨Lc2, hQ2, l2, y2, z2⟩, st2⟩ := X1.virtualBack hx (y := (⟨"com/example/cairn/cairn/expr/Comparison$Operator", "holds", "(I)Z"⟩ : MethodName)) (z := (⟨"com/example/cairn/cairn/expr/Comparison$Operator", "holds", "(I)Z"⟩ : MethodName)) hown (mvT hZ (hw _ (ow 3 rfl))) (mvT hZ (hw _ (ow 4 rfl))) (notFace_of_selects (args := #[]) (mvT hZ (hw _ (ow 6 rfl)))) (mvT hZ (hw _ (ow 6 rfl))) (mvT hZ (hw _ (ow 5 rfl))) (by decide) (backOf (W := 0) (rm_holds_EQUAL l Z a0 hw [] p1 h0 n0 w_EQUAL w_NOT_EQUAL w_LESS w_LESS_OR_EQUAL w_GREATER w_GREATER_OR_EQUAL hK) hZ (hw _ (ow 7 rfl)) (hw _ (ow 1 rfl)) (by decide) (by decide)) q2a q2c (g := (mkF m 4 #[.val (.int p1), .unset, .unset, .unset, .unset, .unset, .unset] [(.int p1), (.ref w_EQUAL)])) rfl (by rw [hml]; rfl) (Steps.refl _) (argsL := [(.int p1)]) (rest := []) (lenOf pd_1 rfl) rfl (Nat.le_of_eq rfl) (hb hby at_4) (fun _ _ => ⟨rfl, e1, (by decide : 0 + 0 ≤ _), (by decide : 0 + 0 ≤ _)⟩)
  dsimp only [Pt.U, Pt.locs, Pt.cells, Pt.slots] at X2 l2 y2 z2 st2 hQ2
  subst l2 y2 z2
  obtain ⟨hv2, Nq2, e2⟩ := hQ2
  obtain rfl : v2 = some (.int (1 : Int32)) := hv2.trans (congrArg some (congrArg Value.int (if_pos h2)))
  have N2 := Fr.app N0 Nq2
  obtain ⟨v3, _, ⟨T3, L3, k3, n3⟩, -, X3, ⟨Lc3, hQ3, l3, y3, z3⟩, st3⟩ := Jvm.LawKit.callS X2 hx (y := (⟨"com/example/cairn/cairn/expr/OperatorHoldsPinLaw", "accepts", "(II)Z"⟩ : MethodName)) hown (mvT hZ (hw _ (ow 17 rfl))) (mvT hZ (hw _ (ow 18 rfl))) (mvT hZ (hw _ (ow 19 rfl))) (mvT hZ (hw _ (ow 20 rfl))) (by decide) (backOf (W := 1) (rm_accepts l Z a0 hw [] (2 : Int32) p1 h0 n0 w_EQUAL w_NOT_EQUAL w_LESS w_LESS_OR_EQUAL w_GREATER w_GREATER_OR_EQUAL hK) hZ (hw _ (ow 20 rfl)) (hw _ (ow 19 rfl)) (by decide) (by decide)) (g := (mkF m 9 #[.val (.int p1), .unset, .unset, .unset, .unset, .unset, .unset] [(.int p1), (.int (2 : Int32)), (.int (1 : Int32))])) rfl (by rw [hml]; rfl) (argsL := [(.int (2 : Int32)), (.int p1)]) (rest := [(.int (1 : Int32))]) (lenOf pd_2 rfl) rfl (Nat.le_of_eq rfl) (hb hby at_9) (fun _ _ => ⟨rfl, e2, (by decide : 0 + 0 ≤ _), (by decide : 0 + 0 ≤ _)⟩)
  dsimp only [Pt.U, Pt.locs, Pt.cells, Pt.slots] at X3 l3 y3 z3 st3 hQ3
  subst l3 y3 z3
  obtain ⟨hv3, Nq3, e3⟩ := hQ3
  obtain rfl : v3 = some (.int (1 : Int32)) := hv3.trans (congrArg some (congrArg Value.int ((if_neg h1).trans ((if_pos h2).trans (if_neg (by decide))))))
  have N3 := Fr.app N2 Nq3
  obtain ⟨T4, X4, e4, st4⟩ := getS2 X3 hx hZ hown (host := "") (Or.inl (hw _ (ow 21 rfl))) Via.refl e3 S_w_NOT_EQUAL (g := (mkF m 21 #[.val (.int p1), .val (.int (1 : Int32)), .unset, .unset, .unset, .unset, .unset] [])) rfl (hb hby at_21)
  obtain ⟨cq5, kq5, q5a, q5b, q5c⟩ := isOf hZ e4 E_w_NOT_EQUAL
  obtain ⟨v5, _, ⟨T5, L5, k5, n5⟩, -, X5, ⟨Lc5, hQ5, l5, y5, z5⟩, st5⟩ := X4.virtualBack hx (y := (⟨"com/example/cairn/cairn/expr/Comparison$Operator", "holds", "(I)Z"⟩ : MethodName)) (z := (⟨"com/example/cairn/cairn/expr/Comparison$Operator", "holds", "(I)Z"⟩ : MethodName)) hown (mvT hZ (hw _ (ow 3 rfl))) (mvT hZ (hw _ (ow 4 rfl))) (notFace_of_selects (args := #[]) (mvT hZ (hw _ (ow 6 rfl)))) (mvT hZ (hw _ (ow 6 rfl))) (mvT hZ (hw _ (ow 5 rfl))) (by decide) (backOf (W := 0) (rm_holds_NOT_EQUAL l Z a0 hw [] p1 h0 n0 w_EQUAL w_NOT_EQUAL w_LESS w_LESS_OR_EQUAL w_GREATER w_GREATER_OR_EQUAL hK) hZ (hw _ (ow 7 rfl)) (hw _ (ow 1 rfl)) (by decide) (by decide)) q5a q5c (g := (mkF m 25 #[.val (.int p1), .val (.int (1 : Int32)), .unset, .unset, .unset, .unset, .unset] [(.int p1), (.ref w_NOT_EQUAL)])) rfl (by rw [hml]; rfl) (Steps.refl _) (argsL := [(.int p1)]) (rest := []) (lenOf pd_1 rfl) rfl (Nat.le_of_eq rfl) (hb hby at_25) (fun _ _ => ⟨rfl, e4, (by decide : 0 + 0 ≤ _), (by decide : 0 + 0 ≤ _)⟩)
  dsimp only [Pt.U, Pt.locs, Pt.cells, Pt.slots] at X5 l5 y5 z5 st5 hQ5
  subst l5 y5 z5
  obtain ⟨hv5, Nq5, e5⟩ := hQ5
  obtain rfl : v5 = some (.int (0 : Int32)) := hv5.trans (congrArg some (congrArg Value.int (if_pos h2)))
  have N5 := Fr.app N3 Nq5
  obtain ⟨v6, _, ⟨T6, L6, k6, n6⟩, -, X6, ⟨Lc6, hQ6, l6, y6, z6⟩, st6⟩ := Jvm.LawKit.callS X5 hx (y := (⟨"com/example/cairn/cairn/expr/OperatorHoldsPinLaw", "accepts", "(II)Z"⟩ : MethodName)) hown (mvT hZ (hw _ (ow 17 rfl))) (mvT hZ (hw _ (ow 18 rfl))) (mvT hZ (hw _ (ow 19 rfl))) (mvT hZ (hw _ (ow 20 rfl))) (by decide) (backOf (W := 1) (rm_accepts l Z a0 hw [] (5 : Int32) p1 h0 n0 w_EQUAL w_NOT_EQUAL w_LESS w_LESS_OR_EQUAL w_GREATER w_GREATER_OR_EQUAL hK) hZ (hw _ (ow 20 rfl)) (hw _ (ow 19 rfl)) (by decide) (by decide)) (g := (mkF m 30 #[.val (.int p1), .val (.int (1 : Int32)), .unset, .unset, .unset, .unset, .unset] [(.int p1), (.int (5 : Int32)), (.int (0 : Int32))])) rfl (by rw [hml]; rfl) (argsL := [(.int (5 : Int32)), (.int p1)]) (rest := [(.int (0 : Int32))]) (lenOf pd_2 rfl) rfl (Nat.le_of_eq rfl) (hb hby at_30) (fun _ _ => ⟨rfl, e5, (by decide : 0 + 0 ≤ _), (by decide : 0 + 0 ≤ _)⟩)
  dsimp only [Pt.U, Pt.locs, Pt.cells, Pt.slots] at X6 l6 y6 z6 st6 hQ6
  subst l6 y6 z6
  obtain ⟨hv6, Nq6, e6⟩ := hQ6
  obtain rfl : v6 = some (.int (0 : Int32)) := hv6.trans (congrArg some (congrArg Value.int ((if_neg h1).trans ((if_pos h2).trans (if_pos (by decide))))))
  have N6 := Fr.app N5 Nq6
  obtain ⟨T7, X7, e7, st7⟩ := getS2 X6 hx hZ hown (host := "") (Or.inl (hw _ (ow 23 rfl))) Via.refl e6 S_w_LESS (g := (mkF m 42 #[.val (.int p1), .val (.int (1 : Int32)), .val (.int (1 : Int32)), .unset, .unset, .unset, .unset] [])) rfl (hb hby at_42)
  obtain ⟨cq8, kq8, q8a, q8b, q8c⟩ := isOf hZ e7 E_w_LESS
  obtain ⟨v8, _, ⟨T8, L8, k8, n8⟩, -, X8, ⟨Lc8, hQ8, l8, y8, z8⟩, st8⟩ := X7.virtualBack hx (y := (⟨"com/example/cairn/cairn/expr/Comparison$Operator", "holds", "(I)Z"⟩ : MethodName)) (z := (⟨"com/example/cairn/cairn/expr/Comparison$Operator", "holds", "(I)Z"⟩ : MethodName)) hown (mvT hZ (hw _ (ow 3 rfl))) (mvT hZ (hw _ (ow 4 rfl))) (notFace_of_selects (args := #[]) (mvT hZ (hw _ (ow 6 rfl)))) (mvT hZ (hw _ (ow 6 rfl))) (mvT hZ (hw _ (ow 5 rfl))) (by decide) (backOf (W := 0) (rm_holds_LESS l Z a0 hw [] p1 h0 n0 w_EQUAL w_NOT_EQUAL w_LESS w_LESS_OR_EQUAL w_GREATER w_GREATER_OR_EQUAL hK) hZ (hw _ (ow 7 rfl)) (hw _ (ow 1 rfl)) (by decide) (by decide)) q8a q8c (g := (mkF m 46 #[.val (.int p1), .val (.int (1 : Int32)), .val (.int (1 : Int32)), .unset, .unset, .unset, .unset] [(.int p1), (.ref w_LESS)])) rfl (by rw [hml]; rfl) (Steps.refl _) (argsL := [(.int p1)]) (rest := []) (lenOf pd_1 rfl) rfl (Nat.le_of_eq rfl) (hb hby at_46) (fun _ _ => ⟨rfl, e7, (by decide : 0 + 0 ≤ _), (by decide : 0 + 0 ≤ _)⟩)
  dsimp only [Pt.U, Pt.locs, Pt.cells, Pt.slots] at X8 l8 y8 z8 st8 hQ8
  subst l8 y8 z8
  obtain ⟨hv8, Nq8, e8⟩ := hQ8
  obtain rfl : v8 = some (.int (0 : Int32)) := hv8.trans (congrArg some (congrArg Value.int (if_neg h1)))
  have N8 := Fr.app N6 Nq8
  obtain ⟨v9, _, ⟨T9, L9, k9, n9⟩, -, X9, ⟨Lc9, hQ9, l9, y9, z9⟩, st9⟩ := Jvm.LawKit.callS X8 hx (y := (⟨"com/example/cairn/cairn/expr/OperatorHoldsPinLaw", "accepts", "(II)Z"⟩ : MethodName)) hown (mvT hZ (hw _ (ow 17 rfl))) (mvT hZ (hw _ (ow 18 rfl))) (mvT hZ (hw _ (ow 19 rfl))) (mvT hZ (hw _ (ow 20 rfl))) (by decide) (backOf (W := 1) (rm_accepts l Z a0 hw [] (1 : Int32) p1 h0 n0 w_EQUAL w_NOT_EQUAL w_LESS w_LESS_OR_EQUAL w_GREATER w_GREATER_OR_EQUAL hK) hZ (hw _ (ow 20 rfl)) (hw _ (ow 19 rfl)) (by decide) (by decide)) (g := (mkF m 51 #[.val (.int p1), .val (.int (1 : Int32)), .val (.int (1 : Int32)), .unset, .unset, .unset, .unset] [(.int p1), (.int (1 : Int32)), (.int (0 : Int32))])) rfl (by rw [hml]; rfl) (argsL := [(.int (1 : Int32)), (.int p1)]) (rest := [(.int (0 : Int32))]) (lenOf pd_2 rfl) rfl (Nat.le_of_eq rfl) (hb hby at_51) (fun _ _ => ⟨rfl, e8, (by decide : 0 + 0 ≤ _), (by decide : 0 + 0 ≤ _)⟩)
  dsimp only [Pt.U, Pt.locs, Pt.cells, Pt.slots] at X9 l9 y9 z9 st9 hQ9
  subst l9 y9 z9
  obtain ⟨hv9, Nq9, e9⟩ := hQ9
  obtain rfl : v9 = some (.int (0 : Int32)) := hv9.trans (congrArg some (congrArg Value.int ((if_neg h1).trans ((if_pos h2).trans (if_pos (by decide))))))
  have N9 := Fr.app N8 Nq9
  obtain ⟨T10, X10, e10, st10⟩ := getS2 X9 hx hZ hown (host := "") (Or.inl (hw _ (ow 25 rfl))) Via.refl e9 S_w_LESS_OR_EQUAL (g := (mkF m 63 #[.val (.int p1), .val (.int (1 : Int32)), .val (.int (1 : Int32)), .val (.int (1 : Int32)), .unset, .unset, .unset] [])) rfl (hb hby at_63)
  obtain ⟨cq11, kq11, q11a, q11b, q11c⟩ := isOf hZ e10 E_w_LESS_OR_EQUAL
  obtain ⟨v11, _, ⟨T11, L11, k11, n11⟩, -, X11, ⟨Lc11, hQ11, l11, y11, z11⟩, st11⟩ := X10.virtualBack hx (y := (⟨"com/example/cairn/cairn/expr/Comparison$Operator", "holds", "(I)Z"⟩ : MethodName)) (z := (⟨"com/example/cairn/cairn/expr/Comparison$Operator", "holds", "(I)Z"⟩ : MethodName)) hown (mvT hZ (hw _ (ow 3 rfl))) (mvT hZ (hw _ (ow 4 rfl))) (notFace_of_selects (args := #[]) (mvT hZ (hw _ (ow 6 rfl)))) (mvT hZ (hw _ (ow 6 rfl))) (mvT hZ (hw _ (ow 5 rfl))) (by decide) (backOf (W := 0) (rm_holds_LESS_OR_EQUAL l Z a0 hw [] p1 h0 n0 w_EQUAL w_NOT_EQUAL w_LESS w_LESS_OR_EQUAL w_GREATER w_GREATER_OR_EQUAL hK) hZ (hw _ (ow 7 rfl)) (hw _ (ow 1 rfl)) (by decide) (by decide)) q11a q11c (g := (mkF m 67 #[.val (.int p1), .val (.int (1 : Int32)), .val (.int (1 : Int32)), .val (.int (1 : Int32)), .unset, .unset, .unset] [(.int p1), (.ref w_LESS_OR_EQUAL)])) rfl (by rw [hml]; rfl) (Steps.refl _) (argsL := [(.int p1)]) (rest := []) (lenOf pd_1 rfl) rfl (Nat.le_of_eq rfl) (hb hby at_67) (fun _ _ => ⟨rfl, e10, (by decide : 0 + 0 ≤ _), (by decide : 0 + 0 ≤ _)⟩)
  dsimp only [Pt.U, Pt.locs, Pt.cells, Pt.slots] at X11 l11 y11 z11 st11 hQ11
  subst l11 y11 z11
  obtain ⟨hv11, Nq11, e11⟩ := hQ11
  obtain rfl : v11 = some (.int (1 : Int32)) := hv11.trans (congrArg some (congrArg Value.int (if_neg h3)))
  have N11 := Fr.app N9 Nq11
  obtain ⟨v12, _, ⟨T12, L12, k12, n12⟩, -, X12, ⟨Lc12, hQ12, l12, y12, z12⟩, st12⟩ := Jvm.LawKit.callS X11 hx (y := (⟨"com/example/cairn/cairn/expr/OperatorHoldsPinLaw", "accepts", "(II)Z"⟩ : MethodName)) hown (mvT hZ (hw _ (ow 17 rfl))) (mvT hZ (hw _ (ow 18 rfl))) (mvT hZ (hw _ (ow 19 rfl))) (mvT hZ (hw _ (ow 20 rfl))) (by decide) (backOf (W := 1) (rm_accepts l Z a0 hw [] (3 : Int32) p1 h0 n0 w_EQUAL w_NOT_EQUAL w_LESS w_LESS_OR_EQUAL w_GREATER w_GREATER_OR_EQUAL hK) hZ (hw _ (ow 20 rfl)) (hw _ (ow 19 rfl)) (by decide) (by decide)) (g := (mkF m 72 #[.val (.int p1), .val (.int (1 : Int32)), .val (.int (1 : Int32)), .val (.int (1 : Int32)), .unset, .unset, .unset] [(.int p1), (.int (3 : Int32)), (.int (1 : Int32))])) rfl (by rw [hml]; rfl) (argsL := [(.int (3 : Int32)), (.int p1)]) (rest := [(.int (1 : Int32))]) (lenOf pd_2 rfl) rfl (Nat.le_of_eq rfl) (hb hby at_72) (fun _ _ => ⟨rfl, e11, (by decide : 0 + 0 ≤ _), (by decide : 0 + 0 ≤ _)⟩)
  dsimp only [Pt.U, Pt.locs, Pt.cells, Pt.slots] at X12 l12 y12 z12 st12 hQ12
  subst l12 y12 z12
  obtain ⟨hv12, Nq12, e12⟩ := hQ12
  obtain rfl : v12 = some (.int (1 : Int32)) := hv12.trans (congrArg some (congrArg Value.int ((if_neg h1).trans ((if_pos h2).trans (if_neg (by decide))))))
  have N12 := Fr.app N11 Nq12
  obtain ⟨T13, X13, e13, st13⟩ := getS2 X12 hx hZ hown (host := "") (Or.inl (hw _ (ow 27 rfl))) Via.refl e12 S_w_GREATER (g := (mkF m 85 #[.val (.int p1), .val (.int (1 : Int32)), .val (.int (1 : Int32)), .val (.int (1 : Int32)), .val (.int (1 : Int32)), .unset, .unset] [])) rfl (hb hby at_85)
  obtain ⟨cq14, kq14, q14a, q14b, q14c⟩ := isOf hZ e13 E_w_GREATER
  obtain ⟨v14, _, ⟨T14, L14, k14, n14⟩, -, X14, ⟨Lc14, hQ14, l14, y14, z14⟩, st14⟩ := X13.virtualBack hx (y := (⟨"com/example/cairn/cairn/expr/Comparison$Operator", "holds", "(I)Z"⟩ : MethodName)) (z := (⟨"com/example/cairn/cairn/expr/Comparison$Operator", "holds", "(I)Z"⟩ : MethodName)) hown (mvT hZ (hw _ (ow 3 rfl))) (mvT hZ (hw _ (ow 4 rfl))) (notFace_of_selects (args := #[]) (mvT hZ (hw _ (ow 6 rfl)))) (mvT hZ (hw _ (ow 6 rfl))) (mvT hZ (hw _ (ow 5 rfl))) (by decide) (backOf (W := 0) (rm_holds_GREATER l Z a0 hw [] p1 h0 n0 w_EQUAL w_NOT_EQUAL w_LESS w_LESS_OR_EQUAL w_GREATER w_GREATER_OR_EQUAL hK) hZ (hw _ (ow 7 rfl)) (hw _ (ow 1 rfl)) (by decide) (by decide)) q14a q14c (g := (mkF m 89 #[.val (.int p1), .val (.int (1 : Int32)), .val (.int (1 : Int32)), .val (.int (1 : Int32)), .val (.int (1 : Int32)), .unset, .unset] [(.int p1), (.ref w_GREATER)])) rfl (by rw [hml]; rfl) (Steps.refl _) (argsL := [(.int p1)]) (rest := []) (lenOf pd_1 rfl) rfl (Nat.le_of_eq rfl) (hb hby at_89) (fun _ _ => ⟨rfl, e13, (by decide : 0 + 0 ≤ _), (by decide : 0 + 0 ≤ _)⟩)
  dsimp only [Pt.U, Pt.locs, Pt.cells, Pt.slots] at X14 l14 y14 z14 st14 hQ14
  subst l14 y14 z14
  obtain ⟨hv14, Nq14, e14⟩ := hQ14
  obtain rfl : v14 = some (.int (0 : Int32)) := hv14.trans (congrArg some (congrArg Value.int (if_neg h3)))
  have N14 := Fr.app N12 Nq14
  obtain ⟨v15, _, ⟨T15, L15, k15, n15⟩, -, X15, ⟨Lc15, hQ15, l15, y15, z15⟩, st15⟩ := Jvm.LawKit.callS X14 hx (y := (⟨"com/example/cairn/cairn/expr/OperatorHoldsPinLaw", "accepts", "(II)Z"⟩ : MethodName)) hown (mvT hZ (hw _ (ow 17 rfl))) (mvT hZ (hw _ (ow 18 rfl))) (mvT hZ (hw _ (ow 19 rfl))) (mvT hZ (hw _ (ow 20 rfl))) (by decide) (backOf (W := 1) (rm_accepts l Z a0 hw [] (4 : Int32) p1 h0 n0 w_EQUAL w_NOT_EQUAL w_LESS w_LESS_OR_EQUAL w_GREATER w_GREATER_OR_EQUAL hK) hZ (hw _ (ow 20 rfl)) (hw _ (ow 19 rfl)) (by decide) (by decide)) (g := (mkF m 94 #[.val (.int p1), .val (.int (1 : Int32)), .val (.int (1 : Int32)), .val (.int (1 : Int32)), .val (.int (1 : Int32)), .unset, .unset] [(.int p1), (.int (4 : Int32)), (.int (0 : Int32))])) rfl (by rw [hml]; rfl) (argsL := [(.int (4 : Int32)), (.int p1)]) (rest := [(.int (0 : Int32))]) (lenOf pd_2 rfl) rfl (Nat.le_of_eq rfl) (hb hby at_94) (fun _ _ => ⟨rfl, e14, (by decide : 0 + 0 ≤ _), (by decide : 0 + 0 ≤ _)⟩)
  dsimp only [Pt.U, Pt.locs, Pt.cells, Pt.slots] at X15 l15 y15 z15 st15 hQ15
  subst l15 y15 z15
  obtain ⟨hv15, Nq15, e15⟩ := hQ15
  obtain rfl : v15 = some (.int (0 : Int32)) := hv15.trans (congrArg some (congrArg Value.int ((if_neg h1).trans ((if_pos h2).trans (if_pos (by decide))))))
  have N15 := Fr.app N14 Nq15
  obtain ⟨T16, X16, e16, st16⟩ := getS2 X15 hx hZ hown (host := "") (Or.inl (hw _ (ow 29 rfl))) Via.refl e15 S_w_GREATER_OR_EQUAL (g := (mkF m 107 #[.val (.int p1), .val (.int (1 : Int32)), .val (.int (1 : Int32)), .val (.int (1 : Int32)), .val (.int (1 : Int32)), .val (.int (1 : Int32)), .unset] [])) rfl (hb hby at_107)
  obtain ⟨cq17, kq17, q17a, q17b, q17c⟩ := isOf hZ e16 E_w_GREATER_OR_EQUAL
  obtain ⟨v17, _, ⟨T17, L17, k17, n17⟩, -, X17, ⟨Lc17, hQ17, l17, y17, z17⟩, st17⟩ := X16.virtualBack hx (y := (⟨"com/example/cairn/cairn/expr/Comparison$Operator", "holds", "(I)Z"⟩ : MethodName)) (z := (⟨"com/example/cairn/cairn/expr/Comparison$Operator", "holds", "(I)Z"⟩ : MethodName)) hown (mvT hZ (hw _ (ow 3 rfl))) (mvT hZ (hw _ (ow 4 rfl))) (notFace_of_selects (args := #[]) (mvT hZ (hw _ (ow 6 rfl)))) (mvT hZ (hw _ (ow 6 rfl))) (mvT hZ (hw _ (ow 5 rfl))) (by decide) (backOf (W := 0) (rm_holds_GREATER_OR_EQUAL l Z a0 hw [] p1 h0 n0 w_EQUAL w_NOT_EQUAL w_LESS w_LESS_OR_EQUAL w_GREATER w_GREATER_OR_EQUAL hK) hZ (hw _ (ow 7 rfl)) (hw _ (ow 1 rfl)) (by decide) (by decide)) q17a q17c (g := (mkF m 111 #[.val (.int p1), .val (.int (1 : Int32)), .val (.int (1 : Int32)), .val (.int (1 : Int32)), .val (.int (1 : Int32)), .val (.int (1 : Int32)), .unset] [(.int p1), (.ref w_GREATER_OR_EQUAL)])) rfl (by rw [hml]; rfl) (Steps.refl _) (argsL := [(.int p1)]) (rest := []) (lenOf pd_1 rfl) rfl (Nat.le_of_eq rfl) (hb hby at_111) (fun _ _ => ⟨rfl, e16, (by decide : 0 + 0 ≤ _), (by decide : 0 + 0 ≤ _)⟩)
  dsimp only [Pt.U, Pt.locs, Pt.cells, Pt.slots] at X17 l17 y17 z17 st17 hQ17
  subst l17 y17 z17
  obtain ⟨hv17, Nq17, e17⟩ := hQ17
  obtain rfl : v17 = some (.int (1 : Int32)) := hv17.trans (congrArg some (congrArg Value.int (if_neg h1)))
  have N17 := Fr.app N15 Nq17
  obtain ⟨v18, _, ⟨T18, L18, k18, n18⟩, -, X18, ⟨Lc18, hQ18, l18, y18, z18⟩, st18⟩ := Jvm.LawKit.callS X17 hx (y := (⟨"com/example/cairn/cairn/expr/OperatorHoldsPinLaw", "accepts", "(II)Z"⟩ : MethodName)) hown (mvT hZ (hw _ (ow 17 rfl))) (mvT hZ (hw _ (ow 18 rfl))) (mvT hZ (hw _ (ow 19 rfl))) (mvT hZ (hw _ (ow 20 rfl))) (by decide) (backOf (W := 1) (rm_accepts l Z a0 hw [] (6 : Int32) p1 h0 n0 w_EQUAL w_NOT_EQUAL w_LESS w_LESS_OR_EQUAL w_GREATER w_GREATER_OR_EQUAL hK) hZ (hw _ (ow 20 rfl)) (hw _ (ow 19 rfl)) (by decide) (by decide)) (g := (mkF m 117 #[.val (.int p1), .val (.int (1 : Int32)), .val (.int (1 : Int32)), .val (.int (1 : Int32)), .val (.int (1 : Int32)), .val (.int (1 : Int32)), .unset] [(.int p1), (.int (6 : Int32)), (.int (1 : Int32))])) rfl (by rw [hml]; rfl) (argsL := [(.int (6 : Int32)), (.int p1)]) (rest := [(.int (1 : Int32))]) (lenOf pd_2 rfl) rfl (Nat.le_of_eq rfl) (hb hby at_117) (fun _ _ => ⟨rfl, e17, (by decide : 0 + 0 ≤ _), (by decide : 0 + 0 ≤ _)⟩)
  dsimp only [Pt.U, Pt.locs, Pt.cells, Pt.slots] at X18 l18 y18 z18 st18 hQ18
  subst l18 y18 z18
  obtain ⟨hv18, Nq18, e18⟩ := hQ18
  obtain rfl : v18 = some (.int (1 : Int32)) := hv18.trans (congrArg some (congrArg Value.int ((if_neg h1).trans ((if_pos h2).trans (if_neg (by decide))))))
  have N18 := Fr.app N17 Nq18
  have pre19 : ∀ t, Steps p.tables e below (T18.setTop (mkF m 162 #[.val (.int p1), .val (.int (1 : Int32)), .val (.int (1 : Int32)), .val (.int (1 : Int32)), .val (.int (1 : Int32)), .val (.int (1 : Int32)), .val (.int (1 : Int32))] [(.int (1 : Int32))])) t → Steps p.tables e below (s₁.setTop (entryFrame m #[(.int p1)] maxLocals)) t := fun t k => pre0 t (by
    show Steps p.tables e below (s₁.setTop (mkF m 0 #[.val (.int p1), .unset, .unset, .unset, .unset, .unset, .unset] [])) _
    refine st1 _ ?_
    show Steps p.tables e below (T1.setTop (mkF m 3 #[.val (.int p1), .unset, .unset, .unset, .unset, .unset, .unset] [(.ref w_EQUAL)])) _
    refine XS.iloadN X1.here hx rfl (hb hby at_3) rfl ?_
    show Steps p.tables e below (T1.setTop (mkF m 4 #[.val (.int p1), .unset, .unset, .unset, .unset, .unset, .unset] [(.int p1), (.ref w_EQUAL)])) _
    refine st2.trans ?_
    show Steps p.tables e below (T2.setTop (mkF m 7 #[.val (.int p1), .unset, .unset, .unset, .unset, .unset, .unset] [(.int (1 : Int32))])) _
    refine XS.iconst X2.here hx rfl (hb hby at_7) ?_
    show Steps p.tables e below (T2.setTop (mkF m 8 #[.val (.int p1), .unset, .unset, .unset, .unset, .unset, .unset] [(.int (2 : Int32)), (.int (1 : Int32))])) _
    refine XS.iloadN X2.here hx rfl (hb hby at_8) rfl ?_
    show Steps p.tables e below (T2.setTop (mkF m 9 #[.val (.int p1), .unset, .unset, .unset, .unset, .unset, .unset] [(.int p1), (.int (2 : Int32)), (.int (1 : Int32))])) _
    refine st3 _ ?_
    show Steps p.tables e below (T3.setTop (mkF m 12 #[.val (.int p1), .unset, .unset, .unset, .unset, .unset, .unset] [(.int (1 : Int32)), (.int (1 : Int32))])) _
    refine XS.icmpNo X3.here hx rfl (hb hby at_12) rfl (teq (by decide)).2 ?_
    show Steps p.tables e below (T3.setTop (mkF m 15 #[.val (.int p1), .unset, .unset, .unset, .unset, .unset, .unset] [])) _
    refine XS.iconst X3.here hx rfl (hb hby at_15) ?_
    show Steps p.tables e below (T3.setTop (mkF m 16 #[.val (.int p1), .unset, .unset, .unset, .unset, .unset, .unset] [(.int (1 : Int32))])) _
    refine XS.goto X3.here hx rfl (pc0 := 16) (pc' := 20) rfl (hb hby at_16) (by decide) (by decide) ?_
    show Steps p.tables e below (T3.setTop (mkF m 20 #[.val (.int p1), .unset, .unset, .unset, .unset, .unset, .unset] [(.int (1 : Int32))])) _
    refine XS.istoreN X3.here hx rfl (hb hby at_20) rfl (l' := #[.val (.int p1), .val (.int (1 : Int32)), .unset, .unset, .unset, .unset, .unset]) rfl ?_
    show Steps p.tables e below (T3.setTop (mkF m 21 #[.val (.int p1), .val (.int (1 : Int32)), .unset, .unset, .unset, .unset, .unset] [])) _
    refine st4 _ ?_
    show Steps p.tables e below (T4.setTop (mkF m 24 #[.val (.int p1), .val (.int (1 : Int32)), .unset, .unset, .unset, .unset, .unset] [(.ref w_NOT_EQUAL)])) _
    refine XS.iloadN X4.here hx rfl (hb hby at_24) rfl ?_
    show Steps p.tables e below (T4.setTop (mkF m 25 #[.val (.int p1), .val (.int (1 : Int32)), .unset, .unset, .unset, .unset, .unset] [(.int p1), (.ref w_NOT_EQUAL)])) _
    refine st5.trans ?_
    show Steps p.tables e below (T5.setTop (mkF m 28 #[.val (.int p1), .val (.int (1 : Int32)), .unset, .unset, .unset, .unset, .unset] [(.int (0 : Int32))])) _
    refine XS.iconst X5.here hx rfl (hb hby at_28) ?_
    show Steps p.tables e below (T5.setTop (mkF m 29 #[.val (.int p1), .val (.int (1 : Int32)), .unset, .unset, .unset, .unset, .unset] [(.int (5 : Int32)), (.int (0 : Int32))])) _
    refine XS.iloadN X5.here hx rfl (hb hby at_29) rfl ?_
    show Steps p.tables e below (T5.setTop (mkF m 30 #[.val (.int p1), .val (.int (1 : Int32)), .unset, .unset, .unset, .unset, .unset] [(.int p1), (.int (5 : Int32)), (.int (0 : Int32))])) _
    refine st6 _ ?_
    show Steps p.tables e below (T6.setTop (mkF m 33 #[.val (.int p1), .val (.int (1 : Int32)), .unset, .unset, .unset, .unset, .unset] [(.int (0 : Int32)), (.int (0 : Int32))])) _
    refine XS.icmpNo X6.here hx rfl (hb hby at_33) rfl (teq (by decide)).2 ?_
    show Steps p.tables e below (T6.setTop (mkF m 36 #[.val (.int p1), .val (.int (1 : Int32)), .unset, .unset, .unset, .unset, .unset] [])) _
    refine XS.iconst X6.here hx rfl (hb hby at_36) ?_
    show Steps p.tables e below (T6.setTop (mkF m 37 #[.val (.int p1), .val (.int (1 : Int32)), .unset, .unset, .unset, .unset, .unset] [(.int (1 : Int32))])) _
    refine XS.goto X6.here hx rfl (pc0 := 37) (pc' := 41) rfl (hb hby at_37) (by decide) (by decide) ?_
    show Steps p.tables e below (T6.setTop (mkF m 41 #[.val (.int p1), .val (.int (1 : Int32)), .unset, .unset, .unset, .unset, .unset] [(.int (1 : Int32))])) _
    refine XS.istoreN X6.here hx rfl (hb hby at_41) rfl (l' := #[.val (.int p1), .val (.int (1 : Int32)), .val (.int (1 : Int32)), .unset, .unset, .unset, .unset]) rfl ?_
    show Steps p.tables e below (T6.setTop (mkF m 42 #[.val (.int p1), .val (.int (1 : Int32)), .val (.int (1 : Int32)), .unset, .unset, .unset, .unset] [])) _
    refine st7 _ ?_
    show Steps p.tables e below (T7.setTop (mkF m 45 #[.val (.int p1), .val (.int (1 : Int32)), .val (.int (1 : Int32)), .unset, .unset, .unset, .unset] [(.ref w_LESS)])) _
    refine XS.iloadN X7.here hx rfl (hb hby at_45) rfl ?_
    show Steps p.tables e below (T7.setTop (mkF m 46 #[.val (.int p1), .val (.int (1 : Int32)), .val (.int (1 : Int32)), .unset, .unset, .unset, .unset] [(.int p1), (.ref w_LESS)])) _
    refine st8.trans ?_
    show Steps p.tables e below (T8.setTop (mkF m 49 #[.val (.int p1), .val (.int (1 : Int32)), .val (.int (1 : Int32)), .unset, .unset, .unset, .unset] [(.int (0 : Int32))])) _
    refine XS.iconst X8.here hx rfl (hb hby at_49) ?_
    show Steps p.tables e below (T8.setTop (mkF m 50 #[.val (.int p1), .val (.int (1 : Int32)), .val (.int (1 : Int32)), .unset, .unset, .unset, .unset] [(.int (1 : Int32)), (.int (0 : Int32))])) _
    refine XS.iloadN X8.here hx rfl (hb hby at_50) rfl ?_
    show Steps p.tables e below (T8.setTop (mkF m 51 #[.val (.int p1), .val (.int (1 : Int32)), .val (.int (1 : Int32)), .unset, .unset, .unset, .unset] [(.int p1), (.int (1 : Int32)), (.int (0 : Int32))])) _
    refine st9 _ ?_
    show Steps p.tables e below (T9.setTop (mkF m 54 #[.val (.int p1), .val (.int (1 : Int32)), .val (.int (1 : Int32)), .unset, .unset, .unset, .unset] [(.int (0 : Int32)), (.int (0 : Int32))])) _
    refine XS.icmpNo X9.here hx rfl (hb hby at_54) rfl (teq (by decide)).2 ?_
    show Steps p.tables e below (T9.setTop (mkF m 57 #[.val (.int p1), .val (.int (1 : Int32)), .val (.int (1 : Int32)), .unset, .unset, .unset, .unset] [])) _
    refine XS.iconst X9.here hx rfl (hb hby at_57) ?_
    show Steps p.tables e below (T9.setTop (mkF m 58 #[.val (.int p1), .val (.int (1 : Int32)), .val (.int (1 : Int32)), .unset, .unset, .unset, .unset] [(.int (1 : Int32))])) _
    refine XS.goto X9.here hx rfl (pc0 := 58) (pc' := 62) rfl (hb hby at_58) (by decide) (by decide) ?_
    show Steps p.tables e below (T9.setTop (mkF m 62 #[.val (.int p1), .val (.int (1 : Int32)), .val (.int (1 : Int32)), .unset, .unset, .unset, .unset] [(.int (1 : Int32))])) _
    refine XS.istoreN X9.here hx rfl (hb hby at_62) rfl (l' := #[.val (.int p1), .val (.int (1 : Int32)), .val (.int (1 : Int32)), .val (.int (1 : Int32)), .unset, .unset, .unset]) rfl ?_
    show Steps p.tables e below (T9.setTop (mkF m 63 #[.val (.int p1), .val (.int (1 : Int32)), .val (.int (1 : Int32)), .val (.int (1 : Int32)), .unset, .unset, .unset] [])) _
    refine st10 _ ?_
    show Steps p.tables e below (T10.setTop (mkF m 66 #[.val (.int p1), .val (.int (1 : Int32)), .val (.int (1 : Int32)), .val (.int (1 : Int32)), .unset, .unset, .unset] [(.ref w_LESS_OR_EQUAL)])) _
    refine XS.iloadN X10.here hx rfl (hb hby at_66) rfl ?_
    show Steps p.tables e below (T10.setTop (mkF m 67 #[.val (.int p1), .val (.int (1 : Int32)), .val (.int (1 : Int32)), .val (.int (1 : Int32)), .unset, .unset, .unset] [(.int p1), (.ref w_LESS_OR_EQUAL)])) _
    refine st11.trans ?_
    show Steps p.tables e below (T11.setTop (mkF m 70 #[.val (.int p1), .val (.int (1 : Int32)), .val (.int (1 : Int32)), .val (.int (1 : Int32)), .unset, .unset, .unset] [(.int (1 : Int32))])) _
    refine XS.iconst X11.here hx rfl (hb hby at_70) ?_
    show Steps p.tables e below (T11.setTop (mkF m 71 #[.val (.int p1), .val (.int (1 : Int32)), .val (.int (1 : Int32)), .val (.int (1 : Int32)), .unset, .unset, .unset] [(.int (3 : Int32)), (.int (1 : Int32))])) _
    refine XS.iloadN X11.here hx rfl (hb hby at_71) rfl ?_
    show Steps p.tables e below (T11.setTop (mkF m 72 #[.val (.int p1), .val (.int (1 : Int32)), .val (.int (1 : Int32)), .val (.int (1 : Int32)), .unset, .unset, .unset] [(.int p1), (.int (3 : Int32)), (.int (1 : Int32))])) _
    refine st12 _ ?_
    show Steps p.tables e below (T12.setTop (mkF m 75 #[.val (.int p1), .val (.int (1 : Int32)), .val (.int (1 : Int32)), .val (.int (1 : Int32)), .unset, .unset, .unset] [(.int (1 : Int32)), (.int (1 : Int32))])) _
    refine XS.icmpNo X12.here hx rfl (hb hby at_75) rfl (teq (by decide)).2 ?_
    show Steps p.tables e below (T12.setTop (mkF m 78 #[.val (.int p1), .val (.int (1 : Int32)), .val (.int (1 : Int32)), .val (.int (1 : Int32)), .unset, .unset, .unset] [])) _
    refine XS.iconst X12.here hx rfl (hb hby at_78) ?_
    show Steps p.tables e below (T12.setTop (mkF m 79 #[.val (.int p1), .val (.int (1 : Int32)), .val (.int (1 : Int32)), .val (.int (1 : Int32)), .unset, .unset, .unset] [(.int (1 : Int32))])) _
    refine XS.goto X12.here hx rfl (pc0 := 79) (pc' := 83) rfl (hb hby at_79) (by decide) (by decide) ?_
    show Steps p.tables e below (T12.setTop (mkF m 83 #[.val (.int p1), .val (.int (1 : Int32)), .val (.int (1 : Int32)), .val (.int (1 : Int32)), .unset, .unset, .unset] [(.int (1 : Int32))])) _
    refine XS.istore X12.here hx rfl (hb hby at_83) rfl (l' := #[.val (.int p1), .val (.int (1 : Int32)), .val (.int (1 : Int32)), .val (.int (1 : Int32)), .val (.int (1 : Int32)), .unset, .unset]) rfl ?_
    show Steps p.tables e below (T12.setTop (mkF m 85 #[.val (.int p1), .val (.int (1 : Int32)), .val (.int (1 : Int32)), .val (.int (1 : Int32)), .val (.int (1 : Int32)), .unset, .unset] [])) _
    refine st13 _ ?_
    show Steps p.tables e below (T13.setTop (mkF m 88 #[.val (.int p1), .val (.int (1 : Int32)), .val (.int (1 : Int32)), .val (.int (1 : Int32)), .val (.int (1 : Int32)), .unset, .unset] [(.ref w_GREATER)])) _
    refine XS.iloadN X13.here hx rfl (hb hby at_88) rfl ?_
    show Steps p.tables e below (T13.setTop (mkF m 89 #[.val (.int p1), .val (.int (1 : Int32)), .val (.int (1 : Int32)), .val (.int (1 : Int32)), .val (.int (1 : Int32)), .unset, .unset] [(.int p1), (.ref w_GREATER)])) _
    refine st14.trans ?_
    show Steps p.tables e below (T14.setTop (mkF m 92 #[.val (.int p1), .val (.int (1 : Int32)), .val (.int (1 : Int32)), .val (.int (1 : Int32)), .val (.int (1 : Int32)), .unset, .unset] [(.int (0 : Int32))])) _
    refine XS.iconst X14.here hx rfl (hb hby at_92) ?_
    show Steps p.tables e below (T14.setTop (mkF m 93 #[.val (.int p1), .val (.int (1 : Int32)), .val (.int (1 : Int32)), .val (.int (1 : Int32)), .val (.int (1 : Int32)), .unset, .unset] [(.int (4 : Int32)), (.int (0 : Int32))])) _
    refine XS.iloadN X14.here hx rfl (hb hby at_93) rfl ?_
    show Steps p.tables e below (T14.setTop (mkF m 94 #[.val (.int p1), .val (.int (1 : Int32)), .val (.int (1 : Int32)), .val (.int (1 : Int32)), .val (.int (1 : Int32)), .unset, .unset] [(.int p1), (.int (4 : Int32)), (.int (0 : Int32))])) _
    refine st15 _ ?_
    show Steps p.tables e below (T15.setTop (mkF m 97 #[.val (.int p1), .val (.int (1 : Int32)), .val (.int (1 : Int32)), .val (.int (1 : Int32)), .val (.int (1 : Int32)), .unset, .unset] [(.int (0 : Int32)), (.int (0 : Int32))])) _
    refine XS.icmpNo X15.here hx rfl (hb hby at_97) rfl (teq (by decide)).2 ?_
    show Steps p.tables e below (T15.setTop (mkF m 100 #[.val (.int p1), .val (.int (1 : Int32)), .val (.int (1 : Int32)), .val (.int (1 : Int32)), .val (.int (1 : Int32)), .unset, .unset] [])) _
    refine XS.iconst X15.here hx rfl (hb hby at_100) ?_
    show Steps p.tables e below (T15.setTop (mkF m 101 #[.val (.int p1), .val (.int (1 : Int32)), .val (.int (1 : Int32)), .val (.int (1 : Int32)), .val (.int (1 : Int32)), .unset, .unset] [(.int (1 : Int32))])) _
    refine XS.goto X15.here hx rfl (pc0 := 101) (pc' := 105) rfl (hb hby at_101) (by decide) (by decide) ?_
    show Steps p.tables e below (T15.setTop (mkF m 105 #[.val (.int p1), .val (.int (1 : Int32)), .val (.int (1 : Int32)), .val (.int (1 : Int32)), .val (.int (1 : Int32)), .unset, .unset] [(.int (1 : Int32))])) _
    refine XS.istore X15.here hx rfl (hb hby at_105) rfl (l' := #[.val (.int p1), .val (.int (1 : Int32)), .val (.int (1 : Int32)), .val (.int (1 : Int32)), .val (.int (1 : Int32)), .val (.int (1 : Int32)), .unset]) rfl ?_
    show Steps p.tables e below (T15.setTop (mkF m 107 #[.val (.int p1), .val (.int (1 : Int32)), .val (.int (1 : Int32)), .val (.int (1 : Int32)), .val (.int (1 : Int32)), .val (.int (1 : Int32)), .unset] [])) _
    refine st16 _ ?_
    show Steps p.tables e below (T16.setTop (mkF m 110 #[.val (.int p1), .val (.int (1 : Int32)), .val (.int (1 : Int32)), .val (.int (1 : Int32)), .val (.int (1 : Int32)), .val (.int (1 : Int32)), .unset] [(.ref w_GREATER_OR_EQUAL)])) _
    refine XS.iloadN X16.here hx rfl (hb hby at_110) rfl ?_
    show Steps p.tables e below (T16.setTop (mkF m 111 #[.val (.int p1), .val (.int (1 : Int32)), .val (.int (1 : Int32)), .val (.int (1 : Int32)), .val (.int (1 : Int32)), .val (.int (1 : Int32)), .unset] [(.int p1), (.ref w_GREATER_OR_EQUAL)])) _
    refine st17.trans ?_
    show Steps p.tables e below (T17.setTop (mkF m 114 #[.val (.int p1), .val (.int (1 : Int32)), .val (.int (1 : Int32)), .val (.int (1 : Int32)), .val (.int (1 : Int32)), .val (.int (1 : Int32)), .unset] [(.int (1 : Int32))])) _
    refine XS.bipush X17.here hx rfl (hb hby at_114) ?_
    show Steps p.tables e below (T17.setTop (mkF m 116 #[.val (.int p1), .val (.int (1 : Int32)), .val (.int (1 : Int32)), .val (.int (1 : Int32)), .val (.int (1 : Int32)), .val (.int (1 : Int32)), .unset] [(.int (6 : Int32)), (.int (1 : Int32))])) _
    refine XS.iloadN X17.here hx rfl (hb hby at_116) rfl ?_
    show Steps p.tables e below (T17.setTop (mkF m 117 #[.val (.int p1), .val (.int (1 : Int32)), .val (.int (1 : Int32)), .val (.int (1 : Int32)), .val (.int (1 : Int32)), .val (.int (1 : Int32)), .unset] [(.int p1), (.int (6 : Int32)), (.int (1 : Int32))])) _
    refine st18 _ ?_
    show Steps p.tables e below (T18.setTop (mkF m 120 #[.val (.int p1), .val (.int (1 : Int32)), .val (.int (1 : Int32)), .val (.int (1 : Int32)), .val (.int (1 : Int32)), .val (.int (1 : Int32)), .unset] [(.int (1 : Int32)), (.int (1 : Int32))])) _
    refine XS.icmpNo X18.here hx rfl (hb hby at_120) rfl (teq (by decide)).2 ?_
    show Steps p.tables e below (T18.setTop (mkF m 123 #[.val (.int p1), .val (.int (1 : Int32)), .val (.int (1 : Int32)), .val (.int (1 : Int32)), .val (.int (1 : Int32)), .val (.int (1 : Int32)), .unset] [])) _
    refine XS.iconst X18.here hx rfl (hb hby at_123) ?_
    show Steps p.tables e below (T18.setTop (mkF m 124 #[.val (.int p1), .val (.int (1 : Int32)), .val (.int (1 : Int32)), .val (.int (1 : Int32)), .val (.int (1 : Int32)), .val (.int (1 : Int32)), .unset] [(.int (1 : Int32))])) _
    refine XS.goto X18.here hx rfl (pc0 := 124) (pc' := 128) rfl (hb hby at_124) (by decide) (by decide) ?_
    show Steps p.tables e below (T18.setTop (mkF m 128 #[.val (.int p1), .val (.int (1 : Int32)), .val (.int (1 : Int32)), .val (.int (1 : Int32)), .val (.int (1 : Int32)), .val (.int (1 : Int32)), .unset] [(.int (1 : Int32))])) _
    refine XS.istore X18.here hx rfl (hb hby at_128) rfl (l' := #[.val (.int p1), .val (.int (1 : Int32)), .val (.int (1 : Int32)), .val (.int (1 : Int32)), .val (.int (1 : Int32)), .val (.int (1 : Int32)), .val (.int (1 : Int32))]) rfl ?_
    show Steps p.tables e below (T18.setTop (mkF m 130 #[.val (.int p1), .val (.int (1 : Int32)), .val (.int (1 : Int32)), .val (.int (1 : Int32)), .val (.int (1 : Int32)), .val (.int (1 : Int32)), .val (.int (1 : Int32))] [])) _
    refine XS.iloadN X18.here hx rfl (hb hby at_130) rfl ?_
    show Steps p.tables e below (T18.setTop (mkF m 131 #[.val (.int p1), .val (.int (1 : Int32)), .val (.int (1 : Int32)), .val (.int (1 : Int32)), .val (.int (1 : Int32)), .val (.int (1 : Int32)), .val (.int (1 : Int32))] [(.int (1 : Int32))])) _
    refine XS.ifNo X18.here hx rfl (hb hby at_131) rfl ((if0 _ _).trans (feq (by decide)).1) ?_
    show Steps p.tables e below (T18.setTop (mkF m 134 #[.val (.int p1), .val (.int (1 : Int32)), .val (.int (1 : Int32)), .val (.int (1 : Int32)), .val (.int (1 : Int32)), .val (.int (1 : Int32)), .val (.int (1 : Int32))] [])) _
    refine XS.iloadN X18.here hx rfl (hb hby at_134) rfl ?_
    show Steps p.tables e below (T18.setTop (mkF m 135 #[.val (.int p1), .val (.int (1 : Int32)), .val (.int (1 : Int32)), .val (.int (1 : Int32)), .val (.int (1 : Int32)), .val (.int (1 : Int32)), .val (.int (1 : Int32))] [(.int (1 : Int32))])) _
    refine XS.ifNo X18.here hx rfl (hb hby at_135) rfl ((if0 _ _).trans (feq (by decide)).1) ?_
    show Steps p.tables e below (T18.setTop (mkF m 138 #[.val (.int p1), .val (.int (1 : Int32)), .val (.int (1 : Int32)), .val (.int (1 : Int32)), .val (.int (1 : Int32)), .val (.int (1 : Int32)), .val (.int (1 : Int32))] [])) _
    refine XS.iloadN X18.here hx rfl (hb hby at_138) rfl ?_
    show Steps p.tables e below (T18.setTop (mkF m 139 #[.val (.int p1), .val (.int (1 : Int32)), .val (.int (1 : Int32)), .val (.int (1 : Int32)), .val (.int (1 : Int32)), .val (.int (1 : Int32)), .val (.int (1 : Int32))] [(.int (1 : Int32))])) _
    refine XS.ifNo X18.here hx rfl (hb hby at_139) rfl ((if0 _ _).trans (feq (by decide)).1) ?_
    show Steps p.tables e below (T18.setTop (mkF m 142 #[.val (.int p1), .val (.int (1 : Int32)), .val (.int (1 : Int32)), .val (.int (1 : Int32)), .val (.int (1 : Int32)), .val (.int (1 : Int32)), .val (.int (1 : Int32))] [])) _
    refine XS.iload X18.here hx rfl (hb hby at_142) rfl ?_
    show Steps p.tables e below (T18.setTop (mkF m 144 #[.val (.int p1), .val (.int (1 : Int32)), .val (.int (1 : Int32)), .val (.int (1 : Int32)), .val (.int (1 : Int32)), .val (.int (1 : Int32)), .val (.int (1 : Int32))] [(.int (1 : Int32))])) _
    refine XS.ifNo X18.here hx rfl (hb hby at_144) rfl ((if0 _ _).trans (feq (by decide)).1) ?_
    show Steps p.tables e below (T18.setTop (mkF m 147 #[.val (.int p1), .val (.int (1 : Int32)), .val (.int (1 : Int32)), .val (.int (1 : Int32)), .val (.int (1 : Int32)), .val (.int (1 : Int32)), .val (.int (1 : Int32))] [])) _
    refine XS.iload X18.here hx rfl (hb hby at_147) rfl ?_
    show Steps p.tables e below (T18.setTop (mkF m 149 #[.val (.int p1), .val (.int (1 : Int32)), .val (.int (1 : Int32)), .val (.int (1 : Int32)), .val (.int (1 : Int32)), .val (.int (1 : Int32)), .val (.int (1 : Int32))] [(.int (1 : Int32))])) _
    refine XS.ifNo X18.here hx rfl (hb hby at_149) rfl ((if0 _ _).trans (feq (by decide)).1) ?_
    show Steps p.tables e below (T18.setTop (mkF m 152 #[.val (.int p1), .val (.int (1 : Int32)), .val (.int (1 : Int32)), .val (.int (1 : Int32)), .val (.int (1 : Int32)), .val (.int (1 : Int32)), .val (.int (1 : Int32))] [])) _
    refine XS.iload X18.here hx rfl (hb hby at_152) rfl ?_
    show Steps p.tables e below (T18.setTop (mkF m 154 #[.val (.int p1), .val (.int (1 : Int32)), .val (.int (1 : Int32)), .val (.int (1 : Int32)), .val (.int (1 : Int32)), .val (.int (1 : Int32)), .val (.int (1 : Int32))] [(.int (1 : Int32))])) _
    refine XS.ifNo X18.here hx rfl (hb hby at_154) rfl ((if0 _ _).trans (feq (by decide)).1) ?_
    show Steps p.tables e below (T18.setTop (mkF m 157 #[.val (.int p1), .val (.int (1 : Int32)), .val (.int (1 : Int32)), .val (.int (1 : Int32)), .val (.int (1 : Int32)), .val (.int (1 : Int32)), .val (.int (1 : Int32))] [])) _
    refine XS.iconst X18.here hx rfl (hb hby at_157) ?_
    show Steps p.tables e below (T18.setTop (mkF m 158 #[.val (.int p1), .val (.int (1 : Int32)), .val (.int (1 : Int32)), .val (.int (1 : Int32)), .val (.int (1 : Int32)), .val (.int (1 : Int32)), .val (.int (1 : Int32))] [(.int (1 : Int32))])) _
    refine XS.goto X18.here hx rfl (pc0 := 158) (pc' := 162) rfl (hb hby at_158) (by decide) (by decide) ?_
    exact k)
  obtain ⟨fs, hr, hrun, hended, hW, hsame⟩ := X18.leave (v := some (.int (1 : Int32))) (fun h => by rw [Bd.returns] at h; cases h)
  refine ⟨_, _, pre19 _ ?_, hrun, hended, _, _, rfl, ?_, ⟨_, rfl⟩, hW, hsame.mono (by decide) (by decide)⟩
  · show Steps p.tables e below (T18.setTop (mkF m 162 #[.val (.int p1), .val (.int (1 : Int32)), .val (.int (1 : Int32)), .val (.int (1 : Int32)), .val (.int (1 : Int32)), .val (.int (1 : Int32)), .val (.int (1 : Int32))] [(.int (1 : Int32))])) _
    exact retN X18 hx (t := .boolean) Bd.returns (by simp) (hb hby at_162) hr
  · exact ⟨rfl, N18, e18⟩
theorem ef_law_pos (m : MethodId) (x0 : Int32) : entryFrame m #[(.int x0)] maxLocals = mkF m 0 #[.val (.int x0), .unset, .unset, .unset, .unset, .unset, .unset] [] := by first | (simp [entryFrame, mkF, argsToLocals, Value.category, maxLocals]; done) | rfl
set_option maxRecDepth 65536 in
set_option maxHeartbeats 40000000 in
theorem rm_law_pos (l : Launch) (Z : State) (a0 : Array Value) (hw : ∀ d ∈ tables_1, d.before a0 Z = true) (ws : List Jvm.Cond) (p1 : Int32) (h0 : Heap) (n0 : Nat) (w_EQUAL w_NOT_EQUAL w_LESS w_LESS_OR_EQUAL w_GREATER w_GREATER_OR_EQUAL : Addr) (hK : own_K Z h0 w_EQUAL w_NOT_EQUAL w_LESS w_LESS_OR_EQUAL w_GREATER w_GREATER_OR_EQUAL) (h1 : ¬ (p1 < (0 : Int32))) (h2 : ¬ (p1 = (0 : Int32))) (h3 : (0 : Int32) < p1) :
    MetFree l x (head1 (Jvm.Cond.code x code maxLocals ret :: ws) room_1) (fun a U => a = #[(.int p1)] ∧ Z.Warmed39 U.vm ∧ U.heap = h0) (fun _ _ _ _ _ => True) (fun _ U o U' => ∃ v L, o = .returned v ∧ own_Q (some (.int (1 : Int32))) h0 n0 v U'.heap L ∧ FrameEnd U o U' L room_1.cells room_1.slots) := by
  refine MetFree.of_bodySF (plainFor_of_name pn_2) hisR ?_
  intro p e s m args below meth c s₁ Bd hml0 hP hK0
  obtain ⟨rfl, hZ, hh⟩ := hP
  have hx := Bd.exec
  have hby := Bd.bytes
  have hml : c.maxLocals = 7 := hml0
  have hown : s.vm.findClass "com/example/cairn/cairn/expr/OperatorHoldsPinLaw" = some m.cls := findClass_of_methodNamed Bd.named
  have hnm := (name_of_methodNamed Bd.named Bd.method).1
  have X0 : Stand p l e room_1 s m #[(.int p1)] below meth c s₁ [] 0 0 := Stand.of_body Bd
  have e0 : s₁.heap = h0 := by rw [← hh, Bd.state]; rfl
  have N0 := Fr.nil n0
  have pre0 : ∀ t, Steps p.tables e below (s₁.setTop (mkF m 0 #[.val (.int p1), .unset, .unset, .unset, .unset, .unset, .unset] [])) t → Steps p.tables e below (s₁.setTop (entryFrame m #[(.int p1)] maxLocals)) t := fun t k => castTop (ef_law_pos m p1) k
  have hK' := hK
  obtain ⟨S_w_EQUAL, E_w_EQUAL, F_ordinal_w_EQUAL, S_w_NOT_EQUAL, E_w_NOT_EQUAL, F_ordinal_w_NOT_EQUAL, S_w_LESS, E_w_LESS, F_ordinal_w_LESS, S_w_LESS_OR_EQUAL, E_w_LESS_OR_EQUAL, F_ordinal_w_LESS_OR_EQUAL, S_w_GREATER, E_w_GREATER, F_ordinal_w_GREATER, S_w_GREATER_OR_EQUAL, E_w_GREATER_OR_EQUAL, F_ordinal_w_GREATER_OR_EQUAL⟩ := hK'
  obtain ⟨T1, X1, e1, st1⟩ := getS2 X0 hx hZ hown (host := "") (Or.inl (hw _ (ow 0 rfl))) Via.refl e0 S_w_EQUAL (g := (mkF m 0 #[.val (.int p1), .unset, .unset, .unset, .unset, .unset, .unset] [])) rfl (hb hby at_0)
  obtain ⟨cq2, kq2, q2a, q2b, q2c⟩ := isOf hZ e1 E_w_EQUAL
  obtain ⟨v2, _, ⟨T2, L2, k2, n2⟩, -, X2, ⟨Lc2, hQ2, l2, y2, z2⟩, st2⟩ := X1.virtualBack hx (y := (⟨"com/example/cairn/cairn/expr/Comparison$Operator", "holds", "(I)Z"⟩ : MethodName)) (z := (⟨"com/example/cairn/cairn/expr/Comparison$Operator", "holds", "(I)Z"⟩ : MethodName)) hown (mvT hZ (hw _ (ow 3 rfl))) (mvT hZ (hw _ (ow 4 rfl))) (notFace_of_selects (args := #[]) (mvT hZ (hw _ (ow 6 rfl)))) (mvT hZ (hw _ (ow 6 rfl))) (mvT hZ (hw _ (ow 5 rfl))) (by decide) (backOf (W := 0) (rm_holds_EQUAL l Z a0 hw [] p1 h0 n0 w_EQUAL w_NOT_EQUAL w_LESS w_LESS_OR_EQUAL w_GREATER w_GREATER_OR_EQUAL hK) hZ (hw _ (ow 7 rfl)) (hw _ (ow 1 rfl)) (by decide) (by decide)) q2a q2c (g := (mkF m 4 #[.val (.int p1), .unset, .unset, .unset, .unset, .unset, .unset] [(.int p1), (.ref w_EQUAL)])) rfl (by rw [hml]; rfl) (Steps.refl _) (argsL := [(.int p1)]) (rest := []) (lenOf pd_1 rfl) rfl (Nat.le_of_eq rfl) (hb hby at_4) (fun _ _ => ⟨rfl, e1, (by decide : 0 + 0 ≤ _), (by decide : 0 + 0 ≤ _)⟩)
  dsimp only [Pt.U, Pt.locs, Pt.cells, Pt.slots] at X2 l2 y2 z2 st2 hQ2
  subst l2 y2 z2
  obtain ⟨hv2, Nq2, e2⟩ := hQ2
  obtain rfl : v2 = some (.int (0 : Int32)) := hv2.trans (congrArg some (congrArg Value.int (if_neg h2)))
  have N2 := Fr.app N0 Nq2
  obtain ⟨v3, _, ⟨T3, L3, k3, n3⟩, -, X3, ⟨Lc3, hQ3, l3, y3, z3⟩, st3⟩ := Jvm.LawKit.callS X2 hx (y := (⟨"com/example/cairn/cairn/expr/OperatorHoldsPinLaw", "accepts", "(II)Z"⟩ : MethodName)) hown (mvT hZ (hw _ (ow 17 rfl))) (mvT hZ (hw _ (ow 18 rfl))) (mvT hZ (hw _ (ow 19 rfl))) (mvT hZ (hw _ (ow 20 rfl))) (by decide) (backOf (W := 1) (rm_accepts l Z a0 hw [] (2 : Int32) p1 h0 n0 w_EQUAL w_NOT_EQUAL w_LESS w_LESS_OR_EQUAL w_GREATER w_GREATER_OR_EQUAL hK) hZ (hw _ (ow 20 rfl)) (hw _ (ow 19 rfl)) (by decide) (by decide)) (g := (mkF m 9 #[.val (.int p1), .unset, .unset, .unset, .unset, .unset, .unset] [(.int p1), (.int (2 : Int32)), (.int (0 : Int32))])) rfl (by rw [hml]; rfl) (argsL := [(.int (2 : Int32)), (.int p1)]) (rest := [(.int (0 : Int32))]) (lenOf pd_2 rfl) rfl (Nat.le_of_eq rfl) (hb hby at_9) (fun _ _ => ⟨rfl, e2, (by decide : 0 + 0 ≤ _), (by decide : 0 + 0 ≤ _)⟩)
  dsimp only [Pt.U, Pt.locs, Pt.cells, Pt.slots] at X3 l3 y3 z3 st3 hQ3
  subst l3 y3 z3
  obtain ⟨hv3, Nq3, e3⟩ := hQ3
  obtain rfl : v3 = some (.int (0 : Int32)) := hv3.trans (congrArg some (congrArg Value.int ((if_neg h1).trans ((if_neg h2).trans (if_pos (by decide))))))
  have N3 := Fr.app N2 Nq3
  obtain ⟨T4, X4, e4, st4⟩ := getS2 X3 hx hZ hown (host := "") (Or.inl (hw _ (ow 21 rfl))) Via.refl e3 S_w_NOT_EQUAL (g := (mkF m 21 #[.val (.int p1), .val (.int (1 : Int32)), .unset, .unset, .unset, .unset, .unset] [])) rfl (hb hby at_21)
  obtain ⟨cq5, kq5, q5a, q5b, q5c⟩ := isOf hZ e4 E_w_NOT_EQUAL
  obtain ⟨v5, _, ⟨T5, L5, k5, n5⟩, -, X5, ⟨Lc5, hQ5, l5, y5, z5⟩, st5⟩ := X4.virtualBack hx (y := (⟨"com/example/cairn/cairn/expr/Comparison$Operator", "holds", "(I)Z"⟩ : MethodName)) (z := (⟨"com/example/cairn/cairn/expr/Comparison$Operator", "holds", "(I)Z"⟩ : MethodName)) hown (mvT hZ (hw _ (ow 3 rfl))) (mvT hZ (hw _ (ow 4 rfl))) (notFace_of_selects (args := #[]) (mvT hZ (hw _ (ow 6 rfl)))) (mvT hZ (hw _ (ow 6 rfl))) (mvT hZ (hw _ (ow 5 rfl))) (by decide) (backOf (W := 0) (rm_holds_NOT_EQUAL l Z a0 hw [] p1 h0 n0 w_EQUAL w_NOT_EQUAL w_LESS w_LESS_OR_EQUAL w_GREATER w_GREATER_OR_EQUAL hK) hZ (hw _ (ow 7 rfl)) (hw _ (ow 1 rfl)) (by decide) (by decide)) q5a q5c (g := (mkF m 25 #[.val (.int p1), .val (.int (1 : Int32)), .unset, .unset, .unset, .unset, .unset] [(.int p1), (.ref w_NOT_EQUAL)])) rfl (by rw [hml]; rfl) (Steps.refl _) (argsL := [(.int p1)]) (rest := []) (lenOf pd_1 rfl) rfl (Nat.le_of_eq rfl) (hb hby at_25) (fun _ _ => ⟨rfl, e4, (by decide : 0 + 0 ≤ _), (by decide : 0 + 0 ≤ _)⟩)
  dsimp only [Pt.U, Pt.locs, Pt.cells, Pt.slots] at X5 l5 y5 z5 st5 hQ5
  subst l5 y5 z5
  obtain ⟨hv5, Nq5, e5⟩ := hQ5
  obtain rfl : v5 = some (.int (1 : Int32)) := hv5.trans (congrArg some (congrArg Value.int (if_neg h2)))
  have N5 := Fr.app N3 Nq5
  obtain ⟨v6, _, ⟨T6, L6, k6, n6⟩, -, X6, ⟨Lc6, hQ6, l6, y6, z6⟩, st6⟩ := Jvm.LawKit.callS X5 hx (y := (⟨"com/example/cairn/cairn/expr/OperatorHoldsPinLaw", "accepts", "(II)Z"⟩ : MethodName)) hown (mvT hZ (hw _ (ow 17 rfl))) (mvT hZ (hw _ (ow 18 rfl))) (mvT hZ (hw _ (ow 19 rfl))) (mvT hZ (hw _ (ow 20 rfl))) (by decide) (backOf (W := 1) (rm_accepts l Z a0 hw [] (5 : Int32) p1 h0 n0 w_EQUAL w_NOT_EQUAL w_LESS w_LESS_OR_EQUAL w_GREATER w_GREATER_OR_EQUAL hK) hZ (hw _ (ow 20 rfl)) (hw _ (ow 19 rfl)) (by decide) (by decide)) (g := (mkF m 30 #[.val (.int p1), .val (.int (1 : Int32)), .unset, .unset, .unset, .unset, .unset] [(.int p1), (.int (5 : Int32)), (.int (1 : Int32))])) rfl (by rw [hml]; rfl) (argsL := [(.int (5 : Int32)), (.int p1)]) (rest := [(.int (1 : Int32))]) (lenOf pd_2 rfl) rfl (Nat.le_of_eq rfl) (hb hby at_30) (fun _ _ => ⟨rfl, e5, (by decide : 0 + 0 ≤ _), (by decide : 0 + 0 ≤ _)⟩)
  dsimp only [Pt.U, Pt.locs, Pt.cells, Pt.slots] at X6 l6 y6 z6 st6 hQ6
  subst l6 y6 z6
  obtain ⟨hv6, Nq6, e6⟩ := hQ6
  obtain rfl : v6 = some (.int (1 : Int32)) := hv6.trans (congrArg some (congrArg Value.int ((if_neg h1).trans ((if_neg h2).trans (if_neg (by decide))))))
  have N6 := Fr.app N5 Nq6
  obtain ⟨T7, X7, e7, st7⟩ := getS2 X6 hx hZ hown (host := "") (Or.inl (hw _ (ow 23 rfl))) Via.refl e6 S_w_LESS (g := (mkF m 42 #[.val (.int p1), .val (.int (1 : Int32)), .val (.int (1 : Int32)), .unset, .unset, .unset, .unset] [])) rfl (hb hby at_42)
  obtain ⟨cq8, kq8, q8a, q8b, q8c⟩ := isOf hZ e7 E_w_LESS
  obtain ⟨v8, _, ⟨T8, L8, k8, n8⟩, -, X8, ⟨Lc8, hQ8, l8, y8, z8⟩, st8⟩ := X7.virtualBack hx (y := (⟨"com/example/cairn/cairn/expr/Comparison$Operator", "holds", "(I)Z"⟩ : MethodName)) (z := (⟨"com/example/cairn/cairn/expr/Comparison$Operator", "holds", "(I)Z"⟩ : MethodName)) hown (mvT hZ (hw _ (ow 3 rfl))) (mvT hZ (hw _ (ow 4 rfl))) (notFace_of_selects (args := #[]) (mvT hZ (hw _ (ow 6 rfl)))) (mvT hZ (hw _ (ow 6 rfl))) (mvT hZ (hw _ (ow 5 rfl))) (by decide) (backOf (W := 0) (rm_holds_LESS l Z a0 hw [] p1 h0 n0 w_EQUAL w_NOT_EQUAL w_LESS w_LESS_OR_EQUAL w_GREATER w_GREATER_OR_EQUAL hK) hZ (hw _ (ow 7 rfl)) (hw _ (ow 1 rfl)) (by decide) (by decide)) q8a q8c (g := (mkF m 46 #[.val (.int p1), .val (.int (1 : Int32)), .val (.int (1 : Int32)), .unset, .unset, .unset, .unset] [(.int p1), (.ref w_LESS)])) rfl (by rw [hml]; rfl) (Steps.refl _) (argsL := [(.int p1)]) (rest := []) (lenOf pd_1 rfl) rfl (Nat.le_of_eq rfl) (hb hby at_46) (fun _ _ => ⟨rfl, e7, (by decide : 0 + 0 ≤ _), (by decide : 0 + 0 ≤ _)⟩)
  dsimp only [Pt.U, Pt.locs, Pt.cells, Pt.slots] at X8 l8 y8 z8 st8 hQ8
  subst l8 y8 z8
  obtain ⟨hv8, Nq8, e8⟩ := hQ8
  obtain rfl : v8 = some (.int (0 : Int32)) := hv8.trans (congrArg some (congrArg Value.int (if_neg h1)))
  have N8 := Fr.app N6 Nq8
  obtain ⟨v9, _, ⟨T9, L9, k9, n9⟩, -, X9, ⟨Lc9, hQ9, l9, y9, z9⟩, st9⟩ := Jvm.LawKit.callS X8 hx (y := (⟨"com/example/cairn/cairn/expr/OperatorHoldsPinLaw", "accepts", "(II)Z"⟩ : MethodName)) hown (mvT hZ (hw _ (ow 17 rfl))) (mvT hZ (hw _ (ow 18 rfl))) (mvT hZ (hw _ (ow 19 rfl))) (mvT hZ (hw _ (ow 20 rfl))) (by decide) (backOf (W := 1) (rm_accepts l Z a0 hw [] (1 : Int32) p1 h0 n0 w_EQUAL w_NOT_EQUAL w_LESS w_LESS_OR_EQUAL w_GREATER w_GREATER_OR_EQUAL hK) hZ (hw _ (ow 20 rfl)) (hw _ (ow 19 rfl)) (by decide) (by decide)) (g := (mkF m 51 #[.val (.int p1), .val (.int (1 : Int32)), .val (.int (1 : Int32)), .unset, .unset, .unset, .unset] [(.int p1), (.int (1 : Int32)), (.int (0 : Int32))])) rfl (by rw [hml]; rfl) (argsL := [(.int (1 : Int32)), (.int p1)]) (rest := [(.int (0 : Int32))]) (lenOf pd_2 rfl) rfl (Nat.le_of_eq rfl) (hb hby at_51) (fun _ _ => ⟨rfl, e8, (by decide : 0 + 0 ≤ _), (by decide : 0 + 0 ≤ _)⟩)
  dsimp only [Pt.U, Pt.locs, Pt.cells, Pt.slots] at X9 l9 y9 z9 st9 hQ9
  subst l9 y9 z9
  obtain ⟨hv9, Nq9, e9⟩ := hQ9
  obtain rfl : v9 = some (.int (0 : Int32)) := hv9.trans (congrArg some (congrArg Value.int ((if_neg h1).trans ((if_neg h2).trans (if_pos (by decide))))))
  have N9 := Fr.app N8 Nq9
  obtain ⟨T10, X10, e10, st10⟩ := getS2 X9 hx hZ hown (host := "") (Or.inl (hw _ (ow 25 rfl))) Via.refl e9 S_w_LESS_OR_EQUAL (g := (mkF m 63 #[.val (.int p1), .val (.int (1 : Int32)), .val (.int (1 : Int32)), .val (.int (1 : Int32)), .unset, .unset, .unset] [])) rfl (hb hby at_63)
  obtain ⟨cq11, kq11, q11a, q11b, q11c⟩ := isOf hZ e10 E_w_LESS_OR_EQUAL
  obtain ⟨v11, _, ⟨T11, L11, k11, n11⟩, -, X11, ⟨Lc11, hQ11, l11, y11, z11⟩, st11⟩ := X10.virtualBack hx (y := (⟨"com/example/cairn/cairn/expr/Comparison$Operator", "holds", "(I)Z"⟩ : MethodName)) (z := (⟨"com/example/cairn/cairn/expr/Comparison$Operator", "holds", "(I)Z"⟩ : MethodName)) hown (mvT hZ (hw _ (ow 3 rfl))) (mvT hZ (hw _ (ow 4 rfl))) (notFace_of_selects (args := #[]) (mvT hZ (hw _ (ow 6 rfl)))) (mvT hZ (hw _ (ow 6 rfl))) (mvT hZ (hw _ (ow 5 rfl))) (by decide) (backOf (W := 0) (rm_holds_LESS_OR_EQUAL l Z a0 hw [] p1 h0 n0 w_EQUAL w_NOT_EQUAL w_LESS w_LESS_OR_EQUAL w_GREATER w_GREATER_OR_EQUAL hK) hZ (hw _ (ow 7 rfl)) (hw _ (ow 1 rfl)) (by decide) (by decide)) q11a q11c (g := (mkF m 67 #[.val (.int p1), .val (.int (1 : Int32)), .val (.int (1 : Int32)), .val (.int (1 : Int32)), .unset, .unset, .unset] [(.int p1), (.ref w_LESS_OR_EQUAL)])) rfl (by rw [hml]; rfl) (Steps.refl _) (argsL := [(.int p1)]) (rest := []) (lenOf pd_1 rfl) rfl (Nat.le_of_eq rfl) (hb hby at_67) (fun _ _ => ⟨rfl, e10, (by decide : 0 + 0 ≤ _), (by decide : 0 + 0 ≤ _)⟩)
  dsimp only [Pt.U, Pt.locs, Pt.cells, Pt.slots] at X11 l11 y11 z11 st11 hQ11
  subst l11 y11 z11
  obtain ⟨hv11, Nq11, e11⟩ := hQ11
  obtain rfl : v11 = some (.int (0 : Int32)) := hv11.trans (congrArg some (congrArg Value.int (if_pos h3)))
  have N11 := Fr.app N9 Nq11
  obtain ⟨v12, _, ⟨T12, L12, k12, n12⟩, -, X12, ⟨Lc12, hQ12, l12, y12, z12⟩, st12⟩ := Jvm.LawKit.callS X11 hx (y := (⟨"com/example/cairn/cairn/expr/OperatorHoldsPinLaw", "accepts", "(II)Z"⟩ : MethodName)) hown (mvT hZ (hw _ (ow 17 rfl))) (mvT hZ (hw _ (ow 18 rfl))) (mvT hZ (hw _ (ow 19 rfl))) (mvT hZ (hw _ (ow 20 rfl))) (by decide) (backOf (W := 1) (rm_accepts l Z a0 hw [] (3 : Int32) p1 h0 n0 w_EQUAL w_NOT_EQUAL w_LESS w_LESS_OR_EQUAL w_GREATER w_GREATER_OR_EQUAL hK) hZ (hw _ (ow 20 rfl)) (hw _ (ow 19 rfl)) (by decide) (by decide)) (g := (mkF m 72 #[.val (.int p1), .val (.int (1 : Int32)), .val (.int (1 : Int32)), .val (.int (1 : Int32)), .unset, .unset, .unset] [(.int p1), (.int (3 : Int32)), (.int (0 : Int32))])) rfl (by rw [hml]; rfl) (argsL := [(.int (3 : Int32)), (.int p1)]) (rest := [(.int (0 : Int32))]) (lenOf pd_2 rfl) rfl (Nat.le_of_eq rfl) (hb hby at_72) (fun _ _ => ⟨rfl, e11, (by decide : 0 + 0 ≤ _), (by decide : 0 + 0 ≤ _)⟩)
  dsimp only [Pt.U, Pt.locs, Pt.cells, Pt.slots] at X12 l12 y12 z12 st12 hQ12
  subst l12 y12 z12
  obtain ⟨hv12, Nq12, e12⟩ := hQ12
  obtain rfl : v12 = some (.int (0 : Int32)) := hv12.trans (congrArg some (congrArg Value.int ((if_neg h1).trans ((if_neg h2).trans (if_pos (by decide))))))
  have N12 := Fr.app N11 Nq12
  obtain ⟨T13, X13, e13, st13⟩ := getS2 X12 hx hZ hown (host := "") (Or.inl (hw _ (ow 27 rfl))) Via.refl e12 S_w_GREATER (g := (mkF m 85 #[.val (.int p1), .val (.int (1 : Int32)), .val (.int (1 : Int32)), .val (.int (1 : Int32)), .val (.int (1 : Int32)), .unset, .unset] [])) rfl (hb hby at_85)
  obtain ⟨cq14, kq14, q14a, q14b, q14c⟩ := isOf hZ e13 E_w_GREATER
  obtain ⟨v14, _, ⟨T14, L14, k14, n14⟩, -, X14, ⟨Lc14, hQ14, l14, y14, z14⟩, st14⟩ := X13.virtualBack hx (y := (⟨"com/example/cairn/cairn/expr/Comparison$Operator", "holds", "(I)Z"⟩ : MethodName)) (z := (⟨"com/example/cairn/cairn/expr/Comparison$Operator", "holds", "(I)Z"⟩ : MethodName)) hown (mvT hZ (hw _ (ow 3 rfl))) (mvT hZ (hw _ (ow 4 rfl))) (notFace_of_selects (args := #[]) (mvT hZ (hw _ (ow 6 rfl)))) (mvT hZ (hw _ (ow 6 rfl))) (mvT hZ (hw _ (ow 5 rfl))) (by decide) (backOf (W := 0) (rm_holds_GREATER l Z a0 hw [] p1 h0 n0 w_EQUAL w_NOT_EQUAL w_LESS w_LESS_OR_EQUAL w_GREATER w_GREATER_OR_EQUAL hK) hZ (hw _ (ow 7 rfl)) (hw _ (ow 1 rfl)) (by decide) (by decide)) q14a q14c (g := (mkF m 89 #[.val (.int p1), .val (.int (1 : Int32)), .val (.int (1 : Int32)), .val (.int (1 : Int32)), .val (.int (1 : Int32)), .unset, .unset] [(.int p1), (.ref w_GREATER)])) rfl (by rw [hml]; rfl) (Steps.refl _) (argsL := [(.int p1)]) (rest := []) (lenOf pd_1 rfl) rfl (Nat.le_of_eq rfl) (hb hby at_89) (fun _ _ => ⟨rfl, e13, (by decide : 0 + 0 ≤ _), (by decide : 0 + 0 ≤ _)⟩)
  dsimp only [Pt.U, Pt.locs, Pt.cells, Pt.slots] at X14 l14 y14 z14 st14 hQ14
  subst l14 y14 z14
  obtain ⟨hv14, Nq14, e14⟩ := hQ14
  obtain rfl : v14 = some (.int (1 : Int32)) := hv14.trans (congrArg some (congrArg Value.int (if_pos h3)))
  have N14 := Fr.app N12 Nq14
  obtain ⟨v15, _, ⟨T15, L15, k15, n15⟩, -, X15, ⟨Lc15, hQ15, l15, y15, z15⟩, st15⟩ := Jvm.LawKit.callS X14 hx (y := (⟨"com/example/cairn/cairn/expr/OperatorHoldsPinLaw", "accepts", "(II)Z"⟩ : MethodName)) hown (mvT hZ (hw _ (ow 17 rfl))) (mvT hZ (hw _ (ow 18 rfl))) (mvT hZ (hw _ (ow 19 rfl))) (mvT hZ (hw _ (ow 20 rfl))) (by decide) (backOf (W := 1) (rm_accepts l Z a0 hw [] (4 : Int32) p1 h0 n0 w_EQUAL w_NOT_EQUAL w_LESS w_LESS_OR_EQUAL w_GREATER w_GREATER_OR_EQUAL hK) hZ (hw _ (ow 20 rfl)) (hw _ (ow 19 rfl)) (by decide) (by decide)) (g := (mkF m 94 #[.val (.int p1), .val (.int (1 : Int32)), .val (.int (1 : Int32)), .val (.int (1 : Int32)), .val (.int (1 : Int32)), .unset, .unset] [(.int p1), (.int (4 : Int32)), (.int (1 : Int32))])) rfl (by rw [hml]; rfl) (argsL := [(.int (4 : Int32)), (.int p1)]) (rest := [(.int (1 : Int32))]) (lenOf pd_2 rfl) rfl (Nat.le_of_eq rfl) (hb hby at_94) (fun _ _ => ⟨rfl, e14, (by decide : 0 + 0 ≤ _), (by decide : 0 + 0 ≤ _)⟩)
  dsimp only [Pt.U, Pt.locs, Pt.cells, Pt.slots] at X15 l15 y15 z15 st15 hQ15
  subst l15 y15 z15
  obtain ⟨hv15, Nq15, e15⟩ := hQ15
  obtain rfl : v15 = some (.int (1 : Int32)) := hv15.trans (congrArg some (congrArg Value.int ((if_neg h1).trans ((if_neg h2).trans (if_neg (by decide))))))
  have N15 := Fr.app N14 Nq15
  obtain ⟨T16, X16, e16, st16⟩ := getS2 X15 hx hZ hown (host := "") (Or.inl (hw _ (ow 29 rfl))) Via.refl e15 S_w_GREATER_OR_EQUAL (g := (mkF m 107 #[.val (.int p1), .val (.int (1 : Int32)), .val (.int (1 : Int32)), .val (.int (1 : Int32)), .val (.int (1 : Int32)), .val (.int (1 : Int32)), .unset] [])) rfl (hb hby at_107)
  obtain ⟨cq17, kq17, q17a, q17b, q17c⟩ := isOf hZ e16 E_w_GREATER_OR_EQUAL
  obtain ⟨v17, _, ⟨T17, L17, k17, n17⟩, -, X17, ⟨Lc17, hQ17, l17, y17, z17⟩, st17⟩ := X16.virtualBack hx (y := (⟨"com/example/cairn/cairn/expr/Comparison$Operator", "holds", "(I)Z"⟩ : MethodName)) (z := (⟨"com/example/cairn/cairn/expr/Comparison$Operator", "holds", "(I)Z"⟩ : MethodName)) hown (mvT hZ (hw _ (ow 3 rfl))) (mvT hZ (hw _ (ow 4 rfl))) (notFace_of_selects (args := #[]) (mvT hZ (hw _ (ow 6 rfl)))) (mvT hZ (hw _ (ow 6 rfl))) (mvT hZ (hw _ (ow 5 rfl))) (by decide) (backOf (W := 0) (rm_holds_GREATER_OR_EQUAL l Z a0 hw [] p1 h0 n0 w_EQUAL w_NOT_EQUAL w_LESS w_LESS_OR_EQUAL w_GREATER w_GREATER_OR_EQUAL hK) hZ (hw _ (ow 7 rfl)) (hw _ (ow 1 rfl)) (by decide) (by decide)) q17a q17c (g := (mkF m 111 #[.val (.int p1), .val (.int (1 : Int32)), .val (.int (1 : Int32)), .val (.int (1 : Int32)), .val (.int (1 : Int32)), .val (.int (1 : Int32)), .unset] [(.int p1), (.ref w_GREATER_OR_EQUAL)])) rfl (by rw [hml]; rfl) (Steps.refl _) (argsL := [(.int p1)]) (rest := []) (lenOf pd_1 rfl) rfl (Nat.le_of_eq rfl) (hb hby at_111) (fun _ _ => ⟨rfl, e16, (by decide : 0 + 0 ≤ _), (by decide : 0 + 0 ≤ _)⟩)
  dsimp only [Pt.U, Pt.locs, Pt.cells, Pt.slots] at X17 l17 y17 z17 st17 hQ17
  subst l17 y17 z17
  obtain ⟨hv17, Nq17, e17⟩ := hQ17
  obtain rfl : v17 = some (.int (1 : Int32)) := hv17.trans (congrArg some (congrArg Value.int (if_neg h1)))
  have N17 := Fr.app N15 Nq17
  obtain ⟨v18, _, ⟨T18, L18, k18, n18⟩, -, X18, ⟨Lc18, hQ18, l18, y18, z18⟩, st18⟩ := Jvm.LawKit.callS X17 hx (y := (⟨"com/example/cairn/cairn/expr/OperatorHoldsPinLaw", "accepts", "(II)Z"⟩ : MethodName)) hown (mvT hZ (hw _ (ow 17 rfl))) (mvT hZ (hw _ (ow 18 rfl))) (mvT hZ (hw _ (ow 19 rfl))) (mvT hZ (hw _ (ow 20 rfl))) (by decide) (backOf (W := 1) (rm_accepts l Z a0 hw [] (6 : Int32) p1 h0 n0 w_EQUAL w_NOT_EQUAL w_LESS w_LESS_OR_EQUAL w_GREATER w_GREATER_OR_EQUAL hK) hZ (hw _ (ow 20 rfl)) (hw _ (ow 19 rfl)) (by decide) (by decide)) (g := (mkF m 117 #[.val (.int p1), .val (.int (1 : Int32)), .val (.int (1 : Int32)), .val (.int (1 : Int32)), .val (.int (1 : Int32)), .val (.int (1 : Int32)), .unset] [(.int p1), (.int (6 : Int32)), (.int (1 : Int32))])) rfl (by rw [hml]; rfl) (argsL := [(.int (6 : Int32)), (.int p1)]) (rest := [(.int (1 : Int32))]) (lenOf pd_2 rfl) rfl (Nat.le_of_eq rfl) (hb hby at_117) (fun _ _ => ⟨rfl, e17, (by decide : 0 + 0 ≤ _), (by decide : 0 + 0 ≤ _)⟩)
  dsimp only [Pt.U, Pt.locs, Pt.cells, Pt.slots] at X18 l18 y18 z18 st18 hQ18
  subst l18 y18 z18
  obtain ⟨hv18, Nq18, e18⟩ := hQ18
  obtain rfl : v18 = some (.int (1 : Int32)) := hv18.trans (congrArg some (congrArg Value.int ((if_neg h1).trans ((if_neg h2).trans (if_neg (by decide))))))
  have N18 := Fr.app N17 Nq18
  have pre19 : ∀ t, Steps p.tables e below (T18.setTop (mkF m 162 #[.val (.int p1), .val (.int (1 : Int32)), .val (.int (1 : Int32)), .val (.int (1 : Int32)), .val (.int (1 : Int32)), .val (.int (1 : Int32)), .val (.int (1 : Int32))] [(.int (1 : Int32))])) t → Steps p.tables e below (s₁.setTop (entryFrame m #[(.int p1)] maxLocals)) t := fun t k => pre0 t (by
    show Steps p.tables e below (s₁.setTop (mkF m 0 #[.val (.int p1), .unset, .unset, .unset, .unset, .unset, .unset] [])) _
    refine st1 _ ?_
    show Steps p.tables e below (T1.setTop (mkF m 3 #[.val (.int p1), .unset, .unset, .unset, .unset, .unset, .unset] [(.ref w_EQUAL)])) _
    refine XS.iloadN X1.here hx rfl (hb hby at_3) rfl ?_
    show Steps p.tables e below (T1.setTop (mkF m 4 #[.val (.int p1), .unset, .unset, .unset, .unset, .unset, .unset] [(.int p1), (.ref w_EQUAL)])) _
    refine st2.trans ?_
    show Steps p.tables e below (T2.setTop (mkF m 7 #[.val (.int p1), .unset, .unset, .unset, .unset, .unset, .unset] [(.int (0 : Int32))])) _
    refine XS.iconst X2.here hx rfl (hb hby at_7) ?_
    show Steps p.tables e below (T2.setTop (mkF m 8 #[.val (.int p1), .unset, .unset, .unset, .unset, .unset, .unset] [(.int (2 : Int32)), (.int (0 : Int32))])) _
    refine XS.iloadN X2.here hx rfl (hb hby at_8) rfl ?_
    show Steps p.tables e below (T2.setTop (mkF m 9 #[.val (.int p1), .unset, .unset, .unset, .unset, .unset, .unset] [(.int p1), (.int (2 : Int32)), (.int (0 : Int32))])) _
    refine st3 _ ?_
    show Steps p.tables e below (T3.setTop (mkF m 12 #[.val (.int p1), .unset, .unset, .unset, .unset, .unset, .unset] [(.int (0 : Int32)), (.int (0 : Int32))])) _
    refine XS.icmpNo X3.here hx rfl (hb hby at_12) rfl (teq (by decide)).2 ?_
    show Steps p.tables e below (T3.setTop (mkF m 15 #[.val (.int p1), .unset, .unset, .unset, .unset, .unset, .unset] [])) _
    refine XS.iconst X3.here hx rfl (hb hby at_15) ?_
    show Steps p.tables e below (T3.setTop (mkF m 16 #[.val (.int p1), .unset, .unset, .unset, .unset, .unset, .unset] [(.int (1 : Int32))])) _
    refine XS.goto X3.here hx rfl (pc0 := 16) (pc' := 20) rfl (hb hby at_16) (by decide) (by decide) ?_
    show Steps p.tables e below (T3.setTop (mkF m 20 #[.val (.int p1), .unset, .unset, .unset, .unset, .unset, .unset] [(.int (1 : Int32))])) _
    refine XS.istoreN X3.here hx rfl (hb hby at_20) rfl (l' := #[.val (.int p1), .val (.int (1 : Int32)), .unset, .unset, .unset, .unset, .unset]) rfl ?_
    show Steps p.tables e below (T3.setTop (mkF m 21 #[.val (.int p1), .val (.int (1 : Int32)), .unset, .unset, .unset, .unset, .unset] [])) _
    refine st4 _ ?_
    show Steps p.tables e below (T4.setTop (mkF m 24 #[.val (.int p1), .val (.int (1 : Int32)), .unset, .unset, .unset, .unset, .unset] [(.ref w_NOT_EQUAL)])) _
    refine XS.iloadN X4.here hx rfl (hb hby at_24) rfl ?_
    show Steps p.tables e below (T4.setTop (mkF m 25 #[.val (.int p1), .val (.int (1 : Int32)), .unset, .unset, .unset, .unset, .unset] [(.int p1), (.ref w_NOT_EQUAL)])) _
    refine st5.trans ?_
    show Steps p.tables e below (T5.setTop (mkF m 28 #[.val (.int p1), .val (.int (1 : Int32)), .unset, .unset, .unset, .unset, .unset] [(.int (1 : Int32))])) _
    refine XS.iconst X5.here hx rfl (hb hby at_28) ?_
    show Steps p.tables e below (T5.setTop (mkF m 29 #[.val (.int p1), .val (.int (1 : Int32)), .unset, .unset, .unset, .unset, .unset] [(.int (5 : Int32)), (.int (1 : Int32))])) _
    refine XS.iloadN X5.here hx rfl (hb hby at_29) rfl ?_
    show Steps p.tables e below (T5.setTop (mkF m 30 #[.val (.int p1), .val (.int (1 : Int32)), .unset, .unset, .unset, .unset, .unset] [(.int p1), (.int (5 : Int32)), (.int (1 : Int32))])) _
    refine st6 _ ?_
    show Steps p.tables e below (T6.setTop (mkF m 33 #[.val (.int p1), .val (.int (1 : Int32)), .unset, .unset, .unset, .unset, .unset] [(.int (1 : Int32)), (.int (1 : Int32))])) _
    refine XS.icmpNo X6.here hx rfl (hb hby at_33) rfl (teq (by decide)).2 ?_
    show Steps p.tables e below (T6.setTop (mkF m 36 #[.val (.int p1), .val (.int (1 : Int32)), .unset, .unset, .unset, .unset, .unset] [])) _
    refine XS.iconst X6.here hx rfl (hb hby at_36) ?_
    show Steps p.tables e below (T6.setTop (mkF m 37 #[.val (.int p1), .val (.int (1 : Int32)), .unset, .unset, .unset, .unset, .unset] [(.int (1 : Int32))])) _
    refine XS.goto X6.here hx rfl (pc0 := 37) (pc' := 41) rfl (hb hby at_37) (by decide) (by decide) ?_
    show Steps p.tables e below (T6.setTop (mkF m 41 #[.val (.int p1), .val (.int (1 : Int32)), .unset, .unset, .unset, .unset, .unset] [(.int (1 : Int32))])) _
    refine XS.istoreN X6.here hx rfl (hb hby at_41) rfl (l' := #[.val (.int p1), .val (.int (1 : Int32)), .val (.int (1 : Int32)), .unset, .unset, .unset, .unset]) rfl ?_
    show Steps p.tables e below (T6.setTop (mkF m 42 #[.val (.int p1), .val (.int (1 : Int32)), .val (.int (1 : Int32)), .unset, .unset, .unset, .unset] [])) _
    refine st7 _ ?_
    show Steps p.tables e below (T7.setTop (mkF m 45 #[.val (.int p1), .val (.int (1 : Int32)), .val (.int (1 : Int32)), .unset, .unset, .unset, .unset] [(.ref w_LESS)])) _
    refine XS.iloadN X7.here hx rfl (hb hby at_45) rfl ?_
    show Steps p.tables e below (T7.setTop (mkF m 46 #[.val (.int p1), .val (.int (1 : Int32)), .val (.int (1 : Int32)), .unset, .unset, .unset, .unset] [(.int p1), (.ref w_LESS)])) _
    refine st8.trans ?_
    show Steps p.tables e below (T8.setTop (mkF m 49 #[.val (.int p1), .val (.int (1 : Int32)), .val (.int (1 : Int32)), .unset, .unset, .unset, .unset] [(.int (0 : Int32))])) _
    refine XS.iconst X8.here hx rfl (hb hby at_49) ?_
    show Steps p.tables e below (T8.setTop (mkF m 50 #[.val (.int p1), .val (.int (1 : Int32)), .val (.int (1 : Int32)), .unset, .unset, .unset, .unset] [(.int (1 : Int32)), (.int (0 : Int32))])) _
    refine XS.iloadN X8.here hx rfl (hb hby at_50) rfl ?_
    show Steps p.tables e below (T8.setTop (mkF m 51 #[.val (.int p1), .val (.int (1 : Int32)), .val (.int (1 : Int32)), .unset, .unset, .unset, .unset] [(.int p1), (.int (1 : Int32)), (.int (0 : Int32))])) _
    refine st9 _ ?_
    show Steps p.tables e below (T9.setTop (mkF m 54 #[.val (.int p1), .val (.int (1 : Int32)), .val (.int (1 : Int32)), .unset, .unset, .unset, .unset] [(.int (0 : Int32)), (.int (0 : Int32))])) _
    refine XS.icmpNo X9.here hx rfl (hb hby at_54) rfl (teq (by decide)).2 ?_
    show Steps p.tables e below (T9.setTop (mkF m 57 #[.val (.int p1), .val (.int (1 : Int32)), .val (.int (1 : Int32)), .unset, .unset, .unset, .unset] [])) _
    refine XS.iconst X9.here hx rfl (hb hby at_57) ?_
    show Steps p.tables e below (T9.setTop (mkF m 58 #[.val (.int p1), .val (.int (1 : Int32)), .val (.int (1 : Int32)), .unset, .unset, .unset, .unset] [(.int (1 : Int32))])) _
    refine XS.goto X9.here hx rfl (pc0 := 58) (pc' := 62) rfl (hb hby at_58) (by decide) (by decide) ?_
    show Steps p.tables e below (T9.setTop (mkF m 62 #[.val (.int p1), .val (.int (1 : Int32)), .val (.int (1 : Int32)), .unset, .unset, .unset, .unset] [(.int (1 : Int32))])) _
    refine XS.istoreN X9.here hx rfl (hb hby at_62) rfl (l' := #[.val (.int p1), .val (.int (1 : Int32)), .val (.int (1 : Int32)), .val (.int (1 : Int32)), .unset, .unset, .unset]) rfl ?_
    show Steps p.tables e below (T9.setTop (mkF m 63 #[.val (.int p1), .val (.int (1 : Int32)), .val (.int (1 : Int32)), .val (.int (1 : Int32)), .unset, .unset, .unset] [])) _
    refine st10 _ ?_
    show Steps p.tables e below (T10.setTop (mkF m 66 #[.val (.int p1), .val (.int (1 : Int32)), .val (.int (1 : Int32)), .val (.int (1 : Int32)), .unset, .unset, .unset] [(.ref w_LESS_OR_EQUAL)])) _
    refine XS.iloadN X10.here hx rfl (hb hby at_66) rfl ?_
    show Steps p.tables e below (T10.setTop (mkF m 67 #[.val (.int p1), .val (.int (1 : Int32)), .val (.int (1 : Int32)), .val (.int (1 : Int32)), .unset, .unset, .unset] [(.int p1), (.ref w_LESS_OR_EQUAL)])) _
    refine st11.trans ?_
    show Steps p.tables e below (T11.setTop (mkF m 70 #[.val (.int p1), .val (.int (1 : Int32)), .val (.int (1 : Int32)), .val (.int (1 : Int32)), .unset, .unset, .unset] [(.int (0 : Int32))])) _
    refine XS.iconst X11.here hx rfl (hb hby at_70) ?_
    show Steps p.tables e below (T11.setTop (mkF m 71 #[.val (.int p1), .val (.int (1 : Int32)), .val (.int (1 : Int32)), .val (.int (1 : Int32)), .unset, .unset, .unset] [(.int (3 : Int32)), (.int (0 : Int32))])) _
    refine XS.iloadN X11.here hx rfl (hb hby at_71) rfl ?_
    show Steps p.tables e below (T11.setTop (mkF m 72 #[.val (.int p1), .val (.int (1 : Int32)), .val (.int (1 : Int32)), .val (.int (1 : Int32)), .unset, .unset, .unset] [(.int p1), (.int (3 : Int32)), (.int (0 : Int32))])) _
    refine st12 _ ?_
    show Steps p.tables e below (T12.setTop (mkF m 75 #[.val (.int p1), .val (.int (1 : Int32)), .val (.int (1 : Int32)), .val (.int (1 : Int32)), .unset, .unset, .unset] [(.int (0 : Int32)), (.int (0 : Int32))])) _
    refine XS.icmpNo X12.here hx rfl (hb hby at_75) rfl (teq (by decide)).2 ?_
    show Steps p.tables e below (T12.setTop (mkF m 78 #[.val (.int p1), .val (.int (1 : Int32)), .val (.int (1 : Int32)), .val (.int (1 : Int32)), .unset, .unset, .unset] [])) _
    refine XS.iconst X12.here hx rfl (hb hby at_78) ?_
    show Steps p.tables e below (T12.setTop (mkF m 79 #[.val (.int p1), .val (.int (1 : Int32)), .val (.int (1 : Int32)), .val (.int (1 : Int32)), .unset, .unset, .unset] [(.int (1 : Int32))])) _
    refine XS.goto X12.here hx rfl (pc0 := 79) (pc' := 83) rfl (hb hby at_79) (by decide) (by decide) ?_
    show Steps p.tables e below (T12.setTop (mkF m 83 #[.val (.int p1), .val (.int (1 : Int32)), .val (.int (1 : Int32)), .val (.int (1 : Int32)), .unset, .unset, .unset] [(.int (1 : Int32))])) _
    refine XS.istore X12.here hx rfl (hb hby at_83) rfl (l' := #[.val (.int p1), .val (.int (1 : Int32)), .val (.int (1 : Int32)), .val (.int (1 : Int32)), .val (.int (1 : Int32)), .unset, .unset]) rfl ?_
    show Steps p.tables e below (T12.setTop (mkF m 85 #[.val (.int p1), .val (.int (1 : Int32)), .val (.int (1 : Int32)), .val (.int (1 : Int32)), .val (.int (1 : Int32)), .unset, .unset] [])) _
    refine st13 _ ?_
    show Steps p.tables e below (T13.setTop (mkF m 88 #[.val (.int p1), .val (.int (1 : Int32)), .val (.int (1 : Int32)), .val (.int (1 : Int32)), .val (.int (1 : Int32)), .unset, .unset] [(.ref w_GREATER)])) _
    refine XS.iloadN X13.here hx rfl (hb hby at_88) rfl ?_
    show Steps p.tables e below (T13.setTop (mkF m 89 #[.val (.int p1), .val (.int (1 : Int32)), .val (.int (1 : Int32)), .val (.int (1 : Int32)), .val (.int (1 : Int32)), .unset, .unset] [(.int p1), (.ref w_GREATER)])) _
    refine st14.trans ?_
    show Steps p.tables e below (T14.setTop (mkF m 92 #[.val (.int p1), .val (.int (1 : Int32)), .val (.int (1 : Int32)), .val (.int (1 : Int32)), .val (.int (1 : Int32)), .unset, .unset] [(.int (1 : Int32))])) _
    refine XS.iconst X14.here hx rfl (hb hby at_92) ?_
    show Steps p.tables e below (T14.setTop (mkF m 93 #[.val (.int p1), .val (.int (1 : Int32)), .val (.int (1 : Int32)), .val (.int (1 : Int32)), .val (.int (1 : Int32)), .unset, .unset] [(.int (4 : Int32)), (.int (1 : Int32))])) _
    refine XS.iloadN X14.here hx rfl (hb hby at_93) rfl ?_
    show Steps p.tables e below (T14.setTop (mkF m 94 #[.val (.int p1), .val (.int (1 : Int32)), .val (.int (1 : Int32)), .val (.int (1 : Int32)), .val (.int (1 : Int32)), .unset, .unset] [(.int p1), (.int (4 : Int32)), (.int (1 : Int32))])) _
    refine st15 _ ?_
    show Steps p.tables e below (T15.setTop (mkF m 97 #[.val (.int p1), .val (.int (1 : Int32)), .val (.int (1 : Int32)), .val (.int (1 : Int32)), .val (.int (1 : Int32)), .unset, .unset] [(.int (1 : Int32)), (.int (1 : Int32))])) _
    refine XS.icmpNo X15.here hx rfl (hb hby at_97) rfl (teq (by decide)).2 ?_
    show Steps p.tables e below (T15.setTop (mkF m 100 #[.val (.int p1), .val (.int (1 : Int32)), .val (.int (1 : Int32)), .val (.int (1 : Int32)), .val (.int (1 : Int32)), .unset, .unset] [])) _
    refine XS.iconst X15.here hx rfl (hb hby at_100) ?_
    show Steps p.tables e below (T15.setTop (mkF m 101 #[.val (.int p1), .val (.int (1 : Int32)), .val (.int (1 : Int32)), .val (.int (1 : Int32)), .val (.int (1 : Int32)), .unset, .unset] [(.int (1 : Int32))])) _
    refine XS.goto X15.here hx rfl (pc0 := 101) (pc' := 105) rfl (hb hby at_101) (by decide) (by decide) ?_
    show Steps p.tables e below (T15.setTop (mkF m 105 #[.val (.int p1), .val (.int (1 : Int32)), .val (.int (1 : Int32)), .val (.int (1 : Int32)), .val (.int (1 : Int32)), .unset, .unset] [(.int (1 : Int32))])) _
    refine XS.istore X15.here hx rfl (hb hby at_105) rfl (l' := #[.val (.int p1), .val (.int (1 : Int32)), .val (.int (1 : Int32)), .val (.int (1 : Int32)), .val (.int (1 : Int32)), .val (.int (1 : Int32)), .unset]) rfl ?_
    show Steps p.tables e below (T15.setTop (mkF m 107 #[.val (.int p1), .val (.int (1 : Int32)), .val (.int (1 : Int32)), .val (.int (1 : Int32)), .val (.int (1 : Int32)), .val (.int (1 : Int32)), .unset] [])) _
    refine st16 _ ?_
    show Steps p.tables e below (T16.setTop (mkF m 110 #[.val (.int p1), .val (.int (1 : Int32)), .val (.int (1 : Int32)), .val (.int (1 : Int32)), .val (.int (1 : Int32)), .val (.int (1 : Int32)), .unset] [(.ref w_GREATER_OR_EQUAL)])) _
    refine XS.iloadN X16.here hx rfl (hb hby at_110) rfl ?_
    show Steps p.tables e below (T16.setTop (mkF m 111 #[.val (.int p1), .val (.int (1 : Int32)), .val (.int (1 : Int32)), .val (.int (1 : Int32)), .val (.int (1 : Int32)), .val (.int (1 : Int32)), .unset] [(.int p1), (.ref w_GREATER_OR_EQUAL)])) _
    refine st17.trans ?_
    show Steps p.tables e below (T17.setTop (mkF m 114 #[.val (.int p1), .val (.int (1 : Int32)), .val (.int (1 : Int32)), .val (.int (1 : Int32)), .val (.int (1 : Int32)), .val (.int (1 : Int32)), .unset] [(.int (1 : Int32))])) _
    refine XS.bipush X17.here hx rfl (hb hby at_114) ?_
    show Steps p.tables e below (T17.setTop (mkF m 116 #[.val (.int p1), .val (.int (1 : Int32)), .val (.int (1 : Int32)), .val (.int (1 : Int32)), .val (.int (1 : Int32)), .val (.int (1 : Int32)), .unset] [(.int (6 : Int32)), (.int (1 : Int32))])) _
    refine XS.iloadN X17.here hx rfl (hb hby at_116) rfl ?_
    show Steps p.tables e below (T17.setTop (mkF m 117 #[.val (.int p1), .val (.int (1 : Int32)), .val (.int (1 : Int32)), .val (.int (1 : Int32)), .val (.int (1 : Int32)), .val (.int (1 : Int32)), .unset] [(.int p1), (.int (6 : Int32)), (.int (1 : Int32))])) _
    refine st18 _ ?_
    show Steps p.tables e below (T18.setTop (mkF m 120 #[.val (.int p1), .val (.int (1 : Int32)), .val (.int (1 : Int32)), .val (.int (1 : Int32)), .val (.int (1 : Int32)), .val (.int (1 : Int32)), .unset] [(.int (1 : Int32)), (.int (1 : Int32))])) _
    refine XS.icmpNo X18.here hx rfl (hb hby at_120) rfl (teq (by decide)).2 ?_
    show Steps p.tables e below (T18.setTop (mkF m 123 #[.val (.int p1), .val (.int (1 : Int32)), .val (.int (1 : Int32)), .val (.int (1 : Int32)), .val (.int (1 : Int32)), .val (.int (1 : Int32)), .unset] [])) _
    refine XS.iconst X18.here hx rfl (hb hby at_123) ?_
    show Steps p.tables e below (T18.setTop (mkF m 124 #[.val (.int p1), .val (.int (1 : Int32)), .val (.int (1 : Int32)), .val (.int (1 : Int32)), .val (.int (1 : Int32)), .val (.int (1 : Int32)), .unset] [(.int (1 : Int32))])) _
    refine XS.goto X18.here hx rfl (pc0 := 124) (pc' := 128) rfl (hb hby at_124) (by decide) (by decide) ?_
    show Steps p.tables e below (T18.setTop (mkF m 128 #[.val (.int p1), .val (.int (1 : Int32)), .val (.int (1 : Int32)), .val (.int (1 : Int32)), .val (.int (1 : Int32)), .val (.int (1 : Int32)), .unset] [(.int (1 : Int32))])) _
    refine XS.istore X18.here hx rfl (hb hby at_128) rfl (l' := #[.val (.int p1), .val (.int (1 : Int32)), .val (.int (1 : Int32)), .val (.int (1 : Int32)), .val (.int (1 : Int32)), .val (.int (1 : Int32)), .val (.int (1 : Int32))]) rfl ?_
    show Steps p.tables e below (T18.setTop (mkF m 130 #[.val (.int p1), .val (.int (1 : Int32)), .val (.int (1 : Int32)), .val (.int (1 : Int32)), .val (.int (1 : Int32)), .val (.int (1 : Int32)), .val (.int (1 : Int32))] [])) _
    refine XS.iloadN X18.here hx rfl (hb hby at_130) rfl ?_
    show Steps p.tables e below (T18.setTop (mkF m 131 #[.val (.int p1), .val (.int (1 : Int32)), .val (.int (1 : Int32)), .val (.int (1 : Int32)), .val (.int (1 : Int32)), .val (.int (1 : Int32)), .val (.int (1 : Int32))] [(.int (1 : Int32))])) _
    refine XS.ifNo X18.here hx rfl (hb hby at_131) rfl ((if0 _ _).trans (feq (by decide)).1) ?_
    show Steps p.tables e below (T18.setTop (mkF m 134 #[.val (.int p1), .val (.int (1 : Int32)), .val (.int (1 : Int32)), .val (.int (1 : Int32)), .val (.int (1 : Int32)), .val (.int (1 : Int32)), .val (.int (1 : Int32))] [])) _
    refine XS.iloadN X18.here hx rfl (hb hby at_134) rfl ?_
    show Steps p.tables e below (T18.setTop (mkF m 135 #[.val (.int p1), .val (.int (1 : Int32)), .val (.int (1 : Int32)), .val (.int (1 : Int32)), .val (.int (1 : Int32)), .val (.int (1 : Int32)), .val (.int (1 : Int32))] [(.int (1 : Int32))])) _
    refine XS.ifNo X18.here hx rfl (hb hby at_135) rfl ((if0 _ _).trans (feq (by decide)).1) ?_
    show Steps p.tables e below (T18.setTop (mkF m 138 #[.val (.int p1), .val (.int (1 : Int32)), .val (.int (1 : Int32)), .val (.int (1 : Int32)), .val (.int (1 : Int32)), .val (.int (1 : Int32)), .val (.int (1 : Int32))] [])) _
    refine XS.iloadN X18.here hx rfl (hb hby at_138) rfl ?_
    show Steps p.tables e below (T18.setTop (mkF m 139 #[.val (.int p1), .val (.int (1 : Int32)), .val (.int (1 : Int32)), .val (.int (1 : Int32)), .val (.int (1 : Int32)), .val (.int (1 : Int32)), .val (.int (1 : Int32))] [(.int (1 : Int32))])) _
    refine XS.ifNo X18.here hx rfl (hb hby at_139) rfl ((if0 _ _).trans (feq (by decide)).1) ?_
    show Steps p.tables e below (T18.setTop (mkF m 142 #[.val (.int p1), .val (.int (1 : Int32)), .val (.int (1 : Int32)), .val (.int (1 : Int32)), .val (.int (1 : Int32)), .val (.int (1 : Int32)), .val (.int (1 : Int32))] [])) _
    refine XS.iload X18.here hx rfl (hb hby at_142) rfl ?_
    show Steps p.tables e below (T18.setTop (mkF m 144 #[.val (.int p1), .val (.int (1 : Int32)), .val (.int (1 : Int32)), .val (.int (1 : Int32)), .val (.int (1 : Int32)), .val (.int (1 : Int32)), .val (.int (1 : Int32))] [(.int (1 : Int32))])) _
    refine XS.ifNo X18.here hx rfl (hb hby at_144) rfl ((if0 _ _).trans (feq (by decide)).1) ?_
    show Steps p.tables e below (T18.setTop (mkF m 147 #[.val (.int p1), .val (.int (1 : Int32)), .val (.int (1 : Int32)), .val (.int (1 : Int32)), .val (.int (1 : Int32)), .val (.int (1 : Int32)), .val (.int (1 : Int32))] [])) _
    refine XS.iload X18.here hx rfl (hb hby at_147) rfl ?_
    show Steps p.tables e below (T18.setTop (mkF m 149 #[.val (.int p1), .val (.int (1 : Int32)), .val (.int (1 : Int32)), .val (.int (1 : Int32)), .val (.int (1 : Int32)), .val (.int (1 : Int32)), .val (.int (1 : Int32))] [(.int (1 : Int32))])) _
    refine XS.ifNo X18.here hx rfl (hb hby at_149) rfl ((if0 _ _).trans (feq (by decide)).1) ?_
    show Steps p.tables e below (T18.setTop (mkF m 152 #[.val (.int p1), .val (.int (1 : Int32)), .val (.int (1 : Int32)), .val (.int (1 : Int32)), .val (.int (1 : Int32)), .val (.int (1 : Int32)), .val (.int (1 : Int32))] [])) _
    refine XS.iload X18.here hx rfl (hb hby at_152) rfl ?_
    show Steps p.tables e below (T18.setTop (mkF m 154 #[.val (.int p1), .val (.int (1 : Int32)), .val (.int (1 : Int32)), .val (.int (1 : Int32)), .val (.int (1 : Int32)), .val (.int (1 : Int32)), .val (.int (1 : Int32))] [(.int (1 : Int32))])) _
    refine XS.ifNo X18.here hx rfl (hb hby at_154) rfl ((if0 _ _).trans (feq (by decide)).1) ?_
    show Steps p.tables e below (T18.setTop (mkF m 157 #[.val (.int p1), .val (.int (1 : Int32)), .val (.int (1 : Int32)), .val (.int (1 : Int32)), .val (.int (1 : Int32)), .val (.int (1 : Int32)), .val (.int (1 : Int32))] [])) _
    refine XS.iconst X18.here hx rfl (hb hby at_157) ?_
    show Steps p.tables e below (T18.setTop (mkF m 158 #[.val (.int p1), .val (.int (1 : Int32)), .val (.int (1 : Int32)), .val (.int (1 : Int32)), .val (.int (1 : Int32)), .val (.int (1 : Int32)), .val (.int (1 : Int32))] [(.int (1 : Int32))])) _
    refine XS.goto X18.here hx rfl (pc0 := 158) (pc' := 162) rfl (hb hby at_158) (by decide) (by decide) ?_
    exact k)
  obtain ⟨fs, hr, hrun, hended, hW, hsame⟩ := X18.leave (v := some (.int (1 : Int32))) (fun h => by rw [Bd.returns] at h; cases h)
  refine ⟨_, _, pre19 _ ?_, hrun, hended, _, _, rfl, ?_, ⟨_, rfl⟩, hW, hsame.mono (by decide) (by decide)⟩
  · show Steps p.tables e below (T18.setTop (mkF m 162 #[.val (.int p1), .val (.int (1 : Int32)), .val (.int (1 : Int32)), .val (.int (1 : Int32)), .val (.int (1 : Int32)), .val (.int (1 : Int32)), .val (.int (1 : Int32))] [(.int (1 : Int32))])) _
    exact retN X18 hx (t := .boolean) Bd.returns (by simp) (hb hby at_162) hr
  · exact ⟨rfl, N18, e18⟩
theorem rm_law (l : Launch) (Z : State) (a0 : Array Value) (hw : ∀ d ∈ tables_1, d.before a0 Z = true) (ws : List Jvm.Cond) (p1 : Int32) (h0 : Heap) (n0 : Nat) (w_EQUAL w_NOT_EQUAL w_LESS w_LESS_OR_EQUAL w_GREATER w_GREATER_OR_EQUAL : Addr) (hK : own_K Z h0 w_EQUAL w_NOT_EQUAL w_LESS w_LESS_OR_EQUAL w_GREATER w_GREATER_OR_EQUAL) :
    MetFree l x (head1 (Jvm.Cond.code x code maxLocals ret :: ws) room_1) (fun a U => a = #[(.int p1)] ∧ Z.Warmed39 U.vm ∧ U.heap = h0) (fun _ _ _ _ _ => True) (fun _ U o U' => ∃ v L, o = .returned v ∧ own_Q (some (.int (1 : Int32))) h0 n0 v U'.heap L ∧ FrameEnd U o U' L room_1.cells room_1.slots) := by
  have e0 : (0 : Int32).toInt = 0 := by decide
  by_cases h1 : p1.toInt < 0
  · exact rm_law_neg l Z a0 hw ws p1 h0 n0 w_EQUAL w_NOT_EQUAL w_LESS w_LESS_OR_EQUAL w_GREATER w_GREATER_OR_EQUAL hK (by rw [Int32.lt_iff_toInt_lt]; omega) (by rw [← Int32.toInt_inj]; omega) (by rw [Int32.lt_iff_toInt_lt]; omega)
  by_cases h2 : p1.toInt = 0
  · exact rm_law_zero l Z a0 hw ws p1 h0 n0 w_EQUAL w_NOT_EQUAL w_LESS w_LESS_OR_EQUAL w_GREATER w_GREATER_OR_EQUAL hK (by rw [Int32.lt_iff_toInt_lt]; omega) (by rw [← Int32.toInt_inj]; omega) (by rw [Int32.lt_iff_toInt_lt]; omega)
  · exact rm_law_pos l Z a0 hw ws p1 h0 n0 w_EQUAL w_NOT_EQUAL w_LESS w_LESS_OR_EQUAL w_GREATER w_GREATER_OR_EQUAL hK (by rw [Int32.lt_iff_toInt_lt]; omega) (by rw [← Int32.toInt_inj]; omega) (by rw [Int32.lt_iff_toInt_lt]; omega)
set_option maxRecDepth 65536 in
set_option maxHeartbeats 40000000 in
theorem comes_1 {Post : Tables → Env → Array Value → State → Outcome → State → Prop} (hpost : ∀ tb e args s v u, (limb_1_1.after args s (.returned v) u = true ∧ limb_1_2.after args s (.returned v) u = true ∧ True) → FrameEnd s (.returned v) u (Jvm.fieldLocs frame_1_writes args s ++ Jvm.arrayLocs frame_1_arrays args s ++ Jvm.staticLocs frame_1_statics s) 0 0 → Post tb e args s (.returned v) u) :
    ArmFor flags0 classFile x code maxLocals ret World_1 tables_1 room_1 Calls_1 rest_1 Pre_1 Post := by
  intro l hfl _ _ p e ha hc hk s m args below hf hA hF happ hP
  obtain ⟨hcalls, hrest, hpre⟩ := hP
  obtain ⟨-, -, -, hnamed, -, -, -, hat⟩ := (Spec.applies_iff hf).mp happ
  obtain ⟨hg, hn⟩ := and_e (Cond.before_iff.mp (show (Jvm.Cond.and given_1 narrow_1).before args s = true from hpre))
  obtain ⟨g0, hg⟩ := and_e hg
  obtain ⟨w0, rfl⟩ : ∃ w0 : Value, args = #[w0] := by
    have hs : args.size = 1 := by simpa [Cond.value, given_1] using g0
    obtain ⟨L⟩ := args
    match L, hs with
    | [w0], _ => exact ⟨w0, rfl⟩
  have hw := fun d (hd : d ∈ tables_1) => atoms_spec (ws := Jvm.Cond.code x code maxLocals ret :: tables_1) hat d (List.mem_cons_of_mem _ hd)
  have hfit : Fit s := fun {y c} hc i hi => by
    obtain ⟨ha, rfl⟩ := Array.getElem?_eq_some_iff.mp hc
    have q := List.all_eq_true.mp ((Array.all_eq_true_iff_forall_mem.mp hF) _ (Array.getElem_mem ha)) i (List.mem_range.mpr hi)
    simpa [Array.getElem?_eq_getElem hi] using q
  obtain ⟨i0, ei0⟩ := is_v hg
  obtain rfl : w0 = (.int i0) := Option.some.inj ei0
  obtain ⟨c0, hn⟩ := and_e hn
  obtain ⟨w_EQUAL, v_w_EQUAL⟩ := exa_v c0
  have S_w_EQUAL := Sta.start v_w_EQUAL (Or.inr ⟨(hw _ (ow 1 rfl)), (hw _ (ow 2 rfl))⟩)
  have E_w_EQUAL := Exa.start v_w_EQUAL c0
  obtain ⟨c1, hn⟩ := and_e hn
  have F_ordinal_w_EQUAL := Fld.start ((fld_at v_w_EQUAL).symm.trans (own_eqI c1))
  obtain ⟨c2, hn⟩ := and_e hn
  obtain ⟨w_NOT_EQUAL, v_w_NOT_EQUAL⟩ := exa_v c2
  have S_w_NOT_EQUAL := Sta.start v_w_NOT_EQUAL (Or.inr ⟨(hw _ (ow 1 rfl)), (hw _ (ow 22 rfl))⟩)
  have E_w_NOT_EQUAL := Exa.start v_w_NOT_EQUAL c2
  obtain ⟨c3, hn⟩ := and_e hn
  have F_ordinal_w_NOT_EQUAL := Fld.start ((fld_at v_w_NOT_EQUAL).symm.trans (own_eqI c3))
  obtain ⟨c4, hn⟩ := and_e hn
  obtain ⟨w_LESS, v_w_LESS⟩ := exa_v c4
  have S_w_LESS := Sta.start v_w_LESS (Or.inr ⟨(hw _ (ow 1 rfl)), (hw _ (ow 24 rfl))⟩)
  have E_w_LESS := Exa.start v_w_LESS c4
  obtain ⟨c5, hn⟩ := and_e hn
  have F_ordinal_w_LESS := Fld.start ((fld_at v_w_LESS).symm.trans (own_eqI c5))
  obtain ⟨c6, hn⟩ := and_e hn
  obtain ⟨w_LESS_OR_EQUAL, v_w_LESS_OR_EQUAL⟩ := exa_v c6
  have S_w_LESS_OR_EQUAL := Sta.start v_w_LESS_OR_EQUAL (Or.inr ⟨(hw _ (ow 1 rfl)), (hw _ (ow 26 rfl))⟩)
  have E_w_LESS_OR_EQUAL := Exa.start v_w_LESS_OR_EQUAL c6
  obtain ⟨c7, hn⟩ := and_e hn
  have F_ordinal_w_LESS_OR_EQUAL := Fld.start ((fld_at v_w_LESS_OR_EQUAL).symm.trans (own_eqI c7))
  obtain ⟨c8, hn⟩ := and_e hn
  obtain ⟨w_GREATER, v_w_GREATER⟩ := exa_v c8
  have S_w_GREATER := Sta.start v_w_GREATER (Or.inr ⟨(hw _ (ow 1 rfl)), (hw _ (ow 28 rfl))⟩)
  have E_w_GREATER := Exa.start v_w_GREATER c8
  obtain ⟨c9, hn⟩ := and_e hn
  have F_ordinal_w_GREATER := Fld.start ((fld_at v_w_GREATER).symm.trans (own_eqI c9))
  obtain ⟨c10, hn⟩ := and_e hn
  obtain ⟨w_GREATER_OR_EQUAL, v_w_GREATER_OR_EQUAL⟩ := exa_v c10
  have S_w_GREATER_OR_EQUAL := Sta.start v_w_GREATER_OR_EQUAL (Or.inr ⟨(hw _ (ow 1 rfl)), (hw _ (ow 30 rfl))⟩)
  have E_w_GREATER_OR_EQUAL := Exa.start v_w_GREATER_OR_EQUAL c10
  have F_ordinal_w_GREATER_OR_EQUAL := Fld.start ((fld_at v_w_GREATER_OR_EQUAL).symm.trans (own_eqI hn))
  have hK : own_K s s.heap w_EQUAL w_NOT_EQUAL w_LESS w_LESS_OR_EQUAL w_GREATER w_GREATER_OR_EQUAL := ⟨S_w_EQUAL, E_w_EQUAL, F_ordinal_w_EQUAL, S_w_NOT_EQUAL, E_w_NOT_EQUAL, F_ordinal_w_NOT_EQUAL, S_w_LESS, E_w_LESS, F_ordinal_w_LESS, S_w_LESS_OR_EQUAL, E_w_LESS_OR_EQUAL, F_ordinal_w_LESS_OR_EQUAL, S_w_GREATER, E_w_GREATER, F_ordinal_w_GREATER, S_w_GREATER_OR_EQUAL, E_w_GREATER_OR_EQUAL, F_ordinal_w_GREATER_OR_EQUAL⟩
  obtain ⟨n, o, h1, h2, h3, _, L, rfl, ⟨rfl, N, -⟩, hq⟩ := rm_law l s _ hw tables_1 i0 s.heap s.heap.size w_EQUAL w_NOT_EQUAL w_LESS w_LESS_OR_EQUAL w_GREATER w_GREATER_OR_EQUAL hK p e ha hc hk s m _ below hf ((Spec.applies_iff_loose hf).mp happ).1 ⟨rfl, State.Warmed39.refl s, rfl⟩ trivial
  refine ⟨n, _, h1, h2, h3, hpost _ _ _ _ _ _ ⟨Cond.after_iff.mpr rfl, Cond.after_iff.mpr (eq_i res_at (Term.int_eval (1)) rfl), trivial⟩ ⟨hq.1, hq.2.1, (hq.2.2.sift fun y hy => Or.inr (N y hy)).mono (by decide) (by decide)⟩⟩
theorem main_1_1 : Claimed_1_1 := comes_1 fun _ _ _ _ _ _ h hF => ⟨h.1, hF⟩
theorem main_1_2 : Claimed_1_2 := comes_1 fun _ _ _ _ _ _ h hF => ⟨h.2.1, hF⟩
end Jvm.Pilot.@@N@@
namespace Jvm.Pilot.@@N@@
open Jvm Jvm.ClassFile Sem Op Lib Jvm.Free Jvm.Stand Jvm.Pilot.@@N@@.Jvm.D
/-! MADE BY PROGRAM (witnessworld.py) out of the Statement's table words and the real class files: 12 classes; the members and pool entries that the words name. The judged class is class 1, her method 2. -/
namespace start1
open Jvm.ClassFile
def u (s : String) : CpInfo := .utf8 (stringToUtf16 s)
/-- a pool by its gaps: so many unusable entries, then the entry; so many at the end -/
def gap : Nat → List CpInfo → List CpInfo
  | 0, r => r
  | n + 1, r => .unusable :: gap n r
def poolList (es : List (Nat × CpInfo)) (last : Nat) : List CpInfo := es.foldr (fun e r => gap e.1 (e.2 :: r)) (gap last [])
def pool (es : List (Nat × CpInfo)) (last : Nat) : Array CpInfo := ⟨poolList es last⟩
def fileOf (pool : Array CpInfo) (this : Nat) (attrs : Array Attribute := #[]) (ms : Array MethodInfo := #[]) (fl : Nat := 33) (sup : Nat := 0) (ifs : Array Nat := #[]) (fds : Array FieldInfo := #[]) : ClassFile where
  minorVersion := 0
  majorVersion := 65
  constantPool := pool
  accessFlags := fl
  thisClass := this
  superClass := sup
  interfaces := ifs
  fields := fds
  methods := ms
  attributes := attrs
def plain (name : String) (sup : Option ClassId) : Class where
  name := name
  kind := .ordinary
  loader := none
  accessFlags := 33
  super := sup
  interfaces := #[]
  cf := none
  fields := #[]
  methods := #[]
  instanceTypes := #[]
  staticTypes := #[]
  resolved := #[]
  callSites := []
  init := .initialized
  statics := none
  mirror := none

def pool0 : Array CpInfo := pool [(5, u "<init>"), (0, u "()V"), (1, .class_ 10), (1, u "java/lang/Object")] 113

def k0m0 : Method := { name := "<init>", desc := "()V", sig := { parameters := [], returnType := none }, accessFlags := 1, code := none }
/-- java/lang/Object -/
def k0 : Class := { plain "java/lang/Object" none with
  accessFlags := 33
  interfaces := #[]
  cf := some (fileOf pool0 8 #[] #[{ accessFlags := 1, nameIndex := 5, descriptorIndex := 6, attributes := #[] }] 33 0 #[] #[])
  fields := #[]
  methods := #[k0m0]
  instanceTypes := #[]
  staticTypes := #[]
  resolved := Array.replicate 124 none
  statics := none }

def pool1 : Array CpInfo := pool [(2, .class_ 4), (1, u "java/lang/Object"), (0, u "<init>"), (0, u "()V"), (0, .fieldref 8 9), (0, .class_ 10), (0, .nameAndType 11 12), (0, u "com/example/cairn/cairn/expr/Comparison$Operator"), (0, u "EQUAL"), (0, u "Lcom/example/cairn/cairn/expr/Comparison$Operator;"), (0, .methodref 8 14), (0, .nameAndType 15 16), (0, u "holds"), (0, u "(I)Z"), (0, .methodref 18 19), (0, .class_ 20), (0, .nameAndType 21 22), (0, u "com/example/cairn/cairn/expr/OperatorHoldsPinLaw"), (0, u "accepts"), (0, u "(II)Z"), (0, .fieldref 8 24), (0, .nameAndType 25 12), (0, u "NOT_EQUAL"), (0, .fieldref 8 27), (0, .nameAndType 28 12), (0, u "LESS"), (0, .fieldref 8 30), (0, .nameAndType 31 12), (0, u "LESS_OR_EQUAL"), (0, .fieldref 8 33), (0, .nameAndType 34 12), (0, u "GREATER"), (0, .fieldref 8 36), (0, .nameAndType 37 12), (0, u "GREATER_OR_EQUAL"), (3, u "law")] 6

def k1m0 : Method := { name := "<init>", desc := "()V", sig := { parameters := [], returnType := none }, accessFlags := 2, code := none }
def k1c1 : Code := { maxStack := 2, maxLocals := 3, code := method_2_code, exceptionTable := #[], attributes := #[] }
def k1m1 : Method := { name := "accepts", desc := "(II)Z", sig := { parameters := [.int, .int], returnType := some .boolean }, accessFlags := 10, code := some k1c1 }
def k1c2 : Code := { maxStack := 3, maxLocals := 7, code := code, exceptionTable := #[], attributes := #[] }
def k1m2 : Method := { name := "law", desc := "(I)Z", sig := { parameters := [.int], returnType := some .boolean }, accessFlags := 9, code := some k1c2 }
/-- com/example/cairn/cairn/expr/OperatorHoldsPinLaw -/
def k1 : Class := { plain "com/example/cairn/cairn/expr/OperatorHoldsPinLaw" (some 0) with
  accessFlags := 49
  interfaces := #[]
  cf := some (fileOf pool1 18 #[] #[{ accessFlags := 2, nameIndex := 5, descriptorIndex := 6, attributes := #[] }, { accessFlags := 10, nameIndex := 21, descriptorIndex := 22, attributes := #[] }, { accessFlags := 9, nameIndex := 41, descriptorIndex := 16, attributes := #[] }] 49 2 #[] #[])
  fields := #[]
  methods := #[k1m0, k1m1, k1m2]
  instanceTypes := #[]
  staticTypes := #[]
  resolved := Array.replicate 48 none
  statics := none }

def pool2 : Array CpInfo := pool [(1, .class_ 2), (0, u "java/lang/constant/Constable"), (0, .class_ 4), (0, u "java/lang/Object")] 6

/-- java/lang/constant/Constable -/
def k2 : Class := { plain "java/lang/constant/Constable" (some 0) with
  accessFlags := 1537
  interfaces := #[]
  cf := some (fileOf pool2 1 #[] #[] 1537 3 #[] #[])
  fields := #[]
  methods := #[]
  instanceTypes := #[]
  staticTypes := #[]
  resolved := Array.replicate 11 none
  statics := none }

def pool3 : Array CpInfo := pool [(1, .class_ 2), (0, u "java/lang/Comparable"), (0, .class_ 4), (0, u "java/lang/Object")] 7

/-- java/lang/Comparable -/
def k3 : Class := { plain "java/lang/Comparable" (some 0) with
  accessFlags := 1537
  interfaces := #[]
  cf := some (fileOf pool3 1 #[] #[] 1537 3 #[] #[])
  fields := #[]
  methods := #[]
  instanceTypes := #[]
  staticTypes := #[]
  resolved := Array.replicate 12 none
  statics := none }

def pool4 : Array CpInfo := pool [(1, .class_ 2), (0, u "java/io/Serializable"), (0, .class_ 4), (0, u "java/lang/Object")] 2

/-- java/io/Serializable -/
def k4 : Class := { plain "java/io/Serializable" (some 0) with
  accessFlags := 1537
  interfaces := #[]
  cf := some (fileOf pool4 1 #[] #[] 1537 3 #[] #[])
  fields := #[]
  methods := #[]
  instanceTypes := #[]
  staticTypes := #[]
  resolved := Array.replicate 7 none
  statics := none }

def pool5 : Array CpInfo := pool [(2, .class_ 4), (1, u "java/lang/Enum"), (0, u "name"), (0, u "Ljava/lang/String;"), (0, .fieldref 2 8), (0, .nameAndType 9 10), (0, u "ordinal"), (0, u "I"), (1, .class_ 14), (1, u "java/lang/Object"), (4, u "hash"), (86, .class_ 108), (1, u "java/lang/Enum$EnumDesc"), (2, .class_ 112), (0, u "java/lang/constant/Constable"), (0, .class_ 114), (0, u "java/lang/Comparable"), (0, .class_ 116), (0, u "java/io/Serializable"), (9, u "()I")] 77

def k5c0 : Code := { maxStack := 1, maxLocals := 1, code := jdk_37_method_2_code, exceptionTable := #[], attributes := #[] }
def k5m0 : Method := { name := "ordinal", desc := "()I", sig := { parameters := [], returnType := some .int }, accessFlags := 17, code := some k5c0 }
/-- java/lang/Enum -/
def k5 : Class := { plain "java/lang/Enum" (some 0) with
  accessFlags := 1057
  interfaces := #[2, 3, 4]
  cf := some (fileOf pool5 2 #[.nestMembers #[106]] #[{ accessFlags := 17, nameIndex := 9, descriptorIndex := 126, attributes := #[] }] 1057 12 #[111, 113, 115] #[{ accessFlags := 18, nameIndex := 5, descriptorIndex := 6, attributes := #[] }, { accessFlags := 18, nameIndex := 9, descriptorIndex := 10, attributes := #[] }, { accessFlags := 2, nameIndex := 19, descriptorIndex := 10, attributes := #[] }])
  fields := #[{ name := "name", type := (.object "java/lang/String"), accessFlags := 18, slot := 0, constantValue := 0 }, { name := "ordinal", type := .int, accessFlags := 18, slot := 1, constantValue := 0 }, { name := "hash", type := .int, accessFlags := 2, slot := 2, constantValue := 0 }]
  methods := #[k5m0]
  instanceTypes := #[(.object "java/lang/String"), .int, .int]
  staticTypes := #[]
  resolved := Array.replicate 204 none
  statics := none }

def pool6 : Array CpInfo := pool [(1, .class_ 2), (0, u "com/example/cairn/cairn/expr/Comparison$Operator"), (2, u "EQUAL"), (0, u "Lcom/example/cairn/cairn/expr/Comparison$Operator;"), (2, u "NOT_EQUAL"), (2, u "LESS"), (2, u "LESS_OR_EQUAL"), (2, u "GREATER"), (2, u "GREATER_OR_EQUAL"), (2, u "$VALUES"), (0, u "[Lcom/example/cairn/cairn/expr/Comparison$Operator;"), (6, .class_ 34), (1, u "java/lang/Enum"), (6, .methodref 1 42), (0, .nameAndType 43 44), (0, u "ordinal"), (0, u "()I"), (23, u "holds"), (0, u "(I)Z"), (6, .class_ 77), (0, u "com/example/cairn/cairn/expr/Comparison")] 2

def k6c0 : Code := { maxStack := 4, maxLocals := 2, code := prog_75_method_4_code, exceptionTable := #[], attributes := #[] }
def k6m0 : Method := { name := "holds", desc := "(I)Z", sig := { parameters := [.int], returnType := some .boolean }, accessFlags := 0, code := some k6c0 }
/-- com/example/cairn/cairn/expr/Comparison$Operator -/
def k6 : Class := { plain "com/example/cairn/cairn/expr/Comparison$Operator" (some 5) with
  accessFlags := 16433
  interfaces := #[]
  cf := some (fileOf pool6 1 #[.nestHost 76] #[{ accessFlags := 0, nameIndex := 68, descriptorIndex := 69, attributes := #[] }] 16433 32 #[] #[{ accessFlags := 16409, nameIndex := 5, descriptorIndex := 6, attributes := #[] }, { accessFlags := 16409, nameIndex := 9, descriptorIndex := 6, attributes := #[] }, { accessFlags := 16409, nameIndex := 12, descriptorIndex := 6, attributes := #[] }, { accessFlags := 16409, nameIndex := 15, descriptorIndex := 6, attributes := #[] }, { accessFlags := 16409, nameIndex := 18, descriptorIndex := 6, attributes := #[] }, { accessFlags := 16409, nameIndex := 21, descriptorIndex := 6, attributes := #[] }, { accessFlags := 4122, nameIndex := 24, descriptorIndex := 25, attributes := #[] }])
  fields := #[{ name := "EQUAL", type := (.object "com/example/cairn/cairn/expr/Comparison$Operator"), accessFlags := 16409, slot := 0, constantValue := 0 }, { name := "NOT_EQUAL", type := (.object "com/example/cairn/cairn/expr/Comparison$Operator"), accessFlags := 16409, slot := 1, constantValue := 0 }, { name := "LESS", type := (.object "com/example/cairn/cairn/expr/Comparison$Operator"), accessFlags := 16409, slot := 2, constantValue := 0 }, { name := "LESS_OR_EQUAL", type := (.object "com/example/cairn/cairn/expr/Comparison$Operator"), accessFlags := 16409, slot := 3, constantValue := 0 }, { name := "GREATER", type := (.object "com/example/cairn/cairn/expr/Comparison$Operator"), accessFlags := 16409, slot := 4, constantValue := 0 }, { name := "GREATER_OR_EQUAL", type := (.object "com/example/cairn/cairn/expr/Comparison$Operator"), accessFlags := 16409, slot := 5, constantValue := 0 }, { name := "$VALUES", type := (.array (.object "com/example/cairn/cairn/expr/Comparison$Operator")), accessFlags := 4122, slot := 6, constantValue := 0 }]
  methods := #[k6m0]
  instanceTypes := #[(.object "java/lang/String"), .int, .int]
  staticTypes := #[(.object "com/example/cairn/cairn/expr/Comparison$Operator"), (.object "com/example/cairn/cairn/expr/Comparison$Operator"), (.object "com/example/cairn/cairn/expr/Comparison$Operator"), (.object "com/example/cairn/cairn/expr/Comparison$Operator"), (.object "com/example/cairn/cairn/expr/Comparison$Operator"), (.object "com/example/cairn/cairn/expr/Comparison$Operator"), (.array (.object "com/example/cairn/cairn/expr/Comparison$Operator"))]
  resolved := Array.replicate 80 none
  statics := some 0 }

def pool7 : Array CpInfo := pool [(1, u "java/lang/Cloneable"), (0, .class_ 1), (0, u "java/lang/Object"), (0, .class_ 3)] 3

/-- java/lang/Cloneable -/
def k7 : Class := { plain "java/lang/Cloneable" (some 0) with
  accessFlags := 1537
  interfaces := #[]
  cf := some (fileOf pool7 2 #[] #[] 1537 4 #[] #[])
  fields := #[]
  methods := #[]
  instanceTypes := #[]
  staticTypes := #[]
  resolved := Array.replicate 8 none
  statics := none }

/-- the primitive byte -/
def k8 : Class := { plain "byte" none with kind := .primitive 'B', accessFlags := 0x411 }
/-- [B -/
def k9 : Class := { plain "[B" (some 0) with kind := .array 8 .byte, interfaces := #[7, 4], accessFlags := 1041 }

/-- the primitive int -/
def k10 : Class := { plain "int" none with kind := .primitive 'I', accessFlags := 0x411 }
/-- [I -/
def k11 : Class := { plain "[I" (some 0) with kind := .array 10 .int, interfaces := #[7, 4], accessFlags := 1041 }

def heap : Heap := #[{ cls := 6, slots := #[.ref 1, .ref 2, .ref 3, .ref 4, .ref 5, .ref 6, .null], vm := .statics 6 },
  { cls := 6, slots := #[.null, .int 0, .int 0], vm := .none },
  { cls := 6, slots := #[.null, .int 1, .int 0], vm := .none },
  { cls := 6, slots := #[.null, .int 2, .int 0], vm := .none },
  { cls := 6, slots := #[.null, .int 3, .int 0], vm := .none },
  { cls := 6, slots := #[.null, .int 4, .int 0], vm := .none },
  { cls := 6, slots := #[.null, .int 5, .int 0], vm := .none }]
def classes : Array Class := #[k0, k1, k2, k3, k4, k5, k6, k7, k8, k9, k10, k11]
def interned : List (Array UInt16 × Addr) := []
def slotsUsed : Nat := 25
def theMethod : MethodId := ⟨1, 2⟩
def args0 : Array Value := #[.int 5]
def aboutOver (below : List Frame) : State where
  vm := { classes := classes, interned := interned.toArray }
  heap := heap
  slotsUsed := slotsUsed
  threads := #[{ frames := .invoking theMethod args0 :: below }]
def below0 : List Frame := [.native { method := ⟨0, 0⟩, args := #[] }]
def about1 : State := aboutOver below0
def p0 : Program := .bare "" "" ""
def e0 : Env := launch0.env 0 0 0
theorem w_frames : about1.frames = Frame.invoking theMethod args0 :: below0 := rfl
set_option maxRecDepth 65536 in
theorem w_args : argsFit about1.vm theMethod args0 = true := by decide +kernel
set_option maxRecDepth 65536 in
theorem w_heap : heapFits about1 = true := by decide +kernel
set_option maxRecDepth 65536 in
theorem w_runnable : about1.curStatus? = some .runnable := by decide +kernel
set_option maxRecDepth 65536 in
theorem w_alone : about1.alone = true := by decide +kernel
set_option maxRecDepth 65536 in
theorem w_named : about1.methodNamed? x = some theMethod := by decide +kernel
set_option maxRecDepth 65536 in
theorem w_hears : about1.hears theMethod below0 = true := by decide +kernel
set_option maxRecDepth 65536 in
theorem w_ripe : about1.ripe theMethod args0 below0 = true := by decide +kernel
theorem w_running : about1.status = .running := rfl
set_option maxRecDepth 65536 in
theorem w_room : about1.hasRoom e0.platform room_1 = true :=
  launch0.hasRoom_least _ room_1 (by decide +kernel) (by decide +kernel) (by decide +kernel) (by decide +kernel) (by decide +kernel) (by decide +kernel)
theorem allAtoms_all (ts : List Jvm.Cond) (a : Array Jvm.Value) (st : Jvm.State) : (allAtoms ts).before a st = ts.all (fun c => c.before a st) := by
  induction ts with
  | nil => rfl
  | cons c t ih =>
    show (Jvm.Cond.and c (allAtoms t)).before a st = _
    rw [Jvm.Cond.before_and, ih, List.all_cons]
def words1 : List Jvm.Cond := Jvm.Cond.code x code maxLocals ret :: tables_1
/-- a 'code' word, met by the world's own term for the bytes: nothing is compared byte by byte -/
theorem code_word {y : MethodName} {bytes : ByteArray} {mx : Nat} {rt : Option FieldType} {a : Array Value} {s : State} {m : MethodId} {meth : Method} {c : Code} (h1 : s.methodNamed? y = some m) (h2 : s.vm.method? m = some meth) (h3 : meth.code = some c) (h4 : c.code = bytes)
    (h5 : (c.maxLocals == mx && c.exceptionTable.isEmpty && decide (c.maxStack ≤ mostOperands) && decide (meth.sig.returnType = rt) && !meth.locks && decide (parseMethodDescriptor y.desc = some meth.sig)) = true) : (Jvm.Cond.code y bytes mx rt).before a s = true := by
  simp only [Bool.and_eq_true, beq_iff_eq, Bool.not_eq_true', decide_eq_true_eq] at h5
  obtain ⟨⟨⟨⟨⟨g1, g2⟩, g3⟩, g4⟩, g5⟩, g6⟩ := h5
  simp [Cond.before, Cond.holds, Cond.value, h1, h2, h3, h4, g1, g2, g3, g4, g5, g6]
def isCode : Jvm.Cond → Bool
  | .code _ _ _ _ => true
  | _ => false
theorem all_split {L : List Jvm.Cond} {P : Jvm.Cond → Bool} (h1 : L.all (fun c => isCode c || P c) = true) (h2 : ∀ c ∈ L.filter isCode, P c = true) : L.all P = true := by
  refine List.all_eq_true.mpr fun c hc => ?_
  have h := List.all_eq_true.mp h1 c hc
  rcases Bool.eq_false_or_eq_true (isCode c) with hi | hi
  · exact h2 c (List.mem_filter.mpr ⟨hc, hi⟩)
  · simpa [hi] using h
set_option maxRecDepth 65536 in
theorem w_c0 : (Jvm.Cond.code x code maxLocals ret).before args0 about1 = true := code_word (m := ⟨1, 2⟩) (meth := k1m2) (c := k1c2) (by decide +kernel) rfl rfl rfl (by decide +kernel)
set_option maxRecDepth 65536 in
theorem w_c1 : (Jvm.Cond.code ({ cls := "com/example/cairn/cairn/expr/Comparison$Operator", name := "holds", desc := "(I)Z" } : Jvm.MethodName) prog_75_method_4_code (2 : Nat) (Option.some Jvm.ClassFile.FieldType.boolean)).before args0 about1 = true := code_word (m := ⟨6, 0⟩) (meth := k6m0) (c := k6c0) (by decide +kernel) rfl rfl rfl (by decide +kernel)
set_option maxRecDepth 65536 in
theorem w_c2 : (Jvm.Cond.code ({ cls := "java/lang/Enum", name := "ordinal", desc := "()I" } : Jvm.MethodName) jdk_37_method_2_code (1 : Nat) (Option.some Jvm.ClassFile.FieldType.int)).before args0 about1 = true := code_word (m := ⟨5, 0⟩) (meth := k5m0) (c := k5c0) (by decide +kernel) rfl rfl rfl (by decide +kernel)
set_option maxRecDepth 65536 in
theorem w_c3 : (Jvm.Cond.code ({ cls := "com/example/cairn/cairn/expr/OperatorHoldsPinLaw", name := "accepts", desc := "(II)Z" } : Jvm.MethodName) method_2_code (3 : Nat) (Option.some Jvm.ClassFile.FieldType.boolean)).before args0 about1 = true := code_word (m := ⟨1, 1⟩) (meth := k1m1) (c := k1c1) (by decide +kernel) rfl rfl rfl (by decide +kernel)
def codes1 : List Jvm.Cond := [Jvm.Cond.code x code maxLocals ret, Jvm.Cond.code ({ cls := "com/example/cairn/cairn/expr/Comparison$Operator", name := "holds", desc := "(I)Z" } : Jvm.MethodName) prog_75_method_4_code (2 : Nat) (Option.some Jvm.ClassFile.FieldType.boolean), Jvm.Cond.code ({ cls := "java/lang/Enum", name := "ordinal", desc := "()I" } : Jvm.MethodName) jdk_37_method_2_code (1 : Nat) (Option.some Jvm.ClassFile.FieldType.int), Jvm.Cond.code ({ cls := "com/example/cairn/cairn/expr/OperatorHoldsPinLaw", name := "accepts", desc := "(II)Z" } : Jvm.MethodName) method_2_code (3 : Nat) (Option.some Jvm.ClassFile.FieldType.boolean)]
set_option maxRecDepth 65536 in
theorem codes_eq : words1.filter isCode = codes1 := rfl
theorem w_codes : ∀ c ∈ words1.filter isCode, c.before args0 about1 = true := by
  rw [codes_eq]
  intro c hc
  simp only [codes1, List.mem_cons, List.not_mem_nil, or_false] at hc
  rcases hc with rfl | rfl | rfl | rfl
  · exact w_c0
  · exact w_c1
  · exact w_c2
  · exact w_c3
set_option maxRecDepth 65536 in
theorem w_t1 : (words1.take 24).all (fun c => isCode c || c.before args0 about1) = true := by decide +kernel
set_option maxRecDepth 65536 in
theorem w_t2 : (words1.drop 24).all (fun c => isCode c || c.before args0 about1) = true := by decide +kernel
theorem w_tables : (allAtoms (Jvm.Cond.code x code maxLocals ret :: tables_1)).before args0 about1 = true := by
  rw [allAtoms_all]
  show words1.all (fun c => c.before args0 about1) = true
  refine all_split ?_ w_codes
  rw [← List.take_append_drop 24 words1, List.all_append, w_t1, w_t2]
  rfl
set_option maxRecDepth 65536 in
theorem w_case : (Jvm.Cond.and given_1 narrow_1).before args0 about1 = true := by decide +kernel
theorem w_applies : (headSpec (Jvm.Cond.code x code maxLocals ret :: tables_1) room_1).applies x e0.platform about1 = true :=
  (Spec.applies_iff w_frames).mpr ⟨w_running, w_runnable, w_alone, w_named, w_hears, w_ripe, w_room, w_tables⟩
theorem atStart : AtStart classFile x code maxLocals ret World_1 tables_1 room_1 Calls_1 rest_1 Pre_1 launch0 p0 e0 about1 theMethod args0 below0 :=
  ⟨lists_1, trivial, launch0.admits_env _ _ _, launch0.least_env, fairChoices_fair.cas, fairChoices_fair.clock, w_frames, w_args, w_heap, w_applies, trivial, trivial, w_case⟩
end start1
theorem witness_1 : WitnessClaimed_1 := ⟨start1.p0, start1.e0, start1.about1, start1.theMethod, start1.args0, start1.below0, start1.atStart⟩
end Jvm.Pilot.@@N@@
