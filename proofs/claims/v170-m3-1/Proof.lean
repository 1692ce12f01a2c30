import JvmDerived
import JvmDerived.Pilot.@@N@@Statement
import JvmDerived.Pilot.@@N@@Code
set_option linter.unusedVariables false
set_option linter.unusedSimpArgs false
namespace Jvm.RoadKit
open Sem ClassFile Op Lib Jvm.Stand Jvm.Free Jvm.LawKit
section New
variable {p : Program} {l : Launch} {e : Env} {R : Room} {s : State} {m : MethodId} {args : Array Value} {below : List Frame} {meth : Method} {c : Code} {T : State} {locs : List Loc} {cells slots : Nat}
theorem retI (X : Stand p l e R s m args below meth c T locs cells slots) (hx : p.tables.exec = Jvm.exec) {pc : Nat} {Ls : Array Slot} {z : Int32} {rest : List Value} (hret : meth.sig.returnType = some .int) (hd : decode c.code pc = .ok (.ireturn, 1)) {fs : List Frame}
    (hl : ∀ (f : JFrame) (acts : List Action), f.method = m → f.locked = none → f.entered = [] → (doReturn e (T.setTop f) acts (some (.int z))).1 = T.setFrames fs) : Steps p.tables e below (T.setTop (mkF m pc Ls (.int z :: rest))) (T.setFrames fs) :=
  retOut X hx hret rfl (Or.inl ⟨rfl, Or.inl rfl, z, rfl⟩) hd hl
end New
end Jvm.RoadKit
namespace Jvm.Pilot.@@N@@
open Jvm Jvm.ClassFile Sem Op Lib Jvm.Free Jvm.Stand Jvm.LawKit Jvm.RoadKit Bundle Jvm.Pilot.@@N@@.Jvm.D
theorem ow {d : Jvm.Cond} (i : Nat) (h : tables_1[i]? = some d) : d ∈ tables_1 := List.mem_of_getElem? h
/-- what a body that only reads leaves: its answer, nothing written, the heap as it was -/
def own_Q (r : Option Value) (h0 : Heap) (n0 : Nat) (v : Option Value) (h : Heap) (L : List Loc) : Prop := v = r ∧ Fr n0 L ∧ h = h0
section OwnWords
variable {args : Array Value} {first s : State} {o : Option Outcome} {idx : List Nat} {a b : Term}
theorem own_eqI {k : Int32} (h : (Jvm.Cond.eq a (.int k)).value args first o s idx = some true) : a.eval args first o idx s = some (.int k) := by
  obtain ⟨x, y, hx, hy, k1, -⟩ := cmp_v (r := true) (Or.inl h)
  have hy' : y = .int k := (Option.some.inj hy).symm
  subst hy'
  cases x <;> simp [Kin, Value.isRef] at k1
  simp [Jvm.Cond.value, hx, Term.eval] at h
  rw [hx, h]
theorem own_eqR {y : Addr} (h : (Jvm.Cond.eq a b).value args first o s idx = some true) (hb : b.eval args first o idx s = some (.ref y)) : a.eval args first o idx s = some (.ref y) := by
  obtain ⟨x, z, hx, hy, k1, -⟩ := cmp_v (r := true) (Or.inl h)
  cases hb.symm.trans hy
  cases x <;> simp [Kin, Value.isRef] at k1
  · simp [Jvm.Cond.value, hx, hb] at h
  · simp [Jvm.Cond.value, hx, hb] at h
    rw [hx, h]
theorem own_len {y : Addr} {c : Cell} {n : Int32} (h : (Term.length a).eval args first o idx s = some (.int n)) (ht : a.eval args first o idx s = some (.ref y)) (hc : s.heap[y]? = some c) : (c.slots.size : Int) = n.toInt := by
  simp only [Term.eval, Option.bind_eq_bind, ht, Option.bind_some] at h
  obtain ⟨cell, hcell, h⟩ := Option.bind_eq_some_iff.mp h
  cases hc.symm.trans (State.arrayAt?_spec hcell).1
  by_cases hn : c.slots.size < 2147483648
  · rw [if_pos hn] at h; cases h; exact (len_toInt hn).symm
  · rw [if_neg hn] at h; cases h
end OwnWords
/-- an array that stands in the heap, with all that lies in it -/
def own_Arr (Z : State) (h : Heap) (a : Addr) (ty : FieldType) (vs : List Value) : Prop := ∃ c : Cell, Arr Z h a c ty ∧ c.slots = vs.toArray
/-- what a law leaves that makes arrays of its own -/
def own_QH (r : Option Value) (n0 : Nat) (v : Option Value) (h : Heap) (L : List Loc) : Prop := v = r ∧ Fr n0 L ∧ True
/-- the same of an array whose class is known -/
def own_ArrK (Z : State) (h : Heap) (a : Addr) (k : ClassId) (ty : FieldType) (vs : List Value) : Prop := ∃ c : Cell, Arr Z h a c ty ∧ c.cls = k ∧ c.slots = vs.toArray
section OwnArr
variable {Z : State} {h0 h h' : Heap} {a b : Addr} {k : ClassId} {ty : FieldType} {vs : List Value} {v : Value} {sl : Nat} {c : Cell}
theorem own_Arr.ext (F : own_Arr Z h a ty vs) (E : Ext h h') : own_Arr Z h' a ty vs := by obtain ⟨c, A, r⟩ := F; exact ⟨c, A.ext E, r⟩
theorem own_ArrK.lt (F : own_ArrK Z h a k ty vs) : a < h.size := by obtain ⟨c, A, -⟩ := F; exact A.lt
theorem own_ArrK.ext (F : own_ArrK Z h a k ty vs) (E : Ext h h') : own_ArrK Z h' a k ty vs := by obtain ⟨c, A, r⟩ := F; exact ⟨c, A.ext E, r⟩
theorem own_ArrK.other (F : own_ArrK Z h b k ty vs) (W : Wr h h' a sl v) (q : b ≠ a) : own_ArrK Z h' b k ty vs := by obtain ⟨c, A, r⟩ := F; exact ⟨c, A.other W q, r⟩
theorem own_set (W : Wr h h' a sl v) (A : Arr Z h a c ty) (q : c.cls = k) (e : c.slots = vs.toArray) : own_ArrK Z h' a k ty (vs.set sl v) := ⟨_, A.same W, q, by simp [Cell.setSlot, e]⟩
theorem own_inb {j : Int32} (n : Nat) (e : c.slots = vs.toArray) (hl : vs.length = n) (h0 : ¬ j < 0) (h1 : j.toNatClampNeg < n) : ¬ (j < 0 ∨ c.slots.size ≤ j.toNatClampNeg) := by
  rw [e]
  rintro (h | h)
  · exact h0 h
  · simp at h; omega
theorem own_get {j : Int32} (e : c.slots = vs.toArray) (hj : ¬ j < 0) (q : vs[j.toNatClampNeg]? = some v) : (¬ (j < 0 ∨ c.slots.size ≤ j.toNatClampNeg)) ∧ c.slots[j.toNatClampNeg]? = some v := by
  have hl := (List.getElem?_eq_some_iff.mp q).1
  rw [e]
  refine ⟨?_, by simpa using q⟩
  rintro (h | h)
  · exact hj h
  · simp at h; omega
theorem own_ext_trans {h'' : Heap} (E : Ext h h') (E' : Ext h' h'') : Ext h h'' := ⟨Nat.le_trans E.1 E'.1, fun x y q => E'.2 x y (E.2 x y q)⟩
theorem own_ext_wr (E : Ext h0 h) (W : Wr h h' a sl v) (q : h0.size ≤ a) : Ext h0 h' := by
  refine ⟨Nat.le_trans E.1 (Nat.le_of_eq W.size.symm), fun x y hx => ?_⟩
  have hlt := (Array.getElem?_eq_some_iff.mp hx).1
  obtain ⟨c', e1, -, -, -, e5, -⟩ := wr_at W (E.2 x y hx)
  rw [← e5 (Nat.ne_of_lt (Nat.lt_of_lt_of_le hlt q))]; exact e1
theorem own_ext_keep (E : Ext h0 h) (K : Keep h h' [a]) (q : h0.size ≤ a) : Ext h0 h' := ⟨Nat.le_trans E.1 K.1, fun x y hx => K.2.1 x y (E.2 x y hx) (ninS (Nat.ne_of_lt (Nat.lt_of_lt_of_le (Array.getElem?_eq_some_iff.mp hx).1 q)) nin0)⟩
end OwnArr
def own_K (Z : State) (h : Heap) (w_REPLACE w_MERGE w_APPEND w_APPEND_IF_ABSENT w_UPDATE w_VIOLENTLY_REPLACE w_NONE w_LAX w_CHECK w_SET_NULL w_DELETE : Addr) : Prop := Sta Z h "com/example/graft/graft/AssociatedSaveMode" "REPLACE" "Lcom/example/graft/graft/AssociatedSaveMode;" (.ref w_REPLACE) ∧ Exa Z h w_REPLACE "com/example/graft/graft/AssociatedSaveMode" ∧ Sta Z h "com/example/graft/graft/AssociatedSaveMode" "MERGE" "Lcom/example/graft/graft/AssociatedSaveMode;" (.ref w_MERGE) ∧ Exa Z h w_MERGE "com/example/graft/graft/AssociatedSaveMode" ∧ Sta Z h "com/example/graft/graft/AssociatedSaveMode" "APPEND" "Lcom/example/graft/graft/AssociatedSaveMode;" (.ref w_APPEND) ∧ Exa Z h w_APPEND "com/example/graft/graft/AssociatedSaveMode" ∧ Sta Z h "com/example/graft/graft/AssociatedSaveMode" "APPEND_IF_ABSENT" "Lcom/example/graft/graft/AssociatedSaveMode;" (.ref w_APPEND_IF_ABSENT) ∧ Exa Z h w_APPEND_IF_ABSENT "com/example/graft/graft/AssociatedSaveMode" ∧ Sta Z h "com/example/graft/graft/AssociatedSaveMode" "UPDATE" "Lcom/example/graft/graft/AssociatedSaveMode;" (.ref w_UPDATE) ∧ Exa Z h w_UPDATE "com/example/graft/graft/AssociatedSaveMode" ∧ Sta Z h "com/example/graft/graft/AssociatedSaveMode" "VIOLENTLY_REPLACE" "Lcom/example/graft/graft/AssociatedSaveMode;" (.ref w_VIOLENTLY_REPLACE) ∧ Exa Z h w_VIOLENTLY_REPLACE "com/example/graft/graft/AssociatedSaveMode" ∧ Sta Z h "com/example/graft/graft/DissociateAction" "NONE" "Lcom/example/graft/graft/DissociateAction;" (.ref w_NONE) ∧ Exa Z h w_NONE "com/example/graft/graft/DissociateAction" ∧ Sta Z h "com/example/graft/graft/DissociateAction" "LAX" "Lcom/example/graft/graft/DissociateAction;" (.ref w_LAX) ∧ Exa Z h w_LAX "com/example/graft/graft/DissociateAction" ∧ Sta Z h "com/example/graft/graft/DissociateAction" "CHECK" "Lcom/example/graft/graft/DissociateAction;" (.ref w_CHECK) ∧ Exa Z h w_CHECK "com/example/graft/graft/DissociateAction" ∧ Sta Z h "com/example/graft/graft/DissociateAction" "SET_NULL" "Lcom/example/graft/graft/DissociateAction;" (.ref w_SET_NULL) ∧ Exa Z h w_SET_NULL "com/example/graft/graft/DissociateAction" ∧ Sta Z h "com/example/graft/graft/DissociateAction" "DELETE" "Lcom/example/graft/graft/DissociateAction;" (.ref w_DELETE) ∧ Exa Z h w_DELETE "com/example/graft/graft/DissociateAction" ∧ Fld Z h w_REPLACE "com/example/graft/graft/AssociatedSaveMode" "deletesLeftOut" "Z" (.int (0 : Int32)) ∧ Fld Z h w_REPLACE "java/lang/Enum" "ordinal" "I" (.int (0 : Int32)) ∧ Fld Z h w_VIOLENTLY_REPLACE "java/lang/Enum" "ordinal" "I" (.int (5 : Int32)) ∧ Fld Z h w_APPEND "com/example/graft/graft/AssociatedSaveMode" "deletesLeftOut" "Z" (.int (0 : Int32)) ∧ Fld Z h w_APPEND "java/lang/Enum" "ordinal" "I" (.int (2 : Int32)) ∧ Fld Z h w_UPDATE "com/example/graft/graft/AssociatedSaveMode" "deletesLeftOut" "Z" (.int (0 : Int32)) ∧ Fld Z h w_UPDATE "java/lang/Enum" "ordinal" "I" (.int (4 : Int32)) ∧ Fld Z h w_MERGE "com/example/graft/graft/AssociatedSaveMode" "deletesLeftOut" "Z" (.int (0 : Int32)) ∧ Fld Z h w_MERGE "java/lang/Enum" "ordinal" "I" (.int (1 : Int32)) ∧ Fld Z h w_VIOLENTLY_REPLACE "com/example/graft/graft/AssociatedSaveMode" "deletesLeftOut" "Z" (.int (1 : Int32)) ∧ Fld Z h w_APPEND_IF_ABSENT "com/example/graft/graft/AssociatedSaveMode" "deletesLeftOut" "Z" (.int (0 : Int32)) ∧ Fld Z h w_APPEND_IF_ABSENT "java/lang/Enum" "ordinal" "I" (.int (3 : Int32))
theorem own_K_ext {Z : State} {h h' : Heap} {w_REPLACE w_MERGE w_APPEND w_APPEND_IF_ABSENT w_UPDATE w_VIOLENTLY_REPLACE w_NONE w_LAX w_CHECK w_SET_NULL w_DELETE : Addr} (E : Ext h h') (hK : own_K Z h w_REPLACE w_MERGE w_APPEND w_APPEND_IF_ABSENT w_UPDATE w_VIOLENTLY_REPLACE w_NONE w_LAX w_CHECK w_SET_NULL w_DELETE) : own_K Z h' w_REPLACE w_MERGE w_APPEND w_APPEND_IF_ABSENT w_UPDATE w_VIOLENTLY_REPLACE w_NONE w_LAX w_CHECK w_SET_NULL w_DELETE := by
  obtain ⟨S_w_REPLACE, E_w_REPLACE, S_w_MERGE, E_w_MERGE, S_w_APPEND, E_w_APPEND, S_w_APPEND_IF_ABSENT, E_w_APPEND_IF_ABSENT, S_w_UPDATE, E_w_UPDATE, S_w_VIOLENTLY_REPLACE, E_w_VIOLENTLY_REPLACE, S_w_NONE, E_w_NONE, S_w_LAX, E_w_LAX, S_w_CHECK, E_w_CHECK, S_w_SET_NULL, E_w_SET_NULL, S_w_DELETE, E_w_DELETE, F_deletesLeftOut_w_REPLACE, F_ordinal_w_REPLACE, F_ordinal_w_VIOLENTLY_REPLACE, F_deletesLeftOut_w_APPEND, F_ordinal_w_APPEND, F_deletesLeftOut_w_UPDATE, F_ordinal_w_UPDATE, F_deletesLeftOut_w_MERGE, F_ordinal_w_MERGE, F_deletesLeftOut_w_VIOLENTLY_REPLACE, F_deletesLeftOut_w_APPEND_IF_ABSENT, F_ordinal_w_APPEND_IF_ABSENT⟩ := hK
  exact ⟨S_w_REPLACE.ext E, E_w_REPLACE.ext E, S_w_MERGE.ext E, E_w_MERGE.ext E, S_w_APPEND.ext E, E_w_APPEND.ext E, S_w_APPEND_IF_ABSENT.ext E, E_w_APPEND_IF_ABSENT.ext E, S_w_UPDATE.ext E, E_w_UPDATE.ext E, S_w_VIOLENTLY_REPLACE.ext E, E_w_VIOLENTLY_REPLACE.ext E, S_w_NONE.ext E, E_w_NONE.ext E, S_w_LAX.ext E, E_w_LAX.ext E, S_w_CHECK.ext E, E_w_CHECK.ext E, S_w_SET_NULL.ext E, E_w_SET_NULL.ext E, S_w_DELETE.ext E, E_w_DELETE.ext E, F_deletesLeftOut_w_REPLACE.ext E, F_ordinal_w_REPLACE.ext E, F_ordinal_w_VIOLENTLY_REPLACE.ext E, F_deletesLeftOut_w_APPEND.ext E, F_ordinal_w_APPEND.ext E, F_deletesLeftOut_w_UPDATE.ext E, F_ordinal_w_UPDATE.ext E, F_deletesLeftOut_w_MERGE.ext E, F_ordinal_w_MERGE.ext E, F_deletesLeftOut_w_VIOLENTLY_REPLACE.ext E, F_deletesLeftOut_w_APPEND_IF_ABSENT.ext E, F_ordinal_w_APPEND_IF_ABSENT.ext E⟩
theorem d_prog_1_method_6_0 : decode prog_1_method_6_code 0 = .ok (.aload_n 0, 1) := by decide +kernel
theorem d_prog_1_method_6_1 : decode prog_1_method_6_code 1 = .ok (.getfield 49, 3) := by decide +kernel
theorem d_prog_1_method_6_4 : decode prog_1_method_6_code 4 = .ok (.ifCond .eq 9, 3) := by decide +kernel
theorem d_prog_1_method_6_13 : decode prog_1_method_6_code 13 = .ok (.aload_n 1, 1) := by decide +kernel
theorem d_prog_1_method_6_14 : decode prog_1_method_6_code 14 = .ok (.areturn, 1) := by decide +kernel
theorem d_prog_1_method_6_7 : decode prog_1_method_6_code 7 = .ok (.getstatic 52, 3) := by decide +kernel
theorem d_prog_1_method_6_10 : decode prog_1_method_6_code 10 = .ok (.goto 4, 3) := by decide +kernel
theorem pn_0 : plainName "com/example/graft/graft/AssociatedSaveMode" = true := by first | (simp [plainName, overriddenIn]; done) | decide +kernel
theorem ef_disR (m : MethodId) (x0 : Addr) (x1 : Addr) : entryFrame m #[(.ref x0), (.ref x1)] 2 = mkF m 0 #[.val (.ref x0), .val (.ref x1)] [] := by first | (simp [entryFrame, mkF, argsToLocals, Value.category]; done) | rfl
set_option maxRecDepth 65536 in
set_option maxHeartbeats 40000000 in
theorem rm_disR (l : Launch) (Z : State) (a0 : Array Value) (hw : ∀ d ∈ tables_1, d.before a0 Z = true) (ws : List Jvm.Cond) (a1 : Addr) (a2 : Addr) (f_deletesLeftOut : Int32) (h0 : Heap) (n0 : Nat) (w_REPLACE w_MERGE w_APPEND w_APPEND_IF_ABSENT w_UPDATE w_VIOLENTLY_REPLACE w_NONE w_LAX w_CHECK w_SET_NULL w_DELETE : Addr) (hK : own_K Z h0 w_REPLACE w_MERGE w_APPEND w_APPEND_IF_ABSENT w_UPDATE w_VIOLENTLY_REPLACE w_NONE w_LAX w_CHECK w_SET_NULL w_DELETE) (F_deletesLeftOut : Fld Z h0 a1 "com/example/graft/graft/AssociatedSaveMode" "deletesLeftOut" "Z" (.int f_deletesLeftOut)) :
    MetFree l (⟨"com/example/graft/graft/AssociatedSaveMode", "dissociateAction", "(Lcom/example/graft/graft/DissociateAction;)Lcom/example/graft/graft/DissociateAction;"⟩ : MethodName) (head1 (Jvm.Cond.code (⟨"com/example/graft/graft/AssociatedSaveMode", "dissociateAction", "(Lcom/example/graft/graft/DissociateAction;)Lcom/example/graft/graft/DissociateAction;"⟩ : MethodName) prog_1_method_6_code 2 (some (.object "com/example/graft/graft/DissociateAction")) :: ws) ({ frames := 0, cells := 0, slots := 0, locals := 0 } : Room)) (fun a U => a = #[(.ref a1), (.ref a2)] ∧ Z.Warmed39 U.vm ∧ U.heap = h0) (fun _ _ _ _ _ => True) (fun _ U o U' => ∃ v L, o = .returned v ∧ own_Q (some (.ref (if f_deletesLeftOut = (0 : Int32) then a2 else w_DELETE))) h0 n0 v U'.heap L ∧ FrameEnd U o U' L ({ frames := 0, cells := 0, slots := 0, locals := 0 } : Room).cells ({ frames := 0, cells := 0, slots := 0, locals := 0 } : Room).slots) := by
  refine MetFree.of_bodySF (plainFor_of_name pn_0) hisR ?_
  intro p e s m args below meth c s₁ Bd hml0 hP hK0
  obtain ⟨rfl, hZ, hh⟩ := hP
  have hx := Bd.exec
  have hby := Bd.bytes
  have hml : c.maxLocals = 2 := hml0
  have hown : s.vm.findClass "com/example/graft/graft/AssociatedSaveMode" = some m.cls := findClass_of_methodNamed Bd.named
  have hnm := (name_of_methodNamed Bd.named Bd.method).1
  have X0 : Stand p l e ({ frames := 0, cells := 0, slots := 0, locals := 0 } : Room) s m #[(.ref a1), (.ref a2)] below meth c s₁ [] 0 0 := Stand.of_body Bd
  have e0 : s₁.heap = h0 := by rw [← hh, Bd.state]; rfl
  have N0 := Fr.nil n0
  have pre0 : ∀ t, Steps p.tables e below (s₁.setTop (mkF m 0 #[.val (.ref a1), .val (.ref a2)] [])) t → Steps p.tables e below (s₁.setTop (entryFrame m #[(.ref a1), (.ref a2)] 2)) t := fun t k => castTop (ef_disR m a1 a2) k
  have hK' := hK
  obtain ⟨S_w_REPLACE, E_w_REPLACE, S_w_MERGE, E_w_MERGE, S_w_APPEND, E_w_APPEND, S_w_APPEND_IF_ABSENT, E_w_APPEND_IF_ABSENT, S_w_UPDATE, E_w_UPDATE, S_w_VIOLENTLY_REPLACE, E_w_VIOLENTLY_REPLACE, S_w_NONE, E_w_NONE, S_w_LAX, E_w_LAX, S_w_CHECK, E_w_CHECK, S_w_SET_NULL, E_w_SET_NULL, S_w_DELETE, E_w_DELETE, F_deletesLeftOut_w_REPLACE, F_ordinal_w_REPLACE, F_ordinal_w_VIOLENTLY_REPLACE, F_deletesLeftOut_w_APPEND, F_ordinal_w_APPEND, F_deletesLeftOut_w_UPDATE, F_ordinal_w_UPDATE, F_deletesLeftOut_w_MERGE, F_ordinal_w_MERGE, F_deletesLeftOut_w_VIOLENTLY_REPLACE, F_deletesLeftOut_w_APPEND_IF_ABSENT, F_ordinal_w_APPEND_IF_ABSENT⟩ := hK'
  obtain ⟨T1, X1, e1, st1⟩ := getF X0 hx hZ hown (host := "") (Or.inl (hw _ (ow 36 rfl))) Via.refl e0 F_deletesLeftOut (g := (mkF m 1 #[.val (.ref a1), .val (.ref a2)] [(.ref a1)])) rfl rfl (hb hby d_prog_1_method_6_1)
  have pre3 : ∀ t, Steps p.tables e below (T1.setTop (mkF m 4 #[.val (.ref a1), .val (.ref a2)] [(.int f_deletesLeftOut)])) t → Steps p.tables e below (s₁.setTop (entryFrame m #[(.ref a1), (.ref a2)] 2)) t := fun t k => pre0 t (by
    show Steps p.tables e below (s₁.setTop (mkF m 0 #[.val (.ref a1), .val (.ref a2)] [])) _
    refine XS.aloadN X0.here hx rfl (hb hby d_prog_1_method_6_0) rfl rfl ?_
    show Steps p.tables e below (s₁.setTop (mkF m 1 #[.val (.ref a1), .val (.ref a2)] [(.ref a1)])) _
    refine st1 _ ?_
    exact k)
  by_cases hc4_2 : f_deletesLeftOut = (0 : Int32)
  · have pre4 : ∀ t, Steps p.tables e below (T1.setTop (mkF m 14 #[.val (.ref a1), .val (.ref a2)] [(.ref a2)])) t → Steps p.tables e below (s₁.setTop (entryFrame m #[(.ref a1), (.ref a2)] 2)) t := fun t k => pre3 t (by
      show Steps p.tables e below (T1.setTop (mkF m 4 #[.val (.ref a1), .val (.ref a2)] [(.int f_deletesLeftOut)])) _
      refine XS.ifYes X1.here hx rfl (pc0 := 4) (pc' := 13) rfl (hb hby d_prog_1_method_6_4) rfl ((if0 _ _).trans (teq hc4_2).1) (by decide) (by decide) ?_
      show Steps p.tables e below (T1.setTop (mkF m 13 #[.val (.ref a1), .val (.ref a2)] [])) _
      refine XS.aloadN X1.here hx rfl (hb hby d_prog_1_method_6_13) rfl rfl ?_
      exact k)
    obtain ⟨fs, hr, hrun, hended, hW, hsame⟩ := X1.leave (v := some (.ref a2)) (fun h => by rw [Bd.returns] at h; cases h)
    refine ⟨_, _, pre4 _ ?_, hrun, hended, _, _, rfl, ?_, ⟨_, rfl⟩, hW, hsame.mono (by decide) (by decide)⟩
    · show Steps p.tables e below (T1.setTop (mkF m 14 #[.val (.ref a1), .val (.ref a2)] [(.ref a2)])) _
      exact retOut X1 hx Bd.returns rfl (Or.inr (Or.inr (Or.inr (Or.inr ⟨rfl, rfl, rfl⟩)))) (hb hby d_prog_1_method_6_14) hr
    · exact ⟨congrArg (fun z => some (Value.ref z)) (Eq.symm (if_pos hc4_2)), N0, e1⟩
  · obtain ⟨T5, X5, e5, st5⟩ := getS2 X1 hx hZ hown (host := "") (Or.inl (hw _ (ow 38 rfl))) Via.refl e1 S_w_DELETE (g := (mkF m 7 #[.val (.ref a1), .val (.ref a2)] [])) rfl (hb hby d_prog_1_method_6_7)
    have pre6 : ∀ t, Steps p.tables e below (T5.setTop (mkF m 14 #[.val (.ref a1), .val (.ref a2)] [(.ref w_DELETE)])) t → Steps p.tables e below (s₁.setTop (entryFrame m #[(.ref a1), (.ref a2)] 2)) t := fun t k => pre3 t (by
      show Steps p.tables e below (T1.setTop (mkF m 4 #[.val (.ref a1), .val (.ref a2)] [(.int f_deletesLeftOut)])) _
      refine XS.ifNo X1.here hx rfl (hb hby d_prog_1_method_6_4) rfl ((if0 _ _).trans (feq hc4_2).1) ?_
      show Steps p.tables e below (T1.setTop (mkF m 7 #[.val (.ref a1), .val (.ref a2)] [])) _
      refine st5 _ ?_
      show Steps p.tables e below (T5.setTop (mkF m 10 #[.val (.ref a1), .val (.ref a2)] [(.ref w_DELETE)])) _
      refine XS.goto X5.here hx rfl (pc0 := 10) (pc' := 14) rfl (hb hby d_prog_1_method_6_10) (by decide) (by decide) ?_
      exact k)
    obtain ⟨fs, hr, hrun, hended, hW, hsame⟩ := X5.leave (v := some (.ref w_DELETE)) (fun h => by rw [Bd.returns] at h; cases h)
    refine ⟨_, _, pre6 _ ?_, hrun, hended, _, _, rfl, ?_, ⟨_, rfl⟩, hW, hsame.mono (by decide) (by decide)⟩
    · show Steps p.tables e below (T5.setTop (mkF m 14 #[.val (.ref a1), .val (.ref a2)] [(.ref w_DELETE)])) _
      exact retOut X5 hx Bd.returns rfl (Or.inr (Or.inr (Or.inr (Or.inr ⟨rfl, rfl, rfl⟩)))) (hb hby d_prog_1_method_6_14) hr
    · exact ⟨congrArg (fun z => some (Value.ref z)) (Eq.symm (if_neg hc4_2)), N0, e5⟩
theorem ef_disN (m : MethodId) (x0 : Addr) : entryFrame m #[(.ref x0), .null] 2 = mkF m 0 #[.val (.ref x0), .val .null] [] := by first | (simp [entryFrame, mkF, argsToLocals, Value.category]; done) | rfl
set_option maxRecDepth 65536 in
set_option maxHeartbeats 40000000 in
theorem rm_disN (l : Launch) (Z : State) (a0 : Array Value) (hw : ∀ d ∈ tables_1, d.before a0 Z = true) (ws : List Jvm.Cond) (a1 : Addr) (f_deletesLeftOut : Int32) (h0 : Heap) (n0 : Nat) (w_REPLACE w_MERGE w_APPEND w_APPEND_IF_ABSENT w_UPDATE w_VIOLENTLY_REPLACE w_NONE w_LAX w_CHECK w_SET_NULL w_DELETE : Addr) (hK : own_K Z h0 w_REPLACE w_MERGE w_APPEND w_APPEND_IF_ABSENT w_UPDATE w_VIOLENTLY_REPLACE w_NONE w_LAX w_CHECK w_SET_NULL w_DELETE) (F_deletesLeftOut : Fld Z h0 a1 "com/example/graft/graft/AssociatedSaveMode" "deletesLeftOut" "Z" (.int f_deletesLeftOut)) :
    MetFree l (⟨"com/example/graft/graft/AssociatedSaveMode", "dissociateAction", "(Lcom/example/graft/graft/DissociateAction;)Lcom/example/graft/graft/DissociateAction;"⟩ : MethodName) (head1 (Jvm.Cond.code (⟨"com/example/graft/graft/AssociatedSaveMode", "dissociateAction", "(Lcom/example/graft/graft/DissociateAction;)Lcom/example/graft/graft/DissociateAction;"⟩ : MethodName) prog_1_method_6_code 2 (some (.object "com/example/graft/graft/DissociateAction")) :: ws) ({ frames := 0, cells := 0, slots := 0, locals := 0 } : Room)) (fun a U => a = #[(.ref a1), .null] ∧ Z.Warmed39 U.vm ∧ U.heap = h0) (fun _ _ _ _ _ => True) (fun _ U o U' => ∃ v L, o = .returned v ∧ own_Q (some (if f_deletesLeftOut = (0 : Int32) then .null else (.ref w_DELETE))) h0 n0 v U'.heap L ∧ FrameEnd U o U' L ({ frames := 0, cells := 0, slots := 0, locals := 0 } : Room).cells ({ frames := 0, cells := 0, slots := 0, locals := 0 } : Room).slots) := by
  refine MetFree.of_bodySF (plainFor_of_name pn_0) hisR ?_
  intro p e s m args below meth c s₁ Bd hml0 hP hK0
  obtain ⟨rfl, hZ, hh⟩ := hP
  have hx := Bd.exec
  have hby := Bd.bytes
  have hml : c.maxLocals = 2 := hml0
  have hown : s.vm.findClass "com/example/graft/graft/AssociatedSaveMode" = some m.cls := findClass_of_methodNamed Bd.named
  have hnm := (name_of_methodNamed Bd.named Bd.method).1
  have X0 : Stand p l e ({ frames := 0, cells := 0, slots := 0, locals := 0 } : Room) s m #[(.ref a1), .null] below meth c s₁ [] 0 0 := Stand.of_body Bd
  have e0 : s₁.heap = h0 := by rw [← hh, Bd.state]; rfl
  have N0 := Fr.nil n0
  have pre0 : ∀ t, Steps p.tables e below (s₁.setTop (mkF m 0 #[.val (.ref a1), .val .null] [])) t → Steps p.tables e below (s₁.setTop (entryFrame m #[(.ref a1), .null] 2)) t := fun t k => castTop (ef_disN m a1) k
  have hK' := hK
  obtain ⟨S_w_REPLACE, E_w_REPLACE, S_w_MERGE, E_w_MERGE, S_w_APPEND, E_w_APPEND, S_w_APPEND_IF_ABSENT, E_w_APPEND_IF_ABSENT, S_w_UPDATE, E_w_UPDATE, S_w_VIOLENTLY_REPLACE, E_w_VIOLENTLY_REPLACE, S_w_NONE, E_w_NONE, S_w_LAX, E_w_LAX, S_w_CHECK, E_w_CHECK, S_w_SET_NULL, E_w_SET_NULL, S_w_DELETE, E_w_DELETE, F_deletesLeftOut_w_REPLACE, F_ordinal_w_REPLACE, F_ordinal_w_VIOLENTLY_REPLACE, F_deletesLeftOut_w_APPEND, F_ordinal_w_APPEND, F_deletesLeftOut_w_UPDATE, F_ordinal_w_UPDATE, F_deletesLeftOut_w_MERGE, F_ordinal_w_MERGE, F_deletesLeftOut_w_VIOLENTLY_REPLACE, F_deletesLeftOut_w_APPEND_IF_ABSENT, F_ordinal_w_APPEND_IF_ABSENT⟩ := hK'
  obtain ⟨T1, X1, e1, st1⟩ := getF X0 hx hZ hown (host := "") (Or.inl (hw _ (ow 36 rfl))) Via.refl e0 F_deletesLeftOut (g := (mkF m 1 #[.val (.ref a1), .val .null] [(.ref a1)])) rfl rfl (hb hby d_prog_1_method_6_1)
  have pre3 : ∀ t, Steps p.tables e below (T1.setTop (mkF m 4 #[.val (.ref a1), .val .null] [(.int f_deletesLeftOut)])) t → Steps p.tables e below (s₁.setTop (entryFrame m #[(.ref a1), .null] 2)) t := fun t k => pre0 t (by
    show Steps p.tables e below (s₁.setTop (mkF m 0 #[.val (.ref a1), .val .null] [])) _
    refine XS.aloadN X0.here hx rfl (hb hby d_prog_1_method_6_0) rfl rfl ?_
    show Steps p.tables e below (s₁.setTop (mkF m 1 #[.val (.ref a1), .val .null] [(.ref a1)])) _
    refine st1 _ ?_
    exact k)
  by_cases hc4_2 : f_deletesLeftOut = (0 : Int32)
  · have pre4 : ∀ t, Steps p.tables e below (T1.setTop (mkF m 14 #[.val (.ref a1), .val .null] [.null])) t → Steps p.tables e below (s₁.setTop (entryFrame m #[(.ref a1), .null] 2)) t := fun t k => pre3 t (by
      show Steps p.tables e below (T1.setTop (mkF m 4 #[.val (.ref a1), .val .null] [(.int f_deletesLeftOut)])) _
      refine XS.ifYes X1.here hx rfl (pc0 := 4) (pc' := 13) rfl (hb hby d_prog_1_method_6_4) rfl ((if0 _ _).trans (teq hc4_2).1) (by decide) (by decide) ?_
      show Steps p.tables e below (T1.setTop (mkF m 13 #[.val (.ref a1), .val .null] [])) _
      refine XS.aloadN X1.here hx rfl (hb hby d_prog_1_method_6_13) rfl rfl ?_
      exact k)
    obtain ⟨fs, hr, hrun, hended, hW, hsame⟩ := X1.leave (v := some .null) (fun h => by rw [Bd.returns] at h; cases h)
    refine ⟨_, _, pre4 _ ?_, hrun, hended, _, _, rfl, ?_, ⟨_, rfl⟩, hW, hsame.mono (by decide) (by decide)⟩
    · show Steps p.tables e below (T1.setTop (mkF m 14 #[.val (.ref a1), .val .null] [.null])) _
      exact retOut X1 hx Bd.returns rfl (Or.inr (Or.inr (Or.inr (Or.inr ⟨rfl, rfl, rfl⟩)))) (hb hby d_prog_1_method_6_14) hr
    · exact ⟨congrArg some (Eq.symm (if_pos hc4_2)), N0, e1⟩
  · obtain ⟨T5, X5, e5, st5⟩ := getS2 X1 hx hZ hown (host := "") (Or.inl (hw _ (ow 38 rfl))) Via.refl e1 S_w_DELETE (g := (mkF m 7 #[.val (.ref a1), .val .null] [])) rfl (hb hby d_prog_1_method_6_7)
    have pre6 : ∀ t, Steps p.tables e below (T5.setTop (mkF m 14 #[.val (.ref a1), .val .null] [(.ref w_DELETE)])) t → Steps p.tables e below (s₁.setTop (entryFrame m #[(.ref a1), .null] 2)) t := fun t k => pre3 t (by
      show Steps p.tables e below (T1.setTop (mkF m 4 #[.val (.ref a1), .val .null] [(.int f_deletesLeftOut)])) _
      refine XS.ifNo X1.here hx rfl (hb hby d_prog_1_method_6_4) rfl ((if0 _ _).trans (feq hc4_2).1) ?_
      show Steps p.tables e below (T1.setTop (mkF m 7 #[.val (.ref a1), .val .null] [])) _
      refine st5 _ ?_
      show Steps p.tables e below (T5.setTop (mkF m 10 #[.val (.ref a1), .val .null] [(.ref w_DELETE)])) _
      refine XS.goto X5.here hx rfl (pc0 := 10) (pc' := 14) rfl (hb hby d_prog_1_method_6_10) (by decide) (by decide) ?_
      exact k)
    obtain ⟨fs, hr, hrun, hended, hW, hsame⟩ := X5.leave (v := some (.ref w_DELETE)) (fun h => by rw [Bd.returns] at h; cases h)
    refine ⟨_, _, pre6 _ ?_, hrun, hended, _, _, rfl, ?_, ⟨_, rfl⟩, hW, hsame.mono (by decide) (by decide)⟩
    · show Steps p.tables e below (T5.setTop (mkF m 14 #[.val (.ref a1), .val .null] [(.ref w_DELETE)])) _
      exact retOut X5 hx Bd.returns rfl (Or.inr (Or.inr (Or.inr (Or.inr ⟨rfl, rfl, rfl⟩)))) (hb hby d_prog_1_method_6_14) hr
    · exact ⟨congrArg some (Eq.symm (if_neg hc4_2)), N0, e5⟩
theorem pd_0 : parseMethodDescriptor "(Lcom/example/graft/graft/DissociateAction;)Lcom/example/graft/graft/DissociateAction;" = some ⟨[(.object "com/example/graft/graft/DissociateAction")], some (.object "com/example/graft/graft/DissociateAction")⟩ := by decide +kernel
theorem pn_1 : plainName "com/example/graft/graft/AssociatedSaveModeDissociateActionPinLaw" = true := by first | (simp [plainName, overriddenIn]; done) | decide +kernel
theorem ef_law_0_0 (m : MethodId) (x0 : Int32) (x1 : Int32) : entryFrame m #[(.int x0), (.int x1)] maxLocals = mkF m 0 #[.val (.int x0), .val (.int x1), .unset, .unset, .unset, .unset, .unset, .unset, .unset, .unset] [] := by first | (simp [entryFrame, mkF, argsToLocals, Value.category, maxLocals]; done) | rfl
set_option maxRecDepth 65536 in
set_option maxHeartbeats 40000000 in
theorem rm_law_0_0 (l : Launch) (Z : State) (a0 : Array Value) (hw : ∀ d ∈ tables_1, d.before a0 Z = true) (ws : List Jvm.Cond) (p1 : Int32) (p2 : Int32) (h0 : Heap) (n0 : Nat) (Z0 : n0 ≤ h0.size) (w_REPLACE w_MERGE w_APPEND w_APPEND_IF_ABSENT w_UPDATE w_VIOLENTLY_REPLACE w_NONE w_LAX w_CHECK w_SET_NULL w_DELETE : Addr) (hK : own_K Z h0 w_REPLACE w_MERGE w_APPEND w_APPEND_IF_ABSENT w_UPDATE w_VIOLENTLY_REPLACE w_NONE w_LAX w_CHECK w_SET_NULL w_DELETE) (ii jj : Int32) (A : Addr) (a2 : Addr) (hi : ((p1 &&& (2147483647 : Int32)) % (6 : Int32)) = ii) (hj : ((p2 &&& (2147483647 : Int32)) % (6 : Int32)) = jj) (hi0 : ¬ ii < 0) (hj0 : ¬ jj < 0) (hA : [Value.ref w_REPLACE, Value.ref w_MERGE, Value.ref w_APPEND, Value.ref w_APPEND_IF_ABSENT, Value.ref w_UPDATE, Value.ref w_VIOLENTLY_REPLACE][ii.toNatClampNeg]? = some (Value.ref A)) (hB : [Value.ref w_NONE, Value.ref w_LAX, Value.ref w_CHECK, Value.ref w_SET_NULL, Value.ref w_DELETE, Value.null][jj.toNatClampNeg]? = some (Value.ref a2)) (E_A : Exa Z h0 A "com/example/graft/graft/AssociatedSaveMode") (F_A : Fld Z h0 A "com/example/graft/graft/AssociatedSaveMode" "deletesLeftOut" "Z" (.int (0 : Int32))) (hne : ¬ A = w_VIOLENTLY_REPLACE) :
    MetFree l x (head1 (Jvm.Cond.code x code maxLocals ret :: ws) room_1) (fun a U => a = #[(.int p1), (.int p2)] ∧ Z.Warmed39 U.vm ∧ U.heap = h0) (fun _ _ _ _ _ => True) (fun _ U o U' => ∃ v L, o = .returned v ∧ own_QH (some (.int (1 : Int32))) n0 v U'.heap L ∧ FrameEnd U o U' L room_1.cells room_1.slots) := by
  refine MetFree.of_bodySF (plainFor_of_name pn_1) hisR ?_
  intro p e s m args below meth c s₁ Bd hml0 hP hK0
  obtain ⟨rfl, hZ, hh⟩ := hP
  have hx := Bd.exec
  have hby := Bd.bytes
  have hml : c.maxLocals = 10 := hml0
  have hown : s.vm.findClass "com/example/graft/graft/AssociatedSaveModeDissociateActionPinLaw" = some m.cls := findClass_of_methodNamed Bd.named
  have hnm := (name_of_methodNamed Bd.named Bd.method).1
  have X0 : Stand p l e room_1 s m #[(.int p1), (.int p2)] below meth c s₁ [] 0 0 := Stand.of_body Bd
  have e0 : s₁.heap = h0 := by rw [← hh, Bd.state]; rfl
  have N0 := Fr.nil n0
  have pre0 : ∀ t, Steps p.tables e below (s₁.setTop (mkF m 0 #[.val (.int p1), .val (.int p2), .unset, .unset, .unset, .unset, .unset, .unset, .unset, .unset] [])) t → Steps p.tables e below (s₁.setTop (entryFrame m #[(.int p1), (.int p2)] maxLocals)) t := fun t k => castTop (ef_law_0_0 m p1 p2) k
  have hK' := hK
  obtain ⟨S_w_REPLACE, E_w_REPLACE, S_w_MERGE, E_w_MERGE, S_w_APPEND, E_w_APPEND, S_w_APPEND_IF_ABSENT, E_w_APPEND_IF_ABSENT, S_w_UPDATE, E_w_UPDATE, S_w_VIOLENTLY_REPLACE, E_w_VIOLENTLY_REPLACE, S_w_NONE, E_w_NONE, S_w_LAX, E_w_LAX, S_w_CHECK, E_w_CHECK, S_w_SET_NULL, E_w_SET_NULL, S_w_DELETE, E_w_DELETE, F_deletesLeftOut_w_REPLACE, F_ordinal_w_REPLACE, F_ordinal_w_VIOLENTLY_REPLACE, F_deletesLeftOut_w_APPEND, F_ordinal_w_APPEND, F_deletesLeftOut_w_UPDATE, F_ordinal_w_UPDATE, F_deletesLeftOut_w_MERGE, F_ordinal_w_MERGE, F_deletesLeftOut_w_VIOLENTLY_REPLACE, F_deletesLeftOut_w_APPEND_IF_ABSENT, F_ordinal_w_APPEND_IF_ABSENT⟩ := hK'
  obtain ⟨T1, h1, k1, X1, e1, Eq1, A1, O1, st1⟩ := newR X0 hx hZ hown (hw _ (ow 0 rfl)) (hw _ (ow 1 rfl)) e0 (g := (mkF m 2 #[.val (.int p1), .val (.int p2), .unset, .unset, .unset, .unset, .unset, .unset, .unset, .unset] [(.int (6 : Int32))])) rfl (hb hby at_2) rfl (by decide) (cap := 6) (by decide) (by decide) (by decide) (by decide)
  obtain ⟨b1, gb1⟩ : ∃ z, z = h0.size := ⟨_, rfl⟩
  rw [← gb1] at A1 st1
  have B1 : own_ArrK Z h1 b1 k1 (.object "com/example/graft/graft/AssociatedSaveMode") [.null, .null, .null, .null, .null, .null] := ⟨_, A1, rfl, rfl⟩
  have sz_b1 : h0.size ≤ b1 := Nat.le_of_eq gb1.symm
  have g_b1 : n0 ≤ b1 := Nat.le_trans Z0 sz_b1
  have EX1 : Ext h0 h1 := Eq1
  obtain ⟨T2, X2, e2, st2⟩ := getS2 X1 hx hZ hown (host := "") (Or.inl (hw _ (ow 2 rfl))) Via.refl e1 (S_w_REPLACE.ext EX1) (g := (mkF m 7 #[.val (.int p1), .val (.int p2), .unset, .unset, .unset, .unset, .unset, .unset, .unset, .unset] [(.int (0 : Int32)), (.ref b1), (.ref b1)])) rfl (hb hby at_7)
  obtain ⟨cl3, Ar3, qk3, hs3⟩ := id B1
  obtain ⟨T3, h3, X3, e3, W3, st3⟩ := stR X2 hx hZ e2 Ar3 (j := (0 : Int32)) (own_inb 6 hs3 rfl (by decide) (by decide)) rfl (Sto.ofV Ar3 qk3 O1 (Ins.self (E_w_REPLACE.ext EX1))) (g := (mkF m 10 #[.val (.int p1), .val (.int p2), .unset, .unset, .unset, .unset, .unset, .unset, .unset, .unset] [(.ref w_REPLACE), (.int (0 : Int32)), (.ref b1), (.ref b1)])) rfl rfl (hb hby at_10)
  have B3 : own_ArrK Z h3 b1 k1 (.object "com/example/graft/graft/AssociatedSaveMode") [(.ref w_REPLACE), .null, .null, .null, .null, .null] := own_set W3 Ar3 qk3 hs3
  have N3 := Fr.snoc X3 N0 g_b1
  have EX3 : Ext h0 h3 := own_ext_wr EX1 W3 sz_b1
  obtain ⟨T4, X4, e4, st4⟩ := getS2 X3 hx hZ hown (host := "") (Or.inl (hw _ (ow 6 rfl))) Via.refl e3 (S_w_MERGE.ext EX3) (g := (mkF m 13 #[.val (.int p1), .val (.int p2), .unset, .unset, .unset, .unset, .unset, .unset, .unset, .unset] [(.int (1 : Int32)), (.ref b1), (.ref b1)])) rfl (hb hby at_13)
  obtain ⟨cl5, Ar5, qk5, hs5⟩ := id B3
  obtain ⟨T5, h5, X5, e5, W5, st5⟩ := stR X4 hx hZ e4 Ar5 (j := (1 : Int32)) (own_inb 6 hs5 rfl (by decide) (by decide)) rfl (Sto.ofV Ar5 qk5 O1 (Ins.self (E_w_MERGE.ext EX3))) (g := (mkF m 16 #[.val (.int p1), .val (.int p2), .unset, .unset, .unset, .unset, .unset, .unset, .unset, .unset] [(.ref w_MERGE), (.int (1 : Int32)), (.ref b1), (.ref b1)])) rfl rfl (hb hby at_16)
  have B5 : own_ArrK Z h5 b1 k1 (.object "com/example/graft/graft/AssociatedSaveMode") [(.ref w_REPLACE), (.ref w_MERGE), .null, .null, .null, .null] := own_set W5 Ar5 qk5 hs5
  have N5 := Fr.snoc X5 N3 g_b1
  have EX5 : Ext h0 h5 := own_ext_wr EX3 W5 sz_b1
  obtain ⟨T6, X6, e6, st6⟩ := getS2 X5 hx hZ hown (host := "") (Or.inl (hw _ (ow 8 rfl))) Via.refl e5 (S_w_APPEND.ext EX5) (g := (mkF m 19 #[.val (.int p1), .val (.int p2), .unset, .unset, .unset, .unset, .unset, .unset, .unset, .unset] [(.int (2 : Int32)), (.ref b1), (.ref b1)])) rfl (hb hby at_19)
  obtain ⟨cl7, Ar7, qk7, hs7⟩ := id B5
  obtain ⟨T7, h7, X7, e7, W7, st7⟩ := stR X6 hx hZ e6 Ar7 (j := (2 : Int32)) (own_inb 6 hs7 rfl (by decide) (by decide)) rfl (Sto.ofV Ar7 qk7 O1 (Ins.self (E_w_APPEND.ext EX5))) (g := (mkF m 22 #[.val (.int p1), .val (.int p2), .unset, .unset, .unset, .unset, .unset, .unset, .unset, .unset] [(.ref w_APPEND), (.int (2 : Int32)), (.ref b1), (.ref b1)])) rfl rfl (hb hby at_22)
  have B7 : own_ArrK Z h7 b1 k1 (.object "com/example/graft/graft/AssociatedSaveMode") [(.ref w_REPLACE), (.ref w_MERGE), (.ref w_APPEND), .null, .null, .null] := own_set W7 Ar7 qk7 hs7
  have N7 := Fr.snoc X7 N5 g_b1
  have EX7 : Ext h0 h7 := own_ext_wr EX5 W7 sz_b1
  obtain ⟨T8, X8, e8, st8⟩ := getS2 X7 hx hZ hown (host := "") (Or.inl (hw _ (ow 10 rfl))) Via.refl e7 (S_w_APPEND_IF_ABSENT.ext EX7) (g := (mkF m 25 #[.val (.int p1), .val (.int p2), .unset, .unset, .unset, .unset, .unset, .unset, .unset, .unset] [(.int (3 : Int32)), (.ref b1), (.ref b1)])) rfl (hb hby at_25)
  obtain ⟨cl9, Ar9, qk9, hs9⟩ := id B7
  obtain ⟨T9, h9, X9, e9, W9, st9⟩ := stR X8 hx hZ e8 Ar9 (j := (3 : Int32)) (own_inb 6 hs9 rfl (by decide) (by decide)) rfl (Sto.ofV Ar9 qk9 O1 (Ins.self (E_w_APPEND_IF_ABSENT.ext EX7))) (g := (mkF m 28 #[.val (.int p1), .val (.int p2), .unset, .unset, .unset, .unset, .unset, .unset, .unset, .unset] [(.ref w_APPEND_IF_ABSENT), (.int (3 : Int32)), (.ref b1), (.ref b1)])) rfl rfl (hb hby at_28)
  have B9 : own_ArrK Z h9 b1 k1 (.object "com/example/graft/graft/AssociatedSaveMode") [(.ref w_REPLACE), (.ref w_MERGE), (.ref w_APPEND), (.ref w_APPEND_IF_ABSENT), .null, .null] := own_set W9 Ar9 qk9 hs9
  have N9 := Fr.snoc X9 N7 g_b1
  have EX9 : Ext h0 h9 := own_ext_wr EX7 W9 sz_b1
  obtain ⟨T10, X10, e10, st10⟩ := getS2 X9 hx hZ hown (host := "") (Or.inl (hw _ (ow 12 rfl))) Via.refl e9 (S_w_UPDATE.ext EX9) (g := (mkF m 31 #[.val (.int p1), .val (.int p2), .unset, .unset, .unset, .unset, .unset, .unset, .unset, .unset] [(.int (4 : Int32)), (.ref b1), (.ref b1)])) rfl (hb hby at_31)
  obtain ⟨cl11, Ar11, qk11, hs11⟩ := id B9
  obtain ⟨T11, h11, X11, e11, W11, st11⟩ := stR X10 hx hZ e10 Ar11 (j := (4 : Int32)) (own_inb 6 hs11 rfl (by decide) (by decide)) rfl (Sto.ofV Ar11 qk11 O1 (Ins.self (E_w_UPDATE.ext EX9))) (g := (mkF m 34 #[.val (.int p1), .val (.int p2), .unset, .unset, .unset, .unset, .unset, .unset, .unset, .unset] [(.ref w_UPDATE), (.int (4 : Int32)), (.ref b1), (.ref b1)])) rfl rfl (hb hby at_34)
  have B11 : own_ArrK Z h11 b1 k1 (.object "com/example/graft/graft/AssociatedSaveMode") [(.ref w_REPLACE), (.ref w_MERGE), (.ref w_APPEND), (.ref w_APPEND_IF_ABSENT), (.ref w_UPDATE), .null] := own_set W11 Ar11 qk11 hs11
  have N11 := Fr.snoc X11 N9 g_b1
  have EX11 : Ext h0 h11 := own_ext_wr EX9 W11 sz_b1
  obtain ⟨T12, X12, e12, st12⟩ := getS2 X11 hx hZ hown (host := "") (Or.inl (hw _ (ow 14 rfl))) Via.refl e11 (S_w_VIOLENTLY_REPLACE.ext EX11) (g := (mkF m 37 #[.val (.int p1), .val (.int p2), .unset, .unset, .unset, .unset, .unset, .unset, .unset, .unset] [(.int (5 : Int32)), (.ref b1), (.ref b1)])) rfl (hb hby at_37)
  obtain ⟨cl13, Ar13, qk13, hs13⟩ := id B11
  obtain ⟨T13, h13, X13, e13, W13, st13⟩ := stR X12 hx hZ e12 Ar13 (j := (5 : Int32)) (own_inb 6 hs13 rfl (by decide) (by decide)) rfl (Sto.ofV Ar13 qk13 O1 (Ins.self (E_w_VIOLENTLY_REPLACE.ext EX11))) (g := (mkF m 40 #[.val (.int p1), .val (.int p2), .unset, .unset, .unset, .unset, .unset, .unset, .unset, .unset] [(.ref w_VIOLENTLY_REPLACE), (.int (5 : Int32)), (.ref b1), (.ref b1)])) rfl rfl (hb hby at_40)
  have B13 : own_ArrK Z h13 b1 k1 (.object "com/example/graft/graft/AssociatedSaveMode") [(.ref w_REPLACE), (.ref w_MERGE), (.ref w_APPEND), (.ref w_APPEND_IF_ABSENT), (.ref w_UPDATE), (.ref w_VIOLENTLY_REPLACE)] := own_set W13 Ar13 qk13 hs13
  have N13 := Fr.snoc X13 N11 g_b1
  have EX13 : Ext h0 h13 := own_ext_wr EX11 W13 sz_b1
  obtain ⟨T14, h14, k14, X14, e14, Eq14, A14, O14, st14⟩ := newR X13 hx hZ hown (hw _ (ow 16 rfl)) (hw _ (ow 17 rfl)) e13 (g := (mkF m 44 #[.val (.int p1), .val (.int p2), .val (.ref b1), .unset, .unset, .unset, .unset, .unset, .unset, .unset] [(.int (6 : Int32))])) rfl (hb hby at_44) rfl (by decide) (cap := 6) (by decide) (by decide) (by decide) (by decide)
  obtain ⟨b14, gb14⟩ : ∃ z, z = h13.size := ⟨_, rfl⟩
  rw [← gb14] at A14 st14
  have B14 : own_ArrK Z h14 b14 k14 (.object "com/example/graft/graft/DissociateAction") [.null, .null, .null, .null, .null, .null] := ⟨_, A14, rfl, rfl⟩
  have sz_b14 : h0.size ≤ b14 := Nat.le_trans EX13.1 (Nat.le_of_eq gb14.symm)
  have g_b14 : n0 ≤ b14 := Nat.le_trans Z0 sz_b14
  have ne_b1_b14 : b1 ≠ b14 := Nat.ne_of_lt (Nat.lt_of_lt_of_le B13.lt (Nat.le_of_eq gb14.symm))
  have B14_b1 := B13.ext Eq14
  have EX14 : Ext h0 h14 := own_ext_trans EX13 Eq14
  obtain ⟨T15, X15, e15, st15⟩ := getS2 X14 hx hZ hown (host := "") (Or.inl (hw _ (ow 18 rfl))) Via.refl e14 (S_w_NONE.ext EX14) (g := (mkF m 49 #[.val (.int p1), .val (.int p2), .val (.ref b1), .unset, .unset, .unset, .unset, .unset, .unset, .unset] [(.int (0 : Int32)), (.ref b14), (.ref b14)])) rfl (hb hby at_49)
  obtain ⟨cl16, Ar16, qk16, hs16⟩ := id B14
  obtain ⟨T16, h16, X16, e16, W16, st16⟩ := stR X15 hx hZ e15 Ar16 (j := (0 : Int32)) (own_inb 6 hs16 rfl (by decide) (by decide)) rfl (Sto.ofV Ar16 qk16 O14 (Ins.self (E_w_NONE.ext EX14))) (g := (mkF m 52 #[.val (.int p1), .val (.int p2), .val (.ref b1), .unset, .unset, .unset, .unset, .unset, .unset, .unset] [(.ref w_NONE), (.int (0 : Int32)), (.ref b14), (.ref b14)])) rfl rfl (hb hby at_52)
  have B16 : own_ArrK Z h16 b14 k14 (.object "com/example/graft/graft/DissociateAction") [(.ref w_NONE), .null, .null, .null, .null, .null] := own_set W16 Ar16 qk16 hs16
  have N16 := Fr.snoc X16 N13 g_b14
  have EX16 : Ext h0 h16 := own_ext_wr EX14 W16 sz_b14
  have B16_b1 := B14_b1.other W16 ne_b1_b14
  obtain ⟨T17, X17, e17, st17⟩ := getS2 X16 hx hZ hown (host := "") (Or.inl (hw _ (ow 22 rfl))) Via.refl e16 (S_w_LAX.ext EX16) (g := (mkF m 55 #[.val (.int p1), .val (.int p2), .val (.ref b1), .unset, .unset, .unset, .unset, .unset, .unset, .unset] [(.int (1 : Int32)), (.ref b14), (.ref b14)])) rfl (hb hby at_55)
  obtain ⟨cl18, Ar18, qk18, hs18⟩ := id B16
  obtain ⟨T18, h18, X18, e18, W18, st18⟩ := stR X17 hx hZ e17 Ar18 (j := (1 : Int32)) (own_inb 6 hs18 rfl (by decide) (by decide)) rfl (Sto.ofV Ar18 qk18 O14 (Ins.self (E_w_LAX.ext EX16))) (g := (mkF m 58 #[.val (.int p1), .val (.int p2), .val (.ref b1), .unset, .unset, .unset, .unset, .unset, .unset, .unset] [(.ref w_LAX), (.int (1 : Int32)), (.ref b14), (.ref b14)])) rfl rfl (hb hby at_58)
  have B18 : own_ArrK Z h18 b14 k14 (.object "com/example/graft/graft/DissociateAction") [(.ref w_NONE), (.ref w_LAX), .null, .null, .null, .null] := own_set W18 Ar18 qk18 hs18
  have N18 := Fr.snoc X18 N16 g_b14
  have EX18 : Ext h0 h18 := own_ext_wr EX16 W18 sz_b14
  have B18_b1 := B16_b1.other W18 ne_b1_b14
  obtain ⟨T19, X19, e19, st19⟩ := getS2 X18 hx hZ hown (host := "") (Or.inl (hw _ (ow 24 rfl))) Via.refl e18 (S_w_CHECK.ext EX18) (g := (mkF m 61 #[.val (.int p1), .val (.int p2), .val (.ref b1), .unset, .unset, .unset, .unset, .unset, .unset, .unset] [(.int (2 : Int32)), (.ref b14), (.ref b14)])) rfl (hb hby at_61)
  obtain ⟨cl20, Ar20, qk20, hs20⟩ := id B18
  obtain ⟨T20, h20, X20, e20, W20, st20⟩ := stR X19 hx hZ e19 Ar20 (j := (2 : Int32)) (own_inb 6 hs20 rfl (by decide) (by decide)) rfl (Sto.ofV Ar20 qk20 O14 (Ins.self (E_w_CHECK.ext EX18))) (g := (mkF m 64 #[.val (.int p1), .val (.int p2), .val (.ref b1), .unset, .unset, .unset, .unset, .unset, .unset, .unset] [(.ref w_CHECK), (.int (2 : Int32)), (.ref b14), (.ref b14)])) rfl rfl (hb hby at_64)
  have B20 : own_ArrK Z h20 b14 k14 (.object "com/example/graft/graft/DissociateAction") [(.ref w_NONE), (.ref w_LAX), (.ref w_CHECK), .null, .null, .null] := own_set W20 Ar20 qk20 hs20
  have N20 := Fr.snoc X20 N18 g_b14
  have EX20 : Ext h0 h20 := own_ext_wr EX18 W20 sz_b14
  have B20_b1 := B18_b1.other W20 ne_b1_b14
  obtain ⟨T21, X21, e21, st21⟩ := getS2 X20 hx hZ hown (host := "") (Or.inl (hw _ (ow 26 rfl))) Via.refl e20 (S_w_SET_NULL.ext EX20) (g := (mkF m 67 #[.val (.int p1), .val (.int p2), .val (.ref b1), .unset, .unset, .unset, .unset, .unset, .unset, .unset] [(.int (3 : Int32)), (.ref b14), (.ref b14)])) rfl (hb hby at_67)
  obtain ⟨cl22, Ar22, qk22, hs22⟩ := id B20
  obtain ⟨T22, h22, X22, e22, W22, st22⟩ := stR X21 hx hZ e21 Ar22 (j := (3 : Int32)) (own_inb 6 hs22 rfl (by decide) (by decide)) rfl (Sto.ofV Ar22 qk22 O14 (Ins.self (E_w_SET_NULL.ext EX20))) (g := (mkF m 70 #[.val (.int p1), .val (.int p2), .val (.ref b1), .unset, .unset, .unset, .unset, .unset, .unset, .unset] [(.ref w_SET_NULL), (.int (3 : Int32)), (.ref b14), (.ref b14)])) rfl rfl (hb hby at_70)
  have B22 : own_ArrK Z h22 b14 k14 (.object "com/example/graft/graft/DissociateAction") [(.ref w_NONE), (.ref w_LAX), (.ref w_CHECK), (.ref w_SET_NULL), .null, .null] := own_set W22 Ar22 qk22 hs22
  have N22 := Fr.snoc X22 N20 g_b14
  have EX22 : Ext h0 h22 := own_ext_wr EX20 W22 sz_b14
  have B22_b1 := B20_b1.other W22 ne_b1_b14
  obtain ⟨T23, X23, e23, st23⟩ := getS2 X22 hx hZ hown (host := "") (Or.inl (hw _ (ow 28 rfl))) Via.refl e22 (S_w_DELETE.ext EX22) (g := (mkF m 73 #[.val (.int p1), .val (.int p2), .val (.ref b1), .unset, .unset, .unset, .unset, .unset, .unset, .unset] [(.int (4 : Int32)), (.ref b14), (.ref b14)])) rfl (hb hby at_73)
  obtain ⟨cl24, Ar24, qk24, hs24⟩ := id B22
  obtain ⟨T24, h24, X24, e24, W24, st24⟩ := stR X23 hx hZ e23 Ar24 (j := (4 : Int32)) (own_inb 6 hs24 rfl (by decide) (by decide)) rfl (Sto.ofV Ar24 qk24 O14 (Ins.self (E_w_DELETE.ext EX22))) (g := (mkF m 76 #[.val (.int p1), .val (.int p2), .val (.ref b1), .unset, .unset, .unset, .unset, .unset, .unset, .unset] [(.ref w_DELETE), (.int (4 : Int32)), (.ref b14), (.ref b14)])) rfl rfl (hb hby at_76)
  have B24 : own_ArrK Z h24 b14 k14 (.object "com/example/graft/graft/DissociateAction") [(.ref w_NONE), (.ref w_LAX), (.ref w_CHECK), (.ref w_SET_NULL), (.ref w_DELETE), .null] := own_set W24 Ar24 qk24 hs24
  have N24 := Fr.snoc X24 N22 g_b14
  have EX24 : Ext h0 h24 := own_ext_wr EX22 W24 sz_b14
  have B24_b1 := B22_b1.other W24 ne_b1_b14
  obtain ⟨cl25, Ar25, qk25, hs25⟩ := id B24
  obtain ⟨T25, h25, X25, e25, W25, st25⟩ := stR X24 hx hZ e24 Ar25 (j := (5 : Int32)) (own_inb 6 hs25 rfl (by decide) (by decide)) rfl (Or.inl rfl) (g := (mkF m 80 #[.val (.int p1), .val (.int p2), .val (.ref b1), .unset, .unset, .unset, .unset, .unset, .unset, .unset] [.null, (.int (5 : Int32)), (.ref b14), (.ref b14)])) rfl rfl (hb hby at_80)
  have B25 : own_ArrK Z h25 b14 k14 (.object "com/example/graft/graft/DissociateAction") [(.ref w_NONE), (.ref w_LAX), (.ref w_CHECK), (.ref w_SET_NULL), (.ref w_DELETE), .null] := own_set W25 Ar25 qk25 hs25
  have N25 := Fr.snoc X25 N24 g_b14
  have EX25 : Ext h0 h25 := own_ext_wr EX24 W25 sz_b14
  have B25_b1 := B24_b1.other W25 ne_b1_b14
  obtain ⟨cl26, Ar26, qk26, hs26⟩ := id B25_b1
  have gt26 := own_get hs26 hi0 hA
  obtain ⟨cl27, Ar27, qk27, hs27⟩ := id B25
  have gt27 := own_get hs27 hj0 hB
  obtain ⟨cq28, kq28, q28a, q28b, q28c⟩ := isOf hZ e25 (E_A.ext EX25)
  obtain ⟨v28, _, ⟨T28, L28, k28, n28⟩, -, X28, ⟨Lc28, hQ28, l28, y28, z28⟩, st28⟩ := X25.virtualBack hx (y := (⟨"com/example/graft/graft/AssociatedSaveMode", "dissociateAction", "(Lcom/example/graft/graft/DissociateAction;)Lcom/example/graft/graft/DissociateAction;"⟩ : MethodName)) (z := (⟨"com/example/graft/graft/AssociatedSaveMode", "dissociateAction", "(Lcom/example/graft/graft/DissociateAction;)Lcom/example/graft/graft/DissociateAction;"⟩ : MethodName)) hown (mvT hZ (hw _ (ow 31 rfl))) (mvT hZ (hw _ (ow 32 rfl))) (notFace_of_selects (args := #[]) (mvT hZ (hw _ (ow 34 rfl)))) (mvT hZ (hw _ (ow 34 rfl))) (mvT hZ (hw _ (ow 33 rfl))) (by decide) (backOf (W := 0) (rm_disR l Z a0 hw [] A a2 (0 : Int32) h25 n0 w_REPLACE w_MERGE w_APPEND w_APPEND_IF_ABSENT w_UPDATE w_VIOLENTLY_REPLACE w_NONE w_LAX w_CHECK w_SET_NULL w_DELETE (own_K_ext EX25 hK) (F_A.ext EX25)) hZ (hw _ (ow 35 rfl)) (hw _ (ow 3 rfl)) (by decide) (by decide)) q28a q28c (g := (mkF m 116 #[.val (.int p1), .val (.int p2), .val (.ref b1), .val (.ref b14), .val (.int ii), .val (.int jj), .val (.ref A), .val (.ref a2), .unset, .unset] [(.ref a2), (.ref A)])) rfl (by rw [hml]; rfl) (Steps.refl _) (argsL := [(.ref a2)]) (rest := []) (lenOf pd_0 rfl) rfl (Nat.le_of_eq rfl) (hb hby at_116) (fun _ _ => ⟨rfl, e25, (by decide : 2 + 0 ≤ _), (by decide : 12 + 0 ≤ _)⟩)
  dsimp only [Pt.U, Pt.locs, Pt.cells, Pt.slots] at X28 l28 y28 z28 st28 hQ28
  subst l28 y28 z28
  obtain ⟨hv28, Nq28, e28⟩ := hQ28
  obtain rfl : v28 = some (.ref a2) := hv28.trans (congrArg some (congrArg Value.ref (if_pos (by decide))))
  have N28 := Fr.app N25 Nq28
  obtain ⟨T29, X29, e29, st29⟩ := getS2 X28 hx hZ hown (host := "") (Or.inl (hw _ (ow 14 rfl))) Via.refl e28 (S_w_VIOLENTLY_REPLACE.ext EX25) (g := (mkF m 123 #[.val (.int p1), .val (.int p2), .val (.ref b1), .val (.ref b14), .val (.int ii), .val (.int jj), .val (.ref A), .val (.ref a2), .val (.ref a2), .unset] [(.ref A)])) rfl (hb hby at_123)
  have pre30 : ∀ t, Steps p.tables e below (T29.setTop (mkF m 153 #[.val (.int p1), .val (.int p2), .val (.ref b1), .val (.ref b14), .val (.int ii), .val (.int jj), .val (.ref A), .val (.ref a2), .val (.ref a2), .val (.ref a2)] [(.int (1 : Int32))])) t → Steps p.tables e below (s₁.setTop (entryFrame m #[(.int p1), (.int p2)] maxLocals)) t := fun t k => pre0 t (by
    show Steps p.tables e below (s₁.setTop (mkF m 0 #[.val (.int p1), .val (.int p2), .unset, .unset, .unset, .unset, .unset, .unset, .unset, .unset] [])) _
    refine XS.bipush X0.here hx rfl (hb hby at_0) ?_
    show Steps p.tables e below (s₁.setTop (mkF m 2 #[.val (.int p1), .val (.int p2), .unset, .unset, .unset, .unset, .unset, .unset, .unset, .unset] [(.int (6 : Int32))])) _
    refine st1 _ ?_
    show Steps p.tables e below (T1.setTop (mkF m 5 #[.val (.int p1), .val (.int p2), .unset, .unset, .unset, .unset, .unset, .unset, .unset, .unset] [(.ref b1)])) _
    refine XS.dup X1.here hx rfl (hb hby at_5) rfl rfl ?_
    show Steps p.tables e below (T1.setTop (mkF m 6 #[.val (.int p1), .val (.int p2), .unset, .unset, .unset, .unset, .unset, .unset, .unset, .unset] [(.ref b1), (.ref b1)])) _
    refine XS.iconst X1.here hx rfl (hb hby at_6) ?_
    show Steps p.tables e below (T1.setTop (mkF m 7 #[.val (.int p1), .val (.int p2), .unset, .unset, .unset, .unset, .unset, .unset, .unset, .unset] [(.int (0 : Int32)), (.ref b1), (.ref b1)])) _
    refine st2 _ ?_
    show Steps p.tables e below (T2.setTop (mkF m 10 #[.val (.int p1), .val (.int p2), .unset, .unset, .unset, .unset, .unset, .unset, .unset, .unset] [(.ref w_REPLACE), (.int (0 : Int32)), (.ref b1), (.ref b1)])) _
    refine st3 _ ?_
    show Steps p.tables e below (T3.setTop (mkF m 11 #[.val (.int p1), .val (.int p2), .unset, .unset, .unset, .unset, .unset, .unset, .unset, .unset] [(.ref b1)])) _
    refine XS.dup X3.here hx rfl (hb hby at_11) rfl rfl ?_
    show Steps p.tables e below (T3.setTop (mkF m 12 #[.val (.int p1), .val (.int p2), .unset, .unset, .unset, .unset, .unset, .unset, .unset, .unset] [(.ref b1), (.ref b1)])) _
    refine XS.iconst X3.here hx rfl (hb hby at_12) ?_
    show Steps p.tables e below (T3.setTop (mkF m 13 #[.val (.int p1), .val (.int p2), .unset, .unset, .unset, .unset, .unset, .unset, .unset, .unset] [(.int (1 : Int32)), (.ref b1), (.ref b1)])) _
    refine st4 _ ?_
    show Steps p.tables e below (T4.setTop (mkF m 16 #[.val (.int p1), .val (.int p2), .unset, .unset, .unset, .unset, .unset, .unset, .unset, .unset] [(.ref w_MERGE), (.int (1 : Int32)), (.ref b1), (.ref b1)])) _
    refine st5 _ ?_
    show Steps p.tables e below (T5.setTop (mkF m 17 #[.val (.int p1), .val (.int p2), .unset, .unset, .unset, .unset, .unset, .unset, .unset, .unset] [(.ref b1)])) _
    refine XS.dup X5.here hx rfl (hb hby at_17) rfl rfl ?_
    show Steps p.tables e below (T5.setTop (mkF m 18 #[.val (.int p1), .val (.int p2), .unset, .unset, .unset, .unset, .unset, .unset, .unset, .unset] [(.ref b1), (.ref b1)])) _
    refine XS.iconst X5.here hx rfl (hb hby at_18) ?_
    show Steps p.tables e below (T5.setTop (mkF m 19 #[.val (.int p1), .val (.int p2), .unset, .unset, .unset, .unset, .unset, .unset, .unset, .unset] [(.int (2 : Int32)), (.ref b1), (.ref b1)])) _
    refine st6 _ ?_
    show Steps p.tables e below (T6.setTop (mkF m 22 #[.val (.int p1), .val (.int p2), .unset, .unset, .unset, .unset, .unset, .unset, .unset, .unset] [(.ref w_APPEND), (.int (2 : Int32)), (.ref b1), (.ref b1)])) _
    refine st7 _ ?_
    show Steps p.tables e below (T7.setTop (mkF m 23 #[.val (.int p1), .val (.int p2), .unset, .unset, .unset, .unset, .unset, .unset, .unset, .unset] [(.ref b1)])) _
    refine XS.dup X7.here hx rfl (hb hby at_23) rfl rfl ?_
    show Steps p.tables e below (T7.setTop (mkF m 24 #[.val (.int p1), .val (.int p2), .unset, .unset, .unset, .unset, .unset, .unset, .unset, .unset] [(.ref b1), (.ref b1)])) _
    refine XS.iconst X7.here hx rfl (hb hby at_24) ?_
    show Steps p.tables e below (T7.setTop (mkF m 25 #[.val (.int p1), .val (.int p2), .unset, .unset, .unset, .unset, .unset, .unset, .unset, .unset] [(.int (3 : Int32)), (.ref b1), (.ref b1)])) _
    refine st8 _ ?_
    show Steps p.tables e below (T8.setTop (mkF m 28 #[.val (.int p1), .val (.int p2), .unset, .unset, .unset, .unset, .unset, .unset, .unset, .unset] [(.ref w_APPEND_IF_ABSENT), (.int (3 : Int32)), (.ref b1), (.ref b1)])) _
    refine st9 _ ?_
    show Steps p.tables e below (T9.setTop (mkF m 29 #[.val (.int p1), .val (.int p2), .unset, .unset, .unset, .unset, .unset, .unset, .unset, .unset] [(.ref b1)])) _
    refine XS.dup X9.here hx rfl (hb hby at_29) rfl rfl ?_
    show Steps p.tables e below (T9.setTop (mkF m 30 #[.val (.int p1), .val (.int p2), .unset, .unset, .unset, .unset, .unset, .unset, .unset, .unset] [(.ref b1), (.ref b1)])) _
    refine XS.iconst X9.here hx rfl (hb hby at_30) ?_
    show Steps p.tables e below (T9.setTop (mkF m 31 #[.val (.int p1), .val (.int p2), .unset, .unset, .unset, .unset, .unset, .unset, .unset, .unset] [(.int (4 : Int32)), (.ref b1), (.ref b1)])) _
    refine st10 _ ?_
    show Steps p.tables e below (T10.setTop (mkF m 34 #[.val (.int p1), .val (.int p2), .unset, .unset, .unset, .unset, .unset, .unset, .unset, .unset] [(.ref w_UPDATE), (.int (4 : Int32)), (.ref b1), (.ref b1)])) _
    refine st11 _ ?_
    show Steps p.tables e below (T11.setTop (mkF m 35 #[.val (.int p1), .val (.int p2), .unset, .unset, .unset, .unset, .unset, .unset, .unset, .unset] [(.ref b1)])) _
    refine XS.dup X11.here hx rfl (hb hby at_35) rfl rfl ?_
    show Steps p.tables e below (T11.setTop (mkF m 36 #[.val (.int p1), .val (.int p2), .unset, .unset, .unset, .unset, .unset, .unset, .unset, .unset] [(.ref b1), (.ref b1)])) _
    refine XS.iconst X11.here hx rfl (hb hby at_36) ?_
    show Steps p.tables e below (T11.setTop (mkF m 37 #[.val (.int p1), .val (.int p2), .unset, .unset, .unset, .unset, .unset, .unset, .unset, .unset] [(.int (5 : Int32)), (.ref b1), (.ref b1)])) _
    refine st12 _ ?_
    show Steps p.tables e below (T12.setTop (mkF m 40 #[.val (.int p1), .val (.int p2), .unset, .unset, .unset, .unset, .unset, .unset, .unset, .unset] [(.ref w_VIOLENTLY_REPLACE), (.int (5 : Int32)), (.ref b1), (.ref b1)])) _
    refine st13 _ ?_
    show Steps p.tables e below (T13.setTop (mkF m 41 #[.val (.int p1), .val (.int p2), .unset, .unset, .unset, .unset, .unset, .unset, .unset, .unset] [(.ref b1)])) _
    refine XS.astoreN X13.here hx rfl (hb hby at_41) rfl rfl (l' := #[.val (.int p1), .val (.int p2), .val (.ref b1), .unset, .unset, .unset, .unset, .unset, .unset, .unset]) rfl ?_
    show Steps p.tables e below (T13.setTop (mkF m 42 #[.val (.int p1), .val (.int p2), .val (.ref b1), .unset, .unset, .unset, .unset, .unset, .unset, .unset] [])) _
    refine XS.bipush X13.here hx rfl (hb hby at_42) ?_
    show Steps p.tables e below (T13.setTop (mkF m 44 #[.val (.int p1), .val (.int p2), .val (.ref b1), .unset, .unset, .unset, .unset, .unset, .unset, .unset] [(.int (6 : Int32))])) _
    refine st14 _ ?_
    show Steps p.tables e below (T14.setTop (mkF m 47 #[.val (.int p1), .val (.int p2), .val (.ref b1), .unset, .unset, .unset, .unset, .unset, .unset, .unset] [(.ref b14)])) _
    refine XS.dup X14.here hx rfl (hb hby at_47) rfl rfl ?_
    show Steps p.tables e below (T14.setTop (mkF m 48 #[.val (.int p1), .val (.int p2), .val (.ref b1), .unset, .unset, .unset, .unset, .unset, .unset, .unset] [(.ref b14), (.ref b14)])) _
    refine XS.iconst X14.here hx rfl (hb hby at_48) ?_
    show Steps p.tables e below (T14.setTop (mkF m 49 #[.val (.int p1), .val (.int p2), .val (.ref b1), .unset, .unset, .unset, .unset, .unset, .unset, .unset] [(.int (0 : Int32)), (.ref b14), (.ref b14)])) _
    refine st15 _ ?_
    show Steps p.tables e below (T15.setTop (mkF m 52 #[.val (.int p1), .val (.int p2), .val (.ref b1), .unset, .unset, .unset, .unset, .unset, .unset, .unset] [(.ref w_NONE), (.int (0 : Int32)), (.ref b14), (.ref b14)])) _
    refine st16 _ ?_
    show Steps p.tables e below (T16.setTop (mkF m 53 #[.val (.int p1), .val (.int p2), .val (.ref b1), .unset, .unset, .unset, .unset, .unset, .unset, .unset] [(.ref b14)])) _
    refine XS.dup X16.here hx rfl (hb hby at_53) rfl rfl ?_
    show Steps p.tables e below (T16.setTop (mkF m 54 #[.val (.int p1), .val (.int p2), .val (.ref b1), .unset, .unset, .unset, .unset, .unset, .unset, .unset] [(.ref b14), (.ref b14)])) _
    refine XS.iconst X16.here hx rfl (hb hby at_54) ?_
    show Steps p.tables e below (T16.setTop (mkF m 55 #[.val (.int p1), .val (.int p2), .val (.ref b1), .unset, .unset, .unset, .unset, .unset, .unset, .unset] [(.int (1 : Int32)), (.ref b14), (.ref b14)])) _
    refine st17 _ ?_
    show Steps p.tables e below (T17.setTop (mkF m 58 #[.val (.int p1), .val (.int p2), .val (.ref b1), .unset, .unset, .unset, .unset, .unset, .unset, .unset] [(.ref w_LAX), (.int (1 : Int32)), (.ref b14), (.ref b14)])) _
    refine st18 _ ?_
    show Steps p.tables e below (T18.setTop (mkF m 59 #[.val (.int p1), .val (.int p2), .val (.ref b1), .unset, .unset, .unset, .unset, .unset, .unset, .unset] [(.ref b14)])) _
    refine XS.dup X18.here hx rfl (hb hby at_59) rfl rfl ?_
    show Steps p.tables e below (T18.setTop (mkF m 60 #[.val (.int p1), .val (.int p2), .val (.ref b1), .unset, .unset, .unset, .unset, .unset, .unset, .unset] [(.ref b14), (.ref b14)])) _
    refine XS.iconst X18.here hx rfl (hb hby at_60) ?_
    show Steps p.tables e below (T18.setTop (mkF m 61 #[.val (.int p1), .val (.int p2), .val (.ref b1), .unset, .unset, .unset, .unset, .unset, .unset, .unset] [(.int (2 : Int32)), (.ref b14), (.ref b14)])) _
    refine st19 _ ?_
    show Steps p.tables e below (T19.setTop (mkF m 64 #[.val (.int p1), .val (.int p2), .val (.ref b1), .unset, .unset, .unset, .unset, .unset, .unset, .unset] [(.ref w_CHECK), (.int (2 : Int32)), (.ref b14), (.ref b14)])) _
    refine st20 _ ?_
    show Steps p.tables e below (T20.setTop (mkF m 65 #[.val (.int p1), .val (.int p2), .val (.ref b1), .unset, .unset, .unset, .unset, .unset, .unset, .unset] [(.ref b14)])) _
    refine XS.dup X20.here hx rfl (hb hby at_65) rfl rfl ?_
    show Steps p.tables e below (T20.setTop (mkF m 66 #[.val (.int p1), .val (.int p2), .val (.ref b1), .unset, .unset, .unset, .unset, .unset, .unset, .unset] [(.ref b14), (.ref b14)])) _
    refine XS.iconst X20.here hx rfl (hb hby at_66) ?_
    show Steps p.tables e below (T20.setTop (mkF m 67 #[.val (.int p1), .val (.int p2), .val (.ref b1), .unset, .unset, .unset, .unset, .unset, .unset, .unset] [(.int (3 : Int32)), (.ref b14), (.ref b14)])) _
    refine st21 _ ?_
    show Steps p.tables e below (T21.setTop (mkF m 70 #[.val (.int p1), .val (.int p2), .val (.ref b1), .unset, .unset, .unset, .unset, .unset, .unset, .unset] [(.ref w_SET_NULL), (.int (3 : Int32)), (.ref b14), (.ref b14)])) _
    refine st22 _ ?_
    show Steps p.tables e below (T22.setTop (mkF m 71 #[.val (.int p1), .val (.int p2), .val (.ref b1), .unset, .unset, .unset, .unset, .unset, .unset, .unset] [(.ref b14)])) _
    refine XS.dup X22.here hx rfl (hb hby at_71) rfl rfl ?_
    show Steps p.tables e below (T22.setTop (mkF m 72 #[.val (.int p1), .val (.int p2), .val (.ref b1), .unset, .unset, .unset, .unset, .unset, .unset, .unset] [(.ref b14), (.ref b14)])) _
    refine XS.iconst X22.here hx rfl (hb hby at_72) ?_
    show Steps p.tables e below (T22.setTop (mkF m 73 #[.val (.int p1), .val (.int p2), .val (.ref b1), .unset, .unset, .unset, .unset, .unset, .unset, .unset] [(.int (4 : Int32)), (.ref b14), (.ref b14)])) _
    refine st23 _ ?_
    show Steps p.tables e below (T23.setTop (mkF m 76 #[.val (.int p1), .val (.int p2), .val (.ref b1), .unset, .unset, .unset, .unset, .unset, .unset, .unset] [(.ref w_DELETE), (.int (4 : Int32)), (.ref b14), (.ref b14)])) _
    refine st24 _ ?_
    show Steps p.tables e below (T24.setTop (mkF m 77 #[.val (.int p1), .val (.int p2), .val (.ref b1), .unset, .unset, .unset, .unset, .unset, .unset, .unset] [(.ref b14)])) _
    refine XS.dup X24.here hx rfl (hb hby at_77) rfl rfl ?_
    show Steps p.tables e below (T24.setTop (mkF m 78 #[.val (.int p1), .val (.int p2), .val (.ref b1), .unset, .unset, .unset, .unset, .unset, .unset, .unset] [(.ref b14), (.ref b14)])) _
    refine XS.iconst X24.here hx rfl (hb hby at_78) ?_
    show Steps p.tables e below (T24.setTop (mkF m 79 #[.val (.int p1), .val (.int p2), .val (.ref b1), .unset, .unset, .unset, .unset, .unset, .unset, .unset] [(.int (5 : Int32)), (.ref b14), (.ref b14)])) _
    refine XS.aconstNull X24.here hx rfl (hb hby at_79) ?_
    show Steps p.tables e below (T24.setTop (mkF m 80 #[.val (.int p1), .val (.int p2), .val (.ref b1), .unset, .unset, .unset, .unset, .unset, .unset, .unset] [.null, (.int (5 : Int32)), (.ref b14), (.ref b14)])) _
    refine st25 _ ?_
    show Steps p.tables e below (T25.setTop (mkF m 81 #[.val (.int p1), .val (.int p2), .val (.ref b1), .unset, .unset, .unset, .unset, .unset, .unset, .unset] [(.ref b14)])) _
    refine XS.astoreN X25.here hx rfl (hb hby at_81) rfl rfl (l' := #[.val (.int p1), .val (.int p2), .val (.ref b1), .val (.ref b14), .unset, .unset, .unset, .unset, .unset, .unset]) rfl ?_
    show Steps p.tables e below (T25.setTop (mkF m 82 #[.val (.int p1), .val (.int p2), .val (.ref b1), .val (.ref b14), .unset, .unset, .unset, .unset, .unset, .unset] [])) _
    refine XS.iloadN X25.here hx rfl (hb hby at_82) rfl ?_
    show Steps p.tables e below (T25.setTop (mkF m 83 #[.val (.int p1), .val (.int p2), .val (.ref b1), .val (.ref b14), .unset, .unset, .unset, .unset, .unset, .unset] [(.int p1)])) _
    refine X25.ldcInt hx hown (mvT hZ (hw _ (ow 30 rfl))) (g := (mkF m 83 #[.val (.int p1), .val (.int p2), .val (.ref b1), .val (.ref b14), .unset, .unset, .unset, .unset, .unset, .unset] [(.int p1)])) rfl (hb hby at_83) _ ?_
    show Steps p.tables e below (T25.setTop (mkF m 85 #[.val (.int p1), .val (.int p2), .val (.ref b1), .val (.ref b14), .unset, .unset, .unset, .unset, .unset, .unset] [(.int (2147483647 : Int32)), (.int p1)])) _
    refine XS.iand X25.here hx rfl (hb hby at_85) rfl ?_
    show Steps p.tables e below (T25.setTop (mkF m 86 #[.val (.int p1), .val (.int p2), .val (.ref b1), .val (.ref b14), .unset, .unset, .unset, .unset, .unset, .unset] [(.int (p1 &&& (2147483647 : Int32)))])) _
    refine XS.bipush X25.here hx rfl (hb hby at_86) ?_
    show Steps p.tables e below (T25.setTop (mkF m 88 #[.val (.int p1), .val (.int p2), .val (.ref b1), .val (.ref b14), .unset, .unset, .unset, .unset, .unset, .unset] [(.int (6 : Int32)), (.int (p1 &&& (2147483647 : Int32)))])) _
    refine iremM X25 hx rfl (hb hby at_88) rfl (by decide) ?_
    show Steps p.tables e below (T25.setTop (mkF m 89 #[.val (.int p1), .val (.int p2), .val (.ref b1), .val (.ref b14), .unset, .unset, .unset, .unset, .unset, .unset] [(.int ((p1 &&& (2147483647 : Int32)) % (6 : Int32)))])) _
    rw [hi]
    show Steps p.tables e below (T25.setTop (mkF m 89 #[.val (.int p1), .val (.int p2), .val (.ref b1), .val (.ref b14), .unset, .unset, .unset, .unset, .unset, .unset] [(.int ii)])) _
    refine XS.istore X25.here hx rfl (hb hby at_89) rfl (l' := #[.val (.int p1), .val (.int p2), .val (.ref b1), .val (.ref b14), .val (.int ii), .unset, .unset, .unset, .unset, .unset]) rfl ?_
    show Steps p.tables e below (T25.setTop (mkF m 91 #[.val (.int p1), .val (.int p2), .val (.ref b1), .val (.ref b14), .val (.int ii), .unset, .unset, .unset, .unset, .unset] [])) _
    refine XS.iloadN X25.here hx rfl (hb hby at_91) rfl ?_
    show Steps p.tables e below (T25.setTop (mkF m 92 #[.val (.int p1), .val (.int p2), .val (.ref b1), .val (.ref b14), .val (.int ii), .unset, .unset, .unset, .unset, .unset] [(.int p2)])) _
    refine X25.ldcInt hx hown (mvT hZ (hw _ (ow 30 rfl))) (g := (mkF m 92 #[.val (.int p1), .val (.int p2), .val (.ref b1), .val (.ref b14), .val (.int ii), .unset, .unset, .unset, .unset, .unset] [(.int p2)])) rfl (hb hby at_92) _ ?_
    show Steps p.tables e below (T25.setTop (mkF m 94 #[.val (.int p1), .val (.int p2), .val (.ref b1), .val (.ref b14), .val (.int ii), .unset, .unset, .unset, .unset, .unset] [(.int (2147483647 : Int32)), (.int p2)])) _
    refine XS.iand X25.here hx rfl (hb hby at_94) rfl ?_
    show Steps p.tables e below (T25.setTop (mkF m 95 #[.val (.int p1), .val (.int p2), .val (.ref b1), .val (.ref b14), .val (.int ii), .unset, .unset, .unset, .unset, .unset] [(.int (p2 &&& (2147483647 : Int32)))])) _
    refine XS.bipush X25.here hx rfl (hb hby at_95) ?_
    show Steps p.tables e below (T25.setTop (mkF m 97 #[.val (.int p1), .val (.int p2), .val (.ref b1), .val (.ref b14), .val (.int ii), .unset, .unset, .unset, .unset, .unset] [(.int (6 : Int32)), (.int (p2 &&& (2147483647 : Int32)))])) _
    refine iremM X25 hx rfl (hb hby at_97) rfl (by decide) ?_
    show Steps p.tables e below (T25.setTop (mkF m 98 #[.val (.int p1), .val (.int p2), .val (.ref b1), .val (.ref b14), .val (.int ii), .unset, .unset, .unset, .unset, .unset] [(.int ((p2 &&& (2147483647 : Int32)) % (6 : Int32)))])) _
    rw [hj]
    show Steps p.tables e below (T25.setTop (mkF m 98 #[.val (.int p1), .val (.int p2), .val (.ref b1), .val (.ref b14), .val (.int ii), .unset, .unset, .unset, .unset, .unset] [(.int jj)])) _
    refine XS.istore X25.here hx rfl (hb hby at_98) rfl (l' := #[.val (.int p1), .val (.int p2), .val (.ref b1), .val (.ref b14), .val (.int ii), .val (.int jj), .unset, .unset, .unset, .unset]) rfl ?_
    show Steps p.tables e below (T25.setTop (mkF m 100 #[.val (.int p1), .val (.int p2), .val (.ref b1), .val (.ref b14), .val (.int ii), .val (.int jj), .unset, .unset, .unset, .unset] [])) _
    refine XS.aloadN X25.here hx rfl (hb hby at_100) rfl rfl ?_
    show Steps p.tables e below (T25.setTop (mkF m 101 #[.val (.int p1), .val (.int p2), .val (.ref b1), .val (.ref b14), .val (.int ii), .val (.int jj), .unset, .unset, .unset, .unset] [(.ref b1)])) _
    refine XS.iload X25.here hx rfl (hb hby at_101) rfl ?_
    show Steps p.tables e below (T25.setTop (mkF m 103 #[.val (.int p1), .val (.int p2), .val (.ref b1), .val (.ref b14), .val (.int ii), .val (.int jj), .unset, .unset, .unset, .unset] [(.int ii), (.ref b1)])) _
    refine X25.aaload hx (j := ii) (v := (.ref A)) (by rw [e25]; exact Ar26.1) (State.isArrayOf_alike hZ.alike Ar26.2.1) rfl Ar26.2.2 gt26.1 gt26.2 (g := (mkF m 103 #[.val (.int p1), .val (.int p2), .val (.ref b1), .val (.ref b14), .val (.int ii), .val (.int jj), .unset, .unset, .unset, .unset] [(.int ii), (.ref b1)])) rfl rfl (hb hby at_103) _ ?_
    show Steps p.tables e below (T25.setTop (mkF m 104 #[.val (.int p1), .val (.int p2), .val (.ref b1), .val (.ref b14), .val (.int ii), .val (.int jj), .unset, .unset, .unset, .unset] [(.ref A)])) _
    refine XS.astore X25.here hx rfl (hb hby at_104) rfl rfl (l' := #[.val (.int p1), .val (.int p2), .val (.ref b1), .val (.ref b14), .val (.int ii), .val (.int jj), .val (.ref A), .unset, .unset, .unset]) rfl ?_
    show Steps p.tables e below (T25.setTop (mkF m 106 #[.val (.int p1), .val (.int p2), .val (.ref b1), .val (.ref b14), .val (.int ii), .val (.int jj), .val (.ref A), .unset, .unset, .unset] [])) _
    refine XS.aloadN X25.here hx rfl (hb hby at_106) rfl rfl ?_
    show Steps p.tables e below (T25.setTop (mkF m 107 #[.val (.int p1), .val (.int p2), .val (.ref b1), .val (.ref b14), .val (.int ii), .val (.int jj), .val (.ref A), .unset, .unset, .unset] [(.ref b14)])) _
    refine XS.iload X25.here hx rfl (hb hby at_107) rfl ?_
    show Steps p.tables e below (T25.setTop (mkF m 109 #[.val (.int p1), .val (.int p2), .val (.ref b1), .val (.ref b14), .val (.int ii), .val (.int jj), .val (.ref A), .unset, .unset, .unset] [(.int jj), (.ref b14)])) _
    refine X25.aaload hx (j := jj) (v := (.ref a2)) (by rw [e25]; exact Ar27.1) (State.isArrayOf_alike hZ.alike Ar27.2.1) rfl Ar27.2.2 gt27.1 gt27.2 (g := (mkF m 109 #[.val (.int p1), .val (.int p2), .val (.ref b1), .val (.ref b14), .val (.int ii), .val (.int jj), .val (.ref A), .unset, .unset, .unset] [(.int jj), (.ref b14)])) rfl rfl (hb hby at_109) _ ?_
    show Steps p.tables e below (T25.setTop (mkF m 110 #[.val (.int p1), .val (.int p2), .val (.ref b1), .val (.ref b14), .val (.int ii), .val (.int jj), .val (.ref A), .unset, .unset, .unset] [(.ref a2)])) _
    refine XS.astore X25.here hx rfl (hb hby at_110) rfl rfl (l' := #[.val (.int p1), .val (.int p2), .val (.ref b1), .val (.ref b14), .val (.int ii), .val (.int jj), .val (.ref A), .val (.ref a2), .unset, .unset]) rfl ?_
    show Steps p.tables e below (T25.setTop (mkF m 112 #[.val (.int p1), .val (.int p2), .val (.ref b1), .val (.ref b14), .val (.int ii), .val (.int jj), .val (.ref A), .val (.ref a2), .unset, .unset] [])) _
    refine XS.aload X25.here hx rfl (hb hby at_112) rfl rfl ?_
    show Steps p.tables e below (T25.setTop (mkF m 114 #[.val (.int p1), .val (.int p2), .val (.ref b1), .val (.ref b14), .val (.int ii), .val (.int jj), .val (.ref A), .val (.ref a2), .unset, .unset] [(.ref A)])) _
    refine XS.aload X25.here hx rfl (hb hby at_114) rfl rfl ?_
    show Steps p.tables e below (T25.setTop (mkF m 116 #[.val (.int p1), .val (.int p2), .val (.ref b1), .val (.ref b14), .val (.int ii), .val (.int jj), .val (.ref A), .val (.ref a2), .unset, .unset] [(.ref a2), (.ref A)])) _
    refine st28.trans ?_
    show Steps p.tables e below (T28.setTop (mkF m 119 #[.val (.int p1), .val (.int p2), .val (.ref b1), .val (.ref b14), .val (.int ii), .val (.int jj), .val (.ref A), .val (.ref a2), .unset, .unset] [(.ref a2)])) _
    refine XS.astore X28.here hx rfl (hb hby at_119) rfl rfl (l' := #[.val (.int p1), .val (.int p2), .val (.ref b1), .val (.ref b14), .val (.int ii), .val (.int jj), .val (.ref A), .val (.ref a2), .val (.ref a2), .unset]) rfl ?_
    show Steps p.tables e below (T28.setTop (mkF m 121 #[.val (.int p1), .val (.int p2), .val (.ref b1), .val (.ref b14), .val (.int ii), .val (.int jj), .val (.ref A), .val (.ref a2), .val (.ref a2), .unset] [])) _
    refine XS.aload X28.here hx rfl (hb hby at_121) rfl rfl ?_
    show Steps p.tables e below (T28.setTop (mkF m 123 #[.val (.int p1), .val (.int p2), .val (.ref b1), .val (.ref b14), .val (.int ii), .val (.int jj), .val (.ref A), .val (.ref a2), .val (.ref a2), .unset] [(.ref A)])) _
    refine st29 _ ?_
    show Steps p.tables e below (T29.setTop (mkF m 126 #[.val (.int p1), .val (.int p2), .val (.ref b1), .val (.ref b14), .val (.int ii), .val (.int jj), .val (.ref A), .val (.ref a2), .val (.ref a2), .unset] [(.ref w_VIOLENTLY_REPLACE), (.ref A)])) _
    refine Jvm.RoadKit.acmp (g := (mkF m 126 #[.val (.int p1), .val (.int p2), .val (.ref b1), .val (.ref b14), .val (.int ii), .val (.int jj), .val (.ref A), .val (.ref a2), .val (.ref a2), .unset] [(.ref w_VIOLENTLY_REPLACE), (.ref A)])) X29 hx rfl rfl rfl (pc0 := 126) (pc' := 137) (same := false) rfl (hb hby at_126) rfl (decide_eq_false fun q => hne (Value.ref.inj q)) (by decide) (by decide) ?_
    show Steps p.tables e below (T29.setTop (mkF m 137 #[.val (.int p1), .val (.int p2), .val (.ref b1), .val (.ref b14), .val (.int ii), .val (.int jj), .val (.ref A), .val (.ref a2), .val (.ref a2), .unset] [])) _
    refine XS.aload X29.here hx rfl (hb hby at_137) rfl rfl ?_
    show Steps p.tables e below (T29.setTop (mkF m 139 #[.val (.int p1), .val (.int p2), .val (.ref b1), .val (.ref b14), .val (.int ii), .val (.int jj), .val (.ref A), .val (.ref a2), .val (.ref a2), .unset] [(.ref a2)])) _
    refine XS.astore X29.here hx rfl (hb hby at_139) rfl rfl (l' := #[.val (.int p1), .val (.int p2), .val (.ref b1), .val (.ref b14), .val (.int ii), .val (.int jj), .val (.ref A), .val (.ref a2), .val (.ref a2), .val (.ref a2)]) rfl ?_
    show Steps p.tables e below (T29.setTop (mkF m 141 #[.val (.int p1), .val (.int p2), .val (.ref b1), .val (.ref b14), .val (.int ii), .val (.int jj), .val (.ref A), .val (.ref a2), .val (.ref a2), .val (.ref a2)] [])) _
    refine XS.aload X29.here hx rfl (hb hby at_141) rfl rfl ?_
    show Steps p.tables e below (T29.setTop (mkF m 143 #[.val (.int p1), .val (.int p2), .val (.ref b1), .val (.ref b14), .val (.int ii), .val (.int jj), .val (.ref A), .val (.ref a2), .val (.ref a2), .val (.ref a2)] [(.ref a2)])) _
    refine XS.aload X29.here hx rfl (hb hby at_143) rfl rfl ?_
    show Steps p.tables e below (T29.setTop (mkF m 145 #[.val (.int p1), .val (.int p2), .val (.ref b1), .val (.ref b14), .val (.int ii), .val (.int jj), .val (.ref A), .val (.ref a2), .val (.ref a2), .val (.ref a2)] [(.ref a2), (.ref a2)])) _
    refine Jvm.RoadKit.acmp (g := (mkF m 145 #[.val (.int p1), .val (.int p2), .val (.ref b1), .val (.ref b14), .val (.int ii), .val (.int jj), .val (.ref A), .val (.ref a2), .val (.ref a2), .val (.ref a2)] [(.ref a2), (.ref a2)])) X29 hx rfl rfl rfl (pc0 := 145) (pc' := 148) (same := true) rfl (hb hby at_145) rfl (decide_eq_true rfl) (by decide) (by decide) ?_
    show Steps p.tables e below (T29.setTop (mkF m 148 #[.val (.int p1), .val (.int p2), .val (.ref b1), .val (.ref b14), .val (.int ii), .val (.int jj), .val (.ref A), .val (.ref a2), .val (.ref a2), .val (.ref a2)] [])) _
    refine XS.iconst X29.here hx rfl (hb hby at_148) ?_
    show Steps p.tables e below (T29.setTop (mkF m 149 #[.val (.int p1), .val (.int p2), .val (.ref b1), .val (.ref b14), .val (.int ii), .val (.int jj), .val (.ref A), .val (.ref a2), .val (.ref a2), .val (.ref a2)] [(.int (1 : Int32))])) _
    refine XS.goto X29.here hx rfl (pc0 := 149) (pc' := 153) rfl (hb hby at_149) (by decide) (by decide) ?_
    exact k)
  obtain ⟨fs, hr, hrun, hended, hW, hsame⟩ := X29.leave (v := some (.int (1 : Int32))) (fun h => by rw [Bd.returns] at h; cases h)
  refine ⟨_, _, pre30 _ ?_, hrun, hended, _, _, rfl, ?_, ⟨_, rfl⟩, hW, hsame.mono (by decide) (by decide)⟩
  · show Steps p.tables e below (T29.setTop (mkF m 153 #[.val (.int p1), .val (.int p2), .val (.ref b1), .val (.ref b14), .val (.int ii), .val (.int jj), .val (.ref A), .val (.ref a2), .val (.ref a2), .val (.ref a2)] [(.int (1 : Int32))])) _
    exact retN X29 hx (t := .boolean) Bd.returns (by simp) (hb hby at_153) hr
  · exact ⟨rfl, N28, trivial⟩
theorem ef_law_0_1 (m : MethodId) (x0 : Int32) (x1 : Int32) : entryFrame m #[(.int x0), (.int x1)] maxLocals = mkF m 0 #[.val (.int x0), .val (.int x1), .unset, .unset, .unset, .unset, .unset, .unset, .unset, .unset] [] := by first | (simp [entryFrame, mkF, argsToLocals, Value.category, maxLocals]; done) | rfl
set_option maxRecDepth 65536 in
set_option maxHeartbeats 40000000 in
theorem rm_law_0_1 (l : Launch) (Z : State) (a0 : Array Value) (hw : ∀ d ∈ tables_1, d.before a0 Z = true) (ws : List Jvm.Cond) (p1 : Int32) (p2 : Int32) (h0 : Heap) (n0 : Nat) (Z0 : n0 ≤ h0.size) (w_REPLACE w_MERGE w_APPEND w_APPEND_IF_ABSENT w_UPDATE w_VIOLENTLY_REPLACE w_NONE w_LAX w_CHECK w_SET_NULL w_DELETE : Addr) (hK : own_K Z h0 w_REPLACE w_MERGE w_APPEND w_APPEND_IF_ABSENT w_UPDATE w_VIOLENTLY_REPLACE w_NONE w_LAX w_CHECK w_SET_NULL w_DELETE) (ii jj : Int32) (A : Addr) (hi : ((p1 &&& (2147483647 : Int32)) % (6 : Int32)) = ii) (hj : ((p2 &&& (2147483647 : Int32)) % (6 : Int32)) = jj) (hi0 : ¬ ii < 0) (hj0 : ¬ jj < 0) (hA : [Value.ref w_REPLACE, Value.ref w_MERGE, Value.ref w_APPEND, Value.ref w_APPEND_IF_ABSENT, Value.ref w_UPDATE, Value.ref w_VIOLENTLY_REPLACE][ii.toNatClampNeg]? = some (Value.ref A)) (hB : [Value.ref w_NONE, Value.ref w_LAX, Value.ref w_CHECK, Value.ref w_SET_NULL, Value.ref w_DELETE, Value.null][jj.toNatClampNeg]? = some Value.null) (E_A : Exa Z h0 A "com/example/graft/graft/AssociatedSaveMode") (F_A : Fld Z h0 A "com/example/graft/graft/AssociatedSaveMode" "deletesLeftOut" "Z" (.int (0 : Int32))) (hne : ¬ A = w_VIOLENTLY_REPLACE) :
    MetFree l x (head1 (Jvm.Cond.code x code maxLocals ret :: ws) room_1) (fun a U => a = #[(.int p1), (.int p2)] ∧ Z.Warmed39 U.vm ∧ U.heap = h0) (fun _ _ _ _ _ => True) (fun _ U o U' => ∃ v L, o = .returned v ∧ own_QH (some (.int (1 : Int32))) n0 v U'.heap L ∧ FrameEnd U o U' L room_1.cells room_1.slots) := by
  refine MetFree.of_bodySF (plainFor_of_name pn_1) hisR ?_
  intro p e s m args below meth c s₁ Bd hml0 hP hK0
  obtain ⟨rfl, hZ, hh⟩ := hP
  have hx := Bd.exec
  have hby := Bd.bytes
  have hml : c.maxLocals = 10 := hml0
  have hown : s.vm.findClass "com/example/graft/graft/AssociatedSaveModeDissociateActionPinLaw" = some m.cls := findClass_of_methodNamed Bd.named
  have hnm := (name_of_methodNamed Bd.named Bd.method).1
  have X0 : Stand p l e room_1 s m #[(.int p1), (.int p2)] below meth c s₁ [] 0 0 := Stand.of_body Bd
  have e0 : s₁.heap = h0 := by rw [← hh, Bd.state]; rfl
  have N0 := Fr.nil n0
  have pre0 : ∀ t, Steps p.tables e below (s₁.setTop (mkF m 0 #[.val (.int p1), .val (.int p2), .unset, .unset, .unset, .unset, .unset, .unset, .unset, .unset] [])) t → Steps p.tables e below (s₁.setTop (entryFrame m #[(.int p1), (.int p2)] maxLocals)) t := fun t k => castTop (ef_law_0_1 m p1 p2) k
  have hK' := hK
  obtain ⟨S_w_REPLACE, E_w_REPLACE, S_w_MERGE, E_w_MERGE, S_w_APPEND, E_w_APPEND, S_w_APPEND_IF_ABSENT, E_w_APPEND_IF_ABSENT, S_w_UPDATE, E_w_UPDATE, S_w_VIOLENTLY_REPLACE, E_w_VIOLENTLY_REPLACE, S_w_NONE, E_w_NONE, S_w_LAX, E_w_LAX, S_w_CHECK, E_w_CHECK, S_w_SET_NULL, E_w_SET_NULL, S_w_DELETE, E_w_DELETE, F_deletesLeftOut_w_REPLACE, F_ordinal_w_REPLACE, F_ordinal_w_VIOLENTLY_REPLACE, F_deletesLeftOut_w_APPEND, F_ordinal_w_APPEND, F_deletesLeftOut_w_UPDATE, F_ordinal_w_UPDATE, F_deletesLeftOut_w_MERGE, F_ordinal_w_MERGE, F_deletesLeftOut_w_VIOLENTLY_REPLACE, F_deletesLeftOut_w_APPEND_IF_ABSENT, F_ordinal_w_APPEND_IF_ABSENT⟩ := hK'
  obtain ⟨T1, h1, k1, X1, e1, Eq1, A1, O1, st1⟩ := newR X0 hx hZ hown (hw _ (ow 0 rfl)) (hw _ (ow 1 rfl)) e0 (g := (mkF m 2 #[.val (.int p1), .val (.int p2), .unset, .unset, .unset, .unset, .unset, .unset, .unset, .unset] [(.int (6 : Int32))])) rfl (hb hby at_2) rfl (by decide) (cap := 6) (by decide) (by decide) (by decide) (by decide)
  obtain ⟨b1, gb1⟩ : ∃ z, z = h0.size := ⟨_, rfl⟩
  rw [← gb1] at A1 st1
  have B1 : own_ArrK Z h1 b1 k1 (.object "com/example/graft/graft/AssociatedSaveMode") [.null, .null, .null, .null, .null, .null] := ⟨_, A1, rfl, rfl⟩
  have sz_b1 : h0.size ≤ b1 := Nat.le_of_eq gb1.symm
  have g_b1 : n0 ≤ b1 := Nat.le_trans Z0 sz_b1
  have EX1 : Ext h0 h1 := Eq1
  obtain ⟨T2, X2, e2, st2⟩ := getS2 X1 hx hZ hown (host := "") (Or.inl (hw _ (ow 2 rfl))) Via.refl e1 (S_w_REPLACE.ext EX1) (g := (mkF m 7 #[.val (.int p1), .val (.int p2), .unset, .unset, .unset, .unset, .unset, .unset, .unset, .unset] [(.int (0 : Int32)), (.ref b1), (.ref b1)])) rfl (hb hby at_7)
  obtain ⟨cl3, Ar3, qk3, hs3⟩ := id B1
  obtain ⟨T3, h3, X3, e3, W3, st3⟩ := stR X2 hx hZ e2 Ar3 (j := (0 : Int32)) (own_inb 6 hs3 rfl (by decide) (by decide)) rfl (Sto.ofV Ar3 qk3 O1 (Ins.self (E_w_REPLACE.ext EX1))) (g := (mkF m 10 #[.val (.int p1), .val (.int p2), .unset, .unset, .unset, .unset, .unset, .unset, .unset, .unset] [(.ref w_REPLACE), (.int (0 : Int32)), (.ref b1), (.ref b1)])) rfl rfl (hb hby at_10)
  have B3 : own_ArrK Z h3 b1 k1 (.object "com/example/graft/graft/AssociatedSaveMode") [(.ref w_REPLACE), .null, .null, .null, .null, .null] := own_set W3 Ar3 qk3 hs3
  have N3 := Fr.snoc X3 N0 g_b1
  have EX3 : Ext h0 h3 := own_ext_wr EX1 W3 sz_b1
  obtain ⟨T4, X4, e4, st4⟩ := getS2 X3 hx hZ hown (host := "") (Or.inl (hw _ (ow 6 rfl))) Via.refl e3 (S_w_MERGE.ext EX3) (g := (mkF m 13 #[.val (.int p1), .val (.int p2), .unset, .unset, .unset, .unset, .unset, .unset, .unset, .unset] [(.int (1 : Int32)), (.ref b1), (.ref b1)])) rfl (hb hby at_13)
  obtain ⟨cl5, Ar5, qk5, hs5⟩ := id B3
  obtain ⟨T5, h5, X5, e5, W5, st5⟩ := stR X4 hx hZ e4 Ar5 (j := (1 : Int32)) (own_inb 6 hs5 rfl (by decide) (by decide)) rfl (Sto.ofV Ar5 qk5 O1 (Ins.self (E_w_MERGE.ext EX3))) (g := (mkF m 16 #[.val (.int p1), .val (.int p2), .unset, .unset, .unset, .unset, .unset, .unset, .unset, .unset] [(.ref w_MERGE), (.int (1 : Int32)), (.ref b1), (.ref b1)])) rfl rfl (hb hby at_16)
  have B5 : own_ArrK Z h5 b1 k1 (.object "com/example/graft/graft/AssociatedSaveMode") [(.ref w_REPLACE), (.ref w_MERGE), .null, .null, .null, .null] := own_set W5 Ar5 qk5 hs5
  have N5 := Fr.snoc X5 N3 g_b1
  have EX5 : Ext h0 h5 := own_ext_wr EX3 W5 sz_b1
  obtain ⟨T6, X6, e6, st6⟩ := getS2 X5 hx hZ hown (host := "") (Or.inl (hw _ (ow 8 rfl))) Via.refl e5 (S_w_APPEND.ext EX5) (g := (mkF m 19 #[.val (.int p1), .val (.int p2), .unset, .unset, .unset, .unset, .unset, .unset, .unset, .unset] [(.int (2 : Int32)), (.ref b1), (.ref b1)])) rfl (hb hby at_19)
  obtain ⟨cl7, Ar7, qk7, hs7⟩ := id B5
  obtain ⟨T7, h7, X7, e7, W7, st7⟩ := stR X6 hx hZ e6 Ar7 (j := (2 : Int32)) (own_inb 6 hs7 rfl (by decide) (by decide)) rfl (Sto.ofV Ar7 qk7 O1 (Ins.self (E_w_APPEND.ext EX5))) (g := (mkF m 22 #[.val (.int p1), .val (.int p2), .unset, .unset, .unset, .unset, .unset, .unset, .unset, .unset] [(.ref w_APPEND), (.int (2 : Int32)), (.ref b1), (.ref b1)])) rfl rfl (hb hby at_22)
  have B7 : own_ArrK Z h7 b1 k1 (.object "com/example/graft/graft/AssociatedSaveMode") [(.ref w_REPLACE), (.ref w_MERGE), (.ref w_APPEND), .null, .null, .null] := own_set W7 Ar7 qk7 hs7
  have N7 := Fr.snoc X7 N5 g_b1
  have EX7 : Ext h0 h7 := own_ext_wr EX5 W7 sz_b1
  obtain ⟨T8, X8, e8, st8⟩ := getS2 X7 hx hZ hown (host := "") (Or.inl (hw _ (ow 10 rfl))) Via.refl e7 (S_w_APPEND_IF_ABSENT.ext EX7) (g := (mkF m 25 #[.val (.int p1), .val (.int p2), .unset, .unset, .unset, .unset, .unset, .unset, .unset, .unset] [(.int (3 : Int32)), (.ref b1), (.ref b1)])) rfl (hb hby at_25)
  obtain ⟨cl9, Ar9, qk9, hs9⟩ := id B7
  obtain ⟨T9, h9, X9, e9, W9, st9⟩ := stR X8 hx hZ e8 Ar9 (j := (3 : Int32)) (own_inb 6 hs9 rfl (by decide) (by decide)) rfl (Sto.ofV Ar9 qk9 O1 (Ins.self (E_w_APPEND_IF_ABSENT.ext EX7))) (g := (mkF m 28 #[.val (.int p1), .val (.int p2), .unset, .unset, .unset, .unset, .unset, .unset, .unset, .unset] [(.ref w_APPEND_IF_ABSENT), (.int (3 : Int32)), (.ref b1), (.ref b1)])) rfl rfl (hb hby at_28)
  have B9 : own_ArrK Z h9 b1 k1 (.object "com/example/graft/graft/AssociatedSaveMode") [(.ref w_REPLACE), (.ref w_MERGE), (.ref w_APPEND), (.ref w_APPEND_IF_ABSENT), .null, .null] := own_set W9 Ar9 qk9 hs9
  have N9 := Fr.snoc X9 N7 g_b1
  have EX9 : Ext h0 h9 := own_ext_wr EX7 W9 sz_b1
  obtain ⟨T10, X10, e10, st10⟩ := getS2 X9 hx hZ hown (host := "") (Or.inl (hw _ (ow 12 rfl))) Via.refl e9 (S_w_UPDATE.ext EX9) (g := (mkF m 31 #[.val (.int p1), .val (.int p2), .unset, .unset, .unset, .unset, .unset, .unset, .unset, .unset] [(.int (4 : Int32)), (.ref b1), (.ref b1)])) rfl (hb hby at_31)
  obtain ⟨cl11, Ar11, qk11, hs11⟩ := id B9
  obtain ⟨T11, h11, X11, e11, W11, st11⟩ := stR X10 hx hZ e10 Ar11 (j := (4 : Int32)) (own_inb 6 hs11 rfl (by decide) (by decide)) rfl (Sto.ofV Ar11 qk11 O1 (Ins.self (E_w_UPDATE.ext EX9))) (g := (mkF m 34 #[.val (.int p1), .val (.int p2), .unset, .unset, .unset, .unset, .unset, .unset, .unset, .unset] [(.ref w_UPDATE), (.int (4 : Int32)), (.ref b1), (.ref b1)])) rfl rfl (hb hby at_34)
  have B11 : own_ArrK Z h11 b1 k1 (.object "com/example/graft/graft/AssociatedSaveMode") [(.ref w_REPLACE), (.ref w_MERGE), (.ref w_APPEND), (.ref w_APPEND_IF_ABSENT), (.ref w_UPDATE), .null] := own_set W11 Ar11 qk11 hs11
  have N11 := Fr.snoc X11 N9 g_b1
  have EX11 : Ext h0 h11 := own_ext_wr EX9 W11 sz_b1
  obtain ⟨T12, X12, e12, st12⟩ := getS2 X11 hx hZ hown (host := "") (Or.inl (hw _ (ow 14 rfl))) Via.refl e11 (S_w_VIOLENTLY_REPLACE.ext EX11) (g := (mkF m 37 #[.val (.int p1), .val (.int p2), .unset, .unset, .unset, .unset, .unset, .unset, .unset, .unset] [(.int (5 : Int32)), (.ref b1), (.ref b1)])) rfl (hb hby at_37)
  obtain ⟨cl13, Ar13, qk13, hs13⟩ := id B11
  obtain ⟨T13, h13, X13, e13, W13, st13⟩ := stR X12 hx hZ e12 Ar13 (j := (5 : Int32)) (own_inb 6 hs13 rfl (by decide) (by decide)) rfl (Sto.ofV Ar13 qk13 O1 (Ins.self (E_w_VIOLENTLY_REPLACE.ext EX11))) (g := (mkF m 40 #[.val (.int p1), .val (.int p2), .unset, .unset, .unset, .unset, .unset, .unset, .unset, .unset] [(.ref w_VIOLENTLY_REPLACE), (.int (5 : Int32)), (.ref b1), (.ref b1)])) rfl rfl (hb hby at_40)
  have B13 : own_ArrK Z h13 b1 k1 (.object "com/example/graft/graft/AssociatedSaveMode") [(.ref w_REPLACE), (.ref w_MERGE), (.ref w_APPEND), (.ref w_APPEND_IF_ABSENT), (.ref w_UPDATE), (.ref w_VIOLENTLY_REPLACE)] := own_set W13 Ar13 qk13 hs13
  have N13 := Fr.snoc X13 N11 g_b1
  have EX13 : Ext h0 h13 := own_ext_wr EX11 W13 sz_b1
  obtain ⟨T14, h14, k14, X14, e14, Eq14, A14, O14, st14⟩ := newR X13 hx hZ hown (hw _ (ow 16 rfl)) (hw _ (ow 17 rfl)) e13 (g := (mkF m 44 #[.val (.int p1), .val (.int p2), .val (.ref b1), .unset, .unset, .unset, .unset, .unset, .unset, .unset] [(.int (6 : Int32))])) rfl (hb hby at_44) rfl (by decide) (cap := 6) (by decide) (by decide) (by decide) (by decide)
  obtain ⟨b14, gb14⟩ : ∃ z, z = h13.size := ⟨_, rfl⟩
  rw [← gb14] at A14 st14
  have B14 : own_ArrK Z h14 b14 k14 (.object "com/example/graft/graft/DissociateAction") [.null, .null, .null, .null, .null, .null] := ⟨_, A14, rfl, rfl⟩
  have sz_b14 : h0.size ≤ b14 := Nat.le_trans EX13.1 (Nat.le_of_eq gb14.symm)
  have g_b14 : n0 ≤ b14 := Nat.le_trans Z0 sz_b14
  have ne_b1_b14 : b1 ≠ b14 := Nat.ne_of_lt (Nat.lt_of_lt_of_le B13.lt (Nat.le_of_eq gb14.symm))
  have B14_b1 := B13.ext Eq14
  have EX14 : Ext h0 h14 := own_ext_trans EX13 Eq14
  obtain ⟨T15, X15, e15, st15⟩ := getS2 X14 hx hZ hown (host := "") (Or.inl (hw _ (ow 18 rfl))) Via.refl e14 (S_w_NONE.ext EX14) (g := (mkF m 49 #[.val (.int p1), .val (.int p2), .val (.ref b1), .unset, .unset, .unset, .unset, .unset, .unset, .unset] [(.int (0 : Int32)), (.ref b14), (.ref b14)])) rfl (hb hby at_49)
  obtain ⟨cl16, Ar16, qk16, hs16⟩ := id B14
  obtain ⟨T16, h16, X16, e16, W16, st16⟩ := stR X15 hx hZ e15 Ar16 (j := (0 : Int32)) (own_inb 6 hs16 rfl (by decide) (by decide)) rfl (Sto.ofV Ar16 qk16 O14 (Ins.self (E_w_NONE.ext EX14))) (g := (mkF m 52 #[.val (.int p1), .val (.int p2), .val (.ref b1), .unset, .unset, .unset, .unset, .unset, .unset, .unset] [(.ref w_NONE), (.int (0 : Int32)), (.ref b14), (.ref b14)])) rfl rfl (hb hby at_52)
  have B16 : own_ArrK Z h16 b14 k14 (.object "com/example/graft/graft/DissociateAction") [(.ref w_NONE), .null, .null, .null, .null, .null] := own_set W16 Ar16 qk16 hs16
  have N16 := Fr.snoc X16 N13 g_b14
  have EX16 : Ext h0 h16 := own_ext_wr EX14 W16 sz_b14
  have B16_b1 := B14_b1.other W16 ne_b1_b14
  obtain ⟨T17, X17, e17, st17⟩ := getS2 X16 hx hZ hown (host := "") (Or.inl (hw _ (ow 22 rfl))) Via.refl e16 (S_w_LAX.ext EX16) (g := (mkF m 55 #[.val (.int p1), .val (.int p2), .val (.ref b1), .unset, .unset, .unset, .unset, .unset, .unset, .unset] [(.int (1 : Int32)), (.ref b14), (.ref b14)])) rfl (hb hby at_55)
  obtain ⟨cl18, Ar18, qk18, hs18⟩ := id B16
  obtain ⟨T18, h18, X18, e18, W18, st18⟩ := stR X17 hx hZ e17 Ar18 (j := (1 : Int32)) (own_inb 6 hs18 rfl (by decide) (by decide)) rfl (Sto.ofV Ar18 qk18 O14 (Ins.self (E_w_LAX.ext EX16))) (g := (mkF m 58 #[.val (.int p1), .val (.int p2), .val (.ref b1), .unset, .unset, .unset, .unset, .unset, .unset, .unset] [(.ref w_LAX), (.int (1 : Int32)), (.ref b14), (.ref b14)])) rfl rfl (hb hby at_58)
  have B18 : own_ArrK Z h18 b14 k14 (.object "com/example/graft/graft/DissociateAction") [(.ref w_NONE), (.ref w_LAX), .null, .null, .null, .null] := own_set W18 Ar18 qk18 hs18
  have N18 := Fr.snoc X18 N16 g_b14
  have EX18 : Ext h0 h18 := own_ext_wr EX16 W18 sz_b14
  have B18_b1 := B16_b1.other W18 ne_b1_b14
  obtain ⟨T19, X19, e19, st19⟩ := getS2 X18 hx hZ hown (host := "") (Or.inl (hw _ (ow 24 rfl))) Via.refl e18 (S_w_CHECK.ext EX18) (g := (mkF m 61 #[.val (.int p1), .val (.int p2), .val (.ref b1), .unset, .unset, .unset, .unset, .unset, .unset, .unset] [(.int (2 : Int32)), (.ref b14), (.ref b14)])) rfl (hb hby at_61)
  obtain ⟨cl20, Ar20, qk20, hs20⟩ := id B18
  obtain ⟨T20, h20, X20, e20, W20, st20⟩ := stR X19 hx hZ e19 Ar20 (j := (2 : Int32)) (own_inb 6 hs20 rfl (by decide) (by decide)) rfl (Sto.ofV Ar20 qk20 O14 (Ins.self (E_w_CHECK.ext EX18))) (g := (mkF m 64 #[.val (.int p1), .val (.int p2), .val (.ref b1), .unset, .unset, .unset, .unset, .unset, .unset, .unset] [(.ref w_CHECK), (.int (2 : Int32)), (.ref b14), (.ref b14)])) rfl rfl (hb hby at_64)
  have B20 : own_ArrK Z h20 b14 k14 (.object "com/example/graft/graft/DissociateAction") [(.ref w_NONE), (.ref w_LAX), (.ref w_CHECK), .null, .null, .null] := own_set W20 Ar20 qk20 hs20
  have N20 := Fr.snoc X20 N18 g_b14
  have EX20 : Ext h0 h20 := own_ext_wr EX18 W20 sz_b14
  have B20_b1 := B18_b1.other W20 ne_b1_b14
  obtain ⟨T21, X21, e21, st21⟩ := getS2 X20 hx hZ hown (host := "") (Or.inl (hw _ (ow 26 rfl))) Via.refl e20 (S_w_SET_NULL.ext EX20) (g := (mkF m 67 #[.val (.int p1), .val (.int p2), .val (.ref b1), .unset, .unset, .unset, .unset, .unset, .unset, .unset] [(.int (3 : Int32)), (.ref b14), (.ref b14)])) rfl (hb hby at_67)
  obtain ⟨cl22, Ar22, qk22, hs22⟩ := id B20
  obtain ⟨T22, h22, X22, e22, W22, st22⟩ := stR X21 hx hZ e21 Ar22 (j := (3 : Int32)) (own_inb 6 hs22 rfl (by decide) (by decide)) rfl (Sto.ofV Ar22 qk22 O14 (Ins.self (E_w_SET_NULL.ext EX20))) (g := (mkF m 70 #[.val (.int p1), .val (.int p2), .val (.ref b1), .unset, .unset, .unset, .unset, .unset, .unset, .unset] [(.ref w_SET_NULL), (.int (3 : Int32)), (.ref b14), (.ref b14)])) rfl rfl (hb hby at_70)
  have B22 : own_ArrK Z h22 b14 k14 (.object "com/example/graft/graft/DissociateAction") [(.ref w_NONE), (.ref w_LAX), (.ref w_CHECK), (.ref w_SET_NULL), .null, .null] := own_set W22 Ar22 qk22 hs22
  have N22 := Fr.snoc X22 N20 g_b14
  have EX22 : Ext h0 h22 := own_ext_wr EX20 W22 sz_b14
  have B22_b1 := B20_b1.other W22 ne_b1_b14
  obtain ⟨T23, X23, e23, st23⟩ := getS2 X22 hx hZ hown (host := "") (Or.inl (hw _ (ow 28 rfl))) Via.refl e22 (S_w_DELETE.ext EX22) (g := (mkF m 73 #[.val (.int p1), .val (.int p2), .val (.ref b1), .unset, .unset, .unset, .unset, .unset, .unset, .unset] [(.int (4 : Int32)), (.ref b14), (.ref b14)])) rfl (hb hby at_73)
  obtain ⟨cl24, Ar24, qk24, hs24⟩ := id B22
  obtain ⟨T24, h24, X24, e24, W24, st24⟩ := stR X23 hx hZ e23 Ar24 (j := (4 : Int32)) (own_inb 6 hs24 rfl (by decide) (by decide)) rfl (Sto.ofV Ar24 qk24 O14 (Ins.self (E_w_DELETE.ext EX22))) (g := (mkF m 76 #[.val (.int p1), .val (.int p2), .val (.ref b1), .unset, .unset, .unset, .unset, .unset, .unset, .unset] [(.ref w_DELETE), (.int (4 : Int32)), (.ref b14), (.ref b14)])) rfl rfl (hb hby at_76)
  have B24 : own_ArrK Z h24 b14 k14 (.object "com/example/graft/graft/DissociateAction") [(.ref w_NONE), (.ref w_LAX), (.ref w_CHECK), (.ref w_SET_NULL), (.ref w_DELETE), .null] := own_set W24 Ar24 qk24 hs24
  have N24 := Fr.snoc X24 N22 g_b14
  have EX24 : Ext h0 h24 := own_ext_wr EX22 W24 sz_b14
  have B24_b1 := B22_b1.other W24 ne_b1_b14
  obtain ⟨cl25, Ar25, qk25, hs25⟩ := id B24
  obtain ⟨T25, h25, X25, e25, W25, st25⟩ := stR X24 hx hZ e24 Ar25 (j := (5 : Int32)) (own_inb 6 hs25 rfl (by decide) (by decide)) rfl (Or.inl rfl) (g := (mkF m 80 #[.val (.int p1), .val (.int p2), .val (.ref b1), .unset, .unset, .unset, .unset, .unset, .unset, .unset] [.null, (.int (5 : Int32)), (.ref b14), (.ref b14)])) rfl rfl (hb hby at_80)
  have B25 : own_ArrK Z h25 b14 k14 (.object "com/example/graft/graft/DissociateAction") [(.ref w_NONE), (.ref w_LAX), (.ref w_CHECK), (.ref w_SET_NULL), (.ref w_DELETE), .null] := own_set W25 Ar25 qk25 hs25
  have N25 := Fr.snoc X25 N24 g_b14
  have EX25 : Ext h0 h25 := own_ext_wr EX24 W25 sz_b14
  have B25_b1 := B24_b1.other W25 ne_b1_b14
  obtain ⟨cl26, Ar26, qk26, hs26⟩ := id B25_b1
  have gt26 := own_get hs26 hi0 hA
  obtain ⟨cl27, Ar27, qk27, hs27⟩ := id B25
  have gt27 := own_get hs27 hj0 hB
  obtain ⟨cq28, kq28, q28a, q28b, q28c⟩ := isOf hZ e25 (E_A.ext EX25)
  obtain ⟨v28, _, ⟨T28, L28, k28, n28⟩, -, X28, ⟨Lc28, hQ28, l28, y28, z28⟩, st28⟩ := X25.virtualBack hx (y := (⟨"com/example/graft/graft/AssociatedSaveMode", "dissociateAction", "(Lcom/example/graft/graft/DissociateAction;)Lcom/example/graft/graft/DissociateAction;"⟩ : MethodName)) (z := (⟨"com/example/graft/graft/AssociatedSaveMode", "dissociateAction", "(Lcom/example/graft/graft/DissociateAction;)Lcom/example/graft/graft/DissociateAction;"⟩ : MethodName)) hown (mvT hZ (hw _ (ow 31 rfl))) (mvT hZ (hw _ (ow 32 rfl))) (notFace_of_selects (args := #[]) (mvT hZ (hw _ (ow 34 rfl)))) (mvT hZ (hw _ (ow 34 rfl))) (mvT hZ (hw _ (ow 33 rfl))) (by decide) (backOf (W := 0) (rm_disN l Z a0 hw [] A (0 : Int32) h25 n0 w_REPLACE w_MERGE w_APPEND w_APPEND_IF_ABSENT w_UPDATE w_VIOLENTLY_REPLACE w_NONE w_LAX w_CHECK w_SET_NULL w_DELETE (own_K_ext EX25 hK) (F_A.ext EX25)) hZ (hw _ (ow 35 rfl)) (hw _ (ow 3 rfl)) (by decide) (by decide)) q28a q28c (g := (mkF m 116 #[.val (.int p1), .val (.int p2), .val (.ref b1), .val (.ref b14), .val (.int ii), .val (.int jj), .val (.ref A), .val .null, .unset, .unset] [.null, (.ref A)])) rfl (by rw [hml]; rfl) (Steps.refl _) (argsL := [.null]) (rest := []) (lenOf pd_0 rfl) rfl (Nat.le_of_eq rfl) (hb hby at_116) (fun _ _ => ⟨rfl, e25, (by decide : 2 + 0 ≤ _), (by decide : 12 + 0 ≤ _)⟩)
  dsimp only [Pt.U, Pt.locs, Pt.cells, Pt.slots] at X28 l28 y28 z28 st28 hQ28
  subst l28 y28 z28
  obtain ⟨hv28, Nq28, e28⟩ := hQ28
  obtain rfl : v28 = some .null := hv28.trans (congrArg some (if_pos (by decide)))
  have N28 := Fr.app N25 Nq28
  obtain ⟨T29, X29, e29, st29⟩ := getS2 X28 hx hZ hown (host := "") (Or.inl (hw _ (ow 14 rfl))) Via.refl e28 (S_w_VIOLENTLY_REPLACE.ext EX25) (g := (mkF m 123 #[.val (.int p1), .val (.int p2), .val (.ref b1), .val (.ref b14), .val (.int ii), .val (.int jj), .val (.ref A), .val .null, .val .null, .unset] [(.ref A)])) rfl (hb hby at_123)
  have pre30 : ∀ t, Steps p.tables e below (T29.setTop (mkF m 153 #[.val (.int p1), .val (.int p2), .val (.ref b1), .val (.ref b14), .val (.int ii), .val (.int jj), .val (.ref A), .val .null, .val .null, .val .null] [(.int (1 : Int32))])) t → Steps p.tables e below (s₁.setTop (entryFrame m #[(.int p1), (.int p2)] maxLocals)) t := fun t k => pre0 t (by
    show Steps p.tables e below (s₁.setTop (mkF m 0 #[.val (.int p1), .val (.int p2), .unset, .unset, .unset, .unset, .unset, .unset, .unset, .unset] [])) _
    refine XS.bipush X0.here hx rfl (hb hby at_0) ?_
    show Steps p.tables e below (s₁.setTop (mkF m 2 #[.val (.int p1), .val (.int p2), .unset, .unset, .unset, .unset, .unset, .unset, .unset, .unset] [(.int (6 : Int32))])) _
    refine st1 _ ?_
    show Steps p.tables e below (T1.setTop (mkF m 5 #[.val (.int p1), .val (.int p2), .unset, .unset, .unset, .unset, .unset, .unset, .unset, .unset] [(.ref b1)])) _
    refine XS.dup X1.here hx rfl (hb hby at_5) rfl rfl ?_
    show Steps p.tables e below (T1.setTop (mkF m 6 #[.val (.int p1), .val (.int p2), .unset, .unset, .unset, .unset, .unset, .unset, .unset, .unset] [(.ref b1), (.ref b1)])) _
    refine XS.iconst X1.here hx rfl (hb hby at_6) ?_
    show Steps p.tables e below (T1.setTop (mkF m 7 #[.val (.int p1), .val (.int p2), .unset, .unset, .unset, .unset, .unset, .unset, .unset, .unset] [(.int (0 : Int32)), (.ref b1), (.ref b1)])) _
    refine st2 _ ?_
    show Steps p.tables e below (T2.setTop (mkF m 10 #[.val (.int p1), .val (.int p2), .unset, .unset, .unset, .unset, .unset, .unset, .unset, .unset] [(.ref w_REPLACE), (.int (0 : Int32)), (.ref b1), (.ref b1)])) _
    refine st3 _ ?_
    show Steps p.tables e below (T3.setTop (mkF m 11 #[.val (.int p1), .val (.int p2), .unset, .unset, .unset, .unset, .unset, .unset, .unset, .unset] [(.ref b1)])) _
    refine XS.dup X3.here hx rfl (hb hby at_11) rfl rfl ?_
    show Steps p.tables e below (T3.setTop (mkF m 12 #[.val (.int p1), .val (.int p2), .unset, .unset, .unset, .unset, .unset, .unset, .unset, .unset] [(.ref b1), (.ref b1)])) _
    refine XS.iconst X3.here hx rfl (hb hby at_12) ?_
    show Steps p.tables e below (T3.setTop (mkF m 13 #[.val (.int p1), .val (.int p2), .unset, .unset, .unset, .unset, .unset, .unset, .unset, .unset] [(.int (1 : Int32)), (.ref b1), (.ref b1)])) _
    refine st4 _ ?_
    show Steps p.tables e below (T4.setTop (mkF m 16 #[.val (.int p1), .val (.int p2), .unset, .unset, .unset, .unset, .unset, .unset, .unset, .unset] [(.ref w_MERGE), (.int (1 : Int32)), (.ref b1), (.ref b1)])) _
    refine st5 _ ?_
    show Steps p.tables e below (T5.setTop (mkF m 17 #[.val (.int p1), .val (.int p2), .unset, .unset, .unset, .unset, .unset, .unset, .unset, .unset] [(.ref b1)])) _
    refine XS.dup X5.here hx rfl (hb hby at_17) rfl rfl ?_
    show Steps p.tables e below (T5.setTop (mkF m 18 #[.val (.int p1), .val (.int p2), .unset, .unset, .unset, .unset, .unset, .unset, .unset, .unset] [(.ref b1), (.ref b1)])) _
    refine XS.iconst X5.here hx rfl (hb hby at_18) ?_
    show Steps p.tables e below (T5.setTop (mkF m 19 #[.val (.int p1), .val (.int p2), .unset, .unset, .unset, .unset, .unset, .unset, .unset, .unset] [(.int (2 : Int32)), (.ref b1), (.ref b1)])) _
    refine st6 _ ?_
    show Steps p.tables e below (T6.setTop (mkF m 22 #[.val (.int p1), .val (.int p2), .unset, .unset, .unset, .unset, .unset, .unset, .unset, .unset] [(.ref w_APPEND), (.int (2 : Int32)), (.ref b1), (.ref b1)])) _
    refine st7 _ ?_
    show Steps p.tables e below (T7.setTop (mkF m 23 #[.val (.int p1), .val (.int p2), .unset, .unset, .unset, .unset, .unset, .unset, .unset, .unset] [(.ref b1)])) _
    refine XS.dup X7.here hx rfl (hb hby at_23) rfl rfl ?_
    show Steps p.tables e below (T7.setTop (mkF m 24 #[.val (.int p1), .val (.int p2), .unset, .unset, .unset, .unset, .unset, .unset, .unset, .unset] [(.ref b1), (.ref b1)])) _
    refine XS.iconst X7.here hx rfl (hb hby at_24) ?_
    show Steps p.tables e below (T7.setTop (mkF m 25 #[.val (.int p1), .val (.int p2), .unset, .unset, .unset, .unset, .unset, .unset, .unset, .unset] [(.int (3 : Int32)), (.ref b1), (.ref b1)])) _
    refine st8 _ ?_
    show Steps p.tables e below (T8.setTop (mkF m 28 #[.val (.int p1), .val (.int p2), .unset, .unset, .unset, .unset, .unset, .unset, .unset, .unset] [(.ref w_APPEND_IF_ABSENT), (.int (3 : Int32)), (.ref b1), (.ref b1)])) _
    refine st9 _ ?_
    show Steps p.tables e below (T9.setTop (mkF m 29 #[.val (.int p1), .val (.int p2), .unset, .unset, .unset, .unset, .unset, .unset, .unset, .unset] [(.ref b1)])) _
    refine XS.dup X9.here hx rfl (hb hby at_29) rfl rfl ?_
    show Steps p.tables e below (T9.setTop (mkF m 30 #[.val (.int p1), .val (.int p2), .unset, .unset, .unset, .unset, .unset, .unset, .unset, .unset] [(.ref b1), (.ref b1)])) _
    refine XS.iconst X9.here hx rfl (hb hby at_30) ?_
    show Steps p.tables e below (T9.setTop (mkF m 31 #[.val (.int p1), .val (.int p2), .unset, .unset, .unset, .unset, .unset, .unset, .unset, .unset] [(.int (4 : Int32)), (.ref b1), (.ref b1)])) _
    refine st10 _ ?_
    show Steps p.tables e below (T10.setTop (mkF m 34 #[.val (.int p1), .val (.int p2), .unset, .unset, .unset, .unset, .unset, .unset, .unset, .unset] [(.ref w_UPDATE), (.int (4 : Int32)), (.ref b1), (.ref b1)])) _
    refine st11 _ ?_
    show Steps p.tables e below (T11.setTop (mkF m 35 #[.val (.int p1), .val (.int p2), .unset, .unset, .unset, .unset, .unset, .unset, .unset, .unset] [(.ref b1)])) _
    refine XS.dup X11.here hx rfl (hb hby at_35) rfl rfl ?_
    show Steps p.tables e below (T11.setTop (mkF m 36 #[.val (.int p1), .val (.int p2), .unset, .unset, .unset, .unset, .unset, .unset, .unset, .unset] [(.ref b1), (.ref b1)])) _
    refine XS.iconst X11.here hx rfl (hb hby at_36) ?_
    show Steps p.tables e below (T11.setTop (mkF m 37 #[.val (.int p1), .val (.int p2), .unset, .unset, .unset, .unset, .unset, .unset, .unset, .unset] [(.int (5 : Int32)), (.ref b1), (.ref b1)])) _
    refine st12 _ ?_
    show Steps p.tables e below (T12.setTop (mkF m 40 #[.val (.int p1), .val (.int p2), .unset, .unset, .unset, .unset, .unset, .unset, .unset, .unset] [(.ref w_VIOLENTLY_REPLACE), (.int (5 : Int32)), (.ref b1), (.ref b1)])) _
    refine st13 _ ?_
    show Steps p.tables e below (T13.setTop (mkF m 41 #[.val (.int p1), .val (.int p2), .unset, .unset, .unset, .unset, .unset, .unset, .unset, .unset] [(.ref b1)])) _
    refine XS.astoreN X13.here hx rfl (hb hby at_41) rfl rfl (l' := #[.val (.int p1), .val (.int p2), .val (.ref b1), .unset, .unset, .unset, .unset, .unset, .unset, .unset]) rfl ?_
    show Steps p.tables e below (T13.setTop (mkF m 42 #[.val (.int p1), .val (.int p2), .val (.ref b1), .unset, .unset, .unset, .unset, .unset, .unset, .unset] [])) _
    refine XS.bipush X13.here hx rfl (hb hby at_42) ?_
    show Steps p.tables e below (T13.setTop (mkF m 44 #[.val (.int p1), .val (.int p2), .val (.ref b1), .unset, .unset, .unset, .unset, .unset, .unset, .unset] [(.int (6 : Int32))])) _
    refine st14 _ ?_
    show Steps p.tables e below (T14.setTop (mkF m 47 #[.val (.int p1), .val (.int p2), .val (.ref b1), .unset, .unset, .unset, .unset, .unset, .unset, .unset] [(.ref b14)])) _
    refine XS.dup X14.here hx rfl (hb hby at_47) rfl rfl ?_
    show Steps p.tables e below (T14.setTop (mkF m 48 #[.val (.int p1), .val (.int p2), .val (.ref b1), .unset, .unset, .unset, .unset, .unset, .unset, .unset] [(.ref b14), (.ref b14)])) _
    refine XS.iconst X14.here hx rfl (hb hby at_48) ?_
    show Steps p.tables e below (T14.setTop (mkF m 49 #[.val (.int p1), .val (.int p2), .val (.ref b1), .unset, .unset, .unset, .unset, .unset, .unset, .unset] [(.int (0 : Int32)), (.ref b14), (.ref b14)])) _
    refine st15 _ ?_
    show Steps p.tables e below (T15.setTop (mkF m 52 #[.val (.int p1), .val (.int p2), .val (.ref b1), .unset, .unset, .unset, .unset, .unset, .unset, .unset] [(.ref w_NONE), (.int (0 : Int32)), (.ref b14), (.ref b14)])) _
    refine st16 _ ?_
    show Steps p.tables e below (T16.setTop (mkF m 53 #[.val (.int p1), .val (.int p2), .val (.ref b1), .unset, .unset, .unset, .unset, .unset, .unset, .unset] [(.ref b14)])) _
    refine XS.dup X16.here hx rfl (hb hby at_53) rfl rfl ?_
    show Steps p.tables e below (T16.setTop (mkF m 54 #[.val (.int p1), .val (.int p2), .val (.ref b1), .unset, .unset, .unset, .unset, .unset, .unset, .unset] [(.ref b14), (.ref b14)])) _
    refine XS.iconst X16.here hx rfl (hb hby at_54) ?_
    show Steps p.tables e below (T16.setTop (mkF m 55 #[.val (.int p1), .val (.int p2), .val (.ref b1), .unset, .unset, .unset, .unset, .unset, .unset, .unset] [(.int (1 : Int32)), (.ref b14), (.ref b14)])) _
    refine st17 _ ?_
    show Steps p.tables e below (T17.setTop (mkF m 58 #[.val (.int p1), .val (.int p2), .val (.ref b1), .unset, .unset, .unset, .unset, .unset, .unset, .unset] [(.ref w_LAX), (.int (1 : Int32)), (.ref b14), (.ref b14)])) _
    refine st18 _ ?_
    show Steps p.tables e below (T18.setTop (mkF m 59 #[.val (.int p1), .val (.int p2), .val (.ref b1), .unset, .unset, .unset, .unset, .unset, .unset, .unset] [(.ref b14)])) _
    refine XS.dup X18.here hx rfl (hb hby at_59) rfl rfl ?_
    show Steps p.tables e below (T18.setTop (mkF m 60 #[.val (.int p1), .val (.int p2), .val (.ref b1), .unset, .unset, .unset, .unset, .unset, .unset, .unset] [(.ref b14), (.ref b14)])) _
    refine XS.iconst X18.here hx rfl (hb hby at_60) ?_
    show Steps p.tables e below (T18.setTop (mkF m 61 #[.val (.int p1), .val (.int p2), .val (.ref b1), .unset, .unset, .unset, .unset, .unset, .unset, .unset] [(.int (2 : Int32)), (.ref b14), (.ref b14)])) _
    refine st19 _ ?_
    show Steps p.tables e below (T19.setTop (mkF m 64 #[.val (.int p1), .val (.int p2), .val (.ref b1), .unset, .unset, .unset, .unset, .unset, .unset, .unset] [(.ref w_CHECK), (.int (2 : Int32)), (.ref b14), (.ref b14)])) _
    refine st20 _ ?_
    show Steps p.tables e below (T20.setTop (mkF m 65 #[.val (.int p1), .val (.int p2), .val (.ref b1), .unset, .unset, .unset, .unset, .unset, .unset, .unset] [(.ref b14)])) _
    refine XS.dup X20.here hx rfl (hb hby at_65) rfl rfl ?_
    show Steps p.tables e below (T20.setTop (mkF m 66 #[.val (.int p1), .val (.int p2), .val (.ref b1), .unset, .unset, .unset, .unset, .unset, .unset, .unset] [(.ref b14), (.ref b14)])) _
    refine XS.iconst X20.here hx rfl (hb hby at_66) ?_
    show Steps p.tables e below (T20.setTop (mkF m 67 #[.val (.int p1), .val (.int p2), .val (.ref b1), .unset, .unset, .unset, .unset, .unset, .unset, .unset] [(.int (3 : Int32)), (.ref b14), (.ref b14)])) _
    refine st21 _ ?_
    show Steps p.tables e below (T21.setTop (mkF m 70 #[.val (.int p1), .val (.int p2), .val (.ref b1), .unset, .unset, .unset, .unset, .unset, .unset, .unset] [(.ref w_SET_NULL), (.int (3 : Int32)), (.ref b14), (.ref b14)])) _
    refine st22 _ ?_
    show Steps p.tables e below (T22.setTop (mkF m 71 #[.val (.int p1), .val (.int p2), .val (.ref b1), .unset, .unset, .unset, .unset, .unset, .unset, .unset] [(.ref b14)])) _
    refine XS.dup X22.here hx rfl (hb hby at_71) rfl rfl ?_
    show Steps p.tables e below (T22.setTop (mkF m 72 #[.val (.int p1), .val (.int p2), .val (.ref b1), .unset, .unset, .unset, .unset, .unset, .unset, .unset] [(.ref b14), (.ref b14)])) _
    refine XS.iconst X22.here hx rfl (hb hby at_72) ?_
    show Steps p.tables e below (T22.setTop (mkF m 73 #[.val (.int p1), .val (.int p2), .val (.ref b1), .unset, .unset, .unset, .unset, .unset, .unset, .unset] [(.int (4 : Int32)), (.ref b14), (.ref b14)])) _
    refine st23 _ ?_
    show Steps p.tables e below (T23.setTop (mkF m 76 #[.val (.int p1), .val (.int p2), .val (.ref b1), .unset, .unset, .unset, .unset, .unset, .unset, .unset] [(.ref w_DELETE), (.int (4 : Int32)), (.ref b14), (.ref b14)])) _
    refine st24 _ ?_
    show Steps p.tables e below (T24.setTop (mkF m 77 #[.val (.int p1), .val (.int p2), .val (.ref b1), .unset, .unset, .unset, .unset, .unset, .unset, .unset] [(.ref b14)])) _
    refine XS.dup X24.here hx rfl (hb hby at_77) rfl rfl ?_
    show Steps p.tables e below (T24.setTop (mkF m 78 #[.val (.int p1), .val (.int p2), .val (.ref b1), .unset, .unset, .unset, .unset, .unset, .unset, .unset] [(.ref b14), (.ref b14)])) _
    refine XS.iconst X24.here hx rfl (hb hby at_78) ?_
    show Steps p.tables e below (T24.setTop (mkF m 79 #[.val (.int p1), .val (.int p2), .val (.ref b1), .unset, .unset, .unset, .unset, .unset, .unset, .unset] [(.int (5 : Int32)), (.ref b14), (.ref b14)])) _
    refine XS.aconstNull X24.here hx rfl (hb hby at_79) ?_
    show Steps p.tables e below (T24.setTop (mkF m 80 #[.val (.int p1), .val (.int p2), .val (.ref b1), .unset, .unset, .unset, .unset, .unset, .unset, .unset] [.null, (.int (5 : Int32)), (.ref b14), (.ref b14)])) _
    refine st25 _ ?_
    show Steps p.tables e below (T25.setTop (mkF m 81 #[.val (.int p1), .val (.int p2), .val (.ref b1), .unset, .unset, .unset, .unset, .unset, .unset, .unset] [(.ref b14)])) _
    refine XS.astoreN X25.here hx rfl (hb hby at_81) rfl rfl (l' := #[.val (.int p1), .val (.int p2), .val (.ref b1), .val (.ref b14), .unset, .unset, .unset, .unset, .unset, .unset]) rfl ?_
    show Steps p.tables e below (T25.setTop (mkF m 82 #[.val (.int p1), .val (.int p2), .val (.ref b1), .val (.ref b14), .unset, .unset, .unset, .unset, .unset, .unset] [])) _
    refine XS.iloadN X25.here hx rfl (hb hby at_82) rfl ?_
    show Steps p.tables e below (T25.setTop (mkF m 83 #[.val (.int p1), .val (.int p2), .val (.ref b1), .val (.ref b14), .unset, .unset, .unset, .unset, .unset, .unset] [(.int p1)])) _
    refine X25.ldcInt hx hown (mvT hZ (hw _ (ow 30 rfl))) (g := (mkF m 83 #[.val (.int p1), .val (.int p2), .val (.ref b1), .val (.ref b14), .unset, .unset, .unset, .unset, .unset, .unset] [(.int p1)])) rfl (hb hby at_83) _ ?_
    show Steps p.tables e below (T25.setTop (mkF m 85 #[.val (.int p1), .val (.int p2), .val (.ref b1), .val (.ref b14), .unset, .unset, .unset, .unset, .unset, .unset] [(.int (2147483647 : Int32)), (.int p1)])) _
    refine XS.iand X25.here hx rfl (hb hby at_85) rfl ?_
    show Steps p.tables e below (T25.setTop (mkF m 86 #[.val (.int p1), .val (.int p2), .val (.ref b1), .val (.ref b14), .unset, .unset, .unset, .unset, .unset, .unset] [(.int (p1 &&& (2147483647 : Int32)))])) _
    refine XS.bipush X25.here hx rfl (hb hby at_86) ?_
    show Steps p.tables e below (T25.setTop (mkF m 88 #[.val (.int p1), .val (.int p2), .val (.ref b1), .val (.ref b14), .unset, .unset, .unset, .unset, .unset, .unset] [(.int (6 : Int32)), (.int (p1 &&& (2147483647 : Int32)))])) _
    refine iremM X25 hx rfl (hb hby at_88) rfl (by decide) ?_
    show Steps p.tables e below (T25.setTop (mkF m 89 #[.val (.int p1), .val (.int p2), .val (.ref b1), .val (.ref b14), .unset, .unset, .unset, .unset, .unset, .unset] [(.int ((p1 &&& (2147483647 : Int32)) % (6 : Int32)))])) _
    rw [hi]
    show Steps p.tables e below (T25.setTop (mkF m 89 #[.val (.int p1), .val (.int p2), .val (.ref b1), .val (.ref b14), .unset, .unset, .unset, .unset, .unset, .unset] [(.int ii)])) _
    refine XS.istore X25.here hx rfl (hb hby at_89) rfl (l' := #[.val (.int p1), .val (.int p2), .val (.ref b1), .val (.ref b14), .val (.int ii), .unset, .unset, .unset, .unset, .unset]) rfl ?_
    show Steps p.tables e below (T25.setTop (mkF m 91 #[.val (.int p1), .val (.int p2), .val (.ref b1), .val (.ref b14), .val (.int ii), .unset, .unset, .unset, .unset, .unset] [])) _
    refine XS.iloadN X25.here hx rfl (hb hby at_91) rfl ?_
    show Steps p.tables e below (T25.setTop (mkF m 92 #[.val (.int p1), .val (.int p2), .val (.ref b1), .val (.ref b14), .val (.int ii), .unset, .unset, .unset, .unset, .unset] [(.int p2)])) _
    refine X25.ldcInt hx hown (mvT hZ (hw _ (ow 30 rfl))) (g := (mkF m 92 #[.val (.int p1), .val (.int p2), .val (.ref b1), .val (.ref b14), .val (.int ii), .unset, .unset, .unset, .unset, .unset] [(.int p2)])) rfl (hb hby at_92) _ ?_
    show Steps p.tables e below (T25.setTop (mkF m 94 #[.val (.int p1), .val (.int p2), .val (.ref b1), .val (.ref b14), .val (.int ii), .unset, .unset, .unset, .unset, .unset] [(.int (2147483647 : Int32)), (.int p2)])) _
    refine XS.iand X25.here hx rfl (hb hby at_94) rfl ?_
    show Steps p.tables e below (T25.setTop (mkF m 95 #[.val (.int p1), .val (.int p2), .val (.ref b1), .val (.ref b14), .val (.int ii), .unset, .unset, .unset, .unset, .unset] [(.int (p2 &&& (2147483647 : Int32)))])) _
    refine XS.bipush X25.here hx rfl (hb hby at_95) ?_
    show Steps p.tables e below (T25.setTop (mkF m 97 #[.val (.int p1), .val (.int p2), .val (.ref b1), .val (.ref b14), .val (.int ii), .unset, .unset, .unset, .unset, .unset] [(.int (6 : Int32)), (.int (p2 &&& (2147483647 : Int32)))])) _
    refine iremM X25 hx rfl (hb hby at_97) rfl (by decide) ?_
    show Steps p.tables e below (T25.setTop (mkF m 98 #[.val (.int p1), .val (.int p2), .val (.ref b1), .val (.ref b14), .val (.int ii), .unset, .unset, .unset, .unset, .unset] [(.int ((p2 &&& (2147483647 : Int32)) % (6 : Int32)))])) _
    rw [hj]
    show Steps p.tables e below (T25.setTop (mkF m 98 #[.val (.int p1), .val (.int p2), .val (.ref b1), .val (.ref b14), .val (.int ii), .unset, .unset, .unset, .unset, .unset] [(.int jj)])) _
    refine XS.istore X25.here hx rfl (hb hby at_98) rfl (l' := #[.val (.int p1), .val (.int p2), .val (.ref b1), .val (.ref b14), .val (.int ii), .val (.int jj), .unset, .unset, .unset, .unset]) rfl ?_
    show Steps p.tables e below (T25.setTop (mkF m 100 #[.val (.int p1), .val (.int p2), .val (.ref b1), .val (.ref b14), .val (.int ii), .val (.int jj), .unset, .unset, .unset, .unset] [])) _
    refine XS.aloadN X25.here hx rfl (hb hby at_100) rfl rfl ?_
    show Steps p.tables e below (T25.setTop (mkF m 101 #[.val (.int p1), .val (.int p2), .val (.ref b1), .val (.ref b14), .val (.int ii), .val (.int jj), .unset, .unset, .unset, .unset] [(.ref b1)])) _
    refine XS.iload X25.here hx rfl (hb hby at_101) rfl ?_
    show Steps p.tables e below (T25.setTop (mkF m 103 #[.val (.int p1), .val (.int p2), .val (.ref b1), .val (.ref b14), .val (.int ii), .val (.int jj), .unset, .unset, .unset, .unset] [(.int ii), (.ref b1)])) _
    refine X25.aaload hx (j := ii) (v := (.ref A)) (by rw [e25]; exact Ar26.1) (State.isArrayOf_alike hZ.alike Ar26.2.1) rfl Ar26.2.2 gt26.1 gt26.2 (g := (mkF m 103 #[.val (.int p1), .val (.int p2), .val (.ref b1), .val (.ref b14), .val (.int ii), .val (.int jj), .unset, .unset, .unset, .unset] [(.int ii), (.ref b1)])) rfl rfl (hb hby at_103) _ ?_
    show Steps p.tables e below (T25.setTop (mkF m 104 #[.val (.int p1), .val (.int p2), .val (.ref b1), .val (.ref b14), .val (.int ii), .val (.int jj), .unset, .unset, .unset, .unset] [(.ref A)])) _
    refine XS.astore X25.here hx rfl (hb hby at_104) rfl rfl (l' := #[.val (.int p1), .val (.int p2), .val (.ref b1), .val (.ref b14), .val (.int ii), .val (.int jj), .val (.ref A), .unset, .unset, .unset]) rfl ?_
    show Steps p.tables e below (T25.setTop (mkF m 106 #[.val (.int p1), .val (.int p2), .val (.ref b1), .val (.ref b14), .val (.int ii), .val (.int jj), .val (.ref A), .unset, .unset, .unset] [])) _
    refine XS.aloadN X25.here hx rfl (hb hby at_106) rfl rfl ?_
    show Steps p.tables e below (T25.setTop (mkF m 107 #[.val (.int p1), .val (.int p2), .val (.ref b1), .val (.ref b14), .val (.int ii), .val (.int jj), .val (.ref A), .unset, .unset, .unset] [(.ref b14)])) _
    refine XS.iload X25.here hx rfl (hb hby at_107) rfl ?_
    show Steps p.tables e below (T25.setTop (mkF m 109 #[.val (.int p1), .val (.int p2), .val (.ref b1), .val (.ref b14), .val (.int ii), .val (.int jj), .val (.ref A), .unset, .unset, .unset] [(.int jj), (.ref b14)])) _
    refine X25.aaload hx (j := jj) (v := .null) (by rw [e25]; exact Ar27.1) (State.isArrayOf_alike hZ.alike Ar27.2.1) rfl Ar27.2.2 gt27.1 gt27.2 (g := (mkF m 109 #[.val (.int p1), .val (.int p2), .val (.ref b1), .val (.ref b14), .val (.int ii), .val (.int jj), .val (.ref A), .unset, .unset, .unset] [(.int jj), (.ref b14)])) rfl rfl (hb hby at_109) _ ?_
    show Steps p.tables e below (T25.setTop (mkF m 110 #[.val (.int p1), .val (.int p2), .val (.ref b1), .val (.ref b14), .val (.int ii), .val (.int jj), .val (.ref A), .unset, .unset, .unset] [.null])) _
    refine XS.astore X25.here hx rfl (hb hby at_110) rfl rfl (l' := #[.val (.int p1), .val (.int p2), .val (.ref b1), .val (.ref b14), .val (.int ii), .val (.int jj), .val (.ref A), .val .null, .unset, .unset]) rfl ?_
    show Steps p.tables e below (T25.setTop (mkF m 112 #[.val (.int p1), .val (.int p2), .val (.ref b1), .val (.ref b14), .val (.int ii), .val (.int jj), .val (.ref A), .val .null, .unset, .unset] [])) _
    refine XS.aload X25.here hx rfl (hb hby at_112) rfl rfl ?_
    show Steps p.tables e below (T25.setTop (mkF m 114 #[.val (.int p1), .val (.int p2), .val (.ref b1), .val (.ref b14), .val (.int ii), .val (.int jj), .val (.ref A), .val .null, .unset, .unset] [(.ref A)])) _
    refine XS.aload X25.here hx rfl (hb hby at_114) rfl rfl ?_
    show Steps p.tables e below (T25.setTop (mkF m 116 #[.val (.int p1), .val (.int p2), .val (.ref b1), .val (.ref b14), .val (.int ii), .val (.int jj), .val (.ref A), .val .null, .unset, .unset] [.null, (.ref A)])) _
    refine st28.trans ?_
    show Steps p.tables e below (T28.setTop (mkF m 119 #[.val (.int p1), .val (.int p2), .val (.ref b1), .val (.ref b14), .val (.int ii), .val (.int jj), .val (.ref A), .val .null, .unset, .unset] [.null])) _
    refine XS.astore X28.here hx rfl (hb hby at_119) rfl rfl (l' := #[.val (.int p1), .val (.int p2), .val (.ref b1), .val (.ref b14), .val (.int ii), .val (.int jj), .val (.ref A), .val .null, .val .null, .unset]) rfl ?_
    show Steps p.tables e below (T28.setTop (mkF m 121 #[.val (.int p1), .val (.int p2), .val (.ref b1), .val (.ref b14), .val (.int ii), .val (.int jj), .val (.ref A), .val .null, .val .null, .unset] [])) _
    refine XS.aload X28.here hx rfl (hb hby at_121) rfl rfl ?_
    show Steps p.tables e below (T28.setTop (mkF m 123 #[.val (.int p1), .val (.int p2), .val (.ref b1), .val (.ref b14), .val (.int ii), .val (.int jj), .val (.ref A), .val .null, .val .null, .unset] [(.ref A)])) _
    refine st29 _ ?_
    show Steps p.tables e below (T29.setTop (mkF m 126 #[.val (.int p1), .val (.int p2), .val (.ref b1), .val (.ref b14), .val (.int ii), .val (.int jj), .val (.ref A), .val .null, .val .null, .unset] [(.ref w_VIOLENTLY_REPLACE), (.ref A)])) _
    refine Jvm.RoadKit.acmp (g := (mkF m 126 #[.val (.int p1), .val (.int p2), .val (.ref b1), .val (.ref b14), .val (.int ii), .val (.int jj), .val (.ref A), .val .null, .val .null, .unset] [(.ref w_VIOLENTLY_REPLACE), (.ref A)])) X29 hx rfl rfl rfl (pc0 := 126) (pc' := 137) (same := false) rfl (hb hby at_126) rfl (decide_eq_false fun q => hne (Value.ref.inj q)) (by decide) (by decide) ?_
    show Steps p.tables e below (T29.setTop (mkF m 137 #[.val (.int p1), .val (.int p2), .val (.ref b1), .val (.ref b14), .val (.int ii), .val (.int jj), .val (.ref A), .val .null, .val .null, .unset] [])) _
    refine XS.aload X29.here hx rfl (hb hby at_137) rfl rfl ?_
    show Steps p.tables e below (T29.setTop (mkF m 139 #[.val (.int p1), .val (.int p2), .val (.ref b1), .val (.ref b14), .val (.int ii), .val (.int jj), .val (.ref A), .val .null, .val .null, .unset] [.null])) _
    refine XS.astore X29.here hx rfl (hb hby at_139) rfl rfl (l' := #[.val (.int p1), .val (.int p2), .val (.ref b1), .val (.ref b14), .val (.int ii), .val (.int jj), .val (.ref A), .val .null, .val .null, .val .null]) rfl ?_
    show Steps p.tables e below (T29.setTop (mkF m 141 #[.val (.int p1), .val (.int p2), .val (.ref b1), .val (.ref b14), .val (.int ii), .val (.int jj), .val (.ref A), .val .null, .val .null, .val .null] [])) _
    refine XS.aload X29.here hx rfl (hb hby at_141) rfl rfl ?_
    show Steps p.tables e below (T29.setTop (mkF m 143 #[.val (.int p1), .val (.int p2), .val (.ref b1), .val (.ref b14), .val (.int ii), .val (.int jj), .val (.ref A), .val .null, .val .null, .val .null] [.null])) _
    refine XS.aload X29.here hx rfl (hb hby at_143) rfl rfl ?_
    show Steps p.tables e below (T29.setTop (mkF m 145 #[.val (.int p1), .val (.int p2), .val (.ref b1), .val (.ref b14), .val (.int ii), .val (.int jj), .val (.ref A), .val .null, .val .null, .val .null] [.null, .null])) _
    refine Jvm.RoadKit.acmp (g := (mkF m 145 #[.val (.int p1), .val (.int p2), .val (.ref b1), .val (.ref b14), .val (.int ii), .val (.int jj), .val (.ref A), .val .null, .val .null, .val .null] [.null, .null])) X29 hx rfl rfl rfl (pc0 := 145) (pc' := 148) (same := true) rfl (hb hby at_145) rfl (decide_eq_true rfl) (by decide) (by decide) ?_
    show Steps p.tables e below (T29.setTop (mkF m 148 #[.val (.int p1), .val (.int p2), .val (.ref b1), .val (.ref b14), .val (.int ii), .val (.int jj), .val (.ref A), .val .null, .val .null, .val .null] [])) _
    refine XS.iconst X29.here hx rfl (hb hby at_148) ?_
    show Steps p.tables e below (T29.setTop (mkF m 149 #[.val (.int p1), .val (.int p2), .val (.ref b1), .val (.ref b14), .val (.int ii), .val (.int jj), .val (.ref A), .val .null, .val .null, .val .null] [(.int (1 : Int32))])) _
    refine XS.goto X29.here hx rfl (pc0 := 149) (pc' := 153) rfl (hb hby at_149) (by decide) (by decide) ?_
    exact k)
  obtain ⟨fs, hr, hrun, hended, hW, hsame⟩ := X29.leave (v := some (.int (1 : Int32))) (fun h => by rw [Bd.returns] at h; cases h)
  refine ⟨_, _, pre30 _ ?_, hrun, hended, _, _, rfl, ?_, ⟨_, rfl⟩, hW, hsame.mono (by decide) (by decide)⟩
  · show Steps p.tables e below (T29.setTop (mkF m 153 #[.val (.int p1), .val (.int p2), .val (.ref b1), .val (.ref b14), .val (.int ii), .val (.int jj), .val (.ref A), .val .null, .val .null, .val .null] [(.int (1 : Int32))])) _
    exact retN X29 hx (t := .boolean) Bd.returns (by simp) (hb hby at_153) hr
  · exact ⟨rfl, N28, trivial⟩
theorem ef_law_1_0 (m : MethodId) (x0 : Int32) (x1 : Int32) : entryFrame m #[(.int x0), (.int x1)] maxLocals = mkF m 0 #[.val (.int x0), .val (.int x1), .unset, .unset, .unset, .unset, .unset, .unset, .unset, .unset] [] := by first | (simp [entryFrame, mkF, argsToLocals, Value.category, maxLocals]; done) | rfl
set_option maxRecDepth 65536 in
set_option maxHeartbeats 40000000 in
theorem rm_law_1_0 (l : Launch) (Z : State) (a0 : Array Value) (hw : ∀ d ∈ tables_1, d.before a0 Z = true) (ws : List Jvm.Cond) (p1 : Int32) (p2 : Int32) (h0 : Heap) (n0 : Nat) (Z0 : n0 ≤ h0.size) (w_REPLACE w_MERGE w_APPEND w_APPEND_IF_ABSENT w_UPDATE w_VIOLENTLY_REPLACE w_NONE w_LAX w_CHECK w_SET_NULL w_DELETE : Addr) (hK : own_K Z h0 w_REPLACE w_MERGE w_APPEND w_APPEND_IF_ABSENT w_UPDATE w_VIOLENTLY_REPLACE w_NONE w_LAX w_CHECK w_SET_NULL w_DELETE) (ii jj : Int32) (a2 : Addr) (hi : ((p1 &&& (2147483647 : Int32)) % (6 : Int32)) = ii) (hj : ((p2 &&& (2147483647 : Int32)) % (6 : Int32)) = jj) (hi0 : ¬ ii < 0) (hj0 : ¬ jj < 0) (hA : [Value.ref w_REPLACE, Value.ref w_MERGE, Value.ref w_APPEND, Value.ref w_APPEND_IF_ABSENT, Value.ref w_UPDATE, Value.ref w_VIOLENTLY_REPLACE][ii.toNatClampNeg]? = some (Value.ref w_VIOLENTLY_REPLACE)) (hB : [Value.ref w_NONE, Value.ref w_LAX, Value.ref w_CHECK, Value.ref w_SET_NULL, Value.ref w_DELETE, Value.null][jj.toNatClampNeg]? = some (Value.ref a2)) :
    MetFree l x (head1 (Jvm.Cond.code x code maxLocals ret :: ws) room_1) (fun a U => a = #[(.int p1), (.int p2)] ∧ Z.Warmed39 U.vm ∧ U.heap = h0) (fun _ _ _ _ _ => True) (fun _ U o U' => ∃ v L, o = .returned v ∧ own_QH (some (.int (1 : Int32))) n0 v U'.heap L ∧ FrameEnd U o U' L room_1.cells room_1.slots) := by
  refine MetFree.of_bodySF (plainFor_of_name pn_1) hisR ?_
  intro p e s m args below meth c s₁ Bd hml0 hP hK0
  obtain ⟨rfl, hZ, hh⟩ := hP
  have hx := Bd.exec
  have hby := Bd.bytes
  have hml : c.maxLocals = 10 := hml0
  have hown : s.vm.findClass "com/example/graft/graft/AssociatedSaveModeDissociateActionPinLaw" = some m.cls := findClass_of_methodNamed Bd.named
  have hnm := (name_of_methodNamed Bd.named Bd.method).1
  have X0 : Stand p l e room_1 s m #[(.int p1), (.int p2)] below meth c s₁ [] 0 0 := Stand.of_body Bd
  have e0 : s₁.heap = h0 := by rw [← hh, Bd.state]; rfl
  have N0 := Fr.nil n0
  have pre0 : ∀ t, Steps p.tables e below (s₁.setTop (mkF m 0 #[.val (.int p1), .val (.int p2), .unset, .unset, .unset, .unset, .unset, .unset, .unset, .unset] [])) t → Steps p.tables e below (s₁.setTop (entryFrame m #[(.int p1), (.int p2)] maxLocals)) t := fun t k => castTop (ef_law_1_0 m p1 p2) k
  have hK' := hK
  obtain ⟨S_w_REPLACE, E_w_REPLACE, S_w_MERGE, E_w_MERGE, S_w_APPEND, E_w_APPEND, S_w_APPEND_IF_ABSENT, E_w_APPEND_IF_ABSENT, S_w_UPDATE, E_w_UPDATE, S_w_VIOLENTLY_REPLACE, E_w_VIOLENTLY_REPLACE, S_w_NONE, E_w_NONE, S_w_LAX, E_w_LAX, S_w_CHECK, E_w_CHECK, S_w_SET_NULL, E_w_SET_NULL, S_w_DELETE, E_w_DELETE, F_deletesLeftOut_w_REPLACE, F_ordinal_w_REPLACE, F_ordinal_w_VIOLENTLY_REPLACE, F_deletesLeftOut_w_APPEND, F_ordinal_w_APPEND, F_deletesLeftOut_w_UPDATE, F_ordinal_w_UPDATE, F_deletesLeftOut_w_MERGE, F_ordinal_w_MERGE, F_deletesLeftOut_w_VIOLENTLY_REPLACE, F_deletesLeftOut_w_APPEND_IF_ABSENT, F_ordinal_w_APPEND_IF_ABSENT⟩ := hK'
  obtain ⟨T1, h1, k1, X1, e1, Eq1, A1, O1, st1⟩ := newR X0 hx hZ hown (hw _ (ow 0 rfl)) (hw _ (ow 1 rfl)) e0 (g := (mkF m 2 #[.val (.int p1), .val (.int p2), .unset, .unset, .unset, .unset, .unset, .unset, .unset, .unset] [(.int (6 : Int32))])) rfl (hb hby at_2) rfl (by decide) (cap := 6) (by decide) (by decide) (by decide) (by decide)
  obtain ⟨b1, gb1⟩ : ∃ z, z = h0.size := ⟨_, rfl⟩
  rw [← gb1] at A1 st1
  have B1 : own_ArrK Z h1 b1 k1 (.object "com/example/graft/graft/AssociatedSaveMode") [.null, .null, .null, .null, .null, .null] := ⟨_, A1, rfl, rfl⟩
  have sz_b1 : h0.size ≤ b1 := Nat.le_of_eq gb1.symm
  have g_b1 : n0 ≤ b1 := Nat.le_trans Z0 sz_b1
  have EX1 : Ext h0 h1 := Eq1
  obtain ⟨T2, X2, e2, st2⟩ := getS2 X1 hx hZ hown (host := "") (Or.inl (hw _ (ow 2 rfl))) Via.refl e1 (S_w_REPLACE.ext EX1) (g := (mkF m 7 #[.val (.int p1), .val (.int p2), .unset, .unset, .unset, .unset, .unset, .unset, .unset, .unset] [(.int (0 : Int32)), (.ref b1), (.ref b1)])) rfl (hb hby at_7)
  obtain ⟨cl3, Ar3, qk3, hs3⟩ := id B1
  obtain ⟨T3, h3, X3, e3, W3, st3⟩ := stR X2 hx hZ e2 Ar3 (j := (0 : Int32)) (own_inb 6 hs3 rfl (by decide) (by decide)) rfl (Sto.ofV Ar3 qk3 O1 (Ins.self (E_w_REPLACE.ext EX1))) (g := (mkF m 10 #[.val (.int p1), .val (.int p2), .unset, .unset, .unset, .unset, .unset, .unset, .unset, .unset] [(.ref w_REPLACE), (.int (0 : Int32)), (.ref b1), (.ref b1)])) rfl rfl (hb hby at_10)
  have B3 : own_ArrK Z h3 b1 k1 (.object "com/example/graft/graft/AssociatedSaveMode") [(.ref w_REPLACE), .null, .null, .null, .null, .null] := own_set W3 Ar3 qk3 hs3
  have N3 := Fr.snoc X3 N0 g_b1
  have EX3 : Ext h0 h3 := own_ext_wr EX1 W3 sz_b1
  obtain ⟨T4, X4, e4, st4⟩ := getS2 X3 hx hZ hown (host := "") (Or.inl (hw _ (ow 6 rfl))) Via.refl e3 (S_w_MERGE.ext EX3) (g := (mkF m 13 #[.val (.int p1), .val (.int p2), .unset, .unset, .unset, .unset, .unset, .unset, .unset, .unset] [(.int (1 : Int32)), (.ref b1), (.ref b1)])) rfl (hb hby at_13)
  obtain ⟨cl5, Ar5, qk5, hs5⟩ := id B3
  obtain ⟨T5, h5, X5, e5, W5, st5⟩ := stR X4 hx hZ e4 Ar5 (j := (1 : Int32)) (own_inb 6 hs5 rfl (by decide) (by decide)) rfl (Sto.ofV Ar5 qk5 O1 (Ins.self (E_w_MERGE.ext EX3))) (g := (mkF m 16 #[.val (.int p1), .val (.int p2), .unset, .unset, .unset, .unset, .unset, .unset, .unset, .unset] [(.ref w_MERGE), (.int (1 : Int32)), (.ref b1), (.ref b1)])) rfl rfl (hb hby at_16)
  have B5 : own_ArrK Z h5 b1 k1 (.object "com/example/graft/graft/AssociatedSaveMode") [(.ref w_REPLACE), (.ref w_MERGE), .null, .null, .null, .null] := own_set W5 Ar5 qk5 hs5
  have N5 := Fr.snoc X5 N3 g_b1
  have EX5 : Ext h0 h5 := own_ext_wr EX3 W5 sz_b1
  obtain ⟨T6, X6, e6, st6⟩ := getS2 X5 hx hZ hown (host := "") (Or.inl (hw _ (ow 8 rfl))) Via.refl e5 (S_w_APPEND.ext EX5) (g := (mkF m 19 #[.val (.int p1), .val (.int p2), .unset, .unset, .unset, .unset, .unset, .unset, .unset, .unset] [(.int (2 : Int32)), (.ref b1), (.ref b1)])) rfl (hb hby at_19)
  obtain ⟨cl7, Ar7, qk7, hs7⟩ := id B5
  obtain ⟨T7, h7, X7, e7, W7, st7⟩ := stR X6 hx hZ e6 Ar7 (j := (2 : Int32)) (own_inb 6 hs7 rfl (by decide) (by decide)) rfl (Sto.ofV Ar7 qk7 O1 (Ins.self (E_w_APPEND.ext EX5))) (g := (mkF m 22 #[.val (.int p1), .val (.int p2), .unset, .unset, .unset, .unset, .unset, .unset, .unset, .unset] [(.ref w_APPEND), (.int (2 : Int32)), (.ref b1), (.ref b1)])) rfl rfl (hb hby at_22)
  have B7 : own_ArrK Z h7 b1 k1 (.object "com/example/graft/graft/AssociatedSaveMode") [(.ref w_REPLACE), (.ref w_MERGE), (.ref w_APPEND), .null, .null, .null] := own_set W7 Ar7 qk7 hs7
  have N7 := Fr.snoc X7 N5 g_b1
  have EX7 : Ext h0 h7 := own_ext_wr EX5 W7 sz_b1
  obtain ⟨T8, X8, e8, st8⟩ := getS2 X7 hx hZ hown (host := "") (Or.inl (hw _ (ow 10 rfl))) Via.refl e7 (S_w_APPEND_IF_ABSENT.ext EX7) (g := (mkF m 25 #[.val (.int p1), .val (.int p2), .unset, .unset, .unset, .unset, .unset, .unset, .unset, .unset] [(.int (3 : Int32)), (.ref b1), (.ref b1)])) rfl (hb hby at_25)
  obtain ⟨cl9, Ar9, qk9, hs9⟩ := id B7
  obtain ⟨T9, h9, X9, e9, W9, st9⟩ := stR X8 hx hZ e8 Ar9 (j := (3 : Int32)) (own_inb 6 hs9 rfl (by decide) (by decide)) rfl (Sto.ofV Ar9 qk9 O1 (Ins.self (E_w_APPEND_IF_ABSENT.ext EX7))) (g := (mkF m 28 #[.val (.int p1), .val (.int p2), .unset, .unset, .unset, .unset, .unset, .unset, .unset, .unset] [(.ref w_APPEND_IF_ABSENT), (.int (3 : Int32)), (.ref b1), (.ref b1)])) rfl rfl (hb hby at_28)
  have B9 : own_ArrK Z h9 b1 k1 (.object "com/example/graft/graft/AssociatedSaveMode") [(.ref w_REPLACE), (.ref w_MERGE), (.ref w_APPEND), (.ref w_APPEND_IF_ABSENT), .null, .null] := own_set W9 Ar9 qk9 hs9
  have N9 := Fr.snoc X9 N7 g_b1
  have EX9 : Ext h0 h9 := own_ext_wr EX7 W9 sz_b1
  obtain ⟨T10, X10, e10, st10⟩ := getS2 X9 hx hZ hown (host := "") (Or.inl (hw _ (ow 12 rfl))) Via.refl e9 (S_w_UPDATE.ext EX9) (g := (mkF m 31 #[.val (.int p1), .val (.int p2), .unset, .unset, .unset, .unset, .unset, .unset, .unset, .unset] [(.int (4 : Int32)), (.ref b1), (.ref b1)])) rfl (hb hby at_31)
  obtain ⟨cl11, Ar11, qk11, hs11⟩ := id B9
  obtain ⟨T11, h11, X11, e11, W11, st11⟩ := stR X10 hx hZ e10 Ar11 (j := (4 : Int32)) (own_inb 6 hs11 rfl (by decide) (by decide)) rfl (Sto.ofV Ar11 qk11 O1 (Ins.self (E_w_UPDATE.ext EX9))) (g := (mkF m 34 #[.val (.int p1), .val (.int p2), .unset, .unset, .unset, .unset, .unset, .unset, .unset, .unset] [(.ref w_UPDATE), (.int (4 : Int32)), (.ref b1), (.ref b1)])) rfl rfl (hb hby at_34)
  have B11 : own_ArrK Z h11 b1 k1 (.object "com/example/graft/graft/AssociatedSaveMode") [(.ref w_REPLACE), (.ref w_MERGE), (.ref w_APPEND), (.ref w_APPEND_IF_ABSENT), (.ref w_UPDATE), .null] := own_set W11 Ar11 qk11 hs11
  have N11 := Fr.snoc X11 N9 g_b1
  have EX11 : Ext h0 h11 := own_ext_wr EX9 W11 sz_b1
  obtain ⟨T12, X12, e12, st12⟩ := getS2 X11 hx hZ hown (host := "") (Or.inl (hw _ (ow 14 rfl))) Via.refl e11 (S_w_VIOLENTLY_REPLACE.ext EX11) (g := (mkF m 37 #[.val (.int p1), .val (.int p2), .unset, .unset, .unset, .unset, .unset, .unset, .unset, .unset] [(.int (5 : Int32)), (.ref b1), (.ref b1)])) rfl (hb hby at_37)
  obtain ⟨cl13, Ar13, qk13, hs13⟩ := id B11
  obtain ⟨T13, h13, X13, e13, W13, st13⟩ := stR X12 hx hZ e12 Ar13 (j := (5 : Int32)) (own_inb 6 hs13 rfl (by decide) (by decide)) rfl (Sto.ofV Ar13 qk13 O1 (Ins.self (E_w_VIOLENTLY_REPLACE.ext EX11))) (g := (mkF m 40 #[.val (.int p1), .val (.int p2), .unset, .unset, .unset, .unset, .unset, .unset, .unset, .unset] [(.ref w_VIOLENTLY_REPLACE), (.int (5 : Int32)), (.ref b1), (.ref b1)])) rfl rfl (hb hby at_40)
  have B13 : own_ArrK Z h13 b1 k1 (.object "com/example/graft/graft/AssociatedSaveMode") [(.ref w_REPLACE), (.ref w_MERGE), (.ref w_APPEND), (.ref w_APPEND_IF_ABSENT), (.ref w_UPDATE), (.ref w_VIOLENTLY_REPLACE)] := own_set W13 Ar13 qk13 hs13
  have N13 := Fr.snoc X13 N11 g_b1
  have EX13 : Ext h0 h13 := own_ext_wr EX11 W13 sz_b1
  obtain ⟨T14, h14, k14, X14, e14, Eq14, A14, O14, st14⟩ := newR X13 hx hZ hown (hw _ (ow 16 rfl)) (hw _ (ow 17 rfl)) e13 (g := (mkF m 44 #[.val (.int p1), .val (.int p2), .val (.ref b1), .unset, .unset, .unset, .unset, .unset, .unset, .unset] [(.int (6 : Int32))])) rfl (hb hby at_44) rfl (by decide) (cap := 6) (by decide) (by decide) (by decide) (by decide)
  obtain ⟨b14, gb14⟩ : ∃ z, z = h13.size := ⟨_, rfl⟩
  rw [← gb14] at A14 st14
  have B14 : own_ArrK Z h14 b14 k14 (.object "com/example/graft/graft/DissociateAction") [.null, .null, .null, .null, .null, .null] := ⟨_, A14, rfl, rfl⟩
  have sz_b14 : h0.size ≤ b14 := Nat.le_trans EX13.1 (Nat.le_of_eq gb14.symm)
  have g_b14 : n0 ≤ b14 := Nat.le_trans Z0 sz_b14
  have ne_b1_b14 : b1 ≠ b14 := Nat.ne_of_lt (Nat.lt_of_lt_of_le B13.lt (Nat.le_of_eq gb14.symm))
  have B14_b1 := B13.ext Eq14
  have EX14 : Ext h0 h14 := own_ext_trans EX13 Eq14
  obtain ⟨T15, X15, e15, st15⟩ := getS2 X14 hx hZ hown (host := "") (Or.inl (hw _ (ow 18 rfl))) Via.refl e14 (S_w_NONE.ext EX14) (g := (mkF m 49 #[.val (.int p1), .val (.int p2), .val (.ref b1), .unset, .unset, .unset, .unset, .unset, .unset, .unset] [(.int (0 : Int32)), (.ref b14), (.ref b14)])) rfl (hb hby at_49)
  obtain ⟨cl16, Ar16, qk16, hs16⟩ := id B14
  obtain ⟨T16, h16, X16, e16, W16, st16⟩ := stR X15 hx hZ e15 Ar16 (j := (0 : Int32)) (own_inb 6 hs16 rfl (by decide) (by decide)) rfl (Sto.ofV Ar16 qk16 O14 (Ins.self (E_w_NONE.ext EX14))) (g := (mkF m 52 #[.val (.int p1), .val (.int p2), .val (.ref b1), .unset, .unset, .unset, .unset, .unset, .unset, .unset] [(.ref w_NONE), (.int (0 : Int32)), (.ref b14), (.ref b14)])) rfl rfl (hb hby at_52)
  have B16 : own_ArrK Z h16 b14 k14 (.object "com/example/graft/graft/DissociateAction") [(.ref w_NONE), .null, .null, .null, .null, .null] := own_set W16 Ar16 qk16 hs16
  have N16 := Fr.snoc X16 N13 g_b14
  have EX16 : Ext h0 h16 := own_ext_wr EX14 W16 sz_b14
  have B16_b1 := B14_b1.other W16 ne_b1_b14
  obtain ⟨T17, X17, e17, st17⟩ := getS2 X16 hx hZ hown (host := "") (Or.inl (hw _ (ow 22 rfl))) Via.refl e16 (S_w_LAX.ext EX16) (g := (mkF m 55 #[.val (.int p1), .val (.int p2), .val (.ref b1), .unset, .unset, .unset, .unset, .unset, .unset, .unset] [(.int (1 : Int32)), (.ref b14), (.ref b14)])) rfl (hb hby at_55)
  obtain ⟨cl18, Ar18, qk18, hs18⟩ := id B16
  obtain ⟨T18, h18, X18, e18, W18, st18⟩ := stR X17 hx hZ e17 Ar18 (j := (1 : Int32)) (own_inb 6 hs18 rfl (by decide) (by decide)) rfl (Sto.ofV Ar18 qk18 O14 (Ins.self (E_w_LAX.ext EX16))) (g := (mkF m 58 #[.val (.int p1), .val (.int p2), .val (.ref b1), .unset, .unset, .unset, .unset, .unset, .unset, .unset] [(.ref w_LAX), (.int (1 : Int32)), (.ref b14), (.ref b14)])) rfl rfl (hb hby at_58)
  have B18 : own_ArrK Z h18 b14 k14 (.object "com/example/graft/graft/DissociateAction") [(.ref w_NONE), (.ref w_LAX), .null, .null, .null, .null] := own_set W18 Ar18 qk18 hs18
  have N18 := Fr.snoc X18 N16 g_b14
  have EX18 : Ext h0 h18 := own_ext_wr EX16 W18 sz_b14
  have B18_b1 := B16_b1.other W18 ne_b1_b14
  obtain ⟨T19, X19, e19, st19⟩ := getS2 X18 hx hZ hown (host := "") (Or.inl (hw _ (ow 24 rfl))) Via.refl e18 (S_w_CHECK.ext EX18) (g := (mkF m 61 #[.val (.int p1), .val (.int p2), .val (.ref b1), .unset, .unset, .unset, .unset, .unset, .unset, .unset] [(.int (2 : Int32)), (.ref b14), (.ref b14)])) rfl (hb hby at_61)
  obtain ⟨cl20, Ar20, qk20, hs20⟩ := id B18
  obtain ⟨T20, h20, X20, e20, W20, st20⟩ := stR X19 hx hZ e19 Ar20 (j := (2 : Int32)) (own_inb 6 hs20 rfl (by decide) (by decide)) rfl (Sto.ofV Ar20 qk20 O14 (Ins.self (E_w_CHECK.ext EX18))) (g := (mkF m 64 #[.val (.int p1), .val (.int p2), .val (.ref b1), .unset, .unset, .unset, .unset, .unset, .unset, .unset] [(.ref w_CHECK), (.int (2 : Int32)), (.ref b14), (.ref b14)])) rfl rfl (hb hby at_64)
  have B20 : own_ArrK Z h20 b14 k14 (.object "com/example/graft/graft/DissociateAction") [(.ref w_NONE), (.ref w_LAX), (.ref w_CHECK), .null, .null, .null] := own_set W20 Ar20 qk20 hs20
  have N20 := Fr.snoc X20 N18 g_b14
  have EX20 : Ext h0 h20 := own_ext_wr EX18 W20 sz_b14
  have B20_b1 := B18_b1.other W20 ne_b1_b14
  obtain ⟨T21, X21, e21, st21⟩ := getS2 X20 hx hZ hown (host := "") (Or.inl (hw _ (ow 26 rfl))) Via.refl e20 (S_w_SET_NULL.ext EX20) (g := (mkF m 67 #[.val (.int p1), .val (.int p2), .val (.ref b1), .unset, .unset, .unset, .unset, .unset, .unset, .unset] [(.int (3 : Int32)), (.ref b14), (.ref b14)])) rfl (hb hby at_67)
  obtain ⟨cl22, Ar22, qk22, hs22⟩ := id B20
  obtain ⟨T22, h22, X22, e22, W22, st22⟩ := stR X21 hx hZ e21 Ar22 (j := (3 : Int32)) (own_inb 6 hs22 rfl (by decide) (by decide)) rfl (Sto.ofV Ar22 qk22 O14 (Ins.self (E_w_SET_NULL.ext EX20))) (g := (mkF m 70 #[.val (.int p1), .val (.int p2), .val (.ref b1), .unset, .unset, .unset, .unset, .unset, .unset, .unset] [(.ref w_SET_NULL), (.int (3 : Int32)), (.ref b14), (.ref b14)])) rfl rfl (hb hby at_70)
  have B22 : own_ArrK Z h22 b14 k14 (.object "com/example/graft/graft/DissociateAction") [(.ref w_NONE), (.ref w_LAX), (.ref w_CHECK), (.ref w_SET_NULL), .null, .null] := own_set W22 Ar22 qk22 hs22
  have N22 := Fr.snoc X22 N20 g_b14
  have EX22 : Ext h0 h22 := own_ext_wr EX20 W22 sz_b14
  have B22_b1 := B20_b1.other W22 ne_b1_b14
  obtain ⟨T23, X23, e23, st23⟩ := getS2 X22 hx hZ hown (host := "") (Or.inl (hw _ (ow 28 rfl))) Via.refl e22 (S_w_DELETE.ext EX22) (g := (mkF m 73 #[.val (.int p1), .val (.int p2), .val (.ref b1), .unset, .unset, .unset, .unset, .unset, .unset, .unset] [(.int (4 : Int32)), (.ref b14), (.ref b14)])) rfl (hb hby at_73)
  obtain ⟨cl24, Ar24, qk24, hs24⟩ := id B22
  obtain ⟨T24, h24, X24, e24, W24, st24⟩ := stR X23 hx hZ e23 Ar24 (j := (4 : Int32)) (own_inb 6 hs24 rfl (by decide) (by decide)) rfl (Sto.ofV Ar24 qk24 O14 (Ins.self (E_w_DELETE.ext EX22))) (g := (mkF m 76 #[.val (.int p1), .val (.int p2), .val (.ref b1), .unset, .unset, .unset, .unset, .unset, .unset, .unset] [(.ref w_DELETE), (.int (4 : Int32)), (.ref b14), (.ref b14)])) rfl rfl (hb hby at_76)
  have B24 : own_ArrK Z h24 b14 k14 (.object "com/example/graft/graft/DissociateAction") [(.ref w_NONE), (.ref w_LAX), (.ref w_CHECK), (.ref w_SET_NULL), (.ref w_DELETE), .null] := own_set W24 Ar24 qk24 hs24
  have N24 := Fr.snoc X24 N22 g_b14
  have EX24 : Ext h0 h24 := own_ext_wr EX22 W24 sz_b14
  have B24_b1 := B22_b1.other W24 ne_b1_b14
  obtain ⟨cl25, Ar25, qk25, hs25⟩ := id B24
  obtain ⟨T25, h25, X25, e25, W25, st25⟩ := stR X24 hx hZ e24 Ar25 (j := (5 : Int32)) (own_inb 6 hs25 rfl (by decide) (by decide)) rfl (Or.inl rfl) (g := (mkF m 80 #[.val (.int p1), .val (.int p2), .val (.ref b1), .unset, .unset, .unset, .unset, .unset, .unset, .unset] [.null, (.int (5 : Int32)), (.ref b14), (.ref b14)])) rfl rfl (hb hby at_80)
  have B25 : own_ArrK Z h25 b14 k14 (.object "com/example/graft/graft/DissociateAction") [(.ref w_NONE), (.ref w_LAX), (.ref w_CHECK), (.ref w_SET_NULL), (.ref w_DELETE), .null] := own_set W25 Ar25 qk25 hs25
  have N25 := Fr.snoc X25 N24 g_b14
  have EX25 : Ext h0 h25 := own_ext_wr EX24 W25 sz_b14
  have B25_b1 := B24_b1.other W25 ne_b1_b14
  obtain ⟨cl26, Ar26, qk26, hs26⟩ := id B25_b1
  have gt26 := own_get hs26 hi0 hA
  obtain ⟨cl27, Ar27, qk27, hs27⟩ := id B25
  have gt27 := own_get hs27 hj0 hB
  obtain ⟨cq28, kq28, q28a, q28b, q28c⟩ := isOf hZ e25 (E_w_VIOLENTLY_REPLACE.ext EX25)
  obtain ⟨v28, _, ⟨T28, L28, k28, n28⟩, -, X28, ⟨Lc28, hQ28, l28, y28, z28⟩, st28⟩ := X25.virtualBack hx (y := (⟨"com/example/graft/graft/AssociatedSaveMode", "dissociateAction", "(Lcom/example/graft/graft/DissociateAction;)Lcom/example/graft/graft/DissociateAction;"⟩ : MethodName)) (z := (⟨"com/example/graft/graft/AssociatedSaveMode", "dissociateAction", "(Lcom/example/graft/graft/DissociateAction;)Lcom/example/graft/graft/DissociateAction;"⟩ : MethodName)) hown (mvT hZ (hw _ (ow 31 rfl))) (mvT hZ (hw _ (ow 32 rfl))) (notFace_of_selects (args := #[]) (mvT hZ (hw _ (ow 34 rfl)))) (mvT hZ (hw _ (ow 34 rfl))) (mvT hZ (hw _ (ow 33 rfl))) (by decide) (backOf (W := 0) (rm_disR l Z a0 hw [] w_VIOLENTLY_REPLACE a2 (1 : Int32) h25 n0 w_REPLACE w_MERGE w_APPEND w_APPEND_IF_ABSENT w_UPDATE w_VIOLENTLY_REPLACE w_NONE w_LAX w_CHECK w_SET_NULL w_DELETE (own_K_ext EX25 hK) (F_deletesLeftOut_w_VIOLENTLY_REPLACE.ext EX25)) hZ (hw _ (ow 35 rfl)) (hw _ (ow 3 rfl)) (by decide) (by decide)) q28a q28c (g := (mkF m 116 #[.val (.int p1), .val (.int p2), .val (.ref b1), .val (.ref b14), .val (.int ii), .val (.int jj), .val (.ref w_VIOLENTLY_REPLACE), .val (.ref a2), .unset, .unset] [(.ref a2), (.ref w_VIOLENTLY_REPLACE)])) rfl (by rw [hml]; rfl) (Steps.refl _) (argsL := [(.ref a2)]) (rest := []) (lenOf pd_0 rfl) rfl (Nat.le_of_eq rfl) (hb hby at_116) (fun _ _ => ⟨rfl, e25, (by decide : 2 + 0 ≤ _), (by decide : 12 + 0 ≤ _)⟩)
  dsimp only [Pt.U, Pt.locs, Pt.cells, Pt.slots] at X28 l28 y28 z28 st28 hQ28
  subst l28 y28 z28
  obtain ⟨hv28, Nq28, e28⟩ := hQ28
  obtain rfl : v28 = some (.ref w_DELETE) := hv28.trans (congrArg some (congrArg Value.ref (if_neg (by decide))))
  have N28 := Fr.app N25 Nq28
  obtain ⟨T29, X29, e29, st29⟩ := getS2 X28 hx hZ hown (host := "") (Or.inl (hw _ (ow 14 rfl))) Via.refl e28 (S_w_VIOLENTLY_REPLACE.ext EX25) (g := (mkF m 123 #[.val (.int p1), .val (.int p2), .val (.ref b1), .val (.ref b14), .val (.int ii), .val (.int jj), .val (.ref w_VIOLENTLY_REPLACE), .val (.ref a2), .val (.ref w_DELETE), .unset] [(.ref w_VIOLENTLY_REPLACE)])) rfl (hb hby at_123)
  obtain ⟨T30, X30, e30, st30⟩ := getS2 X29 hx hZ hown (host := "") (Or.inl (hw _ (ow 28 rfl))) Via.refl e29 (S_w_DELETE.ext EX25) (g := (mkF m 129 #[.val (.int p1), .val (.int p2), .val (.ref b1), .val (.ref b14), .val (.int ii), .val (.int jj), .val (.ref w_VIOLENTLY_REPLACE), .val (.ref a2), .val (.ref w_DELETE), .unset] [])) rfl (hb hby at_129)
  have pre31 : ∀ t, Steps p.tables e below (T30.setTop (mkF m 153 #[.val (.int p1), .val (.int p2), .val (.ref b1), .val (.ref b14), .val (.int ii), .val (.int jj), .val (.ref w_VIOLENTLY_REPLACE), .val (.ref a2), .val (.ref w_DELETE), .val (.ref w_DELETE)] [(.int (1 : Int32))])) t → Steps p.tables e below (s₁.setTop (entryFrame m #[(.int p1), (.int p2)] maxLocals)) t := fun t k => pre0 t (by
    show Steps p.tables e below (s₁.setTop (mkF m 0 #[.val (.int p1), .val (.int p2), .unset, .unset, .unset, .unset, .unset, .unset, .unset, .unset] [])) _
    refine XS.bipush X0.here hx rfl (hb hby at_0) ?_
    show Steps p.tables e below (s₁.setTop (mkF m 2 #[.val (.int p1), .val (.int p2), .unset, .unset, .unset, .unset, .unset, .unset, .unset, .unset] [(.int (6 : Int32))])) _
    refine st1 _ ?_
    show Steps p.tables e below (T1.setTop (mkF m 5 #[.val (.int p1), .val (.int p2), .unset, .unset, .unset, .unset, .unset, .unset, .unset, .unset] [(.ref b1)])) _
    refine XS.dup X1.here hx rfl (hb hby at_5) rfl rfl ?_
    show Steps p.tables e below (T1.setTop (mkF m 6 #[.val (.int p1), .val (.int p2), .unset, .unset, .unset, .unset, .unset, .unset, .unset, .unset] [(.ref b1), (.ref b1)])) _
    refine XS.iconst X1.here hx rfl (hb hby at_6) ?_
    show Steps p.tables e below (T1.setTop (mkF m 7 #[.val (.int p1), .val (.int p2), .unset, .unset, .unset, .unset, .unset, .unset, .unset, .unset] [(.int (0 : Int32)), (.ref b1), (.ref b1)])) _
    refine st2 _ ?_
    show Steps p.tables e below (T2.setTop (mkF m 10 #[.val (.int p1), .val (.int p2), .unset, .unset, .unset, .unset, .unset, .unset, .unset, .unset] [(.ref w_REPLACE), (.int (0 : Int32)), (.ref b1), (.ref b1)])) _
    refine st3 _ ?_
    show Steps p.tables e below (T3.setTop (mkF m 11 #[.val (.int p1), .val (.int p2), .unset, .unset, .unset, .unset, .unset, .unset, .unset, .unset] [(.ref b1)])) _
    refine XS.dup X3.here hx rfl (hb hby at_11) rfl rfl ?_
    show Steps p.tables e below (T3.setTop (mkF m 12 #[.val (.int p1), .val (.int p2), .unset, .unset, .unset, .unset, .unset, .unset, .unset, .unset] [(.ref b1), (.ref b1)])) _
    refine XS.iconst X3.here hx rfl (hb hby at_12) ?_
    show Steps p.tables e below (T3.setTop (mkF m 13 #[.val (.int p1), .val (.int p2), .unset, .unset, .unset, .unset, .unset, .unset, .unset, .unset] [(.int (1 : Int32)), (.ref b1), (.ref b1)])) _
    refine st4 _ ?_
    show Steps p.tables e below (T4.setTop (mkF m 16 #[.val (.int p1), .val (.int p2), .unset, .unset, .unset, .unset, .unset, .unset, .unset, .unset] [(.ref w_MERGE), (.int (1 : Int32)), (.ref b1), (.ref b1)])) _
    refine st5 _ ?_
    show Steps p.tables e below (T5.setTop (mkF m 17 #[.val (.int p1), .val (.int p2), .unset, .unset, .unset, .unset, .unset, .unset, .unset, .unset] [(.ref b1)])) _
    refine XS.dup X5.here hx rfl (hb hby at_17) rfl rfl ?_
    show Steps p.tables e below (T5.setTop (mkF m 18 #[.val (.int p1), .val (.int p2), .unset, .unset, .unset, .unset, .unset, .unset, .unset, .unset] [(.ref b1), (.ref b1)])) _
    refine XS.iconst X5.here hx rfl (hb hby at_18) ?_
    show Steps p.tables e below (T5.setTop (mkF m 19 #[.val (.int p1), .val (.int p2), .unset, .unset, .unset, .unset, .unset, .unset, .unset, .unset] [(.int (2 : Int32)), (.ref b1), (.ref b1)])) _
    refine st6 _ ?_
    show Steps p.tables e below (T6.setTop (mkF m 22 #[.val (.int p1), .val (.int p2), .unset, .unset, .unset, .unset, .unset, .unset, .unset, .unset] [(.ref w_APPEND), (.int (2 : Int32)), (.ref b1), (.ref b1)])) _
    refine st7 _ ?_
    show Steps p.tables e below (T7.setTop (mkF m 23 #[.val (.int p1), .val (.int p2), .unset, .unset, .unset, .unset, .unset, .unset, .unset, .unset] [(.ref b1)])) _
    refine XS.dup X7.here hx rfl (hb hby at_23) rfl rfl ?_
    show Steps p.tables e below (T7.setTop (mkF m 24 #[.val (.int p1), .val (.int p2), .unset, .unset, .unset, .unset, .unset, .unset, .unset, .unset] [(.ref b1), (.ref b1)])) _
    refine XS.iconst X7.here hx rfl (hb hby at_24) ?_
    show Steps p.tables e below (T7.setTop (mkF m 25 #[.val (.int p1), .val (.int p2), .unset, .unset, .unset, .unset, .unset, .unset, .unset, .unset] [(.int (3 : Int32)), (.ref b1), (.ref b1)])) _
    refine st8 _ ?_
    show Steps p.tables e below (T8.setTop (mkF m 28 #[.val (.int p1), .val (.int p2), .unset, .unset, .unset, .unset, .unset, .unset, .unset, .unset] [(.ref w_APPEND_IF_ABSENT), (.int (3 : Int32)), (.ref b1), (.ref b1)])) _
    refine st9 _ ?_
    show Steps p.tables e below (T9.setTop (mkF m 29 #[.val (.int p1), .val (.int p2), .unset, .unset, .unset, .unset, .unset, .unset, .unset, .unset] [(.ref b1)])) _
    refine XS.dup X9.here hx rfl (hb hby at_29) rfl rfl ?_
    show Steps p.tables e below (T9.setTop (mkF m 30 #[.val (.int p1), .val (.int p2), .unset, .unset, .unset, .unset, .unset, .unset, .unset, .unset] [(.ref b1), (.ref b1)])) _
    refine XS.iconst X9.here hx rfl (hb hby at_30) ?_
    show Steps p.tables e below (T9.setTop (mkF m 31 #[.val (.int p1), .val (.int p2), .unset, .unset, .unset, .unset, .unset, .unset, .unset, .unset] [(.int (4 : Int32)), (.ref b1), (.ref b1)])) _
    refine st10 _ ?_
    show Steps p.tables e below (T10.setTop (mkF m 34 #[.val (.int p1), .val (.int p2), .unset, .unset, .unset, .unset, .unset, .unset, .unset, .unset] [(.ref w_UPDATE), (.int (4 : Int32)), (.ref b1), (.ref b1)])) _
    refine st11 _ ?_
    show Steps p.tables e below (T11.setTop (mkF m 35 #[.val (.int p1), .val (.int p2), .unset, .unset, .unset, .unset, .unset, .unset, .unset, .unset] [(.ref b1)])) _
    refine XS.dup X11.here hx rfl (hb hby at_35) rfl rfl ?_
    show Steps p.tables e below (T11.setTop (mkF m 36 #[.val (.int p1), .val (.int p2), .unset, .unset, .unset, .unset, .unset, .unset, .unset, .unset] [(.ref b1), (.ref b1)])) _
    refine XS.iconst X11.here hx rfl (hb hby at_36) ?_
    show Steps p.tables e below (T11.setTop (mkF m 37 #[.val (.int p1), .val (.int p2), .unset, .unset, .unset, .unset, .unset, .unset, .unset, .unset] [(.int (5 : Int32)), (.ref b1), (.ref b1)])) _
    refine st12 _ ?_
    show Steps p.tables e below (T12.setTop (mkF m 40 #[.val (.int p1), .val (.int p2), .unset, .unset, .unset, .unset, .unset, .unset, .unset, .unset] [(.ref w_VIOLENTLY_REPLACE), (.int (5 : Int32)), (.ref b1), (.ref b1)])) _
    refine st13 _ ?_
    show Steps p.tables e below (T13.setTop (mkF m 41 #[.val (.int p1), .val (.int p2), .unset, .unset, .unset, .unset, .unset, .unset, .unset, .unset] [(.ref b1)])) _
    refine XS.astoreN X13.here hx rfl (hb hby at_41) rfl rfl (l' := #[.val (.int p1), .val (.int p2), .val (.ref b1), .unset, .unset, .unset, .unset, .unset, .unset, .unset]) rfl ?_
    show Steps p.tables e below (T13.setTop (mkF m 42 #[.val (.int p1), .val (.int p2), .val (.ref b1), .unset, .unset, .unset, .unset, .unset, .unset, .unset] [])) _
    refine XS.bipush X13.here hx rfl (hb hby at_42) ?_
    show Steps p.tables e below (T13.setTop (mkF m 44 #[.val (.int p1), .val (.int p2), .val (.ref b1), .unset, .unset, .unset, .unset, .unset, .unset, .unset] [(.int (6 : Int32))])) _
    refine st14 _ ?_
    show Steps p.tables e below (T14.setTop (mkF m 47 #[.val (.int p1), .val (.int p2), .val (.ref b1), .unset, .unset, .unset, .unset, .unset, .unset, .unset] [(.ref b14)])) _
    refine XS.dup X14.here hx rfl (hb hby at_47) rfl rfl ?_
    show Steps p.tables e below (T14.setTop (mkF m 48 #[.val (.int p1), .val (.int p2), .val (.ref b1), .unset, .unset, .unset, .unset, .unset, .unset, .unset] [(.ref b14), (.ref b14)])) _
    refine XS.iconst X14.here hx rfl (hb hby at_48) ?_
    show Steps p.tables e below (T14.setTop (mkF m 49 #[.val (.int p1), .val (.int p2), .val (.ref b1), .unset, .unset, .unset, .unset, .unset, .unset, .unset] [(.int (0 : Int32)), (.ref b14), (.ref b14)])) _
    refine st15 _ ?_
    show Steps p.tables e below (T15.setTop (mkF m 52 #[.val (.int p1), .val (.int p2), .val (.ref b1), .unset, .unset, .unset, .unset, .unset, .unset, .unset] [(.ref w_NONE), (.int (0 : Int32)), (.ref b14), (.ref b14)])) _
    refine st16 _ ?_
    show Steps p.tables e below (T16.setTop (mkF m 53 #[.val (.int p1), .val (.int p2), .val (.ref b1), .unset, .unset, .unset, .unset, .unset, .unset, .unset] [(.ref b14)])) _
    refine XS.dup X16.here hx rfl (hb hby at_53) rfl rfl ?_
    show Steps p.tables e below (T16.setTop (mkF m 54 #[.val (.int p1), .val (.int p2), .val (.ref b1), .unset, .unset, .unset, .unset, .unset, .unset, .unset] [(.ref b14), (.ref b14)])) _
    refine XS.iconst X16.here hx rfl (hb hby at_54) ?_
    show Steps p.tables e below (T16.setTop (mkF m 55 #[.val (.int p1), .val (.int p2), .val (.ref b1), .unset, .unset, .unset, .unset, .unset, .unset, .unset] [(.int (1 : Int32)), (.ref b14), (.ref b14)])) _
    refine st17 _ ?_
    show Steps p.tables e below (T17.setTop (mkF m 58 #[.val (.int p1), .val (.int p2), .val (.ref b1), .unset, .unset, .unset, .unset, .unset, .unset, .unset] [(.ref w_LAX), (.int (1 : Int32)), (.ref b14), (.ref b14)])) _
    refine st18 _ ?_
    show Steps p.tables e below (T18.setTop (mkF m 59 #[.val (.int p1), .val (.int p2), .val (.ref b1), .unset, .unset, .unset, .unset, .unset, .unset, .unset] [(.ref b14)])) _
    refine XS.dup X18.here hx rfl (hb hby at_59) rfl rfl ?_
    show Steps p.tables e below (T18.setTop (mkF m 60 #[.val (.int p1), .val (.int p2), .val (.ref b1), .unset, .unset, .unset, .unset, .unset, .unset, .unset] [(.ref b14), (.ref b14)])) _
    refine XS.iconst X18.here hx rfl (hb hby at_60) ?_
    show Steps p.tables e below (T18.setTop (mkF m 61 #[.val (.int p1), .val (.int p2), .val (.ref b1), .unset, .unset, .unset, .unset, .unset, .unset, .unset] [(.int (2 : Int32)), (.ref b14), (.ref b14)])) _
    refine st19 _ ?_
    show Steps p.tables e below (T19.setTop (mkF m 64 #[.val (.int p1), .val (.int p2), .val (.ref b1), .unset, .unset, .unset, .unset, .unset, .unset, .unset] [(.ref w_CHECK), (.int (2 : Int32)), (.ref b14), (.ref b14)])) _
    refine st20 _ ?_
    show Steps p.tables e below (T20.setTop (mkF m 65 #[.val (.int p1), .val (.int p2), .val (.ref b1), .unset, .unset, .unset, .unset, .unset, .unset, .unset] [(.ref b14)])) _
    refine XS.dup X20.here hx rfl (hb hby at_65) rfl rfl ?_
    show Steps p.tables e below (T20.setTop (mkF m 66 #[.val (.int p1), .val (.int p2), .val (.ref b1), .unset, .unset, .unset, .unset, .unset, .unset, .unset] [(.ref b14), (.ref b14)])) _
    refine XS.iconst X20.here hx rfl (hb hby at_66) ?_
    show Steps p.tables e below (T20.setTop (mkF m 67 #[.val (.int p1), .val (.int p2), .val (.ref b1), .unset, .unset, .unset, .unset, .unset, .unset, .unset] [(.int (3 : Int32)), (.ref b14), (.ref b14)])) _
    refine st21 _ ?_
    show Steps p.tables e below (T21.setTop (mkF m 70 #[.val (.int p1), .val (.int p2), .val (.ref b1), .unset, .unset, .unset, .unset, .unset, .unset, .unset] [(.ref w_SET_NULL), (.int (3 : Int32)), (.ref b14), (.ref b14)])) _
    refine st22 _ ?_
    show Steps p.tables e below (T22.setTop (mkF m 71 #[.val (.int p1), .val (.int p2), .val (.ref b1), .unset, .unset, .unset, .unset, .unset, .unset, .unset] [(.ref b14)])) _
    refine XS.dup X22.here hx rfl (hb hby at_71) rfl rfl ?_
    show Steps p.tables e below (T22.setTop (mkF m 72 #[.val (.int p1), .val (.int p2), .val (.ref b1), .unset, .unset, .unset, .unset, .unset, .unset, .unset] [(.ref b14), (.ref b14)])) _
    refine XS.iconst X22.here hx rfl (hb hby at_72) ?_
    show Steps p.tables e below (T22.setTop (mkF m 73 #[.val (.int p1), .val (.int p2), .val (.ref b1), .unset, .unset, .unset, .unset, .unset, .unset, .unset] [(.int (4 : Int32)), (.ref b14), (.ref b14)])) _
    refine st23 _ ?_
    show Steps p.tables e below (T23.setTop (mkF m 76 #[.val (.int p1), .val (.int p2), .val (.ref b1), .unset, .unset, .unset, .unset, .unset, .unset, .unset] [(.ref w_DELETE), (.int (4 : Int32)), (.ref b14), (.ref b14)])) _
    refine st24 _ ?_
    show Steps p.tables e below (T24.setTop (mkF m 77 #[.val (.int p1), .val (.int p2), .val (.ref b1), .unset, .unset, .unset, .unset, .unset, .unset, .unset] [(.ref b14)])) _
    refine XS.dup X24.here hx rfl (hb hby at_77) rfl rfl ?_
    show Steps p.tables e below (T24.setTop (mkF m 78 #[.val (.int p1), .val (.int p2), .val (.ref b1), .unset, .unset, .unset, .unset, .unset, .unset, .unset] [(.ref b14), (.ref b14)])) _
    refine XS.iconst X24.here hx rfl (hb hby at_78) ?_
    show Steps p.tables e below (T24.setTop (mkF m 79 #[.val (.int p1), .val (.int p2), .val (.ref b1), .unset, .unset, .unset, .unset, .unset, .unset, .unset] [(.int (5 : Int32)), (.ref b14), (.ref b14)])) _
    refine XS.aconstNull X24.here hx rfl (hb hby at_79) ?_
    show Steps p.tables e below (T24.setTop (mkF m 80 #[.val (.int p1), .val (.int p2), .val (.ref b1), .unset, .unset, .unset, .unset, .unset, .unset, .unset] [.null, (.int (5 : Int32)), (.ref b14), (.ref b14)])) _
    refine st25 _ ?_
    show Steps p.tables e below (T25.setTop (mkF m 81 #[.val (.int p1), .val (.int p2), .val (.ref b1), .unset, .unset, .unset, .unset, .unset, .unset, .unset] [(.ref b14)])) _
    refine XS.astoreN X25.here hx rfl (hb hby at_81) rfl rfl (l' := #[.val (.int p1), .val (.int p2), .val (.ref b1), .val (.ref b14), .unset, .unset, .unset, .unset, .unset, .unset]) rfl ?_
    show Steps p.tables e below (T25.setTop (mkF m 82 #[.val (.int p1), .val (.int p2), .val (.ref b1), .val (.ref b14), .unset, .unset, .unset, .unset, .unset, .unset] [])) _
    refine XS.iloadN X25.here hx rfl (hb hby at_82) rfl ?_
    show Steps p.tables e below (T25.setTop (mkF m 83 #[.val (.int p1), .val (.int p2), .val (.ref b1), .val (.ref b14), .unset, .unset, .unset, .unset, .unset, .unset] [(.int p1)])) _
    refine X25.ldcInt hx hown (mvT hZ (hw _ (ow 30 rfl))) (g := (mkF m 83 #[.val (.int p1), .val (.int p2), .val (.ref b1), .val (.ref b14), .unset, .unset, .unset, .unset, .unset, .unset] [(.int p1)])) rfl (hb hby at_83) _ ?_
    show Steps p.tables e below (T25.setTop (mkF m 85 #[.val (.int p1), .val (.int p2), .val (.ref b1), .val (.ref b14), .unset, .unset, .unset, .unset, .unset, .unset] [(.int (2147483647 : Int32)), (.int p1)])) _
    refine XS.iand X25.here hx rfl (hb hby at_85) rfl ?_
    show Steps p.tables e below (T25.setTop (mkF m 86 #[.val (.int p1), .val (.int p2), .val (.ref b1), .val (.ref b14), .unset, .unset, .unset, .unset, .unset, .unset] [(.int (p1 &&& (2147483647 : Int32)))])) _
    refine XS.bipush X25.here hx rfl (hb hby at_86) ?_
    show Steps p.tables e below (T25.setTop (mkF m 88 #[.val (.int p1), .val (.int p2), .val (.ref b1), .val (.ref b14), .unset, .unset, .unset, .unset, .unset, .unset] [(.int (6 : Int32)), (.int (p1 &&& (2147483647 : Int32)))])) _
    refine iremM X25 hx rfl (hb hby at_88) rfl (by decide) ?_
    show Steps p.tables e below (T25.setTop (mkF m 89 #[.val (.int p1), .val (.int p2), .val (.ref b1), .val (.ref b14), .unset, .unset, .unset, .unset, .unset, .unset] [(.int ((p1 &&& (2147483647 : Int32)) % (6 : Int32)))])) _
    rw [hi]
    show Steps p.tables e below (T25.setTop (mkF m 89 #[.val (.int p1), .val (.int p2), .val (.ref b1), .val (.ref b14), .unset, .unset, .unset, .unset, .unset, .unset] [(.int ii)])) _
    refine XS.istore X25.here hx rfl (hb hby at_89) rfl (l' := #[.val (.int p1), .val (.int p2), .val (.ref b1), .val (.ref b14), .val (.int ii), .unset, .unset, .unset, .unset, .unset]) rfl ?_
    show Steps p.tables e below (T25.setTop (mkF m 91 #[.val (.int p1), .val (.int p2), .val (.ref b1), .val (.ref b14), .val (.int ii), .unset, .unset, .unset, .unset, .unset] [])) _
    refine XS.iloadN X25.here hx rfl (hb hby at_91) rfl ?_
    show Steps p.tables e below (T25.setTop (mkF m 92 #[.val (.int p1), .val (.int p2), .val (.ref b1), .val (.ref b14), .val (.int ii), .unset, .unset, .unset, .unset, .unset] [(.int p2)])) _
    refine X25.ldcInt hx hown (mvT hZ (hw _ (ow 30 rfl))) (g := (mkF m 92 #[.val (.int p1), .val (.int p2), .val (.ref b1), .val (.ref b14), .val (.int ii), .unset, .unset, .unset, .unset, .unset] [(.int p2)])) rfl (hb hby at_92) _ ?_
    show Steps p.tables e below (T25.setTop (mkF m 94 #[.val (.int p1), .val (.int p2), .val (.ref b1), .val (.ref b14), .val (.int ii), .unset, .unset, .unset, .unset, .unset] [(.int (2147483647 : Int32)), (.int p2)])) _
    refine XS.iand X25.here hx rfl (hb hby at_94) rfl ?_
    show Steps p.tables e below (T25.setTop (mkF m 95 #[.val (.int p1), .val (.int p2), .val (.ref b1), .val (.ref b14), .val (.int ii), .unset, .unset, .unset, .unset, .unset] [(.int (p2 &&& (2147483647 : Int32)))])) _
    refine XS.bipush X25.here hx rfl (hb hby at_95) ?_
    show Steps p.tables e below (T25.setTop (mkF m 97 #[.val (.int p1), .val (.int p2), .val (.ref b1), .val (.ref b14), .val (.int ii), .unset, .unset, .unset, .unset, .unset] [(.int (6 : Int32)), (.int (p2 &&& (2147483647 : Int32)))])) _
    refine iremM X25 hx rfl (hb hby at_97) rfl (by decide) ?_
    show Steps p.tables e below (T25.setTop (mkF m 98 #[.val (.int p1), .val (.int p2), .val (.ref b1), .val (.ref b14), .val (.int ii), .unset, .unset, .unset, .unset, .unset] [(.int ((p2 &&& (2147483647 : Int32)) % (6 : Int32)))])) _
    rw [hj]
    show Steps p.tables e below (T25.setTop (mkF m 98 #[.val (.int p1), .val (.int p2), .val (.ref b1), .val (.ref b14), .val (.int ii), .unset, .unset, .unset, .unset, .unset] [(.int jj)])) _
    refine XS.istore X25.here hx rfl (hb hby at_98) rfl (l' := #[.val (.int p1), .val (.int p2), .val (.ref b1), .val (.ref b14), .val (.int ii), .val (.int jj), .unset, .unset, .unset, .unset]) rfl ?_
    show Steps p.tables e below (T25.setTop (mkF m 100 #[.val (.int p1), .val (.int p2), .val (.ref b1), .val (.ref b14), .val (.int ii), .val (.int jj), .unset, .unset, .unset, .unset] [])) _
    refine XS.aloadN X25.here hx rfl (hb hby at_100) rfl rfl ?_
    show Steps p.tables e below (T25.setTop (mkF m 101 #[.val (.int p1), .val (.int p2), .val (.ref b1), .val (.ref b14), .val (.int ii), .val (.int jj), .unset, .unset, .unset, .unset] [(.ref b1)])) _
    refine XS.iload X25.here hx rfl (hb hby at_101) rfl ?_
    show Steps p.tables e below (T25.setTop (mkF m 103 #[.val (.int p1), .val (.int p2), .val (.ref b1), .val (.ref b14), .val (.int ii), .val (.int jj), .unset, .unset, .unset, .unset] [(.int ii), (.ref b1)])) _
    refine X25.aaload hx (j := ii) (v := (.ref w_VIOLENTLY_REPLACE)) (by rw [e25]; exact Ar26.1) (State.isArrayOf_alike hZ.alike Ar26.2.1) rfl Ar26.2.2 gt26.1 gt26.2 (g := (mkF m 103 #[.val (.int p1), .val (.int p2), .val (.ref b1), .val (.ref b14), .val (.int ii), .val (.int jj), .unset, .unset, .unset, .unset] [(.int ii), (.ref b1)])) rfl rfl (hb hby at_103) _ ?_
    show Steps p.tables e below (T25.setTop (mkF m 104 #[.val (.int p1), .val (.int p2), .val (.ref b1), .val (.ref b14), .val (.int ii), .val (.int jj), .unset, .unset, .unset, .unset] [(.ref w_VIOLENTLY_REPLACE)])) _
    refine XS.astore X25.here hx rfl (hb hby at_104) rfl rfl (l' := #[.val (.int p1), .val (.int p2), .val (.ref b1), .val (.ref b14), .val (.int ii), .val (.int jj), .val (.ref w_VIOLENTLY_REPLACE), .unset, .unset, .unset]) rfl ?_
    show Steps p.tables e below (T25.setTop (mkF m 106 #[.val (.int p1), .val (.int p2), .val (.ref b1), .val (.ref b14), .val (.int ii), .val (.int jj), .val (.ref w_VIOLENTLY_REPLACE), .unset, .unset, .unset] [])) _
    refine XS.aloadN X25.here hx rfl (hb hby at_106) rfl rfl ?_
    show Steps p.tables e below (T25.setTop (mkF m 107 #[.val (.int p1), .val (.int p2), .val (.ref b1), .val (.ref b14), .val (.int ii), .val (.int jj), .val (.ref w_VIOLENTLY_REPLACE), .unset, .unset, .unset] [(.ref b14)])) _
    refine XS.iload X25.here hx rfl (hb hby at_107) rfl ?_
    show Steps p.tables e below (T25.setTop (mkF m 109 #[.val (.int p1), .val (.int p2), .val (.ref b1), .val (.ref b14), .val (.int ii), .val (.int jj), .val (.ref w_VIOLENTLY_REPLACE), .unset, .unset, .unset] [(.int jj), (.ref b14)])) _
    refine X25.aaload hx (j := jj) (v := (.ref a2)) (by rw [e25]; exact Ar27.1) (State.isArrayOf_alike hZ.alike Ar27.2.1) rfl Ar27.2.2 gt27.1 gt27.2 (g := (mkF m 109 #[.val (.int p1), .val (.int p2), .val (.ref b1), .val (.ref b14), .val (.int ii), .val (.int jj), .val (.ref w_VIOLENTLY_REPLACE), .unset, .unset, .unset] [(.int jj), (.ref b14)])) rfl rfl (hb hby at_109) _ ?_
    show Steps p.tables e below (T25.setTop (mkF m 110 #[.val (.int p1), .val (.int p2), .val (.ref b1), .val (.ref b14), .val (.int ii), .val (.int jj), .val (.ref w_VIOLENTLY_REPLACE), .unset, .unset, .unset] [(.ref a2)])) _
    refine XS.astore X25.here hx rfl (hb hby at_110) rfl rfl (l' := #[.val (.int p1), .val (.int p2), .val (.ref b1), .val (.ref b14), .val (.int ii), .val (.int jj), .val (.ref w_VIOLENTLY_REPLACE), .val (.ref a2), .unset, .unset]) rfl ?_
    show Steps p.tables e below (T25.setTop (mkF m 112 #[.val (.int p1), .val (.int p2), .val (.ref b1), .val (.ref b14), .val (.int ii), .val (.int jj), .val (.ref w_VIOLENTLY_REPLACE), .val (.ref a2), .unset, .unset] [])) _
    refine XS.aload X25.here hx rfl (hb hby at_112) rfl rfl ?_
    show Steps p.tables e below (T25.setTop (mkF m 114 #[.val (.int p1), .val (.int p2), .val (.ref b1), .val (.ref b14), .val (.int ii), .val (.int jj), .val (.ref w_VIOLENTLY_REPLACE), .val (.ref a2), .unset, .unset] [(.ref w_VIOLENTLY_REPLACE)])) _
    refine XS.aload X25.here hx rfl (hb hby at_114) rfl rfl ?_
    show Steps p.tables e below (T25.setTop (mkF m 116 #[.val (.int p1), .val (.int p2), .val (.ref b1), .val (.ref b14), .val (.int ii), .val (.int jj), .val (.ref w_VIOLENTLY_REPLACE), .val (.ref a2), .unset, .unset] [(.ref a2), (.ref w_VIOLENTLY_REPLACE)])) _
    refine st28.trans ?_
    show Steps p.tables e below (T28.setTop (mkF m 119 #[.val (.int p1), .val (.int p2), .val (.ref b1), .val (.ref b14), .val (.int ii), .val (.int jj), .val (.ref w_VIOLENTLY_REPLACE), .val (.ref a2), .unset, .unset] [(.ref w_DELETE)])) _
    refine XS.astore X28.here hx rfl (hb hby at_119) rfl rfl (l' := #[.val (.int p1), .val (.int p2), .val (.ref b1), .val (.ref b14), .val (.int ii), .val (.int jj), .val (.ref w_VIOLENTLY_REPLACE), .val (.ref a2), .val (.ref w_DELETE), .unset]) rfl ?_
    show Steps p.tables e below (T28.setTop (mkF m 121 #[.val (.int p1), .val (.int p2), .val (.ref b1), .val (.ref b14), .val (.int ii), .val (.int jj), .val (.ref w_VIOLENTLY_REPLACE), .val (.ref a2), .val (.ref w_DELETE), .unset] [])) _
    refine XS.aload X28.here hx rfl (hb hby at_121) rfl rfl ?_
    show Steps p.tables e below (T28.setTop (mkF m 123 #[.val (.int p1), .val (.int p2), .val (.ref b1), .val (.ref b14), .val (.int ii), .val (.int jj), .val (.ref w_VIOLENTLY_REPLACE), .val (.ref a2), .val (.ref w_DELETE), .unset] [(.ref w_VIOLENTLY_REPLACE)])) _
    refine st29 _ ?_
    show Steps p.tables e below (T29.setTop (mkF m 126 #[.val (.int p1), .val (.int p2), .val (.ref b1), .val (.ref b14), .val (.int ii), .val (.int jj), .val (.ref w_VIOLENTLY_REPLACE), .val (.ref a2), .val (.ref w_DELETE), .unset] [(.ref w_VIOLENTLY_REPLACE), (.ref w_VIOLENTLY_REPLACE)])) _
    refine Jvm.RoadKit.acmp (g := (mkF m 126 #[.val (.int p1), .val (.int p2), .val (.ref b1), .val (.ref b14), .val (.int ii), .val (.int jj), .val (.ref w_VIOLENTLY_REPLACE), .val (.ref a2), .val (.ref w_DELETE), .unset] [(.ref w_VIOLENTLY_REPLACE), (.ref w_VIOLENTLY_REPLACE)])) X29 hx rfl rfl rfl (pc0 := 126) (pc' := 129) (same := true) rfl (hb hby at_126) rfl (decide_eq_true rfl) (by decide) (by decide) ?_
    show Steps p.tables e below (T29.setTop (mkF m 129 #[.val (.int p1), .val (.int p2), .val (.ref b1), .val (.ref b14), .val (.int ii), .val (.int jj), .val (.ref w_VIOLENTLY_REPLACE), .val (.ref a2), .val (.ref w_DELETE), .unset] [])) _
    refine st30 _ ?_
    show Steps p.tables e below (T30.setTop (mkF m 132 #[.val (.int p1), .val (.int p2), .val (.ref b1), .val (.ref b14), .val (.int ii), .val (.int jj), .val (.ref w_VIOLENTLY_REPLACE), .val (.ref a2), .val (.ref w_DELETE), .unset] [(.ref w_DELETE)])) _
    refine XS.astore X30.here hx rfl (hb hby at_132) rfl rfl (l' := #[.val (.int p1), .val (.int p2), .val (.ref b1), .val (.ref b14), .val (.int ii), .val (.int jj), .val (.ref w_VIOLENTLY_REPLACE), .val (.ref a2), .val (.ref w_DELETE), .val (.ref w_DELETE)]) rfl ?_
    show Steps p.tables e below (T30.setTop (mkF m 134 #[.val (.int p1), .val (.int p2), .val (.ref b1), .val (.ref b14), .val (.int ii), .val (.int jj), .val (.ref w_VIOLENTLY_REPLACE), .val (.ref a2), .val (.ref w_DELETE), .val (.ref w_DELETE)] [])) _
    refine XS.goto X30.here hx rfl (pc0 := 134) (pc' := 141) rfl (hb hby at_134) (by decide) (by decide) ?_
    show Steps p.tables e below (T30.setTop (mkF m 141 #[.val (.int p1), .val (.int p2), .val (.ref b1), .val (.ref b14), .val (.int ii), .val (.int jj), .val (.ref w_VIOLENTLY_REPLACE), .val (.ref a2), .val (.ref w_DELETE), .val (.ref w_DELETE)] [])) _
    refine XS.aload X30.here hx rfl (hb hby at_141) rfl rfl ?_
    show Steps p.tables e below (T30.setTop (mkF m 143 #[.val (.int p1), .val (.int p2), .val (.ref b1), .val (.ref b14), .val (.int ii), .val (.int jj), .val (.ref w_VIOLENTLY_REPLACE), .val (.ref a2), .val (.ref w_DELETE), .val (.ref w_DELETE)] [(.ref w_DELETE)])) _
    refine XS.aload X30.here hx rfl (hb hby at_143) rfl rfl ?_
    show Steps p.tables e below (T30.setTop (mkF m 145 #[.val (.int p1), .val (.int p2), .val (.ref b1), .val (.ref b14), .val (.int ii), .val (.int jj), .val (.ref w_VIOLENTLY_REPLACE), .val (.ref a2), .val (.ref w_DELETE), .val (.ref w_DELETE)] [(.ref w_DELETE), (.ref w_DELETE)])) _
    refine Jvm.RoadKit.acmp (g := (mkF m 145 #[.val (.int p1), .val (.int p2), .val (.ref b1), .val (.ref b14), .val (.int ii), .val (.int jj), .val (.ref w_VIOLENTLY_REPLACE), .val (.ref a2), .val (.ref w_DELETE), .val (.ref w_DELETE)] [(.ref w_DELETE), (.ref w_DELETE)])) X30 hx rfl rfl rfl (pc0 := 145) (pc' := 148) (same := true) rfl (hb hby at_145) rfl (decide_eq_true rfl) (by decide) (by decide) ?_
    show Steps p.tables e below (T30.setTop (mkF m 148 #[.val (.int p1), .val (.int p2), .val (.ref b1), .val (.ref b14), .val (.int ii), .val (.int jj), .val (.ref w_VIOLENTLY_REPLACE), .val (.ref a2), .val (.ref w_DELETE), .val (.ref w_DELETE)] [])) _
    refine XS.iconst X30.here hx rfl (hb hby at_148) ?_
    show Steps p.tables e below (T30.setTop (mkF m 149 #[.val (.int p1), .val (.int p2), .val (.ref b1), .val (.ref b14), .val (.int ii), .val (.int jj), .val (.ref w_VIOLENTLY_REPLACE), .val (.ref a2), .val (.ref w_DELETE), .val (.ref w_DELETE)] [(.int (1 : Int32))])) _
    refine XS.goto X30.here hx rfl (pc0 := 149) (pc' := 153) rfl (hb hby at_149) (by decide) (by decide) ?_
    exact k)
  obtain ⟨fs, hr, hrun, hended, hW, hsame⟩ := X30.leave (v := some (.int (1 : Int32))) (fun h => by rw [Bd.returns] at h; cases h)
  refine ⟨_, _, pre31 _ ?_, hrun, hended, _, _, rfl, ?_, ⟨_, rfl⟩, hW, hsame.mono (by decide) (by decide)⟩
  · show Steps p.tables e below (T30.setTop (mkF m 153 #[.val (.int p1), .val (.int p2), .val (.ref b1), .val (.ref b14), .val (.int ii), .val (.int jj), .val (.ref w_VIOLENTLY_REPLACE), .val (.ref a2), .val (.ref w_DELETE), .val (.ref w_DELETE)] [(.int (1 : Int32))])) _
    exact retN X30 hx (t := .boolean) Bd.returns (by simp) (hb hby at_153) hr
  · exact ⟨rfl, N28, trivial⟩
theorem ef_law_1_1 (m : MethodId) (x0 : Int32) (x1 : Int32) : entryFrame m #[(.int x0), (.int x1)] maxLocals = mkF m 0 #[.val (.int x0), .val (.int x1), .unset, .unset, .unset, .unset, .unset, .unset, .unset, .unset] [] := by first | (simp [entryFrame, mkF, argsToLocals, Value.category, maxLocals]; done) | rfl
set_option maxRecDepth 65536 in
set_option maxHeartbeats 40000000 in
theorem rm_law_1_1 (l : Launch) (Z : State) (a0 : Array Value) (hw : ∀ d ∈ tables_1, d.before a0 Z = true) (ws : List Jvm.Cond) (p1 : Int32) (p2 : Int32) (h0 : Heap) (n0 : Nat) (Z0 : n0 ≤ h0.size) (w_REPLACE w_MERGE w_APPEND w_APPEND_IF_ABSENT w_UPDATE w_VIOLENTLY_REPLACE w_NONE w_LAX w_CHECK w_SET_NULL w_DELETE : Addr) (hK : own_K Z h0 w_REPLACE w_MERGE w_APPEND w_APPEND_IF_ABSENT w_UPDATE w_VIOLENTLY_REPLACE w_NONE w_LAX w_CHECK w_SET_NULL w_DELETE) (ii jj : Int32) (hi : ((p1 &&& (2147483647 : Int32)) % (6 : Int32)) = ii) (hj : ((p2 &&& (2147483647 : Int32)) % (6 : Int32)) = jj) (hi0 : ¬ ii < 0) (hj0 : ¬ jj < 0) (hA : [Value.ref w_REPLACE, Value.ref w_MERGE, Value.ref w_APPEND, Value.ref w_APPEND_IF_ABSENT, Value.ref w_UPDATE, Value.ref w_VIOLENTLY_REPLACE][ii.toNatClampNeg]? = some (Value.ref w_VIOLENTLY_REPLACE)) (hB : [Value.ref w_NONE, Value.ref w_LAX, Value.ref w_CHECK, Value.ref w_SET_NULL, Value.ref w_DELETE, Value.null][jj.toNatClampNeg]? = some Value.null) :
    MetFree l x (head1 (Jvm.Cond.code x code maxLocals ret :: ws) room_1) (fun a U => a = #[(.int p1), (.int p2)] ∧ Z.Warmed39 U.vm ∧ U.heap = h0) (fun _ _ _ _ _ => True) (fun _ U o U' => ∃ v L, o = .returned v ∧ own_QH (some (.int (1 : Int32))) n0 v U'.heap L ∧ FrameEnd U o U' L room_1.cells room_1.slots) := by
  refine MetFree.of_bodySF (plainFor_of_name pn_1) hisR ?_
  intro p e s m args below meth c s₁ Bd hml0 hP hK0
  obtain ⟨rfl, hZ, hh⟩ := hP
  have hx := Bd.exec
  have hby := Bd.bytes
  have hml : c.maxLocals = 10 := hml0
  have hown : s.vm.findClass "com/example/graft/graft/AssociatedSaveModeDissociateActionPinLaw" = some m.cls := findClass_of_methodNamed Bd.named
  have hnm := (name_of_methodNamed Bd.named Bd.method).1
  have X0 : Stand p l e room_1 s m #[(.int p1), (.int p2)] below meth c s₁ [] 0 0 := Stand.of_body Bd
  have e0 : s₁.heap = h0 := by rw [← hh, Bd.state]; rfl
  have N0 := Fr.nil n0
  have pre0 : ∀ t, Steps p.tables e below (s₁.setTop (mkF m 0 #[.val (.int p1), .val (.int p2), .unset, .unset, .unset, .unset, .unset, .unset, .unset, .unset] [])) t → Steps p.tables e below (s₁.setTop (entryFrame m #[(.int p1), (.int p2)] maxLocals)) t := fun t k => castTop (ef_law_1_1 m p1 p2) k
  have hK' := hK
  obtain ⟨S_w_REPLACE, E_w_REPLACE, S_w_MERGE, E_w_MERGE, S_w_APPEND, E_w_APPEND, S_w_APPEND_IF_ABSENT, E_w_APPEND_IF_ABSENT, S_w_UPDATE, E_w_UPDATE, S_w_VIOLENTLY_REPLACE, E_w_VIOLENTLY_REPLACE, S_w_NONE, E_w_NONE, S_w_LAX, E_w_LAX, S_w_CHECK, E_w_CHECK, S_w_SET_NULL, E_w_SET_NULL, S_w_DELETE, E_w_DELETE, F_deletesLeftOut_w_REPLACE, F_ordinal_w_REPLACE, F_ordinal_w_VIOLENTLY_REPLACE, F_deletesLeftOut_w_APPEND, F_ordinal_w_APPEND, F_deletesLeftOut_w_UPDATE, F_ordinal_w_UPDATE, F_deletesLeftOut_w_MERGE, F_ordinal_w_MERGE, F_deletesLeftOut_w_VIOLENTLY_REPLACE, F_deletesLeftOut_w_APPEND_IF_ABSENT, F_ordinal_w_APPEND_IF_ABSENT⟩ := hK'
  obtain ⟨T1, h1, k1, X1, e1, Eq1, A1, O1, st1⟩ := newR X0 hx hZ hown (hw _ (ow 0 rfl)) (hw _ (ow 1 rfl)) e0 (g := (mkF m 2 #[.val (.int p1), .val (.int p2), .unset, .unset, .unset, .unset, .unset, .unset, .unset, .unset] [(.int (6 : Int32))])) rfl (hb hby at_2) rfl (by decide) (cap := 6) (by decide) (by decide) (by decide) (by decide)
  obtain ⟨b1, gb1⟩ : ∃ z, z = h0.size := ⟨_, rfl⟩
  rw [← gb1] at A1 st1
  have B1 : own_ArrK Z h1 b1 k1 (.object "com/example/graft/graft/AssociatedSaveMode") [.null, .null, .null, .null, .null, .null] := ⟨_, A1, rfl, rfl⟩
  have sz_b1 : h0.size ≤ b1 := Nat.le_of_eq gb1.symm
  have g_b1 : n0 ≤ b1 := Nat.le_trans Z0 sz_b1
  have EX1 : Ext h0 h1 := Eq1
  obtain ⟨T2, X2, e2, st2⟩ := getS2 X1 hx hZ hown (host := "") (Or.inl (hw _ (ow 2 rfl))) Via.refl e1 (S_w_REPLACE.ext EX1) (g := (mkF m 7 #[.val (.int p1), .val (.int p2), .unset, .unset, .unset, .unset, .unset, .unset, .unset, .unset] [(.int (0 : Int32)), (.ref b1), (.ref b1)])) rfl (hb hby at_7)
  obtain ⟨cl3, Ar3, qk3, hs3⟩ := id B1
  obtain ⟨T3, h3, X3, e3, W3, st3⟩ := stR X2 hx hZ e2 Ar3 (j := (0 : Int32)) (own_inb 6 hs3 rfl (by decide) (by decide)) rfl (Sto.ofV Ar3 qk3 O1 (Ins.self (E_w_REPLACE.ext EX1))) (g := (mkF m 10 #[.val (.int p1), .val (.int p2), .unset, .unset, .unset, .unset, .unset, .unset, .unset, .unset] [(.ref w_REPLACE), (.int (0 : Int32)), (.ref b1), (.ref b1)])) rfl rfl (hb hby at_10)
  have B3 : own_ArrK Z h3 b1 k1 (.object "com/example/graft/graft/AssociatedSaveMode") [(.ref w_REPLACE), .null, .null, .null, .null, .null] := own_set W3 Ar3 qk3 hs3
  have N3 := Fr.snoc X3 N0 g_b1
  have EX3 : Ext h0 h3 := own_ext_wr EX1 W3 sz_b1
  obtain ⟨T4, X4, e4, st4⟩ := getS2 X3 hx hZ hown (host := "") (Or.inl (hw _ (ow 6 rfl))) Via.refl e3 (S_w_MERGE.ext EX3) (g := (mkF m 13 #[.val (.int p1), .val (.int p2), .unset, .unset, .unset, .unset, .unset, .unset, .unset, .unset] [(.int (1 : Int32)), (.ref b1), (.ref b1)])) rfl (hb hby at_13)
  obtain ⟨cl5, Ar5, qk5, hs5⟩ := id B3
  obtain ⟨T5, h5, X5, e5, W5, st5⟩ := stR X4 hx hZ e4 Ar5 (j := (1 : Int32)) (own_inb 6 hs5 rfl (by decide) (by decide)) rfl (Sto.ofV Ar5 qk5 O1 (Ins.self (E_w_MERGE.ext EX3))) (g := (mkF m 16 #[.val (.int p1), .val (.int p2), .unset, .unset, .unset, .unset, .unset, .unset, .unset, .unset] [(.ref w_MERGE), (.int (1 : Int32)), (.ref b1), (.ref b1)])) rfl rfl (hb hby at_16)
  have B5 : own_ArrK Z h5 b1 k1 (.object "com/example/graft/graft/AssociatedSaveMode") [(.ref w_REPLACE), (.ref w_MERGE), .null, .null, .null, .null] := own_set W5 Ar5 qk5 hs5
  have N5 := Fr.snoc X5 N3 g_b1
  have EX5 : Ext h0 h5 := own_ext_wr EX3 W5 sz_b1
  obtain ⟨T6, X6, e6, st6⟩ := getS2 X5 hx hZ hown (host := "") (Or.inl (hw _ (ow 8 rfl))) Via.refl e5 (S_w_APPEND.ext EX5) (g := (mkF m 19 #[.val (.int p1), .val (.int p2), .unset, .unset, .unset, .unset, .unset, .unset, .unset, .unset] [(.int (2 : Int32)), (.ref b1), (.ref b1)])) rfl (hb hby at_19)
  obtain ⟨cl7, Ar7, qk7, hs7⟩ := id B5
  obtain ⟨T7, h7, X7, e7, W7, st7⟩ := stR X6 hx hZ e6 Ar7 (j := (2 : Int32)) (own_inb 6 hs7 rfl (by decide) (by decide)) rfl (Sto.ofV Ar7 qk7 O1 (Ins.self (E_w_APPEND.ext EX5))) (g := (mkF m 22 #[.val (.int p1), .val (.int p2), .unset, .unset, .unset, .unset, .unset, .unset, .unset, .unset] [(.ref w_APPEND), (.int (2 : Int32)), (.ref b1), (.ref b1)])) rfl rfl (hb hby at_22)
  have B7 : own_ArrK Z h7 b1 k1 (.object "com/example/graft/graft/AssociatedSaveMode") [(.ref w_REPLACE), (.ref w_MERGE), (.ref w_APPEND), .null, .null, .null] := own_set W7 Ar7 qk7 hs7
  have N7 := Fr.snoc X7 N5 g_b1
  have EX7 : Ext h0 h7 := own_ext_wr EX5 W7 sz_b1
  obtain ⟨T8, X8, e8, st8⟩ := getS2 X7 hx hZ hown (host := "") (Or.inl (hw _ (ow 10 rfl))) Via.refl e7 (S_w_APPEND_IF_ABSENT.ext EX7) (g := (mkF m 25 #[.val (.int p1), .val (.int p2), .unset, .unset, .unset, .unset, .unset, .unset, .unset, .unset] [(.int (3 : Int32)), (.ref b1), (.ref b1)])) rfl (hb hby at_25)
  obtain ⟨cl9, Ar9, qk9, hs9⟩ := id B7
  obtain ⟨T9, h9, X9, e9, W9, st9⟩ := stR X8 hx hZ e8 Ar9 (j := (3 : Int32)) (own_inb 6 hs9 rfl (by decide) (by decide)) rfl (Sto.ofV Ar9 qk9 O1 (Ins.self (E_w_APPEND_IF_ABSENT.ext EX7))) (g := (mkF m 28 #[.val (.int p1), .val (.int p2), .unset, .unset, .unset, .unset, .unset, .unset, .unset, .unset] [(.ref w_APPEND_IF_ABSENT), (.int (3 : Int32)), (.ref b1), (.ref b1)])) rfl rfl (hb hby at_28)
  have B9 : own_ArrK Z h9 b1 k1 (.object "com/example/graft/graft/AssociatedSaveMode") [(.ref w_REPLACE), (.ref w_MERGE), (.ref w_APPEND), (.ref w_APPEND_IF_ABSENT), .null, .null] := own_set W9 Ar9 qk9 hs9
  have N9 := Fr.snoc X9 N7 g_b1
  have EX9 : Ext h0 h9 := own_ext_wr EX7 W9 sz_b1
  obtain ⟨T10, X10, e10, st10⟩ := getS2 X9 hx hZ hown (host := "") (Or.inl (hw _ (ow 12 rfl))) Via.refl e9 (S_w_UPDATE.ext EX9) (g := (mkF m 31 #[.val (.int p1), .val (.int p2), .unset, .unset, .unset, .unset, .unset, .unset, .unset, .unset] [(.int (4 : Int32)), (.ref b1), (.ref b1)])) rfl (hb hby at_31)
  obtain ⟨cl11, Ar11, qk11, hs11⟩ := id B9
  obtain ⟨T11, h11, X11, e11, W11, st11⟩ := stR X10 hx hZ e10 Ar11 (j := (4 : Int32)) (own_inb 6 hs11 rfl (by decide) (by decide)) rfl (Sto.ofV Ar11 qk11 O1 (Ins.self (E_w_UPDATE.ext EX9))) (g := (mkF m 34 #[.val (.int p1), .val (.int p2), .unset, .unset, .unset, .unset, .unset, .unset, .unset, .unset] [(.ref w_UPDATE), (.int (4 : Int32)), (.ref b1), (.ref b1)])) rfl rfl (hb hby at_34)
  have B11 : own_ArrK Z h11 b1 k1 (.object "com/example/graft/graft/AssociatedSaveMode") [(.ref w_REPLACE), (.ref w_MERGE), (.ref w_APPEND), (.ref w_APPEND_IF_ABSENT), (.ref w_UPDATE), .null] := own_set W11 Ar11 qk11 hs11
  have N11 := Fr.snoc X11 N9 g_b1
  have EX11 : Ext h0 h11 := own_ext_wr EX9 W11 sz_b1
  obtain ⟨T12, X12, e12, st12⟩ := getS2 X11 hx hZ hown (host := "") (Or.inl (hw _ (ow 14 rfl))) Via.refl e11 (S_w_VIOLENTLY_REPLACE.ext EX11) (g := (mkF m 37 #[.val (.int p1), .val (.int p2), .unset, .unset, .unset, .unset, .unset, .unset, .unset, .unset] [(.int (5 : Int32)), (.ref b1), (.ref b1)])) rfl (hb hby at_37)
  obtain ⟨cl13, Ar13, qk13, hs13⟩ := id B11
  obtain ⟨T13, h13, X13, e13, W13, st13⟩ := stR X12 hx hZ e12 Ar13 (j := (5 : Int32)) (own_inb 6 hs13 rfl (by decide) (by decide)) rfl (Sto.ofV Ar13 qk13 O1 (Ins.self (E_w_VIOLENTLY_REPLACE.ext EX11))) (g := (mkF m 40 #[.val (.int p1), .val (.int p2), .unset, .unset, .unset, .unset, .unset, .unset, .unset, .unset] [(.ref w_VIOLENTLY_REPLACE), (.int (5 : Int32)), (.ref b1), (.ref b1)])) rfl rfl (hb hby at_40)
  have B13 : own_ArrK Z h13 b1 k1 (.object "com/example/graft/graft/AssociatedSaveMode") [(.ref w_REPLACE), (.ref w_MERGE), (.ref w_APPEND), (.ref w_APPEND_IF_ABSENT), (.ref w_UPDATE), (.ref w_VIOLENTLY_REPLACE)] := own_set W13 Ar13 qk13 hs13
  have N13 := Fr.snoc X13 N11 g_b1
  have EX13 : Ext h0 h13 := own_ext_wr EX11 W13 sz_b1
  obtain ⟨T14, h14, k14, X14, e14, Eq14, A14, O14, st14⟩ := newR X13 hx hZ hown (hw _ (ow 16 rfl)) (hw _ (ow 17 rfl)) e13 (g := (mkF m 44 #[.val (.int p1), .val (.int p2), .val (.ref b1), .unset, .unset, .unset, .unset, .unset, .unset, .unset] [(.int (6 : Int32))])) rfl (hb hby at_44) rfl (by decide) (cap := 6) (by decide) (by decide) (by decide) (by decide)
  obtain ⟨b14, gb14⟩ : ∃ z, z = h13.size := ⟨_, rfl⟩
  rw [← gb14] at A14 st14
  have B14 : own_ArrK Z h14 b14 k14 (.object "com/example/graft/graft/DissociateAction") [.null, .null, .null, .null, .null, .null] := ⟨_, A14, rfl, rfl⟩
  have sz_b14 : h0.size ≤ b14 := Nat.le_trans EX13.1 (Nat.le_of_eq gb14.symm)
  have g_b14 : n0 ≤ b14 := Nat.le_trans Z0 sz_b14
  have ne_b1_b14 : b1 ≠ b14 := Nat.ne_of_lt (Nat.lt_of_lt_of_le B13.lt (Nat.le_of_eq gb14.symm))
  have B14_b1 := B13.ext Eq14
  have EX14 : Ext h0 h14 := own_ext_trans EX13 Eq14
  obtain ⟨T15, X15, e15, st15⟩ := getS2 X14 hx hZ hown (host := "") (Or.inl (hw _ (ow 18 rfl))) Via.refl e14 (S_w_NONE.ext EX14) (g := (mkF m 49 #[.val (.int p1), .val (.int p2), .val (.ref b1), .unset, .unset, .unset, .unset, .unset, .unset, .unset] [(.int (0 : Int32)), (.ref b14), (.ref b14)])) rfl (hb hby at_49)
  obtain ⟨cl16, Ar16, qk16, hs16⟩ := id B14
  obtain ⟨T16, h16, X16, e16, W16, st16⟩ := stR X15 hx hZ e15 Ar16 (j := (0 : Int32)) (own_inb 6 hs16 rfl (by decide) (by decide)) rfl (Sto.ofV Ar16 qk16 O14 (Ins.self (E_w_NONE.ext EX14))) (g := (mkF m 52 #[.val (.int p1), .val (.int p2), .val (.ref b1), .unset, .unset, .unset, .unset, .unset, .unset, .unset] [(.ref w_NONE), (.int (0 : Int32)), (.ref b14), (.ref b14)])) rfl rfl (hb hby at_52)
  have B16 : own_ArrK Z h16 b14 k14 (.object "com/example/graft/graft/DissociateAction") [(.ref w_NONE), .null, .null, .null, .null, .null] := own_set W16 Ar16 qk16 hs16
  have N16 := Fr.snoc X16 N13 g_b14
  have EX16 : Ext h0 h16 := own_ext_wr EX14 W16 sz_b14
  have B16_b1 := B14_b1.other W16 ne_b1_b14
  obtain ⟨T17, X17, e17, st17⟩ := getS2 X16 hx hZ hown (host := "") (Or.inl (hw _ (ow 22 rfl))) Via.refl e16 (S_w_LAX.ext EX16) (g := (mkF m 55 #[.val (.int p1), .val (.int p2), .val (.ref b1), .unset, .unset, .unset, .unset, .unset, .unset, .unset] [(.int (1 : Int32)), (.ref b14), (.ref b14)])) rfl (hb hby at_55)
  obtain ⟨cl18, Ar18, qk18, hs18⟩ := id B16
  obtain ⟨T18, h18, X18, e18, W18, st18⟩ := stR X17 hx hZ e17 Ar18 (j := (1 : Int32)) (own_inb 6 hs18 rfl (by decide) (by decide)) rfl (Sto.ofV Ar18 qk18 O14 (Ins.self (E_w_LAX.ext EX16))) (g := (mkF m 58 #[.val (.int p1), .val (.int p2), .val (.ref b1), .unset, .unset, .unset, .unset, .unset, .unset, .unset] [(.ref w_LAX), (.int (1 : Int32)), (.ref b14), (.ref b14)])) rfl rfl (hb hby at_58)
  have B18 : own_ArrK Z h18 b14 k14 (.object "com/example/graft/graft/DissociateAction") [(.ref w_NONE), (.ref w_LAX), .null, .null, .null, .null] := own_set W18 Ar18 qk18 hs18
  have N18 := Fr.snoc X18 N16 g_b14
  have EX18 : Ext h0 h18 := own_ext_wr EX16 W18 sz_b14
  have B18_b1 := B16_b1.other W18 ne_b1_b14
  obtain ⟨T19, X19, e19, st19⟩ := getS2 X18 hx hZ hown (host := "") (Or.inl (hw _ (ow 24 rfl))) Via.refl e18 (S_w_CHECK.ext EX18) (g := (mkF m 61 #[.val (.int p1), .val (.int p2), .val (.ref b1), .unset, .unset, .unset, .unset, .unset, .unset, .unset] [(.int (2 : Int32)), (.ref b14), (.ref b14)])) rfl (hb hby at_61)
  obtain ⟨cl20, Ar20, qk20, hs20⟩ := id B18
  obtain ⟨T20, h20, X20, e20, W20, st20⟩ := stR X19 hx hZ e19 Ar20 (j := (2 : Int32)) (own_inb 6 hs20 rfl (by decide) (by decide)) rfl (Sto.ofV Ar20 qk20 O14 (Ins.self (E_w_CHECK.ext EX18))) (g := (mkF m 64 #[.val (.int p1), .val (.int p2), .val (.ref b1), .unset, .unset, .unset, .unset, .unset, .unset, .unset] [(.ref w_CHECK), (.int (2 : Int32)), (.ref b14), (.ref b14)])) rfl rfl (hb hby at_64)
  have B20 : own_ArrK Z h20 b14 k14 (.object "com/example/graft/graft/DissociateAction") [(.ref w_NONE), (.ref w_LAX), (.ref w_CHECK), .null, .null, .null] := own_set W20 Ar20 qk20 hs20
  have N20 := Fr.snoc X20 N18 g_b14
  have EX20 : Ext h0 h20 := own_ext_wr EX18 W20 sz_b14
  have B20_b1 := B18_b1.other W20 ne_b1_b14
  obtain ⟨T21, X21, e21, st21⟩ := getS2 X20 hx hZ hown (host := "") (Or.inl (hw _ (ow 26 rfl))) Via.refl e20 (S_w_SET_NULL.ext EX20) (g := (mkF m 67 #[.val (.int p1), .val (.int p2), .val (.ref b1), .unset, .unset, .unset, .unset, .unset, .unset, .unset] [(.int (3 : Int32)), (.ref b14), (.ref b14)])) rfl (hb hby at_67)
  obtain ⟨cl22, Ar22, qk22, hs22⟩ := id B20
  obtain ⟨T22, h22, X22, e22, W22, st22⟩ := stR X21 hx hZ e21 Ar22 (j := (3 : Int32)) (own_inb 6 hs22 rfl (by decide) (by decide)) rfl (Sto.ofV Ar22 qk22 O14 (Ins.self (E_w_SET_NULL.ext EX20))) (g := (mkF m 70 #[.val (.int p1), .val (.int p2), .val (.ref b1), .unset, .unset, .unset, .unset, .unset, .unset, .unset] [(.ref w_SET_NULL), (.int (3 : Int32)), (.ref b14), (.ref b14)])) rfl rfl (hb hby at_70)
  have B22 : own_ArrK Z h22 b14 k14 (.object "com/example/graft/graft/DissociateAction") [(.ref w_NONE), (.ref w_LAX), (.ref w_CHECK), (.ref w_SET_NULL), .null, .null] := own_set W22 Ar22 qk22 hs22
  have N22 := Fr.snoc X22 N20 g_b14
  have EX22 : Ext h0 h22 := own_ext_wr EX20 W22 sz_b14
  have B22_b1 := B20_b1.other W22 ne_b1_b14
  obtain ⟨T23, X23, e23, st23⟩ := getS2 X22 hx hZ hown (host := "") (Or.inl (hw _ (ow 28 rfl))) Via.refl e22 (S_w_DELETE.ext EX22) (g := (mkF m 73 #[.val (.int p1), .val (.int p2), .val (.ref b1), .unset, .unset, .unset, .unset, .unset, .unset, .unset] [(.int (4 : Int32)), (.ref b14), (.ref b14)])) rfl (hb hby at_73)
  obtain ⟨cl24, Ar24, qk24, hs24⟩ := id B22
  obtain ⟨T24, h24, X24, e24, W24, st24⟩ := stR X23 hx hZ e23 Ar24 (j := (4 : Int32)) (own_inb 6 hs24 rfl (by decide) (by decide)) rfl (Sto.ofV Ar24 qk24 O14 (Ins.self (E_w_DELETE.ext EX22))) (g := (mkF m 76 #[.val (.int p1), .val (.int p2), .val (.ref b1), .unset, .unset, .unset, .unset, .unset, .unset, .unset] [(.ref w_DELETE), (.int (4 : Int32)), (.ref b14), (.ref b14)])) rfl rfl (hb hby at_76)
  have B24 : own_ArrK Z h24 b14 k14 (.object "com/example/graft/graft/DissociateAction") [(.ref w_NONE), (.ref w_LAX), (.ref w_CHECK), (.ref w_SET_NULL), (.ref w_DELETE), .null] := own_set W24 Ar24 qk24 hs24
  have N24 := Fr.snoc X24 N22 g_b14
  have EX24 : Ext h0 h24 := own_ext_wr EX22 W24 sz_b14
  have B24_b1 := B22_b1.other W24 ne_b1_b14
  obtain ⟨cl25, Ar25, qk25, hs25⟩ := id B24
  obtain ⟨T25, h25, X25, e25, W25, st25⟩ := stR X24 hx hZ e24 Ar25 (j := (5 : Int32)) (own_inb 6 hs25 rfl (by decide) (by decide)) rfl (Or.inl rfl) (g := (mkF m 80 #[.val (.int p1), .val (.int p2), .val (.ref b1), .unset, .unset, .unset, .unset, .unset, .unset, .unset] [.null, (.int (5 : Int32)), (.ref b14), (.ref b14)])) rfl rfl (hb hby at_80)
  have B25 : own_ArrK Z h25 b14 k14 (.object "com/example/graft/graft/DissociateAction") [(.ref w_NONE), (.ref w_LAX), (.ref w_CHECK), (.ref w_SET_NULL), (.ref w_DELETE), .null] := own_set W25 Ar25 qk25 hs25
  have N25 := Fr.snoc X25 N24 g_b14
  have EX25 : Ext h0 h25 := own_ext_wr EX24 W25 sz_b14
  have B25_b1 := B24_b1.other W25 ne_b1_b14
  obtain ⟨cl26, Ar26, qk26, hs26⟩ := id B25_b1
  have gt26 := own_get hs26 hi0 hA
  obtain ⟨cl27, Ar27, qk27, hs27⟩ := id B25
  have gt27 := own_get hs27 hj0 hB
  obtain ⟨cq28, kq28, q28a, q28b, q28c⟩ := isOf hZ e25 (E_w_VIOLENTLY_REPLACE.ext EX25)
  obtain ⟨v28, _, ⟨T28, L28, k28, n28⟩, -, X28, ⟨Lc28, hQ28, l28, y28, z28⟩, st28⟩ := X25.virtualBack hx (y := (⟨"com/example/graft/graft/AssociatedSaveMode", "dissociateAction", "(Lcom/example/graft/graft/DissociateAction;)Lcom/example/graft/graft/DissociateAction;"⟩ : MethodName)) (z := (⟨"com/example/graft/graft/AssociatedSaveMode", "dissociateAction", "(Lcom/example/graft/graft/DissociateAction;)Lcom/example/graft/graft/DissociateAction;"⟩ : MethodName)) hown (mvT hZ (hw _ (ow 31 rfl))) (mvT hZ (hw _ (ow 32 rfl))) (notFace_of_selects (args := #[]) (mvT hZ (hw _ (ow 34 rfl)))) (mvT hZ (hw _ (ow 34 rfl))) (mvT hZ (hw _ (ow 33 rfl))) (by decide) (backOf (W := 0) (rm_disN l Z a0 hw [] w_VIOLENTLY_REPLACE (1 : Int32) h25 n0 w_REPLACE w_MERGE w_APPEND w_APPEND_IF_ABSENT w_UPDATE w_VIOLENTLY_REPLACE w_NONE w_LAX w_CHECK w_SET_NULL w_DELETE (own_K_ext EX25 hK) (F_deletesLeftOut_w_VIOLENTLY_REPLACE.ext EX25)) hZ (hw _ (ow 35 rfl)) (hw _ (ow 3 rfl)) (by decide) (by decide)) q28a q28c (g := (mkF m 116 #[.val (.int p1), .val (.int p2), .val (.ref b1), .val (.ref b14), .val (.int ii), .val (.int jj), .val (.ref w_VIOLENTLY_REPLACE), .val .null, .unset, .unset] [.null, (.ref w_VIOLENTLY_REPLACE)])) rfl (by rw [hml]; rfl) (Steps.refl _) (argsL := [.null]) (rest := []) (lenOf pd_0 rfl) rfl (Nat.le_of_eq rfl) (hb hby at_116) (fun _ _ => ⟨rfl, e25, (by decide : 2 + 0 ≤ _), (by decide : 12 + 0 ≤ _)⟩)
  dsimp only [Pt.U, Pt.locs, Pt.cells, Pt.slots] at X28 l28 y28 z28 st28 hQ28
  subst l28 y28 z28
  obtain ⟨hv28, Nq28, e28⟩ := hQ28
  obtain rfl : v28 = some (.ref w_DELETE) := hv28.trans (congrArg some (if_neg (by decide)))
  have N28 := Fr.app N25 Nq28
  obtain ⟨T29, X29, e29, st29⟩ := getS2 X28 hx hZ hown (host := "") (Or.inl (hw _ (ow 14 rfl))) Via.refl e28 (S_w_VIOLENTLY_REPLACE.ext EX25) (g := (mkF m 123 #[.val (.int p1), .val (.int p2), .val (.ref b1), .val (.ref b14), .val (.int ii), .val (.int jj), .val (.ref w_VIOLENTLY_REPLACE), .val .null, .val (.ref w_DELETE), .unset] [(.ref w_VIOLENTLY_REPLACE)])) rfl (hb hby at_123)
  obtain ⟨T30, X30, e30, st30⟩ := getS2 X29 hx hZ hown (host := "") (Or.inl (hw _ (ow 28 rfl))) Via.refl e29 (S_w_DELETE.ext EX25) (g := (mkF m 129 #[.val (.int p1), .val (.int p2), .val (.ref b1), .val (.ref b14), .val (.int ii), .val (.int jj), .val (.ref w_VIOLENTLY_REPLACE), .val .null, .val (.ref w_DELETE), .unset] [])) rfl (hb hby at_129)
  have pre31 : ∀ t, Steps p.tables e below (T30.setTop (mkF m 153 #[.val (.int p1), .val (.int p2), .val (.ref b1), .val (.ref b14), .val (.int ii), .val (.int jj), .val (.ref w_VIOLENTLY_REPLACE), .val .null, .val (.ref w_DELETE), .val (.ref w_DELETE)] [(.int (1 : Int32))])) t → Steps p.tables e below (s₁.setTop (entryFrame m #[(.int p1), (.int p2)] maxLocals)) t := fun t k => pre0 t (by
    show Steps p.tables e below (s₁.setTop (mkF m 0 #[.val (.int p1), .val (.int p2), .unset, .unset, .unset, .unset, .unset, .unset, .unset, .unset] [])) _
    refine XS.bipush X0.here hx rfl (hb hby at_0) ?_
    show Steps p.tables e below (s₁.setTop (mkF m 2 #[.val (.int p1), .val (.int p2), .unset, .unset, .unset, .unset, .unset, .unset, .unset, .unset] [(.int (6 : Int32))])) _
    refine st1 _ ?_
    show Steps p.tables e below (T1.setTop (mkF m 5 #[.val (.int p1), .val (.int p2), .unset, .unset, .unset, .unset, .unset, .unset, .unset, .unset] [(.ref b1)])) _
    refine XS.dup X1.here hx rfl (hb hby at_5) rfl rfl ?_
    show Steps p.tables e below (T1.setTop (mkF m 6 #[.val (.int p1), .val (.int p2), .unset, .unset, .unset, .unset, .unset, .unset, .unset, .unset] [(.ref b1), (.ref b1)])) _
    refine XS.iconst X1.here hx rfl (hb hby at_6) ?_
    show Steps p.tables e below (T1.setTop (mkF m 7 #[.val (.int p1), .val (.int p2), .unset, .unset, .unset, .unset, .unset, .unset, .unset, .unset] [(.int (0 : Int32)), (.ref b1), (.ref b1)])) _
    refine st2 _ ?_
    show Steps p.tables e below (T2.setTop (mkF m 10 #[.val (.int p1), .val (.int p2), .unset, .unset, .unset, .unset, .unset, .unset, .unset, .unset] [(.ref w_REPLACE), (.int (0 : Int32)), (.ref b1), (.ref b1)])) _
    refine st3 _ ?_
    show Steps p.tables e below (T3.setTop (mkF m 11 #[.val (.int p1), .val (.int p2), .unset, .unset, .unset, .unset, .unset, .unset, .unset, .unset] [(.ref b1)])) _
    refine XS.dup X3.here hx rfl (hb hby at_11) rfl rfl ?_
    show Steps p.tables e below (T3.setTop (mkF m 12 #[.val (.int p1), .val (.int p2), .unset, .unset, .unset, .unset, .unset, .unset, .unset, .unset] [(.ref b1), (.ref b1)])) _
    refine XS.iconst X3.here hx rfl (hb hby at_12) ?_
    show Steps p.tables e below (T3.setTop (mkF m 13 #[.val (.int p1), .val (.int p2), .unset, .unset, .unset, .unset, .unset, .unset, .unset, .unset] [(.int (1 : Int32)), (.ref b1), (.ref b1)])) _
    refine st4 _ ?_
    show Steps p.tables e below (T4.setTop (mkF m 16 #[.val (.int p1), .val (.int p2), .unset, .unset, .unset, .unset, .unset, .unset, .unset, .unset] [(.ref w_MERGE), (.int (1 : Int32)), (.ref b1), (.ref b1)])) _
    refine st5 _ ?_
    show Steps p.tables e below (T5.setTop (mkF m 17 #[.val (.int p1), .val (.int p2), .unset, .unset, .unset, .unset, .unset, .unset, .unset, .unset] [(.ref b1)])) _
    refine XS.dup X5.here hx rfl (hb hby at_17) rfl rfl ?_
    show Steps p.tables e below (T5.setTop (mkF m 18 #[.val (.int p1), .val (.int p2), .unset, .unset, .unset, .unset, .unset, .unset, .unset, .unset] [(.ref b1), (.ref b1)])) _
    refine XS.iconst X5.here hx rfl (hb hby at_18) ?_
    show Steps p.tables e below (T5.setTop (mkF m 19 #[.val (.int p1), .val (.int p2), .unset, .unset, .unset, .unset, .unset, .unset, .unset, .unset] [(.int (2 : Int32)), (.ref b1), (.ref b1)])) _
    refine st6 _ ?_
    show Steps p.tables e below (T6.setTop (mkF m 22 #[.val (.int p1), .val (.int p2), .unset, .unset, .unset, .unset, .unset, .unset, .unset, .unset] [(.ref w_APPEND), (.int (2 : Int32)), (.ref b1), (.ref b1)])) _
    refine st7 _ ?_
    show Steps p.tables e below (T7.setTop (mkF m 23 #[.val (.int p1), .val (.int p2), .unset, .unset, .unset, .unset, .unset, .unset, .unset, .unset] [(.ref b1)])) _
    refine XS.dup X7.here hx rfl (hb hby at_23) rfl rfl ?_
    show Steps p.tables e below (T7.setTop (mkF m 24 #[.val (.int p1), .val (.int p2), .unset, .unset, .unset, .unset, .unset, .unset, .unset, .unset] [(.ref b1), (.ref b1)])) _
    refine XS.iconst X7.here hx rfl (hb hby at_24) ?_
    show Steps p.tables e below (T7.setTop (mkF m 25 #[.val (.int p1), .val (.int p2), .unset, .unset, .unset, .unset, .unset, .unset, .unset, .unset] [(.int (3 : Int32)), (.ref b1), (.ref b1)])) _
    refine st8 _ ?_
    show Steps p.tables e below (T8.setTop (mkF m 28 #[.val (.int p1), .val (.int p2), .unset, .unset, .unset, .unset, .unset, .unset, .unset, .unset] [(.ref w_APPEND_IF_ABSENT), (.int (3 : Int32)), (.ref b1), (.ref b1)])) _
    refine st9 _ ?_
    show Steps p.tables e below (T9.setTop (mkF m 29 #[.val (.int p1), .val (.int p2), .unset, .unset, .unset, .unset, .unset, .unset, .unset, .unset] [(.ref b1)])) _
    refine XS.dup X9.here hx rfl (hb hby at_29) rfl rfl ?_
    show Steps p.tables e below (T9.setTop (mkF m 30 #[.val (.int p1), .val (.int p2), .unset, .unset, .unset, .unset, .unset, .unset, .unset, .unset] [(.ref b1), (.ref b1)])) _
    refine XS.iconst X9.here hx rfl (hb hby at_30) ?_
    show Steps p.tables e below (T9.setTop (mkF m 31 #[.val (.int p1), .val (.int p2), .unset, .unset, .unset, .unset, .unset, .unset, .unset, .unset] [(.int (4 : Int32)), (.ref b1), (.ref b1)])) _
    refine st10 _ ?_
    show Steps p.tables e below (T10.setTop (mkF m 34 #[.val (.int p1), .val (.int p2), .unset, .unset, .unset, .unset, .unset, .unset, .unset, .unset] [(.ref w_UPDATE), (.int (4 : Int32)), (.ref b1), (.ref b1)])) _
    refine st11 _ ?_
    show Steps p.tables e below (T11.setTop (mkF m 35 #[.val (.int p1), .val (.int p2), .unset, .unset, .unset, .unset, .unset, .unset, .unset, .unset] [(.ref b1)])) _
    refine XS.dup X11.here hx rfl (hb hby at_35) rfl rfl ?_
    show Steps p.tables e below (T11.setTop (mkF m 36 #[.val (.int p1), .val (.int p2), .unset, .unset, .unset, .unset, .unset, .unset, .unset, .unset] [(.ref b1), (.ref b1)])) _
    refine XS.iconst X11.here hx rfl (hb hby at_36) ?_
    show Steps p.tables e below (T11.setTop (mkF m 37 #[.val (.int p1), .val (.int p2), .unset, .unset, .unset, .unset, .unset, .unset, .unset, .unset] [(.int (5 : Int32)), (.ref b1), (.ref b1)])) _
    refine st12 _ ?_
    show Steps p.tables e below (T12.setTop (mkF m 40 #[.val (.int p1), .val (.int p2), .unset, .unset, .unset, .unset, .unset, .unset, .unset, .unset] [(.ref w_VIOLENTLY_REPLACE), (.int (5 : Int32)), (.ref b1), (.ref b1)])) _
    refine st13 _ ?_
    show Steps p.tables e below (T13.setTop (mkF m 41 #[.val (.int p1), .val (.int p2), .unset, .unset, .unset, .unset, .unset, .unset, .unset, .unset] [(.ref b1)])) _
    refine XS.astoreN X13.here hx rfl (hb hby at_41) rfl rfl (l' := #[.val (.int p1), .val (.int p2), .val (.ref b1), .unset, .unset, .unset, .unset, .unset, .unset, .unset]) rfl ?_
    show Steps p.tables e below (T13.setTop (mkF m 42 #[.val (.int p1), .val (.int p2), .val (.ref b1), .unset, .unset, .unset, .unset, .unset, .unset, .unset] [])) _
    refine XS.bipush X13.here hx rfl (hb hby at_42) ?_
    show Steps p.tables e below (T13.setTop (mkF m 44 #[.val (.int p1), .val (.int p2), .val (.ref b1), .unset, .unset, .unset, .unset, .unset, .unset, .unset] [(.int (6 : Int32))])) _
    refine st14 _ ?_
    show Steps p.tables e below (T14.setTop (mkF m 47 #[.val (.int p1), .val (.int p2), .val (.ref b1), .unset, .unset, .unset, .unset, .unset, .unset, .unset] [(.ref b14)])) _
    refine XS.dup X14.here hx rfl (hb hby at_47) rfl rfl ?_
    show Steps p.tables e below (T14.setTop (mkF m 48 #[.val (.int p1), .val (.int p2), .val (.ref b1), .unset, .unset, .unset, .unset, .unset, .unset, .unset] [(.ref b14), (.ref b14)])) _
    refine XS.iconst X14.here hx rfl (hb hby at_48) ?_
    show Steps p.tables e below (T14.setTop (mkF m 49 #[.val (.int p1), .val (.int p2), .val (.ref b1), .unset, .unset, .unset, .unset, .unset, .unset, .unset] [(.int (0 : Int32)), (.ref b14), (.ref b14)])) _
    refine st15 _ ?_
    show Steps p.tables e below (T15.setTop (mkF m 52 #[.val (.int p1), .val (.int p2), .val (.ref b1), .unset, .unset, .unset, .unset, .unset, .unset, .unset] [(.ref w_NONE), (.int (0 : Int32)), (.ref b14), (.ref b14)])) _
    refine st16 _ ?_
    show Steps p.tables e below (T16.setTop (mkF m 53 #[.val (.int p1), .val (.int p2), .val (.ref b1), .unset, .unset, .unset, .unset, .unset, .unset, .unset] [(.ref b14)])) _
    refine XS.dup X16.here hx rfl (hb hby at_53) rfl rfl ?_
    show Steps p.tables e below (T16.setTop (mkF m 54 #[.val (.int p1), .val (.int p2), .val (.ref b1), .unset, .unset, .unset, .unset, .unset, .unset, .unset] [(.ref b14), (.ref b14)])) _
    refine XS.iconst X16.here hx rfl (hb hby at_54) ?_
    show Steps p.tables e below (T16.setTop (mkF m 55 #[.val (.int p1), .val (.int p2), .val (.ref b1), .unset, .unset, .unset, .unset, .unset, .unset, .unset] [(.int (1 : Int32)), (.ref b14), (.ref b14)])) _
    refine st17 _ ?_
    show Steps p.tables e below (T17.setTop (mkF m 58 #[.val (.int p1), .val (.int p2), .val (.ref b1), .unset, .unset, .unset, .unset, .unset, .unset, .unset] [(.ref w_LAX), (.int (1 : Int32)), (.ref b14), (.ref b14)])) _
    refine st18 _ ?_
    show Steps p.tables e below (T18.setTop (mkF m 59 #[.val (.int p1), .val (.int p2), .val (.ref b1), .unset, .unset, .unset, .unset, .unset, .unset, .unset] [(.ref b14)])) _
    refine XS.dup X18.here hx rfl (hb hby at_59) rfl rfl ?_
    show Steps p.tables e below (T18.setTop (mkF m 60 #[.val (.int p1), .val (.int p2), .val (.ref b1), .unset, .unset, .unset, .unset, .unset, .unset, .unset] [(.ref b14), (.ref b14)])) _
    refine XS.iconst X18.here hx rfl (hb hby at_60) ?_
    show Steps p.tables e below (T18.setTop (mkF m 61 #[.val (.int p1), .val (.int p2), .val (.ref b1), .unset, .unset, .unset, .unset, .unset, .unset, .unset] [(.int (2 : Int32)), (.ref b14), (.ref b14)])) _
    refine st19 _ ?_
    show Steps p.tables e below (T19.setTop (mkF m 64 #[.val (.int p1), .val (.int p2), .val (.ref b1), .unset, .unset, .unset, .unset, .unset, .unset, .unset] [(.ref w_CHECK), (.int (2 : Int32)), (.ref b14), (.ref b14)])) _
    refine st20 _ ?_
    show Steps p.tables e below (T20.setTop (mkF m 65 #[.val (.int p1), .val (.int p2), .val (.ref b1), .unset, .unset, .unset, .unset, .unset, .unset, .unset] [(.ref b14)])) _
    refine XS.dup X20.here hx rfl (hb hby at_65) rfl rfl ?_
    show Steps p.tables e below (T20.setTop (mkF m 66 #[.val (.int p1), .val (.int p2), .val (.ref b1), .unset, .unset, .unset, .unset, .unset, .unset, .unset] [(.ref b14), (.ref b14)])) _
    refine XS.iconst X20.here hx rfl (hb hby at_66) ?_
    show Steps p.tables e below (T20.setTop (mkF m 67 #[.val (.int p1), .val (.int p2), .val (.ref b1), .unset, .unset, .unset, .unset, .unset, .unset, .unset] [(.int (3 : Int32)), (.ref b14), (.ref b14)])) _
    refine st21 _ ?_
    show Steps p.tables e below (T21.setTop (mkF m 70 #[.val (.int p1), .val (.int p2), .val (.ref b1), .unset, .unset, .unset, .unset, .unset, .unset, .unset] [(.ref w_SET_NULL), (.int (3 : Int32)), (.ref b14), (.ref b14)])) _
    refine st22 _ ?_
    show Steps p.tables e below (T22.setTop (mkF m 71 #[.val (.int p1), .val (.int p2), .val (.ref b1), .unset, .unset, .unset, .unset, .unset, .unset, .unset] [(.ref b14)])) _
    refine XS.dup X22.here hx rfl (hb hby at_71) rfl rfl ?_
    show Steps p.tables e below (T22.setTop (mkF m 72 #[.val (.int p1), .val (.int p2), .val (.ref b1), .unset, .unset, .unset, .unset, .unset, .unset, .unset] [(.ref b14), (.ref b14)])) _
    refine XS.iconst X22.here hx rfl (hb hby at_72) ?_
    show Steps p.tables e below (T22.setTop (mkF m 73 #[.val (.int p1), .val (.int p2), .val (.ref b1), .unset, .unset, .unset, .unset, .unset, .unset, .unset] [(.int (4 : Int32)), (.ref b14), (.ref b14)])) _
    refine st23 _ ?_
    show Steps p.tables e below (T23.setTop (mkF m 76 #[.val (.int p1), .val (.int p2), .val (.ref b1), .unset, .unset, .unset, .unset, .unset, .unset, .unset] [(.ref w_DELETE), (.int (4 : Int32)), (.ref b14), (.ref b14)])) _
    refine st24 _ ?_
    show Steps p.tables e below (T24.setTop (mkF m 77 #[.val (.int p1), .val (.int p2), .val (.ref b1), .unset, .unset, .unset, .unset, .unset, .unset, .unset] [(.ref b14)])) _
    refine XS.dup X24.here hx rfl (hb hby at_77) rfl rfl ?_
    show Steps p.tables e below (T24.setTop (mkF m 78 #[.val (.int p1), .val (.int p2), .val (.ref b1), .unset, .unset, .unset, .unset, .unset, .unset, .unset] [(.ref b14), (.ref b14)])) _
    refine XS.iconst X24.here hx rfl (hb hby at_78) ?_
    show Steps p.tables e below (T24.setTop (mkF m 79 #[.val (.int p1), .val (.int p2), .val (.ref b1), .unset, .unset, .unset, .unset, .unset, .unset, .unset] [(.int (5 : Int32)), (.ref b14), (.ref b14)])) _
    refine XS.aconstNull X24.here hx rfl (hb hby at_79) ?_
    show Steps p.tables e below (T24.setTop (mkF m 80 #[.val (.int p1), .val (.int p2), .val (.ref b1), .unset, .unset, .unset, .unset, .unset, .unset, .unset] [.null, (.int (5 : Int32)), (.ref b14), (.ref b14)])) _
    refine st25 _ ?_
    show Steps p.tables e below (T25.setTop (mkF m 81 #[.val (.int p1), .val (.int p2), .val (.ref b1), .unset, .unset, .unset, .unset, .unset, .unset, .unset] [(.ref b14)])) _
    refine XS.astoreN X25.here hx rfl (hb hby at_81) rfl rfl (l' := #[.val (.int p1), .val (.int p2), .val (.ref b1), .val (.ref b14), .unset, .unset, .unset, .unset, .unset, .unset]) rfl ?_
    show Steps p.tables e below (T25.setTop (mkF m 82 #[.val (.int p1), .val (.int p2), .val (.ref b1), .val (.ref b14), .unset, .unset, .unset, .unset, .unset, .unset] [])) _
    refine XS.iloadN X25.here hx rfl (hb hby at_82) rfl ?_
    show Steps p.tables e below (T25.setTop (mkF m 83 #[.val (.int p1), .val (.int p2), .val (.ref b1), .val (.ref b14), .unset, .unset, .unset, .unset, .unset, .unset] [(.int p1)])) _
    refine X25.ldcInt hx hown (mvT hZ (hw _ (ow 30 rfl))) (g := (mkF m 83 #[.val (.int p1), .val (.int p2), .val (.ref b1), .val (.ref b14), .unset, .unset, .unset, .unset, .unset, .unset] [(.int p1)])) rfl (hb hby at_83) _ ?_
    show Steps p.tables e below (T25.setTop (mkF m 85 #[.val (.int p1), .val (.int p2), .val (.ref b1), .val (.ref b14), .unset, .unset, .unset, .unset, .unset, .unset] [(.int (2147483647 : Int32)), (.int p1)])) _
    refine XS.iand X25.here hx rfl (hb hby at_85) rfl ?_
    show Steps p.tables e below (T25.setTop (mkF m 86 #[.val (.int p1), .val (.int p2), .val (.ref b1), .val (.ref b14), .unset, .unset, .unset, .unset, .unset, .unset] [(.int (p1 &&& (2147483647 : Int32)))])) _
    refine XS.bipush X25.here hx rfl (hb hby at_86) ?_
    show Steps p.tables e below (T25.setTop (mkF m 88 #[.val (.int p1), .val (.int p2), .val (.ref b1), .val (.ref b14), .unset, .unset, .unset, .unset, .unset, .unset] [(.int (6 : Int32)), (.int (p1 &&& (2147483647 : Int32)))])) _
    refine iremM X25 hx rfl (hb hby at_88) rfl (by decide) ?_
    show Steps p.tables e below (T25.setTop (mkF m 89 #[.val (.int p1), .val (.int p2), .val (.ref b1), .val (.ref b14), .unset, .unset, .unset, .unset, .unset, .unset] [(.int ((p1 &&& (2147483647 : Int32)) % (6 : Int32)))])) _
    rw [hi]
    show Steps p.tables e below (T25.setTop (mkF m 89 #[.val (.int p1), .val (.int p2), .val (.ref b1), .val (.ref b14), .unset, .unset, .unset, .unset, .unset, .unset] [(.int ii)])) _
    refine XS.istore X25.here hx rfl (hb hby at_89) rfl (l' := #[.val (.int p1), .val (.int p2), .val (.ref b1), .val (.ref b14), .val (.int ii), .unset, .unset, .unset, .unset, .unset]) rfl ?_
    show Steps p.tables e below (T25.setTop (mkF m 91 #[.val (.int p1), .val (.int p2), .val (.ref b1), .val (.ref b14), .val (.int ii), .unset, .unset, .unset, .unset, .unset] [])) _
    refine XS.iloadN X25.here hx rfl (hb hby at_91) rfl ?_
    show Steps p.tables e below (T25.setTop (mkF m 92 #[.val (.int p1), .val (.int p2), .val (.ref b1), .val (.ref b14), .val (.int ii), .unset, .unset, .unset, .unset, .unset] [(.int p2)])) _
    refine X25.ldcInt hx hown (mvT hZ (hw _ (ow 30 rfl))) (g := (mkF m 92 #[.val (.int p1), .val (.int p2), .val (.ref b1), .val (.ref b14), .val (.int ii), .unset, .unset, .unset, .unset, .unset] [(.int p2)])) rfl (hb hby at_92) _ ?_
    show Steps p.tables e below (T25.setTop (mkF m 94 #[.val (.int p1), .val (.int p2), .val (.ref b1), .val (.ref b14), .val (.int ii), .unset, .unset, .unset, .unset, .unset] [(.int (2147483647 : Int32)), (.int p2)])) _
    refine XS.iand X25.here hx rfl (hb hby at_94) rfl ?_
    show Steps p.tables e below (T25.setTop (mkF m 95 #[.val (.int p1), .val (.int p2), .val (.ref b1), .val (.ref b14), .val (.int ii), .unset, .unset, .unset, .unset, .unset] [(.int (p2 &&& (2147483647 : Int32)))])) _
    refine XS.bipush X25.here hx rfl (hb hby at_95) ?_
    show Steps p.tables e below (T25.setTop (mkF m 97 #[.val (.int p1), .val (.int p2), .val (.ref b1), .val (.ref b14), .val (.int ii), .unset, .unset, .unset, .unset, .unset] [(.int (6 : Int32)), (.int (p2 &&& (2147483647 : Int32)))])) _
    refine iremM X25 hx rfl (hb hby at_97) rfl (by decide) ?_
    show Steps p.tables e below (T25.setTop (mkF m 98 #[.val (.int p1), .val (.int p2), .val (.ref b1), .val (.ref b14), .val (.int ii), .unset, .unset, .unset, .unset, .unset] [(.int ((p2 &&& (2147483647 : Int32)) % (6 : Int32)))])) _
    rw [hj]
    show Steps p.tables e below (T25.setTop (mkF m 98 #[.val (.int p1), .val (.int p2), .val (.ref b1), .val (.ref b14), .val (.int ii), .unset, .unset, .unset, .unset, .unset] [(.int jj)])) _
    refine XS.istore X25.here hx rfl (hb hby at_98) rfl (l' := #[.val (.int p1), .val (.int p2), .val (.ref b1), .val (.ref b14), .val (.int ii), .val (.int jj), .unset, .unset, .unset, .unset]) rfl ?_
    show Steps p.tables e below (T25.setTop (mkF m 100 #[.val (.int p1), .val (.int p2), .val (.ref b1), .val (.ref b14), .val (.int ii), .val (.int jj), .unset, .unset, .unset, .unset] [])) _
    refine XS.aloadN X25.here hx rfl (hb hby at_100) rfl rfl ?_
    show Steps p.tables e below (T25.setTop (mkF m 101 #[.val (.int p1), .val (.int p2), .val (.ref b1), .val (.ref b14), .val (.int ii), .val (.int jj), .unset, .unset, .unset, .unset] [(.ref b1)])) _
    refine XS.iload X25.here hx rfl (hb hby at_101) rfl ?_
    show Steps p.tables e below (T25.setTop (mkF m 103 #[.val (.int p1), .val (.int p2), .val (.ref b1), .val (.ref b14), .val (.int ii), .val (.int jj), .unset, .unset, .unset, .unset] [(.int ii), (.ref b1)])) _
    refine X25.aaload hx (j := ii) (v := (.ref w_VIOLENTLY_REPLACE)) (by rw [e25]; exact Ar26.1) (State.isArrayOf_alike hZ.alike Ar26.2.1) rfl Ar26.2.2 gt26.1 gt26.2 (g := (mkF m 103 #[.val (.int p1), .val (.int p2), .val (.ref b1), .val (.ref b14), .val (.int ii), .val (.int jj), .unset, .unset, .unset, .unset] [(.int ii), (.ref b1)])) rfl rfl (hb hby at_103) _ ?_
    show Steps p.tables e below (T25.setTop (mkF m 104 #[.val (.int p1), .val (.int p2), .val (.ref b1), .val (.ref b14), .val (.int ii), .val (.int jj), .unset, .unset, .unset, .unset] [(.ref w_VIOLENTLY_REPLACE)])) _
    refine XS.astore X25.here hx rfl (hb hby at_104) rfl rfl (l' := #[.val (.int p1), .val (.int p2), .val (.ref b1), .val (.ref b14), .val (.int ii), .val (.int jj), .val (.ref w_VIOLENTLY_REPLACE), .unset, .unset, .unset]) rfl ?_
    show Steps p.tables e below (T25.setTop (mkF m 106 #[.val (.int p1), .val (.int p2), .val (.ref b1), .val (.ref b14), .val (.int ii), .val (.int jj), .val (.ref w_VIOLENTLY_REPLACE), .unset, .unset, .unset] [])) _
    refine XS.aloadN X25.here hx rfl (hb hby at_106) rfl rfl ?_
    show Steps p.tables e below (T25.setTop (mkF m 107 #[.val (.int p1), .val (.int p2), .val (.ref b1), .val (.ref b14), .val (.int ii), .val (.int jj), .val (.ref w_VIOLENTLY_REPLACE), .unset, .unset, .unset] [(.ref b14)])) _
    refine XS.iload X25.here hx rfl (hb hby at_107) rfl ?_
    show Steps p.tables e below (T25.setTop (mkF m 109 #[.val (.int p1), .val (.int p2), .val (.ref b1), .val (.ref b14), .val (.int ii), .val (.int jj), .val (.ref w_VIOLENTLY_REPLACE), .unset, .unset, .unset] [(.int jj), (.ref b14)])) _
    refine X25.aaload hx (j := jj) (v := .null) (by rw [e25]; exact Ar27.1) (State.isArrayOf_alike hZ.alike Ar27.2.1) rfl Ar27.2.2 gt27.1 gt27.2 (g := (mkF m 109 #[.val (.int p1), .val (.int p2), .val (.ref b1), .val (.ref b14), .val (.int ii), .val (.int jj), .val (.ref w_VIOLENTLY_REPLACE), .unset, .unset, .unset] [(.int jj), (.ref b14)])) rfl rfl (hb hby at_109) _ ?_
    show Steps p.tables e below (T25.setTop (mkF m 110 #[.val (.int p1), .val (.int p2), .val (.ref b1), .val (.ref b14), .val (.int ii), .val (.int jj), .val (.ref w_VIOLENTLY_REPLACE), .unset, .unset, .unset] [.null])) _
    refine XS.astore X25.here hx rfl (hb hby at_110) rfl rfl (l' := #[.val (.int p1), .val (.int p2), .val (.ref b1), .val (.ref b14), .val (.int ii), .val (.int jj), .val (.ref w_VIOLENTLY_REPLACE), .val .null, .unset, .unset]) rfl ?_
    show Steps p.tables e below (T25.setTop (mkF m 112 #[.val (.int p1), .val (.int p2), .val (.ref b1), .val (.ref b14), .val (.int ii), .val (.int jj), .val (.ref w_VIOLENTLY_REPLACE), .val .null, .unset, .unset] [])) _
    refine XS.aload X25.here hx rfl (hb hby at_112) rfl rfl ?_
    show Steps p.tables e below (T25.setTop (mkF m 114 #[.val (.int p1), .val (.int p2), .val (.ref b1), .val (.ref b14), .val (.int ii), .val (.int jj), .val (.ref w_VIOLENTLY_REPLACE), .val .null, .unset, .unset] [(.ref w_VIOLENTLY_REPLACE)])) _
    refine XS.aload X25.here hx rfl (hb hby at_114) rfl rfl ?_
    show Steps p.tables e below (T25.setTop (mkF m 116 #[.val (.int p1), .val (.int p2), .val (.ref b1), .val (.ref b14), .val (.int ii), .val (.int jj), .val (.ref w_VIOLENTLY_REPLACE), .val .null, .unset, .unset] [.null, (.ref w_VIOLENTLY_REPLACE)])) _
    refine st28.trans ?_
    show Steps p.tables e below (T28.setTop (mkF m 119 #[.val (.int p1), .val (.int p2), .val (.ref b1), .val (.ref b14), .val (.int ii), .val (.int jj), .val (.ref w_VIOLENTLY_REPLACE), .val .null, .unset, .unset] [(.ref w_DELETE)])) _
    refine XS.astore X28.here hx rfl (hb hby at_119) rfl rfl (l' := #[.val (.int p1), .val (.int p2), .val (.ref b1), .val (.ref b14), .val (.int ii), .val (.int jj), .val (.ref w_VIOLENTLY_REPLACE), .val .null, .val (.ref w_DELETE), .unset]) rfl ?_
    show Steps p.tables e below (T28.setTop (mkF m 121 #[.val (.int p1), .val (.int p2), .val (.ref b1), .val (.ref b14), .val (.int ii), .val (.int jj), .val (.ref w_VIOLENTLY_REPLACE), .val .null, .val (.ref w_DELETE), .unset] [])) _
    refine XS.aload X28.here hx rfl (hb hby at_121) rfl rfl ?_
    show Steps p.tables e below (T28.setTop (mkF m 123 #[.val (.int p1), .val (.int p2), .val (.ref b1), .val (.ref b14), .val (.int ii), .val (.int jj), .val (.ref w_VIOLENTLY_REPLACE), .val .null, .val (.ref w_DELETE), .unset] [(.ref w_VIOLENTLY_REPLACE)])) _
    refine st29 _ ?_
    show Steps p.tables e below (T29.setTop (mkF m 126 #[.val (.int p1), .val (.int p2), .val (.ref b1), .val (.ref b14), .val (.int ii), .val (.int jj), .val (.ref w_VIOLENTLY_REPLACE), .val .null, .val (.ref w_DELETE), .unset] [(.ref w_VIOLENTLY_REPLACE), (.ref w_VIOLENTLY_REPLACE)])) _
    refine Jvm.RoadKit.acmp (g := (mkF m 126 #[.val (.int p1), .val (.int p2), .val (.ref b1), .val (.ref b14), .val (.int ii), .val (.int jj), .val (.ref w_VIOLENTLY_REPLACE), .val .null, .val (.ref w_DELETE), .unset] [(.ref w_VIOLENTLY_REPLACE), (.ref w_VIOLENTLY_REPLACE)])) X29 hx rfl rfl rfl (pc0 := 126) (pc' := 129) (same := true) rfl (hb hby at_126) rfl (decide_eq_true rfl) (by decide) (by decide) ?_
    show Steps p.tables e below (T29.setTop (mkF m 129 #[.val (.int p1), .val (.int p2), .val (.ref b1), .val (.ref b14), .val (.int ii), .val (.int jj), .val (.ref w_VIOLENTLY_REPLACE), .val .null, .val (.ref w_DELETE), .unset] [])) _
    refine st30 _ ?_
    show Steps p.tables e below (T30.setTop (mkF m 132 #[.val (.int p1), .val (.int p2), .val (.ref b1), .val (.ref b14), .val (.int ii), .val (.int jj), .val (.ref w_VIOLENTLY_REPLACE), .val .null, .val (.ref w_DELETE), .unset] [(.ref w_DELETE)])) _
    refine XS.astore X30.here hx rfl (hb hby at_132) rfl rfl (l' := #[.val (.int p1), .val (.int p2), .val (.ref b1), .val (.ref b14), .val (.int ii), .val (.int jj), .val (.ref w_VIOLENTLY_REPLACE), .val .null, .val (.ref w_DELETE), .val (.ref w_DELETE)]) rfl ?_
    show Steps p.tables e below (T30.setTop (mkF m 134 #[.val (.int p1), .val (.int p2), .val (.ref b1), .val (.ref b14), .val (.int ii), .val (.int jj), .val (.ref w_VIOLENTLY_REPLACE), .val .null, .val (.ref w_DELETE), .val (.ref w_DELETE)] [])) _
    refine XS.goto X30.here hx rfl (pc0 := 134) (pc' := 141) rfl (hb hby at_134) (by decide) (by decide) ?_
    show Steps p.tables e below (T30.setTop (mkF m 141 #[.val (.int p1), .val (.int p2), .val (.ref b1), .val (.ref b14), .val (.int ii), .val (.int jj), .val (.ref w_VIOLENTLY_REPLACE), .val .null, .val (.ref w_DELETE), .val (.ref w_DELETE)] [])) _
    refine XS.aload X30.here hx rfl (hb hby at_141) rfl rfl ?_
    show Steps p.tables e below (T30.setTop (mkF m 143 #[.val (.int p1), .val (.int p2), .val (.ref b1), .val (.ref b14), .val (.int ii), .val (.int jj), .val (.ref w_VIOLENTLY_REPLACE), .val .null, .val (.ref w_DELETE), .val (.ref w_DELETE)] [(.ref w_DELETE)])) _
    refine XS.aload X30.here hx rfl (hb hby at_143) rfl rfl ?_
    show Steps p.tables e below (T30.setTop (mkF m 145 #[.val (.int p1), .val (.int p2), .val (.ref b1), .val (.ref b14), .val (.int ii), .val (.int jj), .val (.ref w_VIOLENTLY_REPLACE), .val .null, .val (.ref w_DELETE), .val (.ref w_DELETE)] [(.ref w_DELETE), (.ref w_DELETE)])) _
    refine Jvm.RoadKit.acmp (g := (mkF m 145 #[.val (.int p1), .val (.int p2), .val (.ref b1), .val (.ref b14), .val (.int ii), .val (.int jj), .val (.ref w_VIOLENTLY_REPLACE), .val .null, .val (.ref w_DELETE), .val (.ref w_DELETE)] [(.ref w_DELETE), (.ref w_DELETE)])) X30 hx rfl rfl rfl (pc0 := 145) (pc' := 148) (same := true) rfl (hb hby at_145) rfl (decide_eq_true rfl) (by decide) (by decide) ?_
    show Steps p.tables e below (T30.setTop (mkF m 148 #[.val (.int p1), .val (.int p2), .val (.ref b1), .val (.ref b14), .val (.int ii), .val (.int jj), .val (.ref w_VIOLENTLY_REPLACE), .val .null, .val (.ref w_DELETE), .val (.ref w_DELETE)] [])) _
    refine XS.iconst X30.here hx rfl (hb hby at_148) ?_
    show Steps p.tables e below (T30.setTop (mkF m 149 #[.val (.int p1), .val (.int p2), .val (.ref b1), .val (.ref b14), .val (.int ii), .val (.int jj), .val (.ref w_VIOLENTLY_REPLACE), .val .null, .val (.ref w_DELETE), .val (.ref w_DELETE)] [(.int (1 : Int32))])) _
    refine XS.goto X30.here hx rfl (pc0 := 149) (pc' := 153) rfl (hb hby at_149) (by decide) (by decide) ?_
    exact k)
  obtain ⟨fs, hr, hrun, hended, hW, hsame⟩ := X30.leave (v := some (.int (1 : Int32))) (fun h => by rw [Bd.returns] at h; cases h)
  refine ⟨_, _, pre31 _ ?_, hrun, hended, _, _, rfl, ?_, ⟨_, rfl⟩, hW, hsame.mono (by decide) (by decide)⟩
  · show Steps p.tables e below (T30.setTop (mkF m 153 #[.val (.int p1), .val (.int p2), .val (.ref b1), .val (.ref b14), .val (.int ii), .val (.int jj), .val (.ref w_VIOLENTLY_REPLACE), .val .null, .val (.ref w_DELETE), .val (.ref w_DELETE)] [(.int (1 : Int32))])) _
    exact retN X30 hx (t := .boolean) Bd.returns (by simp) (hb hby at_153) hr
  · exact ⟨rfl, N28, trivial⟩
theorem own_cases (y : Int32) (h0 : 0 ≤ y.toInt) (h1 : y.toInt < 6) : y = (0 : Int32) ∨ y = (1 : Int32) ∨ y = (2 : Int32) ∨ y = (3 : Int32) ∨ y = (4 : Int32) ∨ y = (5 : Int32) := by
  have q : y.toInt = 0 ∨ y.toInt = 1 ∨ y.toInt = 2 ∨ y.toInt = 3 ∨ y.toInt = 4 ∨ y.toInt = 5 := by omega
  rcases q with q | q | q | q | q | q
  · exact Or.inl (Int32.toInt_inj.mp q)
  · exact Or.inr (Or.inl (Int32.toInt_inj.mp q))
  · exact Or.inr (Or.inr (Or.inl (Int32.toInt_inj.mp q)))
  · exact Or.inr (Or.inr (Or.inr (Or.inl (Int32.toInt_inj.mp q))))
  · exact Or.inr (Or.inr (Or.inr (Or.inr (Or.inl (Int32.toInt_inj.mp q)))))
  · exact Or.inr (Or.inr (Or.inr (Or.inr (Or.inr (Int32.toInt_inj.mp q)))))
theorem rm_law (l : Launch) (Z : State) (a0 : Array Value) (hw : ∀ d ∈ tables_1, d.before a0 Z = true) (ws : List Jvm.Cond) (p1 : Int32) (p2 : Int32) (h0 : Heap) (n0 : Nat) (Z0 : n0 ≤ h0.size) (w_REPLACE w_MERGE w_APPEND w_APPEND_IF_ABSENT w_UPDATE w_VIOLENTLY_REPLACE w_NONE w_LAX w_CHECK w_SET_NULL w_DELETE : Addr) (hK : own_K Z h0 w_REPLACE w_MERGE w_APPEND w_APPEND_IF_ABSENT w_UPDATE w_VIOLENTLY_REPLACE w_NONE w_LAX w_CHECK w_SET_NULL w_DELETE) :
    MetFree l x (head1 (Jvm.Cond.code x code maxLocals ret :: ws) room_1) (fun a U => a = #[(.int p1), (.int p2)] ∧ Z.Warmed39 U.vm ∧ U.heap = h0) (fun _ _ _ _ _ => True) (fun _ U o U' => ∃ v L, o = .returned v ∧ own_QH (some (.int (1 : Int32))) n0 v U'.heap L ∧ FrameEnd U o U' L room_1.cells room_1.slots) := by
  have hK' := hK
  obtain ⟨S_w_REPLACE, E_w_REPLACE, S_w_MERGE, E_w_MERGE, S_w_APPEND, E_w_APPEND, S_w_APPEND_IF_ABSENT, E_w_APPEND_IF_ABSENT, S_w_UPDATE, E_w_UPDATE, S_w_VIOLENTLY_REPLACE, E_w_VIOLENTLY_REPLACE, S_w_NONE, E_w_NONE, S_w_LAX, E_w_LAX, S_w_CHECK, E_w_CHECK, S_w_SET_NULL, E_w_SET_NULL, S_w_DELETE, E_w_DELETE, F_deletesLeftOut_w_REPLACE, F_ordinal_w_REPLACE, F_ordinal_w_VIOLENTLY_REPLACE, F_deletesLeftOut_w_APPEND, F_ordinal_w_APPEND, F_deletesLeftOut_w_UPDATE, F_ordinal_w_UPDATE, F_deletesLeftOut_w_MERGE, F_ordinal_w_MERGE, F_deletesLeftOut_w_VIOLENTLY_REPLACE, F_deletesLeftOut_w_APPEND_IF_ABSENT, F_ordinal_w_APPEND_IF_ABSENT⟩ := hK'
  have q0 := c_mask p1 2147483647 31 (by decide) (by decide)
  have q := (c_irem (p1 &&& 2147483647) 6 6 (by decide)).1 (by omega)
  have r0 := c_mask p2 2147483647 31 (by decide) (by decide)
  have r := (c_irem (p2 &&& 2147483647) 6 6 (by decide)).1 (by omega)
  rcases own_cases ((p1 &&& (2147483647 : Int32)) % (6 : Int32)) (by omega) (by omega) with hi | hi | hi | hi | hi | hi <;> rcases own_cases ((p2 &&& (2147483647 : Int32)) % (6 : Int32)) (by omega) (by omega) with hj | hj | hj | hj | hj | hj
  · exact rm_law_0_0 l Z a0 hw ws p1 p2 h0 n0 Z0 w_REPLACE w_MERGE w_APPEND w_APPEND_IF_ABSENT w_UPDATE w_VIOLENTLY_REPLACE w_NONE w_LAX w_CHECK w_SET_NULL w_DELETE hK 0 0 w_REPLACE w_NONE hi hj (by decide) (by decide) rfl rfl E_w_REPLACE F_deletesLeftOut_w_REPLACE (Fld.ne F_ordinal_w_REPLACE F_ordinal_w_VIOLENTLY_REPLACE (by decide))
  · exact rm_law_0_0 l Z a0 hw ws p1 p2 h0 n0 Z0 w_REPLACE w_MERGE w_APPEND w_APPEND_IF_ABSENT w_UPDATE w_VIOLENTLY_REPLACE w_NONE w_LAX w_CHECK w_SET_NULL w_DELETE hK 0 1 w_REPLACE w_LAX hi hj (by decide) (by decide) rfl rfl E_w_REPLACE F_deletesLeftOut_w_REPLACE (Fld.ne F_ordinal_w_REPLACE F_ordinal_w_VIOLENTLY_REPLACE (by decide))
  · exact rm_law_0_0 l Z a0 hw ws p1 p2 h0 n0 Z0 w_REPLACE w_MERGE w_APPEND w_APPEND_IF_ABSENT w_UPDATE w_VIOLENTLY_REPLACE w_NONE w_LAX w_CHECK w_SET_NULL w_DELETE hK 0 2 w_REPLACE w_CHECK hi hj (by decide) (by decide) rfl rfl E_w_REPLACE F_deletesLeftOut_w_REPLACE (Fld.ne F_ordinal_w_REPLACE F_ordinal_w_VIOLENTLY_REPLACE (by decide))
  · exact rm_law_0_0 l Z a0 hw ws p1 p2 h0 n0 Z0 w_REPLACE w_MERGE w_APPEND w_APPEND_IF_ABSENT w_UPDATE w_VIOLENTLY_REPLACE w_NONE w_LAX w_CHECK w_SET_NULL w_DELETE hK 0 3 w_REPLACE w_SET_NULL hi hj (by decide) (by decide) rfl rfl E_w_REPLACE F_deletesLeftOut_w_REPLACE (Fld.ne F_ordinal_w_REPLACE F_ordinal_w_VIOLENTLY_REPLACE (by decide))
  · exact rm_law_0_0 l Z a0 hw ws p1 p2 h0 n0 Z0 w_REPLACE w_MERGE w_APPEND w_APPEND_IF_ABSENT w_UPDATE w_VIOLENTLY_REPLACE w_NONE w_LAX w_CHECK w_SET_NULL w_DELETE hK 0 4 w_REPLACE w_DELETE hi hj (by decide) (by decide) rfl rfl E_w_REPLACE F_deletesLeftOut_w_REPLACE (Fld.ne F_ordinal_w_REPLACE F_ordinal_w_VIOLENTLY_REPLACE (by decide))
  · exact rm_law_0_1 l Z a0 hw ws p1 p2 h0 n0 Z0 w_REPLACE w_MERGE w_APPEND w_APPEND_IF_ABSENT w_UPDATE w_VIOLENTLY_REPLACE w_NONE w_LAX w_CHECK w_SET_NULL w_DELETE hK 0 5 w_REPLACE hi hj (by decide) (by decide) rfl rfl E_w_REPLACE F_deletesLeftOut_w_REPLACE (Fld.ne F_ordinal_w_REPLACE F_ordinal_w_VIOLENTLY_REPLACE (by decide))
  · exact rm_law_0_0 l Z a0 hw ws p1 p2 h0 n0 Z0 w_REPLACE w_MERGE w_APPEND w_APPEND_IF_ABSENT w_UPDATE w_VIOLENTLY_REPLACE w_NONE w_LAX w_CHECK w_SET_NULL w_DELETE hK 1 0 w_MERGE w_NONE hi hj (by decide) (by decide) rfl rfl E_w_MERGE F_deletesLeftOut_w_MERGE (Fld.ne F_ordinal_w_MERGE F_ordinal_w_VIOLENTLY_REPLACE (by decide))
  · exact rm_law_0_0 l Z a0 hw ws p1 p2 h0 n0 Z0 w_REPLACE w_MERGE w_APPEND w_APPEND_IF_ABSENT w_UPDATE w_VIOLENTLY_REPLACE w_NONE w_LAX w_CHECK w_SET_NULL w_DELETE hK 1 1 w_MERGE w_LAX hi hj (by decide) (by decide) rfl rfl E_w_MERGE F_deletesLeftOut_w_MERGE (Fld.ne F_ordinal_w_MERGE F_ordinal_w_VIOLENTLY_REPLACE (by decide))
  · exact rm_law_0_0 l Z a0 hw ws p1 p2 h0 n0 Z0 w_REPLACE w_MERGE w_APPEND w_APPEND_IF_ABSENT w_UPDATE w_VIOLENTLY_REPLACE w_NONE w_LAX w_CHECK w_SET_NULL w_DELETE hK 1 2 w_MERGE w_CHECK hi hj (by decide) (by decide) rfl rfl E_w_MERGE F_deletesLeftOut_w_MERGE (Fld.ne F_ordinal_w_MERGE F_ordinal_w_VIOLENTLY_REPLACE (by decide))
  · exact rm_law_0_0 l Z a0 hw ws p1 p2 h0 n0 Z0 w_REPLACE w_MERGE w_APPEND w_APPEND_IF_ABSENT w_UPDATE w_VIOLENTLY_REPLACE w_NONE w_LAX w_CHECK w_SET_NULL w_DELETE hK 1 3 w_MERGE w_SET_NULL hi hj (by decide) (by decide) rfl rfl E_w_MERGE F_deletesLeftOut_w_MERGE (Fld.ne F_ordinal_w_MERGE F_ordinal_w_VIOLENTLY_REPLACE (by decide))
  · exact rm_law_0_0 l Z a0 hw ws p1 p2 h0 n0 Z0 w_REPLACE w_MERGE w_APPEND w_APPEND_IF_ABSENT w_UPDATE w_VIOLENTLY_REPLACE w_NONE w_LAX w_CHECK w_SET_NULL w_DELETE hK 1 4 w_MERGE w_DELETE hi hj (by decide) (by decide) rfl rfl E_w_MERGE F_deletesLeftOut_w_MERGE (Fld.ne F_ordinal_w_MERGE F_ordinal_w_VIOLENTLY_REPLACE (by decide))
  · exact rm_law_0_1 l Z a0 hw ws p1 p2 h0 n0 Z0 w_REPLACE w_MERGE w_APPEND w_APPEND_IF_ABSENT w_UPDATE w_VIOLENTLY_REPLACE w_NONE w_LAX w_CHECK w_SET_NULL w_DELETE hK 1 5 w_MERGE hi hj (by decide) (by decide) rfl rfl E_w_MERGE F_deletesLeftOut_w_MERGE (Fld.ne F_ordinal_w_MERGE F_ordinal_w_VIOLENTLY_REPLACE (by decide))
  · exact rm_law_0_0 l Z a0 hw ws p1 p2 h0 n0 Z0 w_REPLACE w_MERGE w_APPEND w_APPEND_IF_ABSENT w_UPDATE w_VIOLENTLY_REPLACE w_NONE w_LAX w_CHECK w_SET_NULL w_DELETE hK 2 0 w_APPEND w_NONE hi hj (by decide) (by decide) rfl rfl E_w_APPEND F_deletesLeftOut_w_APPEND (Fld.ne F_ordinal_w_APPEND F_ordinal_w_VIOLENTLY_REPLACE (by decide))
  · exact rm_law_0_0 l Z a0 hw ws p1 p2 h0 n0 Z0 w_REPLACE w_MERGE w_APPEND w_APPEND_IF_ABSENT w_UPDATE w_VIOLENTLY_REPLACE w_NONE w_LAX w_CHECK w_SET_NULL w_DELETE hK 2 1 w_APPEND w_LAX hi hj (by decide) (by decide) rfl rfl E_w_APPEND F_deletesLeftOut_w_APPEND (Fld.ne F_ordinal_w_APPEND F_ordinal_w_VIOLENTLY_REPLACE (by decide))
  · exact rm_law_0_0 l Z a0 hw ws p1 p2 h0 n0 Z0 w_REPLACE w_MERGE w_APPEND w_APPEND_IF_ABSENT w_UPDATE w_VIOLENTLY_REPLACE w_NONE w_LAX w_CHECK w_SET_NULL w_DELETE hK 2 2 w_APPEND w_CHECK hi hj (by decide) (by decide) rfl rfl E_w_APPEND F_deletesLeftOut_w_APPEND (Fld.ne F_ordinal_w_APPEND F_ordinal_w_VIOLENTLY_REPLACE (by decide))
  · exact rm_law_0_0 l Z a0 hw ws p1 p2 h0 n0 Z0 w_REPLACE w_MERGE w_APPEND w_APPEND_IF_ABSENT w_UPDATE w_VIOLENTLY_REPLACE w_NONE w_LAX w_CHECK w_SET_NULL w_DELETE hK 2 3 w_APPEND w_SET_NULL hi hj (by decide) (by decide) rfl rfl E_w_APPEND F_deletesLeftOut_w_APPEND (Fld.ne F_ordinal_w_APPEND F_ordinal_w_VIOLENTLY_REPLACE (by decide))
  · exact rm_law_0_0 l Z a0 hw ws p1 p2 h0 n0 Z0 w_REPLACE w_MERGE w_APPEND w_APPEND_IF_ABSENT w_UPDATE w_VIOLENTLY_REPLACE w_NONE w_LAX w_CHECK w_SET_NULL w_DELETE hK 2 4 w_APPEND w_DELETE hi hj (by decide) (by decide) rfl rfl E_w_APPEND F_deletesLeftOut_w_APPEND (Fld.ne F_ordinal_w_APPEND F_ordinal_w_VIOLENTLY_REPLACE (by decide))
  · exact rm_law_0_1 l Z a0 hw ws p1 p2 h0 n0 Z0 w_REPLACE w_MERGE w_APPEND w_APPEND_IF_ABSENT w_UPDATE w_VIOLENTLY_REPLACE w_NONE w_LAX w_CHECK w_SET_NULL w_DELETE hK 2 5 w_APPEND hi hj (by decide) (by decide) rfl rfl E_w_APPEND F_deletesLeftOut_w_APPEND (Fld.ne F_ordinal_w_APPEND F_ordinal_w_VIOLENTLY_REPLACE (by decide))
  · exact rm_law_0_0 l Z a0 hw ws p1 p2 h0 n0 Z0 w_REPLACE w_MERGE w_APPEND w_APPEND_IF_ABSENT w_UPDATE w_VIOLENTLY_REPLACE w_NONE w_LAX w_CHECK w_SET_NULL w_DELETE hK 3 0 w_APPEND_IF_ABSENT w_NONE hi hj (by decide) (by decide) rfl rfl E_w_APPEND_IF_ABSENT F_deletesLeftOut_w_APPEND_IF_ABSENT (Fld.ne F_ordinal_w_APPEND_IF_ABSENT F_ordinal_w_VIOLENTLY_REPLACE (by decide))
  · exact rm_law_0_0 l Z a0 hw ws p1 p2 h0 n0 Z0 w_REPLACE w_MERGE w_APPEND w_APPEND_IF_ABSENT w_UPDATE w_VIOLENTLY_REPLACE w_NONE w_LAX w_CHECK w_SET_NULL w_DELETE hK 3 1 w_APPEND_IF_ABSENT w_LAX hi hj (by decide) (by decide) rfl rfl E_w_APPEND_IF_ABSENT F_deletesLeftOut_w_APPEND_IF_ABSENT (Fld.ne F_ordinal_w_APPEND_IF_ABSENT F_ordinal_w_VIOLENTLY_REPLACE (by decide))
  · exact rm_law_0_0 l Z a0 hw ws p1 p2 h0 n0 Z0 w_REPLACE w_MERGE w_APPEND w_APPEND_IF_ABSENT w_UPDATE w_VIOLENTLY_REPLACE w_NONE w_LAX w_CHECK w_SET_NULL w_DELETE hK 3 2 w_APPEND_IF_ABSENT w_CHECK hi hj (by decide) (by decide) rfl rfl E_w_APPEND_IF_ABSENT F_deletesLeftOut_w_APPEND_IF_ABSENT (Fld.ne F_ordinal_w_APPEND_IF_ABSENT F_ordinal_w_VIOLENTLY_REPLACE (by decide))
  · exact rm_law_0_0 l Z a0 hw ws p1 p2 h0 n0 Z0 w_REPLACE w_MERGE w_APPEND w_APPEND_IF_ABSENT w_UPDATE w_VIOLENTLY_REPLACE w_NONE w_LAX w_CHECK w_SET_NULL w_DELETE hK 3 3 w_APPEND_IF_ABSENT w_SET_NULL hi hj (by decide) (by decide) rfl rfl E_w_APPEND_IF_ABSENT F_deletesLeftOut_w_APPEND_IF_ABSENT (Fld.ne F_ordinal_w_APPEND_IF_ABSENT F_ordinal_w_VIOLENTLY_REPLACE (by decide))
  · exact rm_law_0_0 l Z a0 hw ws p1 p2 h0 n0 Z0 w_REPLACE w_MERGE w_APPEND w_APPEND_IF_ABSENT w_UPDATE w_VIOLENTLY_REPLACE w_NONE w_LAX w_CHECK w_SET_NULL w_DELETE hK 3 4 w_APPEND_IF_ABSENT w_DELETE hi hj (by decide) (by decide) rfl rfl E_w_APPEND_IF_ABSENT F_deletesLeftOut_w_APPEND_IF_ABSENT (Fld.ne F_ordinal_w_APPEND_IF_ABSENT F_ordinal_w_VIOLENTLY_REPLACE (by decide))
  · exact rm_law_0_1 l Z a0 hw ws p1 p2 h0 n0 Z0 w_REPLACE w_MERGE w_APPEND w_APPEND_IF_ABSENT w_UPDATE w_VIOLENTLY_REPLACE w_NONE w_LAX w_CHECK w_SET_NULL w_DELETE hK 3 5 w_APPEND_IF_ABSENT hi hj (by decide) (by decide) rfl rfl E_w_APPEND_IF_ABSENT F_deletesLeftOut_w_APPEND_IF_ABSENT (Fld.ne F_ordinal_w_APPEND_IF_ABSENT F_ordinal_w_VIOLENTLY_REPLACE (by decide))
  · exact rm_law_0_0 l Z a0 hw ws p1 p2 h0 n0 Z0 w_REPLACE w_MERGE w_APPEND w_APPEND_IF_ABSENT w_UPDATE w_VIOLENTLY_REPLACE w_NONE w_LAX w_CHECK w_SET_NULL w_DELETE hK 4 0 w_UPDATE w_NONE hi hj (by decide) (by decide) rfl rfl E_w_UPDATE F_deletesLeftOut_w_UPDATE (Fld.ne F_ordinal_w_UPDATE F_ordinal_w_VIOLENTLY_REPLACE (by decide))
  · exact rm_law_0_0 l Z a0 hw ws p1 p2 h0 n0 Z0 w_REPLACE w_MERGE w_APPEND w_APPEND_IF_ABSENT w_UPDATE w_VIOLENTLY_REPLACE w_NONE w_LAX w_CHECK w_SET_NULL w_DELETE hK 4 1 w_UPDATE w_LAX hi hj (by decide) (by decide) rfl rfl E_w_UPDATE F_deletesLeftOut_w_UPDATE (Fld.ne F_ordinal_w_UPDATE F_ordinal_w_VIOLENTLY_REPLACE (by decide))
  · exact rm_law_0_0 l Z a0 hw ws p1 p2 h0 n0 Z0 w_REPLACE w_MERGE w_APPEND w_APPEND_IF_ABSENT w_UPDATE w_VIOLENTLY_REPLACE w_NONE w_LAX w_CHECK w_SET_NULL w_DELETE hK 4 2 w_UPDATE w_CHECK hi hj (by decide) (by decide) rfl rfl E_w_UPDATE F_deletesLeftOut_w_UPDATE (Fld.ne F_ordinal_w_UPDATE F_ordinal_w_VIOLENTLY_REPLACE (by decide))
  · exact rm_law_0_0 l Z a0 hw ws p1 p2 h0 n0 Z0 w_REPLACE w_MERGE w_APPEND w_APPEND_IF_ABSENT w_UPDATE w_VIOLENTLY_REPLACE w_NONE w_LAX w_CHECK w_SET_NULL w_DELETE hK 4 3 w_UPDATE w_SET_NULL hi hj (by decide) (by decide) rfl rfl E_w_UPDATE F_deletesLeftOut_w_UPDATE (Fld.ne F_ordinal_w_UPDATE F_ordinal_w_VIOLENTLY_REPLACE (by decide))
  · exact rm_law_0_0 l Z a0 hw ws p1 p2 h0 n0 Z0 w_REPLACE w_MERGE w_APPEND w_APPEND_IF_ABSENT w_UPDATE w_VIOLENTLY_REPLACE w_NONE w_LAX w_CHECK w_SET_NULL w_DELETE hK 4 4 w_UPDATE w_DELETE hi hj (by decide) (by decide) rfl rfl E_w_UPDATE F_deletesLeftOut_w_UPDATE (Fld.ne F_ordinal_w_UPDATE F_ordinal_w_VIOLENTLY_REPLACE (by decide))
  · exact rm_law_0_1 l Z a0 hw ws p1 p2 h0 n0 Z0 w_REPLACE w_MERGE w_APPEND w_APPEND_IF_ABSENT w_UPDATE w_VIOLENTLY_REPLACE w_NONE w_LAX w_CHECK w_SET_NULL w_DELETE hK 4 5 w_UPDATE hi hj (by decide) (by decide) rfl rfl E_w_UPDATE F_deletesLeftOut_w_UPDATE (Fld.ne F_ordinal_w_UPDATE F_ordinal_w_VIOLENTLY_REPLACE (by decide))
  · exact rm_law_1_0 l Z a0 hw ws p1 p2 h0 n0 Z0 w_REPLACE w_MERGE w_APPEND w_APPEND_IF_ABSENT w_UPDATE w_VIOLENTLY_REPLACE w_NONE w_LAX w_CHECK w_SET_NULL w_DELETE hK 5 0 w_NONE hi hj (by decide) (by decide) rfl rfl
  · exact rm_law_1_0 l Z a0 hw ws p1 p2 h0 n0 Z0 w_REPLACE w_MERGE w_APPEND w_APPEND_IF_ABSENT w_UPDATE w_VIOLENTLY_REPLACE w_NONE w_LAX w_CHECK w_SET_NULL w_DELETE hK 5 1 w_LAX hi hj (by decide) (by decide) rfl rfl
  · exact rm_law_1_0 l Z a0 hw ws p1 p2 h0 n0 Z0 w_REPLACE w_MERGE w_APPEND w_APPEND_IF_ABSENT w_UPDATE w_VIOLENTLY_REPLACE w_NONE w_LAX w_CHECK w_SET_NULL w_DELETE hK 5 2 w_CHECK hi hj (by decide) (by decide) rfl rfl
  · exact rm_law_1_0 l Z a0 hw ws p1 p2 h0 n0 Z0 w_REPLACE w_MERGE w_APPEND w_APPEND_IF_ABSENT w_UPDATE w_VIOLENTLY_REPLACE w_NONE w_LAX w_CHECK w_SET_NULL w_DELETE hK 5 3 w_SET_NULL hi hj (by decide) (by decide) rfl rfl
  · exact rm_law_1_0 l Z a0 hw ws p1 p2 h0 n0 Z0 w_REPLACE w_MERGE w_APPEND w_APPEND_IF_ABSENT w_UPDATE w_VIOLENTLY_REPLACE w_NONE w_LAX w_CHECK w_SET_NULL w_DELETE hK 5 4 w_DELETE hi hj (by decide) (by decide) rfl rfl
  · exact rm_law_1_1 l Z a0 hw ws p1 p2 h0 n0 Z0 w_REPLACE w_MERGE w_APPEND w_APPEND_IF_ABSENT w_UPDATE w_VIOLENTLY_REPLACE w_NONE w_LAX w_CHECK w_SET_NULL w_DELETE hK 5 5 hi hj (by decide) (by decide) rfl rfl
set_option maxRecDepth 65536 in
set_option maxHeartbeats 40000000 in
theorem comes_1 {Post : Tables → Env → Array Value → State → Outcome → State → Prop} (hpost : ∀ tb e args s v u, (limb_1_1.after args s (.returned v) u = true ∧ limb_1_2.after args s (.returned v) u = true ∧ True) → FrameEnd s (.returned v) u (Jvm.fieldLocs frame_1_writes args s ++ Jvm.arrayLocs frame_1_arrays args s ++ Jvm.staticLocs frame_1_statics s) 16 128 → Post tb e args s (.returned v) u) :
    ArmFor flags0 classFile x code maxLocals ret World_1 tables_1 room_1 Calls_1 rest_1 Pre_1 Post := by
  intro l hfl _ _ p e ha hc hk s m args below hf hA hF happ hP
  obtain ⟨hcalls, hrest, hpre⟩ := hP
  obtain ⟨-, -, -, hnamed, -, -, -, hat⟩ := (Spec.applies_iff hf).mp happ
  obtain ⟨hg, hn⟩ := and_e (Cond.before_iff.mp (show (Jvm.Cond.and given_1 narrow_1).before args s = true from hpre))
  obtain ⟨g0, hg⟩ := and_e hg
  obtain ⟨g1, hg⟩ := and_e hg
  obtain ⟨w0, w1, rfl⟩ : ∃ w0 w1 : Value, args = #[w0, w1] := by
    have hs : args.size = 2 := by simpa [Cond.value, given_1] using g0
    obtain ⟨L⟩ := args
    match L, hs with
    | [w0, w1], _ => exact ⟨w0, w1, rfl⟩
  have hw := fun d (hd : d ∈ tables_1) => atoms_spec (ws := Jvm.Cond.code x code maxLocals ret :: tables_1) hat d (List.mem_cons_of_mem _ hd)
  have hfit : Fit s := fun {y c} hc i hi => by
    obtain ⟨ha, rfl⟩ := Array.getElem?_eq_some_iff.mp hc
    have q := List.all_eq_true.mp ((Array.all_eq_true_iff_forall_mem.mp hF) _ (Array.getElem_mem ha)) i (List.mem_range.mpr hi)
    simpa [Array.getElem?_eq_getElem hi] using q
  obtain ⟨i0, ei0⟩ := is_v g1
  obtain rfl : w0 = (.int i0) := Option.some.inj ei0
  obtain ⟨i1, ei1⟩ := is_v hg
  obtain rfl : w1 = (.int i1) := Option.some.inj ei1
  obtain ⟨c0, hn⟩ := and_e hn
  obtain ⟨w_REPLACE, v_w_REPLACE⟩ := exa_v c0
  have S_w_REPLACE := Sta.start v_w_REPLACE (Or.inr ⟨(hw _ (ow 3 rfl)), (hw _ (ow 4 rfl))⟩)
  have E_w_REPLACE := Exa.start v_w_REPLACE c0
  obtain ⟨c1, hn⟩ := and_e hn
  obtain ⟨w_MERGE, v_w_MERGE⟩ := exa_v c1
  have S_w_MERGE := Sta.start v_w_MERGE (Or.inr ⟨(hw _ (ow 3 rfl)), (hw _ (ow 7 rfl))⟩)
  have E_w_MERGE := Exa.start v_w_MERGE c1
  obtain ⟨c2, hn⟩ := and_e hn
  obtain ⟨w_APPEND, v_w_APPEND⟩ := exa_v c2
  have S_w_APPEND := Sta.start v_w_APPEND (Or.inr ⟨(hw _ (ow 3 rfl)), (hw _ (ow 9 rfl))⟩)
  have E_w_APPEND := Exa.start v_w_APPEND c2
  obtain ⟨c3, hn⟩ := and_e hn
  obtain ⟨w_APPEND_IF_ABSENT, v_w_APPEND_IF_ABSENT⟩ := exa_v c3
  have S_w_APPEND_IF_ABSENT := Sta.start v_w_APPEND_IF_ABSENT (Or.inr ⟨(hw _ (ow 3 rfl)), (hw _ (ow 11 rfl))⟩)
  have E_w_APPEND_IF_ABSENT := Exa.start v_w_APPEND_IF_ABSENT c3
  obtain ⟨c4, hn⟩ := and_e hn
  obtain ⟨w_UPDATE, v_w_UPDATE⟩ := exa_v c4
  have S_w_UPDATE := Sta.start v_w_UPDATE (Or.inr ⟨(hw _ (ow 3 rfl)), (hw _ (ow 13 rfl))⟩)
  have E_w_UPDATE := Exa.start v_w_UPDATE c4
  obtain ⟨c5, hn⟩ := and_e hn
  obtain ⟨w_VIOLENTLY_REPLACE, v_w_VIOLENTLY_REPLACE⟩ := exa_v c5
  have S_w_VIOLENTLY_REPLACE := Sta.start v_w_VIOLENTLY_REPLACE (Or.inr ⟨(hw _ (ow 3 rfl)), (hw _ (ow 15 rfl))⟩)
  have E_w_VIOLENTLY_REPLACE := Exa.start v_w_VIOLENTLY_REPLACE c5
  obtain ⟨c6, hn⟩ := and_e hn
  obtain ⟨w_NONE, v_w_NONE⟩ := exa_v c6
  have S_w_NONE := Sta.start v_w_NONE (Or.inr ⟨(hw _ (ow 19 rfl)), (hw _ (ow 20 rfl))⟩)
  have E_w_NONE := Exa.start v_w_NONE c6
  obtain ⟨c7, hn⟩ := and_e hn
  obtain ⟨w_LAX, v_w_LAX⟩ := exa_v c7
  have S_w_LAX := Sta.start v_w_LAX (Or.inr ⟨(hw _ (ow 19 rfl)), (hw _ (ow 23 rfl))⟩)
  have E_w_LAX := Exa.start v_w_LAX c7
  obtain ⟨c8, hn⟩ := and_e hn
  obtain ⟨w_CHECK, v_w_CHECK⟩ := exa_v c8
  have S_w_CHECK := Sta.start v_w_CHECK (Or.inr ⟨(hw _ (ow 19 rfl)), (hw _ (ow 25 rfl))⟩)
  have E_w_CHECK := Exa.start v_w_CHECK c8
  obtain ⟨c9, hn⟩ := and_e hn
  obtain ⟨w_SET_NULL, v_w_SET_NULL⟩ := exa_v c9
  have S_w_SET_NULL := Sta.start v_w_SET_NULL (Or.inr ⟨(hw _ (ow 19 rfl)), (hw _ (ow 27 rfl))⟩)
  have E_w_SET_NULL := Exa.start v_w_SET_NULL c9
  obtain ⟨c10, hn⟩ := and_e hn
  obtain ⟨w_DELETE, v_w_DELETE⟩ := exa_v c10
  have S_w_DELETE := Sta.start v_w_DELETE (Or.inr ⟨(hw _ (ow 19 rfl)), (hw _ (ow 29 rfl))⟩)
  have E_w_DELETE := Exa.start v_w_DELETE c10
  obtain ⟨c11, hn⟩ := and_e hn
  have F_deletesLeftOut_w_REPLACE := Fld.start ((fld_at v_w_REPLACE).symm.trans (own_eqI c11))
  obtain ⟨c12, hn⟩ := and_e hn
  have F_ordinal_w_REPLACE := Fld.start ((fld_at v_w_REPLACE).symm.trans (own_eqI c12))
  obtain ⟨c13, hn⟩ := and_e hn
  have F_ordinal_w_VIOLENTLY_REPLACE := Fld.start ((fld_at v_w_VIOLENTLY_REPLACE).symm.trans (own_eqI c13))
  obtain ⟨c14, hn⟩ := and_e hn
  have F_deletesLeftOut_w_APPEND := Fld.start ((fld_at v_w_APPEND).symm.trans (own_eqI c14))
  obtain ⟨c15, hn⟩ := and_e hn
  have F_ordinal_w_APPEND := Fld.start ((fld_at v_w_APPEND).symm.trans (own_eqI c15))
  obtain ⟨c16, hn⟩ := and_e hn
  have F_deletesLeftOut_w_UPDATE := Fld.start ((fld_at v_w_UPDATE).symm.trans (own_eqI c16))
  obtain ⟨c17, hn⟩ := and_e hn
  have F_ordinal_w_UPDATE := Fld.start ((fld_at v_w_UPDATE).symm.trans (own_eqI c17))
  obtain ⟨c18, hn⟩ := and_e hn
  have F_deletesLeftOut_w_MERGE := Fld.start ((fld_at v_w_MERGE).symm.trans (own_eqI c18))
  obtain ⟨c19, hn⟩ := and_e hn
  have F_ordinal_w_MERGE := Fld.start ((fld_at v_w_MERGE).symm.trans (own_eqI c19))
  obtain ⟨c20, hn⟩ := and_e hn
  have F_deletesLeftOut_w_VIOLENTLY_REPLACE := Fld.start ((fld_at v_w_VIOLENTLY_REPLACE).symm.trans (own_eqI c20))
  obtain ⟨c21, hn⟩ := and_e hn
  have F_deletesLeftOut_w_APPEND_IF_ABSENT := Fld.start ((fld_at v_w_APPEND_IF_ABSENT).symm.trans (own_eqI c21))
  have F_ordinal_w_APPEND_IF_ABSENT := Fld.start ((fld_at v_w_APPEND_IF_ABSENT).symm.trans (own_eqI hn))
  have hK : own_K s s.heap w_REPLACE w_MERGE w_APPEND w_APPEND_IF_ABSENT w_UPDATE w_VIOLENTLY_REPLACE w_NONE w_LAX w_CHECK w_SET_NULL w_DELETE := ⟨S_w_REPLACE, E_w_REPLACE, S_w_MERGE, E_w_MERGE, S_w_APPEND, E_w_APPEND, S_w_APPEND_IF_ABSENT, E_w_APPEND_IF_ABSENT, S_w_UPDATE, E_w_UPDATE, S_w_VIOLENTLY_REPLACE, E_w_VIOLENTLY_REPLACE, S_w_NONE, E_w_NONE, S_w_LAX, E_w_LAX, S_w_CHECK, E_w_CHECK, S_w_SET_NULL, E_w_SET_NULL, S_w_DELETE, E_w_DELETE, F_deletesLeftOut_w_REPLACE, F_ordinal_w_REPLACE, F_ordinal_w_VIOLENTLY_REPLACE, F_deletesLeftOut_w_APPEND, F_ordinal_w_APPEND, F_deletesLeftOut_w_UPDATE, F_ordinal_w_UPDATE, F_deletesLeftOut_w_MERGE, F_ordinal_w_MERGE, F_deletesLeftOut_w_VIOLENTLY_REPLACE, F_deletesLeftOut_w_APPEND_IF_ABSENT, F_ordinal_w_APPEND_IF_ABSENT⟩
  obtain ⟨n, o, h1, h2, h3, _, L, rfl, ⟨rfl, N, -⟩, hq⟩ := rm_law l s _ hw tables_1 i0 i1 s.heap s.heap.size (Nat.le_refl _) w_REPLACE w_MERGE w_APPEND w_APPEND_IF_ABSENT w_UPDATE w_VIOLENTLY_REPLACE w_NONE w_LAX w_CHECK w_SET_NULL w_DELETE hK p e ha hc hk s m _ below hf ((Spec.applies_iff_loose hf).mp happ).1 ⟨rfl, State.Warmed39.refl s, rfl⟩ trivial
  refine ⟨n, _, h1, h2, h3, hpost _ _ _ _ _ _ ⟨Cond.after_iff.mpr rfl, Cond.after_iff.mpr (eq_i res_at (Term.int_eval (1)) rfl), trivial⟩ ⟨hq.1, hq.2.1, (hq.2.2.sift fun y hy => Or.inr (N y hy)).mono (by decide) (by decide)⟩⟩
theorem main_1_1 : Claimed_1_1 := comes_1 fun _ _ _ _ _ _ h hF => ⟨h.1, hF⟩
theorem main_1_2 : Claimed_1_2 := comes_1 fun _ _ _ _ _ _ h hF => ⟨h.2.1, hF⟩
end Jvm.Pilot.@@N@@
namespace Jvm.Pilot.@@N@@
open Jvm Jvm.ClassFile Sem Op Lib Jvm.Free Jvm.Stand Jvm.Pilot.@@N@@.Jvm.D
/-! MADE BY PROGRAM (witnessworld.py) out of the Statement's table words and the real class files: 15 classes; the members and pool entries that the words name. The judged class is class 1, her method 1. -/
namespace start1
open Jvm.ClassFile
def u (s : String) : CpInfo := .utf8 (stringToUtf16 s)
/-- a pool by its gaps: so many unusable entries, then the entry; so many at the end -/
def gap : Nat → List CpInfo → List CpInfo
  | 0, r => r
  | n + 1, r => .unusable :: gap n r
def poolList (es : List (Nat × CpInfo)) (last : Nat) : List CpInfo := es.foldr (fun e r => gap e.1 (e.2 :: r)) (gap last [])
def pool (es : List (Nat × CpInfo)) (last : Nat) : Array CpInfo := ⟨poolList es last⟩
def fileOf (pool : Array CpInfo) (this : Nat) (attrs : Array Attribute := #[]) (ms : Array MethodInfo := #[]) (fl : Nat := 33) (sup : Nat := 0) (ifs : Array Nat := #[]) (fds : Array FieldInfo := #[]) : ClassFile where
  minorVersion := 0
  majorVersion := 65
  constantPool := pool
  accessFlags := fl
  thisClass := this
  superClass := sup
  interfaces := ifs
  fields := fds
  methods := ms
  attributes := attrs
def plain (name : String) (sup : Option ClassId) : Class where
  name := name
  kind := .ordinary
  loader := none
  accessFlags := 33
  super := sup
  interfaces := #[]
  cf := none
  fields := #[]
  methods := #[]
  instanceTypes := #[]
  staticTypes := #[]
  resolved := #[]
  callSites := []
  init := .initialized
  statics := none
  mirror := none

def pool0 : Array CpInfo := pool [(5, u "<init>"), (0, u "()V"), (1, .class_ 10), (1, u "java/lang/Object")] 113

def k0m0 : Method := { name := "<init>", desc := "()V", sig := { parameters := [], returnType := none }, accessFlags := 1, code := none }
/-- java/lang/Object -/
def k0 : Class := { plain "java/lang/Object" none with
  accessFlags := 33
  interfaces := #[]
  cf := some (fileOf pool0 8 #[] #[{ accessFlags := 1, nameIndex := 5, descriptorIndex := 6, attributes := #[] }] 33 0 #[] #[])
  fields := #[]
  methods := #[k0m0]
  instanceTypes := #[]
  staticTypes := #[]
  resolved := Array.replicate 124 none
  statics := none }

def pool1 : Array CpInfo := pool [(2, .class_ 4), (1, u "java/lang/Object"), (0, u "<init>"), (0, u "()V"), (0, .class_ 8), (0, u "com/example/graft/graft/AssociatedSaveMode"), (0, .fieldref 7 10), (0, .nameAndType 11 12), (0, u "REPLACE"), (0, u "Lcom/example/graft/graft/AssociatedSaveMode;"), (0, .fieldref 7 14), (0, .nameAndType 15 12), (0, u "MERGE"), (0, .fieldref 7 17), (0, .nameAndType 18 12), (0, u "APPEND"), (0, .fieldref 7 20), (0, .nameAndType 21 12), (0, u "APPEND_IF_ABSENT"), (0, .fieldref 7 23), (0, .nameAndType 24 12), (0, u "UPDATE"), (0, .fieldref 7 26), (0, .nameAndType 27 12), (0, u "VIOLENTLY_REPLACE"), (0, .class_ 29), (0, u "com/example/graft/graft/DissociateAction"), (0, .fieldref 28 31), (0, .nameAndType 32 33), (0, u "NONE"), (0, u "Lcom/example/graft/graft/DissociateAction;"), (0, .fieldref 28 35), (0, .nameAndType 36 33), (0, u "LAX"), (0, .fieldref 28 38), (0, .nameAndType 39 33), (0, u "CHECK"), (0, .fieldref 28 41), (0, .nameAndType 42 33), (0, u "SET_NULL"), (0, .fieldref 28 44), (0, .nameAndType 45 33), (0, u "DELETE"), (0, .integer 2147483647), (0, .methodref 7 48), (0, .nameAndType 49 50), (0, u "dissociateAction"), (0, u "(Lcom/example/graft/graft/DissociateAction;)Lcom/example/graft/graft/DissociateAction;"), (0, .class_ 52), (0, u "com/example/graft/graft/AssociatedSaveModeDissociateActionPinLaw"), (2, u "law"), (0, u "(II)Z")] 7

def k1m0 : Method := { name := "<init>", desc := "()V", sig := { parameters := [], returnType := none }, accessFlags := 1, code := none }
def k1c1 : Code := { maxStack := 4, maxLocals := 10, code := code, exceptionTable := #[], attributes := #[] }
def k1m1 : Method := { name := "law", desc := "(II)Z", sig := { parameters := [.int, .int], returnType := some .boolean }, accessFlags := 9, code := some k1c1 }
/-- com/example/graft/graft/AssociatedSaveModeDissociateActionPinLaw -/
def k1 : Class := { plain "com/example/graft/graft/AssociatedSaveModeDissociateActionPinLaw" (some 0) with
  accessFlags := 49
  interfaces := #[]
  cf := some (fileOf pool1 51 #[] #[{ accessFlags := 1, nameIndex := 5, descriptorIndex := 6, attributes := #[] }, { accessFlags := 9, nameIndex := 55, descriptorIndex := 56, attributes := #[] }] 49 2 #[] #[])
  fields := #[]
  methods := #[k1m0, k1m1]
  instanceTypes := #[]
  staticTypes := #[]
  resolved := Array.replicate 64 none
  statics := none }

def pool2 : Array CpInfo := pool [(1, .class_ 2), (0, u "java/lang/constant/Constable"), (0, .class_ 4), (0, u "java/lang/Object")] 6

/-- java/lang/constant/Constable -/
def k2 : Class := { plain "java/lang/constant/Constable" (some 0) with
  accessFlags := 1537
  interfaces := #[]
  cf := some (fileOf pool2 1 #[] #[] 1537 3 #[] #[])
  fields := #[]
  methods := #[]
  instanceTypes := #[]
  staticTypes := #[]
  resolved := Array.replicate 11 none
  statics := none }

def pool3 : Array CpInfo := pool [(1, .class_ 2), (0, u "java/lang/Comparable"), (0, .class_ 4), (0, u "java/lang/Object")] 7

/-- java/lang/Comparable -/
def k3 : Class := { plain "java/lang/Comparable" (some 0) with
  accessFlags := 1537
  interfaces := #[]
  cf := some (fileOf pool3 1 #[] #[] 1537 3 #[] #[])
  fields := #[]
  methods := #[]
  instanceTypes := #[]
  staticTypes := #[]
  resolved := Array.replicate 12 none
  statics := none }

def pool4 : Array CpInfo := pool [(1, .class_ 2), (0, u "java/io/Serializable"), (0, .class_ 4), (0, u "java/lang/Object")] 2

/-- java/io/Serializable -/
def k4 : Class := { plain "java/io/Serializable" (some 0) with
  accessFlags := 1537
  interfaces := #[]
  cf := some (fileOf pool4 1 #[] #[] 1537 3 #[] #[])
  fields := #[]
  methods := #[]
  instanceTypes := #[]
  staticTypes := #[]
  resolved := Array.replicate 7 none
  statics := none }

def pool5 : Array CpInfo := pool [(2, .class_ 4), (1, u "java/lang/Enum"), (0, u "name"), (0, u "Ljava/lang/String;"), (2, u "ordinal"), (0, u "I"), (1, .class_ 14), (1, u "java/lang/Object"), (4, u "hash"), (86, .class_ 108), (1, u "java/lang/Enum$EnumDesc"), (2, .class_ 112), (0, u "java/lang/constant/Constable"), (0, .class_ 114), (0, u "java/lang/Comparable"), (0, .class_ 116), (0, u "java/io/Serializable")] 87

/-- java/lang/Enum -/
def k5 : Class := { plain "java/lang/Enum" (some 0) with
  accessFlags := 1057
  interfaces := #[2, 3, 4]
  cf := some (fileOf pool5 2 #[.nestMembers #[106]] #[] 1057 12 #[111, 113, 115] #[{ accessFlags := 18, nameIndex := 5, descriptorIndex := 6, attributes := #[] }, { accessFlags := 18, nameIndex := 9, descriptorIndex := 10, attributes := #[] }, { accessFlags := 2, nameIndex := 19, descriptorIndex := 10, attributes := #[] }])
  fields := #[{ name := "name", type := (.object "java/lang/String"), accessFlags := 18, slot := 0, constantValue := 0 }, { name := "ordinal", type := .int, accessFlags := 18, slot := 1, constantValue := 0 }, { name := "hash", type := .int, accessFlags := 2, slot := 2, constantValue := 0 }]
  methods := #[]
  instanceTypes := #[(.object "java/lang/String"), .int, .int]
  staticTypes := #[]
  resolved := Array.replicate 204 none
  statics := none }

def pool6 : Array CpInfo := pool [(1, .class_ 2), (0, u "com/example/graft/graft/AssociatedSaveMode"), (2, u "REPLACE"), (0, u "Lcom/example/graft/graft/AssociatedSaveMode;"), (2, u "MERGE"), (2, u "APPEND"), (2, u "APPEND_IF_ABSENT"), (2, u "UPDATE"), (2, u "VIOLENTLY_REPLACE"), (2, u "$VALUES"), (0, u "[Lcom/example/graft/graft/AssociatedSaveMode;"), (6, .class_ 34), (1, u "java/lang/Enum"), (8, u "objectMode"), (0, u "Lcom/example/graft/graft/SaveMode;"), (2, u "replaces"), (0, u "Z"), (0, .fieldref 1 50), (0, .nameAndType 51 48), (0, u "deletesLeftOut"), (0, .fieldref 53 54), (0, .class_ 55), (0, .nameAndType 56 57), (0, u "com/example/graft/graft/DissociateAction"), (0, u "DELETE"), (0, u "Lcom/example/graft/graft/DissociateAction;"), (39, u "dissociateAction"), (0, u "(Lcom/example/graft/graft/DissociateAction;)Lcom/example/graft/graft/DissociateAction;")] 7

def k6c0 : Code := { maxStack := 1, maxLocals := 2, code := prog_1_method_6_code, exceptionTable := #[], attributes := #[] }
def k6m0 : Method := { name := "dissociateAction", desc := "(Lcom/example/graft/graft/DissociateAction;)Lcom/example/graft/graft/DissociateAction;", sig := { parameters := [(.object "com/example/graft/graft/DissociateAction")], returnType := some (.object "com/example/graft/graft/DissociateAction") }, accessFlags := 0, code := some k6c0 }
/-- com/example/graft/graft/AssociatedSaveMode -/
def k6 : Class := { plain "com/example/graft/graft/AssociatedSaveMode" (some 5) with
  accessFlags := 16433
  interfaces := #[]
  cf := some (fileOf pool6 1 #[] #[{ accessFlags := 0, nameIndex := 97, descriptorIndex := 98, attributes := #[] }] 16433 32 #[] #[{ accessFlags := 16409, nameIndex := 5, descriptorIndex := 6, attributes := #[] }, { accessFlags := 16409, nameIndex := 9, descriptorIndex := 6, attributes := #[] }, { accessFlags := 16409, nameIndex := 12, descriptorIndex := 6, attributes := #[] }, { accessFlags := 16409, nameIndex := 15, descriptorIndex := 6, attributes := #[] }, { accessFlags := 16409, nameIndex := 18, descriptorIndex := 6, attributes := #[] }, { accessFlags := 16409, nameIndex := 21, descriptorIndex := 6, attributes := #[] }, { accessFlags := 18, nameIndex := 43, descriptorIndex := 44, attributes := #[] }, { accessFlags := 18, nameIndex := 47, descriptorIndex := 48, attributes := #[] }, { accessFlags := 18, nameIndex := 51, descriptorIndex := 48, attributes := #[] }, { accessFlags := 4122, nameIndex := 24, descriptorIndex := 25, attributes := #[] }])
  fields := #[{ name := "REPLACE", type := (.object "com/example/graft/graft/AssociatedSaveMode"), accessFlags := 16409, slot := 0, constantValue := 0 }, { name := "MERGE", type := (.object "com/example/graft/graft/AssociatedSaveMode"), accessFlags := 16409, slot := 1, constantValue := 0 }, { name := "APPEND", type := (.object "com/example/graft/graft/AssociatedSaveMode"), accessFlags := 16409, slot := 2, constantValue := 0 }, { name := "APPEND_IF_ABSENT", type := (.object "com/example/graft/graft/AssociatedSaveMode"), accessFlags := 16409, slot := 3, constantValue := 0 }, { name := "UPDATE", type := (.object "com/example/graft/graft/AssociatedSaveMode"), accessFlags := 16409, slot := 4, constantValue := 0 }, { name := "VIOLENTLY_REPLACE", type := (.object "com/example/graft/graft/AssociatedSaveMode"), accessFlags := 16409, slot := 5, constantValue := 0 }, { name := "objectMode", type := (.object "com/example/graft/graft/SaveMode"), accessFlags := 18, slot := 3, constantValue := 0 }, { name := "replaces", type := .boolean, accessFlags := 18, slot := 4, constantValue := 0 }, { name := "deletesLeftOut", type := .boolean, accessFlags := 18, slot := 5, constantValue := 0 }, { name := "$VALUES", type := (.array (.object "com/example/graft/graft/AssociatedSaveMode")), accessFlags := 4122, slot := 6, constantValue := 0 }]
  methods := #[k6m0]
  instanceTypes := #[(.object "java/lang/String"), .int, .int, (.object "com/example/graft/graft/SaveMode"), .boolean, .boolean]
  staticTypes := #[(.object "com/example/graft/graft/AssociatedSaveMode"), (.object "com/example/graft/graft/AssociatedSaveMode"), (.object "com/example/graft/graft/AssociatedSaveMode"), (.object "com/example/graft/graft/AssociatedSaveMode"), (.object "com/example/graft/graft/AssociatedSaveMode"), (.object "com/example/graft/graft/AssociatedSaveMode"), (.array (.object "com/example/graft/graft/AssociatedSaveMode"))]
  resolved := Array.replicate 106 none
  statics := some 0 }

def pool7 : Array CpInfo := pool [(1, .class_ 2), (0, u "com/example/graft/graft/DissociateAction"), (2, u "NONE"), (0, u "Lcom/example/graft/graft/DissociateAction;"), (2, u "LAX"), (2, u "CHECK"), (2, u "SET_NULL"), (2, u "DELETE"), (2, u "$VALUES"), (0, u "[Lcom/example/graft/graft/DissociateAction;"), (6, .class_ 31), (1, u "java/lang/Enum")] 36

/-- com/example/graft/graft/DissociateAction -/
def k7 : Class := { plain "com/example/graft/graft/DissociateAction" (some 5) with
  accessFlags := 16433
  interfaces := #[]
  cf := some (fileOf pool7 1 #[] #[] 16433 29 #[] #[{ accessFlags := 16409, nameIndex := 5, descriptorIndex := 6, attributes := #[] }, { accessFlags := 16409, nameIndex := 9, descriptorIndex := 6, attributes := #[] }, { accessFlags := 16409, nameIndex := 12, descriptorIndex := 6, attributes := #[] }, { accessFlags := 16409, nameIndex := 15, descriptorIndex := 6, attributes := #[] }, { accessFlags := 16409, nameIndex := 18, descriptorIndex := 6, attributes := #[] }, { accessFlags := 4122, nameIndex := 21, descriptorIndex := 22, attributes := #[] }])
  fields := #[{ name := "NONE", type := (.object "com/example/graft/graft/DissociateAction"), accessFlags := 16409, slot := 0, constantValue := 0 }, { name := "LAX", type := (.object "com/example/graft/graft/DissociateAction"), accessFlags := 16409, slot := 1, constantValue := 0 }, { name := "CHECK", type := (.object "com/example/graft/graft/DissociateAction"), accessFlags := 16409, slot := 2, constantValue := 0 }, { name := "SET_NULL", type := (.object "com/example/graft/graft/DissociateAction"), accessFlags := 16409, slot := 3, constantValue := 0 }, { name := "DELETE", type := (.object "com/example/graft/graft/DissociateAction"), accessFlags := 16409, slot := 4, constantValue := 0 }, { name := "$VALUES", type := (.array (.object "com/example/graft/graft/DissociateAction")), accessFlags := 4122, slot := 5, constantValue := 0 }]
  methods := #[]
  instanceTypes := #[(.object "java/lang/String"), .int, .int]
  staticTypes := #[(.object "com/example/graft/graft/DissociateAction"), (.object "com/example/graft/graft/DissociateAction"), (.object "com/example/graft/graft/DissociateAction"), (.object "com/example/graft/graft/DissociateAction"), (.object "com/example/graft/graft/DissociateAction"), (.array (.object "com/example/graft/graft/DissociateAction"))]
  resolved := Array.replicate 68 none
  statics := some 1 }

def pool8 : Array CpInfo := pool [(1, u "java/lang/Cloneable"), (0, .class_ 1), (0, u "java/lang/Object"), (0, .class_ 3)] 3

/-- java/lang/Cloneable -/
def k8 : Class := { plain "java/lang/Cloneable" (some 0) with
  accessFlags := 1537
  interfaces := #[]
  cf := some (fileOf pool8 2 #[] #[] 1537 4 #[] #[])
  fields := #[]
  methods := #[]
  instanceTypes := #[]
  staticTypes := #[]
  resolved := Array.replicate 8 none
  statics := none }

/-- the primitive byte -/
def k9 : Class := { plain "byte" none with kind := .primitive 'B', accessFlags := 0x411 }
/-- [B -/
def k10 : Class := { plain "[B" (some 0) with kind := .array 9 .byte, interfaces := #[8, 4], accessFlags := 1041 }

/-- the primitive int -/
def k11 : Class := { plain "int" none with kind := .primitive 'I', accessFlags := 0x411 }
/-- [I -/
def k12 : Class := { plain "[I" (some 0) with kind := .array 11 .int, interfaces := #[8, 4], accessFlags := 1041 }

/-- [Lcom/example/graft/graft/AssociatedSaveMode; -/
def k13 : Class := { plain "[Lcom/example/graft/graft/AssociatedSaveMode;" (some 0) with kind := .array 6 (.object "com/example/graft/graft/AssociatedSaveMode"), interfaces := #[8, 4], accessFlags := 1041 }

/-- [Lcom/example/graft/graft/DissociateAction; -/
def k14 : Class := { plain "[Lcom/example/graft/graft/DissociateAction;" (some 0) with kind := .array 7 (.object "com/example/graft/graft/DissociateAction"), interfaces := #[8, 4], accessFlags := 1041 }

def heap : Heap := #[{ cls := 6, slots := #[.ref 2, .ref 3, .ref 4, .ref 5, .ref 6, .ref 7, .null], vm := .statics 6 },
  { cls := 7, slots := #[.ref 8, .ref 9, .ref 10, .ref 11, .ref 12, .null], vm := .statics 7 },
  { cls := 6, slots := #[.null, .int 0, .int 0, .null, .int 0, .int 0], vm := .none },
  { cls := 6, slots := #[.null, .int 1, .int 0, .null, .int 0, .int 0], vm := .none },
  { cls := 6, slots := #[.null, .int 2, .int 0, .null, .int 0, .int 0], vm := .none },
  { cls := 6, slots := #[.null, .int 3, .int 0, .null, .int 0, .int 0], vm := .none },
  { cls := 6, slots := #[.null, .int 4, .int 0, .null, .int 0, .int 0], vm := .none },
  { cls := 6, slots := #[.null, .int 5, .int 0, .null, .int 0, .int 1], vm := .none },
  { cls := 7, slots := #[.null, .int 0, .int 0], vm := .none },
  { cls := 7, slots := #[.null, .int 0, .int 0], vm := .none },
  { cls := 7, slots := #[.null, .int 0, .int 0], vm := .none },
  { cls := 7, slots := #[.null, .int 0, .int 0], vm := .none },
  { cls := 7, slots := #[.null, .int 0, .int 0], vm := .none }]
def classes : Array Class := #[k0, k1, k2, k3, k4, k5, k6, k7, k8, k9, k10, k11, k12, k13, k14]
def interned : List (Array UInt16 × Addr) := []
def slotsUsed : Nat := 64
def theMethod : MethodId := ⟨1, 1⟩
def args0 : Array Value := #[.int 5, .int 4]
def aboutOver (below : List Frame) : State where
  vm := { classes := classes, interned := interned.toArray }
  heap := heap
  slotsUsed := slotsUsed
  threads := #[{ frames := .invoking theMethod args0 :: below }]
def below0 : List Frame := [.native { method := ⟨0, 0⟩, args := #[] }]
def about1 : State := aboutOver below0
def p0 : Program := .bare "" "" ""
def e0 : Env := launch0.env 0 0 0
theorem w_frames : about1.frames = Frame.invoking theMethod args0 :: below0 := rfl
set_option maxRecDepth 65536 in
theorem w_args : argsFit about1.vm theMethod args0 = true := by decide +kernel
set_option maxRecDepth 65536 in
theorem w_heap : heapFits about1 = true := by decide +kernel
set_option maxRecDepth 65536 in
theorem w_runnable : about1.curStatus? = some .runnable := by decide +kernel
set_option maxRecDepth 65536 in
theorem w_alone : about1.alone = true := by decide +kernel
set_option maxRecDepth 65536 in
theorem w_named : about1.methodNamed? x = some theMethod := by decide +kernel
set_option maxRecDepth 65536 in
theorem w_hears : about1.hears theMethod below0 = true := by decide +kernel
set_option maxRecDepth 65536 in
theorem w_ripe : about1.ripe theMethod args0 below0 = true := by decide +kernel
theorem w_running : about1.status = .running := rfl
set_option maxRecDepth 65536 in
theorem w_room : about1.hasRoom e0.platform room_1 = true :=
  launch0.hasRoom_least _ room_1 (by decide +kernel) (by decide +kernel) (by decide +kernel) (by decide +kernel) (by decide +kernel) (by decide +kernel)
theorem allAtoms_all (ts : List Jvm.Cond) (a : Array Jvm.Value) (st : Jvm.State) : (allAtoms ts).before a st = ts.all (fun c => c.before a st) := by
  induction ts with
  | nil => rfl
  | cons c t ih =>
    show (Jvm.Cond.and c (allAtoms t)).before a st = _
    rw [Jvm.Cond.before_and, ih, List.all_cons]
def words1 : List Jvm.Cond := Jvm.Cond.code x code maxLocals ret :: tables_1
/-- a 'code' word, met by the world's own term for the bytes: nothing is compared byte by byte -/
theorem code_word {y : MethodName} {bytes : ByteArray} {mx : Nat} {rt : Option FieldType} {a : Array Value} {s : State} {m : MethodId} {meth : Method} {c : Code} (h1 : s.methodNamed? y = some m) (h2 : s.vm.method? m = some meth) (h3 : meth.code = some c) (h4 : c.code = bytes)
    (h5 : (c.maxLocals == mx && c.exceptionTable.isEmpty && decide (c.maxStack ≤ mostOperands) && decide (meth.sig.returnType = rt) && !meth.locks && decide (parseMethodDescriptor y.desc = some meth.sig)) = true) : (Jvm.Cond.code y bytes mx rt).before a s = true := by
  simp only [Bool.and_eq_true, beq_iff_eq, Bool.not_eq_true', decide_eq_true_eq] at h5
  obtain ⟨⟨⟨⟨⟨g1, g2⟩, g3⟩, g4⟩, g5⟩, g6⟩ := h5
  simp [Cond.before, Cond.holds, Cond.value, h1, h2, h3, h4, g1, g2, g3, g4, g5, g6]
def isCode : Jvm.Cond → Bool
  | .code _ _ _ _ => true
  | _ => false
theorem all_split {L : List Jvm.Cond} {P : Jvm.Cond → Bool} (h1 : L.all (fun c => isCode c || P c) = true) (h2 : ∀ c ∈ L.filter isCode, P c = true) : L.all P = true := by
  refine List.all_eq_true.mpr fun c hc => ?_
  have h := List.all_eq_true.mp h1 c hc
  rcases Bool.eq_false_or_eq_true (isCode c) with hi | hi
  · exact h2 c (List.mem_filter.mpr ⟨hc, hi⟩)
  · simpa [hi] using h
set_option maxRecDepth 65536 in
theorem w_c0 : (Jvm.Cond.code x code maxLocals ret).before args0 about1 = true := code_word (m := ⟨1, 1⟩) (meth := k1m1) (c := k1c1) (by decide +kernel) rfl rfl rfl (by decide +kernel)
set_option maxRecDepth 65536 in
theorem w_c1 : (Jvm.Cond.code ({ cls := "com/example/graft/graft/AssociatedSaveMode", name := "dissociateAction", desc := "(Lcom/example/graft/graft/DissociateAction;)Lcom/example/graft/graft/DissociateAction;" } : Jvm.MethodName) prog_1_method_6_code (2 : Nat) (Option.some (Jvm.ClassFile.FieldType.object "com/example/graft/graft/DissociateAction"))).before args0 about1 = true := code_word (m := ⟨6, 0⟩) (meth := k6m0) (c := k6c0) (by decide +kernel) rfl rfl rfl (by decide +kernel)
def codes1 : List Jvm.Cond := [Jvm.Cond.code x code maxLocals ret, Jvm.Cond.code ({ cls := "com/example/graft/graft/AssociatedSaveMode", name := "dissociateAction", desc := "(Lcom/example/graft/graft/DissociateAction;)Lcom/example/graft/graft/DissociateAction;" } : Jvm.MethodName) prog_1_method_6_code (2 : Nat) (Option.some (Jvm.ClassFile.FieldType.object "com/example/graft/graft/DissociateAction"))]
set_option maxRecDepth 65536 in
theorem codes_eq : words1.filter isCode = codes1 := rfl
theorem w_codes : ∀ c ∈ words1.filter isCode, c.before args0 about1 = true := by
  rw [codes_eq]
  intro c hc
  simp only [codes1, List.mem_cons, List.not_mem_nil, or_false] at hc
  rcases hc with rfl | rfl
  · exact w_c0
  · exact w_c1
set_option maxRecDepth 65536 in
theorem w_t1 : (words1.take 24).all (fun c => isCode c || c.before args0 about1) = true := by decide +kernel
set_option maxRecDepth 65536 in
theorem w_t2 : (words1.drop 24).all (fun c => isCode c || c.before args0 about1) = true := by decide +kernel
theorem w_tables : (allAtoms (Jvm.Cond.code x code maxLocals ret :: tables_1)).before args0 about1 = true := by
  rw [allAtoms_all]
  show words1.all (fun c => c.before args0 about1) = true
  refine all_split ?_ w_codes
  rw [← List.take_append_drop 24 words1, List.all_append, w_t1, w_t2]
  rfl
set_option maxRecDepth 65536 in
theorem w_case : (Jvm.Cond.and given_1 narrow_1).before args0 about1 = true := by decide +kernel
theorem w_applies : (headSpec (Jvm.Cond.code x code maxLocals ret :: tables_1) room_1).applies x e0.platform about1 = true :=
  (Spec.applies_iff w_frames).mpr ⟨w_running, w_runnable, w_alone, w_named, w_hears, w_ripe, w_room, w_tables⟩
theorem atStart : AtStart classFile x code maxLocals ret World_1 tables_1 room_1 Calls_1 rest_1 Pre_1 launch0 p0 e0 about1 theMethod args0 below0 :=
  ⟨lists_1, trivial, launch0.admits_env _ _ _, launch0.least_env, fairChoices_fair.cas, fairChoices_fair.clock, w_frames, w_args, w_heap, w_applies, trivial, trivial, w_case⟩
end start1
theorem witness_1 : WitnessClaimed_1 := ⟨start1.p0, start1.e0, start1.about1, start1.theMethod, start1.args0, start1.below0, start1.atStart⟩
end Jvm.Pilot.@@N@@
