import JvmDerived
import JvmDerived.Pilot.@@N@@Statement
import JvmDerived.Pilot.@@N@@Code
set_option linter.unusedVariables false
set_option linter.unusedSimpArgs false
namespace Jvm.RoadKit
open Sem ClassFile Op Lib Jvm.Stand Jvm.Free Jvm.LawKit
section New
variable {p : Program} {l : Launch} {e : Env} {R : Room} {s : State} {m : MethodId} {args : Array Value} {below : List Frame} {meth : Method} {c : Code} {T : State} {locs : List Loc} {cells slots : Nat}
theorem retI (X : Stand p l e R s m args below meth c T locs cells slots) (hx : p.tables.exec = Jvm.exec) {pc : Nat} {Ls : Array Slot} {z : Int32} {rest : List Value} (hret : meth.sig.returnType = some .int) (hd : decode c.code pc = .ok (.ireturn, 1)) {fs : List Frame}
    (hl : ∀ (f : JFrame) (acts : List Action), f.method = m → f.locked = none → f.entered = [] → (doReturn e (T.setTop f) acts (some (.int z))).1 = T.setFrames fs) : Steps p.tables e below (T.setTop (mkF m pc Ls (.int z :: rest))) (T.setFrames fs) :=
  retOut X hx hret rfl (Or.inl ⟨rfl, Or.inl rfl, z, rfl⟩) hd hl
end New
end Jvm.RoadKit
namespace Jvm.Pilot.@@N@@
open Jvm Jvm.ClassFile Sem Op Lib Jvm.Free Jvm.Stand Jvm.LawKit Jvm.RoadKit Bundle Jvm.Pilot.@@N@@.Jvm.D
theorem ow {d : Jvm.Cond} (i : Nat) (h : tables_1[i]? = some d) : d ∈ tables_1 := List.mem_of_getElem? h
/-- what a body that only reads leaves: its answer, nothing written, the heap as it was -/
def own_Q (r : Option Value) (h0 : Heap) (n0 : Nat) (v : Option Value) (h : Heap) (L : List Loc) : Prop := v = r ∧ Fr n0 L ∧ h = h0
section OwnWords
variable {args : Array Value} {first s : State} {o : Option Outcome} {idx : List Nat} {a b : Term}
theorem own_eqI {k : Int32} (h : (Jvm.Cond.eq a (.int k)).value args first o s idx = some true) : a.eval args first o idx s = some (.int k) := by
  obtain ⟨x, y, hx, hy, k1, -⟩ := cmp_v (r := true) (Or.inl h)
  have hy' : y = .int k := (Option.some.inj hy).symm
  subst hy'
  cases x <;> simp [Kin, Value.isRef] at k1
  simp [Jvm.Cond.value, hx, Term.eval] at h
  rw [hx, h]
theorem own_eqR {y : Addr} (h : (Jvm.Cond.eq a b).value args first o s idx = some true) (hb : b.eval args first o idx s = some (.ref y)) : a.eval args first o idx s = some (.ref y) := by
  obtain ⟨x, z, hx, hy, k1, -⟩ := cmp_v (r := true) (Or.inl h)
  cases hb.symm.trans hy
  cases x <;> simp [Kin, Value.isRef] at k1
  · simp [Jvm.Cond.value, hx, hb] at h
  · simp [Jvm.Cond.value, hx, hb] at h
    rw [hx, h]
theorem own_len {y : Addr} {c : Cell} {n : Int32} (h : (Term.length a).eval args first o idx s = some (.int n)) (ht : a.eval args first o idx s = some (.ref y)) (hc : s.heap[y]? = some c) : (c.slots.size : Int) = n.toInt := by
  simp only [Term.eval, Option.bind_eq_bind, ht, Option.bind_some] at h
  obtain ⟨cell, hcell, h⟩ := Option.bind_eq_some_iff.mp h
  cases hc.symm.trans (State.arrayAt?_spec hcell).1
  by_cases hn : c.slots.size < 2147483648
  · rw [if_pos hn] at h; cases h; exact (len_toInt hn).symm
  · rw [if_neg hn] at h; cases h
end OwnWords
/-- an array that stands in the heap, with all that lies in it -/
def own_Arr (Z : State) (h : Heap) (a : Addr) (ty : FieldType) (vs : List Value) : Prop := ∃ c : Cell, Arr Z h a c ty ∧ c.slots = vs.toArray
/-- what a law leaves that makes arrays of its own -/
def own_QH (r : Option Value) (n0 : Nat) (v : Option Value) (h : Heap) (L : List Loc) : Prop := v = r ∧ Fr n0 L ∧ True
/-- the same of an array whose class is known -/
def own_ArrK (Z : State) (h : Heap) (a : Addr) (k : ClassId) (ty : FieldType) (vs : List Value) : Prop := ∃ c : Cell, Arr Z h a c ty ∧ c.cls = k ∧ c.slots = vs.toArray
section OwnArr
variable {Z : State} {h0 h h' : Heap} {a b : Addr} {k : ClassId} {ty : FieldType} {vs : List Value} {v : Value} {sl : Nat} {c : Cell}
theorem own_Arr.ext (F : own_Arr Z h a ty vs) (E : Ext h h') : own_Arr Z h' a ty vs := by obtain ⟨c, A, r⟩ := F; exact ⟨c, A.ext E, r⟩
theorem own_ArrK.lt (F : own_ArrK Z h a k ty vs) : a < h.size := by obtain ⟨c, A, -⟩ := F; exact A.lt
theorem own_ArrK.ext (F : own_ArrK Z h a k ty vs) (E : Ext h h') : own_ArrK Z h' a k ty vs := by obtain ⟨c, A, r⟩ := F; exact ⟨c, A.ext E, r⟩
theorem own_ArrK.other (F : own_ArrK Z h b k ty vs) (W : Wr h h' a sl v) (q : b ≠ a) : own_ArrK Z h' b k ty vs := by obtain ⟨c, A, r⟩ := F; exact ⟨c, A.other W q, r⟩
theorem own_set (W : Wr h h' a sl v) (A : Arr Z h a c ty) (q : c.cls = k) (e : c.slots = vs.toArray) : own_ArrK Z h' a k ty (vs.set sl v) := ⟨_, A.same W, q, by simp [Cell.setSlot, e]⟩
theorem own_get {j : Int32} (e : c.slots = vs.toArray) (hj : ¬ j < 0) (q : vs[j.toNatClampNeg]? = some v) : (¬ (j < 0 ∨ c.slots.size ≤ j.toNatClampNeg)) ∧ c.slots[j.toNatClampNeg]? = some v := by
  have hl := (List.getElem?_eq_some_iff.mp q).1
  rw [e]
  refine ⟨?_, by simpa using q⟩
  rintro (h | h)
  · exact hj h
  · simp at h; omega
theorem own_ext_trans {h'' : Heap} (E : Ext h h') (E' : Ext h' h'') : Ext h h'' := ⟨Nat.le_trans E.1 E'.1, fun x y q => E'.2 x y (E.2 x y q)⟩
theorem own_ext_wr (E : Ext h0 h) (W : Wr h h' a sl v) (q : h0.size ≤ a) : Ext h0 h' := by
  refine ⟨Nat.le_trans E.1 (Nat.le_of_eq W.size.symm), fun x y hx => ?_⟩
  have hlt := (Array.getElem?_eq_some_iff.mp hx).1
  obtain ⟨c', e1, -, -, -, e5, -⟩ := wr_at W (E.2 x y hx)
  rw [← e5 (Nat.ne_of_lt (Nat.lt_of_lt_of_le hlt q))]; exact e1
theorem own_ext_keep (E : Ext h0 h) (K : Keep h h' [a]) (q : h0.size ≤ a) : Ext h0 h' := ⟨Nat.le_trans E.1 K.1, fun x y hx => K.2.1 x y (E.2 x y hx) (ninS (Nat.ne_of_lt (Nat.lt_of_lt_of_le (Array.getElem?_eq_some_iff.mp hx).1 q)) nin0)⟩
end OwnArr
def own_K (Z : State) (h : Heap) (w_REENTRANT w_READ w_FAIR w_WRITE : Addr) : Prop := Sta Z h "com/example/shu/shu/model/LockType" "REENTRANT" "Lcom/example/shu/shu/model/LockType;" (.ref w_REENTRANT) ∧ Exa Z h w_REENTRANT "com/example/shu/shu/model/LockType" ∧ Sta Z h "com/example/shu/shu/model/LockType" "READ" "Lcom/example/shu/shu/model/LockType;" (.ref w_READ) ∧ Exa Z h w_READ "com/example/shu/shu/model/LockType" ∧ Fld Z h w_REENTRANT "java/lang/Enum" "ordinal" "I" (.int (0 : Int32)) ∧ Fld Z h w_READ "java/lang/Enum" "ordinal" "I" (.int (2 : Int32)) ∧ Sta Z h "com/example/shu/shu/model/LockType" "FAIR" "Lcom/example/shu/shu/model/LockType;" (.ref w_FAIR) ∧ Exa Z h w_FAIR "com/example/shu/shu/model/LockType" ∧ Fld Z h w_FAIR "java/lang/Enum" "ordinal" "I" (.int (1 : Int32)) ∧ Sta Z h "com/example/shu/shu/model/LockType" "WRITE" "Lcom/example/shu/shu/model/LockType;" (.ref w_WRITE) ∧ Exa Z h w_WRITE "com/example/shu/shu/model/LockType" ∧ Fld Z h w_WRITE "java/lang/Enum" "ordinal" "I" (.int (3 : Int32))
theorem d_method_2_0 : decode method_2_code 0 = .ok (.iload_n 0, 1) := by decide +kernel
theorem d_method_2_1 : decode method_2_code 1 = .ok (.ifCond .ne 7, 3) := by decide +kernel
theorem d_method_2_4 : decode method_2_code 4 = .ok (.getstatic 7, 3) := by decide +kernel
theorem d_method_2_7 : decode method_2_code 7 = .ok (.areturn, 1) := by decide +kernel
theorem d_method_2_8 : decode method_2_code 8 = .ok (.iload_n 0, 1) := by decide +kernel
theorem d_method_2_9 : decode method_2_code 9 = .ok (.iconst 1, 1) := by decide +kernel
theorem d_method_2_10 : decode method_2_code 10 = .ok (.if_icmp .ne 7, 3) := by decide +kernel
theorem d_method_2_13 : decode method_2_code 13 = .ok (.getstatic 13, 3) := by decide +kernel
theorem d_method_2_16 : decode method_2_code 16 = .ok (.areturn, 1) := by decide +kernel
theorem d_method_2_17 : decode method_2_code 17 = .ok (.iload_n 0, 1) := by decide +kernel
theorem d_method_2_18 : decode method_2_code 18 = .ok (.iconst 2, 1) := by decide +kernel
theorem d_method_2_19 : decode method_2_code 19 = .ok (.if_icmp .ne 7, 3) := by decide +kernel
theorem d_method_2_22 : decode method_2_code 22 = .ok (.getstatic 16, 3) := by decide +kernel
theorem d_method_2_25 : decode method_2_code 25 = .ok (.areturn, 1) := by decide +kernel
theorem d_method_2_26 : decode method_2_code 26 = .ok (.getstatic 19, 3) := by decide +kernel
theorem d_method_2_29 : decode method_2_code 29 = .ok (.areturn, 1) := by decide +kernel
theorem pn_0 : plainName "com/example/shu/shu/model/LockTypeMayKeepReleasesPinLaw" = true := by first | (simp [plainName, overriddenIn]; done) | decide +kernel
theorem ef_pick (m : MethodId) (x0 : Int32) : entryFrame m #[(.int x0)] 1 = mkF m 0 #[.val (.int x0)] [] := by first | (simp [entryFrame, mkF, argsToLocals, Value.category]; done) | rfl
set_option maxRecDepth 65536 in
set_option maxHeartbeats 40000000 in
theorem rm_pick (l : Launch) (Z : State) (a0 : Array Value) (hw : ∀ d ∈ tables_1, d.before a0 Z = true) (ws : List Jvm.Cond) (p0 : Int32) (h0 : Heap) (n0 : Nat) (w_REENTRANT w_READ w_FAIR w_WRITE : Addr) (hK : own_K Z h0 w_REENTRANT w_READ w_FAIR w_WRITE) :
    MetFree l (⟨"com/example/shu/shu/model/LockTypeMayKeepReleasesPinLaw", "pick", "(I)Lcom/example/shu/shu/model/LockType;"⟩ : MethodName) (head1 (Jvm.Cond.code (⟨"com/example/shu/shu/model/LockTypeMayKeepReleasesPinLaw", "pick", "(I)Lcom/example/shu/shu/model/LockType;"⟩ : MethodName) method_2_code 1 (some (.object "com/example/shu/shu/model/LockType")) :: ws) ({ frames := 0, cells := 0, slots := 0, locals := 0 } : Room)) (fun a U => a = #[(.int p0)] ∧ Z.Warmed39 U.vm ∧ U.heap = h0) (fun _ _ _ _ _ => True) (fun _ U o U' => ∃ v L, o = .returned v ∧ own_Q (some (.ref (if p0 = (0 : Int32) then w_REENTRANT else (if p0 = (1 : Int32) then w_FAIR else (if p0 = (2 : Int32) then w_READ else w_WRITE))))) h0 n0 v U'.heap L ∧ FrameEnd U o U' L ({ frames := 0, cells := 0, slots := 0, locals := 0 } : Room).cells ({ frames := 0, cells := 0, slots := 0, locals := 0 } : Room).slots) := by
  refine MetFree.of_bodySF (plainFor_of_name pn_0) hisR ?_
  intro p e s m args below meth c s₁ Bd hml0 hP hK0
  obtain ⟨rfl, hZ, hh⟩ := hP
  have hx := Bd.exec
  have hby := Bd.bytes
  have hml : c.maxLocals = 1 := hml0
  have hown : s.vm.findClass "com/example/shu/shu/model/LockTypeMayKeepReleasesPinLaw" = some m.cls := findClass_of_methodNamed Bd.named
  have hnm := (name_of_methodNamed Bd.named Bd.method).1
  have X0 : Stand p l e ({ frames := 0, cells := 0, slots := 0, locals := 0 } : Room) s m #[(.int p0)] below meth c s₁ [] 0 0 := Stand.of_body Bd
  have e0 : s₁.heap = h0 := by rw [← hh, Bd.state]; rfl
  have N0 := Fr.nil n0
  have pre0 : ∀ t, Steps p.tables e below (s₁.setTop (mkF m 0 #[.val (.int p0)] [])) t → Steps p.tables e below (s₁.setTop (entryFrame m #[(.int p0)] 1)) t := fun t k => castTop (ef_pick m p0) k
  have hK' := hK
  obtain ⟨S_w_REENTRANT, E_w_REENTRANT, S_w_READ, E_w_READ, F_ordinal_w_REENTRANT, F_ordinal_w_READ, S_w_FAIR, E_w_FAIR, F_ordinal_w_FAIR, S_w_WRITE, E_w_WRITE, F_ordinal_w_WRITE⟩ := hK'
  have pre2 : ∀ t, Steps p.tables e below (s₁.setTop (mkF m 1 #[.val (.int p0)] [(.int p0)])) t → Steps p.tables e below (s₁.setTop (entryFrame m #[(.int p0)] 1)) t := fun t k => pre0 t (by
    show Steps p.tables e below (s₁.setTop (mkF m 0 #[.val (.int p0)] [])) _
    refine XS.iloadN X0.here hx rfl (hb hby d_method_2_0) rfl ?_
    exact k)
  by_cases hc1_1 : p0 = (0 : Int32)
  · obtain ⟨T3, X3, e3, st3⟩ := getS2 X0 hx hZ hown (host := "") (Or.inl (hw _ (ow 4 rfl))) Via.refl e0 S_w_REENTRANT (g := (mkF m 4 #[.val (.int p0)] [])) rfl (hb hby d_method_2_4)
    have pre4 : ∀ t, Steps p.tables e below (T3.setTop (mkF m 7 #[.val (.int p0)] [(.ref w_REENTRANT)])) t → Steps p.tables e below (s₁.setTop (entryFrame m #[(.int p0)] 1)) t := fun t k => pre2 t (by
      show Steps p.tables e below (s₁.setTop (mkF m 1 #[.val (.int p0)] [(.int p0)])) _
      refine XS.ifNo X0.here hx rfl (hb hby d_method_2_1) rfl ((if0 _ _).trans (teq hc1_1).2) ?_
      show Steps p.tables e below (s₁.setTop (mkF m 4 #[.val (.int p0)] [])) _
      refine st3 _ ?_
      exact k)
    obtain ⟨fs, hr, hrun, hended, hW, hsame⟩ := X3.leave (v := some (.ref w_REENTRANT)) (fun h => by rw [Bd.returns] at h; cases h)
    refine ⟨_, _, pre4 _ ?_, hrun, hended, _, _, rfl, ?_, ⟨_, rfl⟩, hW, hsame.mono (by decide) (by decide)⟩
    · show Steps p.tables e below (T3.setTop (mkF m 7 #[.val (.int p0)] [(.ref w_REENTRANT)])) _
      exact retOut X3 hx Bd.returns rfl (Or.inr (Or.inr (Or.inr (Or.inr ⟨rfl, rfl, rfl⟩)))) (hb hby d_method_2_7) hr
    · exact ⟨congrArg (fun z => some (Value.ref z)) (Eq.symm (if_pos hc1_1)), N0, e3⟩
  · have pre6 : ∀ t, Steps p.tables e below (s₁.setTop (mkF m 10 #[.val (.int p0)] [(.int (1 : Int32)), (.int p0)])) t → Steps p.tables e below (s₁.setTop (entryFrame m #[(.int p0)] 1)) t := fun t k => pre2 t (by
      show Steps p.tables e below (s₁.setTop (mkF m 1 #[.val (.int p0)] [(.int p0)])) _
      refine XS.ifYes X0.here hx rfl (pc0 := 1) (pc' := 8) rfl (hb hby d_method_2_1) rfl ((if0 _ _).trans (feq hc1_1).2) (by decide) (by decide) ?_
      show Steps p.tables e below (s₁.setTop (mkF m 8 #[.val (.int p0)] [])) _
      refine XS.iloadN X0.here hx rfl (hb hby d_method_2_8) rfl ?_
      show Steps p.tables e below (s₁.setTop (mkF m 9 #[.val (.int p0)] [(.int p0)])) _
      refine XS.iconst X0.here hx rfl (hb hby d_method_2_9) ?_
      exact k)
    by_cases hc10_5 : p0 = (1 : Int32)
    · obtain ⟨T7, X7, e7, st7⟩ := getS2 X0 hx hZ hown (host := "") (Or.inl (hw _ (ow 30 rfl))) Via.refl e0 S_w_FAIR (g := (mkF m 13 #[.val (.int p0)] [])) rfl (hb hby d_method_2_13)
      have pre8 : ∀ t, Steps p.tables e below (T7.setTop (mkF m 16 #[.val (.int p0)] [(.ref w_FAIR)])) t → Steps p.tables e below (s₁.setTop (entryFrame m #[(.int p0)] 1)) t := fun t k => pre6 t (by
        show Steps p.tables e below (s₁.setTop (mkF m 10 #[.val (.int p0)] [(.int (1 : Int32)), (.int p0)])) _
        refine XS.icmpNo X0.here hx rfl (hb hby d_method_2_10) rfl (teq hc10_5).2 ?_
        show Steps p.tables e below (s₁.setTop (mkF m 13 #[.val (.int p0)] [])) _
        refine st7 _ ?_
        exact k)
      obtain ⟨fs, hr, hrun, hended, hW, hsame⟩ := X7.leave (v := some (.ref w_FAIR)) (fun h => by rw [Bd.returns] at h; cases h)
      refine ⟨_, _, pre8 _ ?_, hrun, hended, _, _, rfl, ?_, ⟨_, rfl⟩, hW, hsame.mono (by decide) (by decide)⟩
      · show Steps p.tables e below (T7.setTop (mkF m 16 #[.val (.int p0)] [(.ref w_FAIR)])) _
        exact retOut X7 hx Bd.returns rfl (Or.inr (Or.inr (Or.inr (Or.inr ⟨rfl, rfl, rfl⟩)))) (hb hby d_method_2_16) hr
      · exact ⟨congrArg (fun z => some (Value.ref z)) (Eq.symm ((if_neg hc1_1).trans (if_pos hc10_5))), N0, e7⟩
    · have pre10 : ∀ t, Steps p.tables e below (s₁.setTop (mkF m 19 #[.val (.int p0)] [(.int (2 : Int32)), (.int p0)])) t → Steps p.tables e below (s₁.setTop (entryFrame m #[(.int p0)] 1)) t := fun t k => pre6 t (by
        show Steps p.tables e below (s₁.setTop (mkF m 10 #[.val (.int p0)] [(.int (1 : Int32)), (.int p0)])) _
        refine XS.icmpYes X0.here hx rfl (pc0 := 10) (pc' := 17) rfl (hb hby d_method_2_10) rfl (feq hc10_5).2 (by decide) (by decide) ?_
        show Steps p.tables e below (s₁.setTop (mkF m 17 #[.val (.int p0)] [])) _
        refine XS.iloadN X0.here hx rfl (hb hby d_method_2_17) rfl ?_
        show Steps p.tables e below (s₁.setTop (mkF m 18 #[.val (.int p0)] [(.int p0)])) _
        refine XS.iconst X0.here hx rfl (hb hby d_method_2_18) ?_
        exact k)
      by_cases hc19_9 : p0 = (2 : Int32)
      · obtain ⟨T11, X11, e11, st11⟩ := getS2 X0 hx hZ hown (host := "") (Or.inl (hw _ (ow 29 rfl))) Via.refl e0 S_w_READ (g := (mkF m 22 #[.val (.int p0)] [])) rfl (hb hby d_method_2_22)
        have pre12 : ∀ t, Steps p.tables e below (T11.setTop (mkF m 25 #[.val (.int p0)] [(.ref w_READ)])) t → Steps p.tables e below (s₁.setTop (entryFrame m #[(.int p0)] 1)) t := fun t k => pre10 t (by
          show Steps p.tables e below (s₁.setTop (mkF m 19 #[.val (.int p0)] [(.int (2 : Int32)), (.int p0)])) _
          refine XS.icmpNo X0.here hx rfl (hb hby d_method_2_19) rfl (teq hc19_9).2 ?_
          show Steps p.tables e below (s₁.setTop (mkF m 22 #[.val (.int p0)] [])) _
          refine st11 _ ?_
          exact k)
        obtain ⟨fs, hr, hrun, hended, hW, hsame⟩ := X11.leave (v := some (.ref w_READ)) (fun h => by rw [Bd.returns] at h; cases h)
        refine ⟨_, _, pre12 _ ?_, hrun, hended, _, _, rfl, ?_, ⟨_, rfl⟩, hW, hsame.mono (by decide) (by decide)⟩
        · show Steps p.tables e below (T11.setTop (mkF m 25 #[.val (.int p0)] [(.ref w_READ)])) _
          exact retOut X11 hx Bd.returns rfl (Or.inr (Or.inr (Or.inr (Or.inr ⟨rfl, rfl, rfl⟩)))) (hb hby d_method_2_25) hr
        · exact ⟨congrArg (fun z => some (Value.ref z)) (Eq.symm ((if_neg hc1_1).trans ((if_neg hc10_5).trans (if_pos hc19_9)))), N0, e11⟩
      · obtain ⟨T13, X13, e13, st13⟩ := getS2 X0 hx hZ hown (host := "") (Or.inl (hw _ (ow 27 rfl))) Via.refl e0 S_w_WRITE (g := (mkF m 26 #[.val (.int p0)] [])) rfl (hb hby d_method_2_26)
        have pre14 : ∀ t, Steps p.tables e below (T13.setTop (mkF m 29 #[.val (.int p0)] [(.ref w_WRITE)])) t → Steps p.tables e below (s₁.setTop (entryFrame m #[(.int p0)] 1)) t := fun t k => pre10 t (by
          show Steps p.tables e below (s₁.setTop (mkF m 19 #[.val (.int p0)] [(.int (2 : Int32)), (.int p0)])) _
          refine XS.icmpYes X0.here hx rfl (pc0 := 19) (pc' := 26) rfl (hb hby d_method_2_19) rfl (feq hc19_9).2 (by decide) (by decide) ?_
          show Steps p.tables e below (s₁.setTop (mkF m 26 #[.val (.int p0)] [])) _
          refine st13 _ ?_
          exact k)
        obtain ⟨fs, hr, hrun, hended, hW, hsame⟩ := X13.leave (v := some (.ref w_WRITE)) (fun h => by rw [Bd.returns] at h; cases h)
        refine ⟨_, _, pre14 _ ?_, hrun, hended, _, _, rfl, ?_, ⟨_, rfl⟩, hW, hsame.mono (by decide) (by decide)⟩
        · show Steps p.tables e below (T13.setTop (mkF m 29 #[.val (.int p0)] [(.ref w_WRITE)])) _
          exact retOut X13 hx Bd.returns rfl (Or.inr (Or.inr (Or.inr (Or.inr ⟨rfl, rfl, rfl⟩)))) (hb hby d_method_2_29) hr
        · exact ⟨congrArg (fun z => some (Value.ref z)) (Eq.symm ((if_neg hc1_1).trans ((if_neg hc10_5).trans (if_neg hc19_9)))), N0, e13⟩
theorem d_prog_19_method_8_0 : decode prog_19_method_8_code 0 = .ok (.aload_n 0, 1) := by decide +kernel
theorem d_prog_19_method_8_1 : decode prog_19_method_8_code 1 = .ok (.getstatic 3, 3) := by decide +kernel
theorem d_prog_19_method_8_4 : decode prog_19_method_8_code 4 = .ok (.if_acmp .ne 7, 3) := by decide +kernel
theorem d_prog_19_method_8_7 : decode prog_19_method_8_code 7 = .ok (.iconst 1, 1) := by decide +kernel
theorem d_prog_19_method_8_8 : decode prog_19_method_8_code 8 = .ok (.goto 4, 3) := by decide +kernel
theorem d_prog_19_method_8_12 : decode prog_19_method_8_code 12 = .ok (.ireturn, 1) := by decide +kernel
theorem d_prog_19_method_8_11 : decode prog_19_method_8_code 11 = .ok (.iconst 0, 1) := by decide +kernel
theorem pn_1 : plainName "com/example/shu/shu/model/LockType" = true := by first | (simp [plainName, overriddenIn]; done) | decide +kernel
theorem ef_mayKeepReleases (m : MethodId) (x0 : Addr) : entryFrame m #[(.ref x0)] 1 = mkF m 0 #[.val (.ref x0)] [] := by first | (simp [entryFrame, mkF, argsToLocals, Value.category]; done) | rfl
set_option maxRecDepth 65536 in
set_option maxHeartbeats 40000000 in
theorem rm_mayKeepReleases (l : Launch) (Z : State) (a0 : Array Value) (hw : ∀ d ∈ tables_1, d.before a0 Z = true) (ws : List Jvm.Cond) (a1 : Addr) (h0 : Heap) (n0 : Nat) (w_REENTRANT w_READ w_FAIR w_WRITE : Addr) (hK : own_K Z h0 w_REENTRANT w_READ w_FAIR w_WRITE) :
    MetFree l (⟨"com/example/shu/shu/model/LockType", "mayKeepReleases", "()Z"⟩ : MethodName) (head1 (Jvm.Cond.code (⟨"com/example/shu/shu/model/LockType", "mayKeepReleases", "()Z"⟩ : MethodName) prog_19_method_8_code 1 (some .boolean) :: ws) ({ frames := 0, cells := 0, slots := 0, locals := 0 } : Room)) (fun a U => a = #[(.ref a1)] ∧ Z.Warmed39 U.vm ∧ U.heap = h0) (fun _ _ _ _ _ => True) (fun _ U o U' => ∃ v L, o = .returned v ∧ own_Q (some (.int (if a1 = w_REENTRANT then (1 : Int32) else (0 : Int32)))) h0 n0 v U'.heap L ∧ FrameEnd U o U' L ({ frames := 0, cells := 0, slots := 0, locals := 0 } : Room).cells ({ frames := 0, cells := 0, slots := 0, locals := 0 } : Room).slots) := by
  refine MetFree.of_bodySF (plainFor_of_name pn_1) hisR ?_
  intro p e s m args below meth c s₁ Bd hml0 hP hK0
  obtain ⟨rfl, hZ, hh⟩ := hP
  have hx := Bd.exec
  have hby := Bd.bytes
  have hml : c.maxLocals = 1 := hml0
  have hown : s.vm.findClass "com/example/shu/shu/model/LockType" = some m.cls := findClass_of_methodNamed Bd.named
  have hnm := (name_of_methodNamed Bd.named Bd.method).1
  have X0 : Stand p l e ({ frames := 0, cells := 0, slots := 0, locals := 0 } : Room) s m #[(.ref a1)] below meth c s₁ [] 0 0 := Stand.of_body Bd
  have e0 : s₁.heap = h0 := by rw [← hh, Bd.state]; rfl
  have N0 := Fr.nil n0
  have pre0 : ∀ t, Steps p.tables e below (s₁.setTop (mkF m 0 #[.val (.ref a1)] [])) t → Steps p.tables e below (s₁.setTop (entryFrame m #[(.ref a1)] 1)) t := fun t k => castTop (ef_mayKeepReleases m a1) k
  have hK' := hK
  obtain ⟨S_w_REENTRANT, E_w_REENTRANT, S_w_READ, E_w_READ, F_ordinal_w_REENTRANT, F_ordinal_w_READ, S_w_FAIR, E_w_FAIR, F_ordinal_w_FAIR, S_w_WRITE, E_w_WRITE, F_ordinal_w_WRITE⟩ := hK'
  obtain ⟨T1, X1, e1, st1⟩ := getS2 X0 hx hZ hown (host := "") (Or.inl (hw _ (ow 12 rfl))) Via.refl e0 S_w_REENTRANT (g := (mkF m 1 #[.val (.ref a1)] [(.ref a1)])) rfl (hb hby d_prog_19_method_8_1)
  have pre3 : ∀ t, Steps p.tables e below (T1.setTop (mkF m 4 #[.val (.ref a1)] [(.ref w_REENTRANT), (.ref a1)])) t → Steps p.tables e below (s₁.setTop (entryFrame m #[(.ref a1)] 1)) t := fun t k => pre0 t (by
    show Steps p.tables e below (s₁.setTop (mkF m 0 #[.val (.ref a1)] [])) _
    refine XS.aloadN X0.here hx rfl (hb hby d_prog_19_method_8_0) rfl rfl ?_
    show Steps p.tables e below (s₁.setTop (mkF m 1 #[.val (.ref a1)] [(.ref a1)])) _
    refine st1 _ ?_
    exact k)
  by_cases hc4_2 : a1 = w_REENTRANT
  · have pre4 : ∀ t, Steps p.tables e below (T1.setTop (mkF m 12 #[.val (.ref a1)] [(.int (1 : Int32))])) t → Steps p.tables e below (s₁.setTop (entryFrame m #[(.ref a1)] 1)) t := fun t k => pre3 t (by
      show Steps p.tables e below (T1.setTop (mkF m 4 #[.val (.ref a1)] [(.ref w_REENTRANT), (.ref a1)])) _
      refine Jvm.RoadKit.acmp (g := (mkF m 4 #[.val (.ref a1)] [(.ref w_REENTRANT), (.ref a1)])) X1 hx rfl rfl rfl (pc0 := 4) (pc' := 7) (same := true) rfl (hb hby d_prog_19_method_8_4) rfl (decide_eq_true (congrArg Value.ref hc4_2)) (by decide) (by decide) ?_
      show Steps p.tables e below (T1.setTop (mkF m 7 #[.val (.ref a1)] [])) _
      refine XS.iconst X1.here hx rfl (hb hby d_prog_19_method_8_7) ?_
      show Steps p.tables e below (T1.setTop (mkF m 8 #[.val (.ref a1)] [(.int (1 : Int32))])) _
      refine XS.goto X1.here hx rfl (pc0 := 8) (pc' := 12) rfl (hb hby d_prog_19_method_8_8) (by decide) (by decide) ?_
      exact k)
    obtain ⟨fs, hr, hrun, hended, hW, hsame⟩ := X1.leave (v := some (.int (1 : Int32))) (fun h => by rw [Bd.returns] at h; cases h)
    refine ⟨_, _, pre4 _ ?_, hrun, hended, _, _, rfl, ?_, ⟨_, rfl⟩, hW, hsame.mono (by decide) (by decide)⟩
    · show Steps p.tables e below (T1.setTop (mkF m 12 #[.val (.ref a1)] [(.int (1 : Int32))])) _
      exact retN X1 hx (t := .boolean) Bd.returns (by simp) (hb hby d_prog_19_method_8_12) hr
    · exact ⟨congrArg (fun z => some (Value.int z)) (Eq.symm (if_pos hc4_2)), N0, e1⟩
  · have pre5 : ∀ t, Steps p.tables e below (T1.setTop (mkF m 12 #[.val (.ref a1)] [(.int (0 : Int32))])) t → Steps p.tables e below (s₁.setTop (entryFrame m #[(.ref a1)] 1)) t := fun t k => pre3 t (by
      show Steps p.tables e below (T1.setTop (mkF m 4 #[.val (.ref a1)] [(.ref w_REENTRANT), (.ref a1)])) _
      refine Jvm.RoadKit.acmp (g := (mkF m 4 #[.val (.ref a1)] [(.ref w_REENTRANT), (.ref a1)])) X1 hx rfl rfl rfl (pc0 := 4) (pc' := 11) (same := false) rfl (hb hby d_prog_19_method_8_4) rfl (decide_eq_false fun q => hc4_2 (Value.ref.inj q)) (by decide) (by decide) ?_
      show Steps p.tables e below (T1.setTop (mkF m 11 #[.val (.ref a1)] [])) _
      refine XS.iconst X1.here hx rfl (hb hby d_prog_19_method_8_11) ?_
      exact k)
    obtain ⟨fs, hr, hrun, hended, hW, hsame⟩ := X1.leave (v := some (.int (0 : Int32))) (fun h => by rw [Bd.returns] at h; cases h)
    refine ⟨_, _, pre5 _ ?_, hrun, hended, _, _, rfl, ?_, ⟨_, rfl⟩, hW, hsame.mono (by decide) (by decide)⟩
    · show Steps p.tables e below (T1.setTop (mkF m 12 #[.val (.ref a1)] [(.int (0 : Int32))])) _
      exact retN X1 hx (t := .boolean) Bd.returns (by simp) (hb hby d_prog_19_method_8_12) hr
    · exact ⟨congrArg (fun z => some (Value.int z)) (Eq.symm (if_neg hc4_2)), N0, e1⟩
theorem d_prog_19_method_5_0 : decode prog_19_method_5_code 0 = .ok (.aload_n 0, 1) := by decide +kernel
theorem d_prog_19_method_5_1 : decode prog_19_method_5_code 1 = .ok (.getstatic 10, 3) := by decide +kernel
theorem d_prog_19_method_5_4 : decode prog_19_method_5_code 4 = .ok (.if_acmp .ne 7, 3) := by decide +kernel
theorem d_prog_19_method_5_7 : decode prog_19_method_5_code 7 = .ok (.iconst 1, 1) := by decide +kernel
theorem d_prog_19_method_5_8 : decode prog_19_method_5_code 8 = .ok (.goto 4, 3) := by decide +kernel
theorem d_prog_19_method_5_12 : decode prog_19_method_5_code 12 = .ok (.ireturn, 1) := by decide +kernel
theorem d_prog_19_method_5_11 : decode prog_19_method_5_code 11 = .ok (.iconst 0, 1) := by decide +kernel
theorem ef_isShared (m : MethodId) (x0 : Addr) : entryFrame m #[(.ref x0)] 1 = mkF m 0 #[.val (.ref x0)] [] := by first | (simp [entryFrame, mkF, argsToLocals, Value.category]; done) | rfl
set_option maxRecDepth 65536 in
set_option maxHeartbeats 40000000 in
theorem rm_isShared (l : Launch) (Z : State) (a0 : Array Value) (hw : ∀ d ∈ tables_1, d.before a0 Z = true) (ws : List Jvm.Cond) (a1 : Addr) (h0 : Heap) (n0 : Nat) (w_REENTRANT w_READ w_FAIR w_WRITE : Addr) (hK : own_K Z h0 w_REENTRANT w_READ w_FAIR w_WRITE) :
    MetFree l (⟨"com/example/shu/shu/model/LockType", "isShared", "()Z"⟩ : MethodName) (head1 (Jvm.Cond.code (⟨"com/example/shu/shu/model/LockType", "isShared", "()Z"⟩ : MethodName) prog_19_method_5_code 1 (some .boolean) :: ws) ({ frames := 0, cells := 0, slots := 0, locals := 0 } : Room)) (fun a U => a = #[(.ref a1)] ∧ Z.Warmed39 U.vm ∧ U.heap = h0) (fun _ _ _ _ _ => True) (fun _ U o U' => ∃ v L, o = .returned v ∧ own_Q (some (.int (if a1 = w_READ then (1 : Int32) else (0 : Int32)))) h0 n0 v U'.heap L ∧ FrameEnd U o U' L ({ frames := 0, cells := 0, slots := 0, locals := 0 } : Room).cells ({ frames := 0, cells := 0, slots := 0, locals := 0 } : Room).slots) := by
  refine MetFree.of_bodySF (plainFor_of_name pn_1) hisR ?_
  intro p e s m args below meth c s₁ Bd hml0 hP hK0
  obtain ⟨rfl, hZ, hh⟩ := hP
  have hx := Bd.exec
  have hby := Bd.bytes
  have hml : c.maxLocals = 1 := hml0
  have hown : s.vm.findClass "com/example/shu/shu/model/LockType" = some m.cls := findClass_of_methodNamed Bd.named
  have hnm := (name_of_methodNamed Bd.named Bd.method).1
  have X0 : Stand p l e ({ frames := 0, cells := 0, slots := 0, locals := 0 } : Room) s m #[(.ref a1)] below meth c s₁ [] 0 0 := Stand.of_body Bd
  have e0 : s₁.heap = h0 := by rw [← hh, Bd.state]; rfl
  have N0 := Fr.nil n0
  have pre0 : ∀ t, Steps p.tables e below (s₁.setTop (mkF m 0 #[.val (.ref a1)] [])) t → Steps p.tables e below (s₁.setTop (entryFrame m #[(.ref a1)] 1)) t := fun t k => castTop (ef_isShared m a1) k
  have hK' := hK
  obtain ⟨S_w_REENTRANT, E_w_REENTRANT, S_w_READ, E_w_READ, F_ordinal_w_REENTRANT, F_ordinal_w_READ, S_w_FAIR, E_w_FAIR, F_ordinal_w_FAIR, S_w_WRITE, E_w_WRITE, F_ordinal_w_WRITE⟩ := hK'
  obtain ⟨T1, X1, e1, st1⟩ := getS2 X0 hx hZ hown (host := "") (Or.inl (hw _ (ow 18 rfl))) Via.refl e0 S_w_READ (g := (mkF m 1 #[.val (.ref a1)] [(.ref a1)])) rfl (hb hby d_prog_19_method_5_1)
  have pre3 : ∀ t, Steps p.tables e below (T1.setTop (mkF m 4 #[.val (.ref a1)] [(.ref w_READ), (.ref a1)])) t → Steps p.tables e below (s₁.setTop (entryFrame m #[(.ref a1)] 1)) t := fun t k => pre0 t (by
    show Steps p.tables e below (s₁.setTop (mkF m 0 #[.val (.ref a1)] [])) _
    refine XS.aloadN X0.here hx rfl (hb hby d_prog_19_method_5_0) rfl rfl ?_
    show Steps p.tables e below (s₁.setTop (mkF m 1 #[.val (.ref a1)] [(.ref a1)])) _
    refine st1 _ ?_
    exact k)
  by_cases hc4_2 : a1 = w_READ
  · have pre4 : ∀ t, Steps p.tables e below (T1.setTop (mkF m 12 #[.val (.ref a1)] [(.int (1 : Int32))])) t → Steps p.tables e below (s₁.setTop (entryFrame m #[(.ref a1)] 1)) t := fun t k => pre3 t (by
      show Steps p.tables e below (T1.setTop (mkF m 4 #[.val (.ref a1)] [(.ref w_READ), (.ref a1)])) _
      refine Jvm.RoadKit.acmp (g := (mkF m 4 #[.val (.ref a1)] [(.ref w_READ), (.ref a1)])) X1 hx rfl rfl rfl (pc0 := 4) (pc' := 7) (same := true) rfl (hb hby d_prog_19_method_5_4) rfl (decide_eq_true (congrArg Value.ref hc4_2)) (by decide) (by decide) ?_
      show Steps p.tables e below (T1.setTop (mkF m 7 #[.val (.ref a1)] [])) _
      refine XS.iconst X1.here hx rfl (hb hby d_prog_19_method_5_7) ?_
      show Steps p.tables e below (T1.setTop (mkF m 8 #[.val (.ref a1)] [(.int (1 : Int32))])) _
      refine XS.goto X1.here hx rfl (pc0 := 8) (pc' := 12) rfl (hb hby d_prog_19_method_5_8) (by decide) (by decide) ?_
      exact k)
    obtain ⟨fs, hr, hrun, hended, hW, hsame⟩ := X1.leave (v := some (.int (1 : Int32))) (fun h => by rw [Bd.returns] at h; cases h)
    refine ⟨_, _, pre4 _ ?_, hrun, hended, _, _, rfl, ?_, ⟨_, rfl⟩, hW, hsame.mono (by decide) (by decide)⟩
    · show Steps p.tables e below (T1.setTop (mkF m 12 #[.val (.ref a1)] [(.int (1 : Int32))])) _
      exact retN X1 hx (t := .boolean) Bd.returns (by simp) (hb hby d_prog_19_method_5_12) hr
    · exact ⟨congrArg (fun z => some (Value.int z)) (Eq.symm (if_pos hc4_2)), N0, e1⟩
  · have pre5 : ∀ t, Steps p.tables e below (T1.setTop (mkF m 12 #[.val (.ref a1)] [(.int (0 : Int32))])) t → Steps p.tables e below (s₁.setTop (entryFrame m #[(.ref a1)] 1)) t := fun t k => pre3 t (by
      show Steps p.tables e below (T1.setTop (mkF m 4 #[.val (.ref a1)] [(.ref w_READ), (.ref a1)])) _
      refine Jvm.RoadKit.acmp (g := (mkF m 4 #[.val (.ref a1)] [(.ref w_READ), (.ref a1)])) X1 hx rfl rfl rfl (pc0 := 4) (pc' := 11) (same := false) rfl (hb hby d_prog_19_method_5_4) rfl (decide_eq_false fun q => hc4_2 (Value.ref.inj q)) (by decide) (by decide) ?_
      show Steps p.tables e below (T1.setTop (mkF m 11 #[.val (.ref a1)] [])) _
      refine XS.iconst X1.here hx rfl (hb hby d_prog_19_method_5_11) ?_
      exact k)
    obtain ⟨fs, hr, hrun, hended, hW, hsame⟩ := X1.leave (v := some (.int (0 : Int32))) (fun h => by rw [Bd.returns] at h; cases h)
    refine ⟨_, _, pre5 _ ?_, hrun, hended, _, _, rfl, ?_, ⟨_, rfl⟩, hW, hsame.mono (by decide) (by decide)⟩
    · show Steps p.tables e below (T1.setTop (mkF m 12 #[.val (.ref a1)] [(.int (0 : Int32))])) _
      exact retN X1 hx (t := .boolean) Bd.returns (by simp) (hb hby d_prog_19_method_5_12) hr
    · exact ⟨congrArg (fun z => some (Value.int z)) (Eq.symm (if_neg hc4_2)), N0, e1⟩
theorem d_prog_19_method_6_0 : decode prog_19_method_6_code 0 = .ok (.aload_n 0, 1) := by decide +kernel
theorem d_prog_19_method_6_1 : decode prog_19_method_6_code 1 = .ok (.getstatic 7, 3) := by decide +kernel
theorem d_prog_19_method_6_4 : decode prog_19_method_6_code 4 = .ok (.if_acmp .ne 7, 3) := by decide +kernel
theorem d_prog_19_method_6_7 : decode prog_19_method_6_code 7 = .ok (.iconst 1, 1) := by decide +kernel
theorem d_prog_19_method_6_8 : decode prog_19_method_6_code 8 = .ok (.goto 4, 3) := by decide +kernel
theorem d_prog_19_method_6_12 : decode prog_19_method_6_code 12 = .ok (.ireturn, 1) := by decide +kernel
theorem d_prog_19_method_6_11 : decode prog_19_method_6_code 11 = .ok (.iconst 0, 1) := by decide +kernel
theorem ef_isFair (m : MethodId) (x0 : Addr) : entryFrame m #[(.ref x0)] 1 = mkF m 0 #[.val (.ref x0)] [] := by first | (simp [entryFrame, mkF, argsToLocals, Value.category]; done) | rfl
set_option maxRecDepth 65536 in
set_option maxHeartbeats 40000000 in
theorem rm_isFair (l : Launch) (Z : State) (a0 : Array Value) (hw : ∀ d ∈ tables_1, d.before a0 Z = true) (ws : List Jvm.Cond) (a1 : Addr) (h0 : Heap) (n0 : Nat) (w_REENTRANT w_READ w_FAIR w_WRITE : Addr) (hK : own_K Z h0 w_REENTRANT w_READ w_FAIR w_WRITE) :
    MetFree l (⟨"com/example/shu/shu/model/LockType", "isFair", "()Z"⟩ : MethodName) (head1 (Jvm.Cond.code (⟨"com/example/shu/shu/model/LockType", "isFair", "()Z"⟩ : MethodName) prog_19_method_6_code 1 (some .boolean) :: ws) ({ frames := 0, cells := 0, slots := 0, locals := 0 } : Room)) (fun a U => a = #[(.ref a1)] ∧ Z.Warmed39 U.vm ∧ U.heap = h0) (fun _ _ _ _ _ => True) (fun _ U o U' => ∃ v L, o = .returned v ∧ own_Q (some (.int (if a1 = w_FAIR then (1 : Int32) else (0 : Int32)))) h0 n0 v U'.heap L ∧ FrameEnd U o U' L ({ frames := 0, cells := 0, slots := 0, locals := 0 } : Room).cells ({ frames := 0, cells := 0, slots := 0, locals := 0 } : Room).slots) := by
  refine MetFree.of_bodySF (plainFor_of_name pn_1) hisR ?_
  intro p e s m args below meth c s₁ Bd hml0 hP hK0
  obtain ⟨rfl, hZ, hh⟩ := hP
  have hx := Bd.exec
  have hby := Bd.bytes
  have hml : c.maxLocals = 1 := hml0
  have hown : s.vm.findClass "com/example/shu/shu/model/LockType" = some m.cls := findClass_of_methodNamed Bd.named
  have hnm := (name_of_methodNamed Bd.named Bd.method).1
  have X0 : Stand p l e ({ frames := 0, cells := 0, slots := 0, locals := 0 } : Room) s m #[(.ref a1)] below meth c s₁ [] 0 0 := Stand.of_body Bd
  have e0 : s₁.heap = h0 := by rw [← hh, Bd.state]; rfl
  have N0 := Fr.nil n0
  have pre0 : ∀ t, Steps p.tables e below (s₁.setTop (mkF m 0 #[.val (.ref a1)] [])) t → Steps p.tables e below (s₁.setTop (entryFrame m #[(.ref a1)] 1)) t := fun t k => castTop (ef_isFair m a1) k
  have hK' := hK
  obtain ⟨S_w_REENTRANT, E_w_REENTRANT, S_w_READ, E_w_READ, F_ordinal_w_REENTRANT, F_ordinal_w_READ, S_w_FAIR, E_w_FAIR, F_ordinal_w_FAIR, S_w_WRITE, E_w_WRITE, F_ordinal_w_WRITE⟩ := hK'
  obtain ⟨T1, X1, e1, st1⟩ := getS2 X0 hx hZ hown (host := "") (Or.inl (hw _ (ow 25 rfl))) Via.refl e0 S_w_FAIR (g := (mkF m 1 #[.val (.ref a1)] [(.ref a1)])) rfl (hb hby d_prog_19_method_6_1)
  have pre3 : ∀ t, Steps p.tables e below (T1.setTop (mkF m 4 #[.val (.ref a1)] [(.ref w_FAIR), (.ref a1)])) t → Steps p.tables e below (s₁.setTop (entryFrame m #[(.ref a1)] 1)) t := fun t k => pre0 t (by
    show Steps p.tables e below (s₁.setTop (mkF m 0 #[.val (.ref a1)] [])) _
    refine XS.aloadN X0.here hx rfl (hb hby d_prog_19_method_6_0) rfl rfl ?_
    show Steps p.tables e below (s₁.setTop (mkF m 1 #[.val (.ref a1)] [(.ref a1)])) _
    refine st1 _ ?_
    exact k)
  by_cases hc4_2 : a1 = w_FAIR
  · have pre4 : ∀ t, Steps p.tables e below (T1.setTop (mkF m 12 #[.val (.ref a1)] [(.int (1 : Int32))])) t → Steps p.tables e below (s₁.setTop (entryFrame m #[(.ref a1)] 1)) t := fun t k => pre3 t (by
      show Steps p.tables e below (T1.setTop (mkF m 4 #[.val (.ref a1)] [(.ref w_FAIR), (.ref a1)])) _
      refine Jvm.RoadKit.acmp (g := (mkF m 4 #[.val (.ref a1)] [(.ref w_FAIR), (.ref a1)])) X1 hx rfl rfl rfl (pc0 := 4) (pc' := 7) (same := true) rfl (hb hby d_prog_19_method_6_4) rfl (decide_eq_true (congrArg Value.ref hc4_2)) (by decide) (by decide) ?_
      show Steps p.tables e below (T1.setTop (mkF m 7 #[.val (.ref a1)] [])) _
      refine XS.iconst X1.here hx rfl (hb hby d_prog_19_method_6_7) ?_
      show Steps p.tables e below (T1.setTop (mkF m 8 #[.val (.ref a1)] [(.int (1 : Int32))])) _
      refine XS.goto X1.here hx rfl (pc0 := 8) (pc' := 12) rfl (hb hby d_prog_19_method_6_8) (by decide) (by decide) ?_
      exact k)
    obtain ⟨fs, hr, hrun, hended, hW, hsame⟩ := X1.leave (v := some (.int (1 : Int32))) (fun h => by rw [Bd.returns] at h; cases h)
    refine ⟨_, _, pre4 _ ?_, hrun, hended, _, _, rfl, ?_, ⟨_, rfl⟩, hW, hsame.mono (by decide) (by decide)⟩
    · show Steps p.tables e below (T1.setTop (mkF m 12 #[.val (.ref a1)] [(.int (1 : Int32))])) _
      exact retN X1 hx (t := .boolean) Bd.returns (by simp) (hb hby d_prog_19_method_6_12) hr
    · exact ⟨congrArg (fun z => some (Value.int z)) (Eq.symm (if_pos hc4_2)), N0, e1⟩
  · have pre5 : ∀ t, Steps p.tables e below (T1.setTop (mkF m 12 #[.val (.ref a1)] [(.int (0 : Int32))])) t → Steps p.tables e below (s₁.setTop (entryFrame m #[(.ref a1)] 1)) t := fun t k => pre3 t (by
      show Steps p.tables e below (T1.setTop (mkF m 4 #[.val (.ref a1)] [(.ref w_FAIR), (.ref a1)])) _
      refine Jvm.RoadKit.acmp (g := (mkF m 4 #[.val (.ref a1)] [(.ref w_FAIR), (.ref a1)])) X1 hx rfl rfl rfl (pc0 := 4) (pc' := 11) (same := false) rfl (hb hby d_prog_19_method_6_4) rfl (decide_eq_false fun q => hc4_2 (Value.ref.inj q)) (by decide) (by decide) ?_
      show Steps p.tables e below (T1.setTop (mkF m 11 #[.val (.ref a1)] [])) _
      refine XS.iconst X1.here hx rfl (hb hby d_prog_19_method_6_11) ?_
      exact k)
    obtain ⟨fs, hr, hrun, hended, hW, hsame⟩ := X1.leave (v := some (.int (0 : Int32))) (fun h => by rw [Bd.returns] at h; cases h)
    refine ⟨_, _, pre5 _ ?_, hrun, hended, _, _, rfl, ?_, ⟨_, rfl⟩, hW, hsame.mono (by decide) (by decide)⟩
    · show Steps p.tables e below (T1.setTop (mkF m 12 #[.val (.ref a1)] [(.int (0 : Int32))])) _
      exact retN X1 hx (t := .boolean) Bd.returns (by simp) (hb hby d_prog_19_method_6_12) hr
    · exact ⟨congrArg (fun z => some (Value.int z)) (Eq.symm (if_neg hc4_2)), N0, e1⟩
theorem pd_0 : parseMethodDescriptor "(I)Lcom/example/shu/shu/model/LockType;" = some ⟨[.int], some (.object "com/example/shu/shu/model/LockType")⟩ := by decide +kernel
theorem pd_1 : parseMethodDescriptor "()Z" = some ⟨[], some .boolean⟩ := by decide +kernel
theorem ef_law0 (m : MethodId) (x0 : Int32) : entryFrame m #[(.int x0)] maxLocals = mkF m 0 #[.val (.int x0), .unset, .unset, .unset, .unset] [] := by first | (simp [entryFrame, mkF, argsToLocals, Value.category, maxLocals]; done) | rfl
set_option maxRecDepth 65536 in
set_option maxHeartbeats 40000000 in
theorem rm_law0 (l : Launch) (Z : State) (a0 : Array Value) (hw : ∀ d ∈ tables_1, d.before a0 Z = true) (ws : List Jvm.Cond) (p1 : Int32) (h0 : Heap) (n0 : Nat) (w_REENTRANT w_READ w_FAIR w_WRITE : Addr) (hK : own_K Z h0 w_REENTRANT w_READ w_FAIR w_WRITE) (hk : (p1 &&& (3 : Int32)) = (0 : Int32)) :
    MetFree l x (head1 (Jvm.Cond.code x code maxLocals ret :: ws) room_1) (fun a U => a = #[(.int p1)] ∧ Z.Warmed39 U.vm ∧ U.heap = h0) (fun _ _ _ _ _ => True) (fun _ U o U' => ∃ v L, o = .returned v ∧ own_Q (some (.int (1 : Int32))) h0 n0 v U'.heap L ∧ FrameEnd U o U' L room_1.cells room_1.slots) := by
  refine MetFree.of_bodySF (plainFor_of_name pn_0) hisR ?_
  intro p e s m args below meth c s₁ Bd hml0 hP hK0
  obtain ⟨rfl, hZ, hh⟩ := hP
  have hx := Bd.exec
  have hby := Bd.bytes
  have hml : c.maxLocals = 5 := hml0
  have hown : s.vm.findClass "com/example/shu/shu/model/LockTypeMayKeepReleasesPinLaw" = some m.cls := findClass_of_methodNamed Bd.named
  have hnm := (name_of_methodNamed Bd.named Bd.method).1
  have X0 : Stand p l e room_1 s m #[(.int p1)] below meth c s₁ [] 0 0 := Stand.of_body Bd
  have e0 : s₁.heap = h0 := by rw [← hh, Bd.state]; rfl
  have N0 := Fr.nil n0
  have pre0 : ∀ t, Steps p.tables e below (s₁.setTop (mkF m 0 #[.val (.int p1), .unset, .unset, .unset, .unset] [])) t → Steps p.tables e below (s₁.setTop (entryFrame m #[(.int p1)] maxLocals)) t := fun t k => castTop (ef_law0 m p1) k
  have hK' := hK
  obtain ⟨S_w_REENTRANT, E_w_REENTRANT, S_w_READ, E_w_READ, F_ordinal_w_REENTRANT, F_ordinal_w_READ, S_w_FAIR, E_w_FAIR, F_ordinal_w_FAIR, S_w_WRITE, E_w_WRITE, F_ordinal_w_WRITE⟩ := hK'
  obtain ⟨v1, _, ⟨T1, L1, k1, n1⟩, -, X1, ⟨Lc1, hQ1, l1, y1, z1⟩, st1⟩ := Jvm.LawKit.callS X0 hx (y := (⟨"com/example/shu/shu/model/LockTypeMayKeepReleasesPinLaw", "pick", "(I)Lcom/example/shu/shu/model/LockType;"⟩ : MethodName)) hown (mvT hZ (hw _ (ow 0 rfl))) (mvT hZ (hw _ (ow 1 rfl))) (mvT hZ (hw _ (ow 2 rfl))) (mvT hZ (hw _ (ow 3 rfl))) (by decide) (backOf (W := 0) (rm_pick l Z a0 hw [] (0 : Int32) h0 n0 w_REENTRANT w_READ w_FAIR w_WRITE hK) hZ (hw _ (ow 3 rfl)) (hw _ (ow 2 rfl)) (by decide) (by decide)) (g := (mkF m 5 #[.val (.int p1), .val (.int (0 : Int32)), .unset, .unset, .unset] [(.int (0 : Int32))])) rfl (by rw [hml]; rfl) (argsL := [(.int (0 : Int32))]) (rest := []) (lenOf pd_0 rfl) rfl (Nat.le_of_eq rfl) (hb hby at_5) (fun _ _ => ⟨rfl, e0, (by decide : 0 + 0 ≤ _), (by decide : 0 + 0 ≤ _)⟩)
  dsimp only [Pt.U, Pt.locs, Pt.cells, Pt.slots] at X1 l1 y1 z1 st1 hQ1
  subst l1 y1 z1
  obtain ⟨hv1, Nq1, e1⟩ := hQ1
  obtain rfl : v1 = some (.ref w_REENTRANT) := hv1.trans (congrArg some (congrArg Value.ref (if_pos (by decide))))
  have N1 := Fr.app N0 Nq1
  obtain ⟨cq2, kq2, q2a, q2b, q2c⟩ := isOf hZ e1 E_w_REENTRANT
  obtain ⟨v2, _, ⟨T2, L2, k2, n2⟩, -, X2, ⟨Lc2, hQ2, l2, y2, z2⟩, st2⟩ := X1.virtualBack hx (y := (⟨"com/example/shu/shu/model/LockType", "mayKeepReleases", "()Z"⟩ : MethodName)) (z := (⟨"com/example/shu/shu/model/LockType", "mayKeepReleases", "()Z"⟩ : MethodName)) hown (mvT hZ (hw _ (ow 7 rfl))) (mvT hZ (hw _ (ow 8 rfl))) (notFace_of_selects (args := #[]) (mvT hZ (hw _ (ow 10 rfl)))) (mvT hZ (hw _ (ow 10 rfl))) (mvT hZ (hw _ (ow 9 rfl))) (by decide) (backOf (W := 0) (rm_mayKeepReleases l Z a0 hw [] w_REENTRANT h0 n0 w_REENTRANT w_READ w_FAIR w_WRITE hK) hZ (hw _ (ow 11 rfl)) (hw _ (ow 5 rfl)) (by decide) (by decide)) q2a q2c (g := (mkF m 20 #[.val (.int p1), .val (.int (0 : Int32)), .val (.ref w_REENTRANT), .val (.int (1 : Int32)), .unset] [(.ref w_REENTRANT)])) rfl (by rw [hml]; rfl) (Steps.refl _) (argsL := []) (rest := []) (lenOf pd_1 rfl) rfl (Nat.le_of_eq rfl) (hb hby at_20) (fun _ _ => ⟨rfl, e1, (by decide : 0 + 0 ≤ _), (by decide : 0 + 0 ≤ _)⟩)
  dsimp only [Pt.U, Pt.locs, Pt.cells, Pt.slots] at X2 l2 y2 z2 st2 hQ2
  subst l2 y2 z2
  obtain ⟨hv2, Nq2, e2⟩ := hQ2
  obtain rfl : v2 = some (.int (1 : Int32)) := hv2.trans (congrArg some (congrArg Value.int (if_pos rfl)))
  have N2 := Fr.app N1 Nq2
  obtain ⟨cq3, kq3, q3a, q3b, q3c⟩ := isOf hZ e2 E_w_REENTRANT
  obtain ⟨v3, _, ⟨T3, L3, k3, n3⟩, -, X3, ⟨Lc3, hQ3, l3, y3, z3⟩, st3⟩ := X2.virtualBack hx (y := (⟨"com/example/shu/shu/model/LockType", "isShared", "()Z"⟩ : MethodName)) (z := (⟨"com/example/shu/shu/model/LockType", "isShared", "()Z"⟩ : MethodName)) hown (mvT hZ (hw _ (ow 13 rfl))) (mvT hZ (hw _ (ow 14 rfl))) (notFace_of_selects (args := #[]) (mvT hZ (hw _ (ow 16 rfl)))) (mvT hZ (hw _ (ow 16 rfl))) (mvT hZ (hw _ (ow 15 rfl))) (by decide) (backOf (W := 0) (rm_isShared l Z a0 hw [] w_REENTRANT h0 n0 w_REENTRANT w_READ w_FAIR w_WRITE hK) hZ (hw _ (ow 17 rfl)) (hw _ (ow 5 rfl)) (by decide) (by decide)) q3a q3c (g := (mkF m 39 #[.val (.int p1), .val (.int (0 : Int32)), .val (.ref w_REENTRANT), .val (.int (1 : Int32)), .val (.int (1 : Int32))] [(.ref w_REENTRANT)])) rfl (by rw [hml]; rfl) (Steps.refl _) (argsL := []) (rest := []) (lenOf pd_1 rfl) rfl (Nat.le_of_eq rfl) (hb hby at_39) (fun _ _ => ⟨rfl, e2, (by decide : 0 + 0 ≤ _), (by decide : 0 + 0 ≤ _)⟩)
  dsimp only [Pt.U, Pt.locs, Pt.cells, Pt.slots] at X3 l3 y3 z3 st3 hQ3
  subst l3 y3 z3
  obtain ⟨hv3, Nq3, e3⟩ := hQ3
  obtain rfl : v3 = some (.int (0 : Int32)) := hv3.trans (congrArg some (congrArg Value.int (if_neg (Fld.ne F_ordinal_w_REENTRANT F_ordinal_w_READ (by decide)))))
  have N3 := Fr.app N2 Nq3
  obtain ⟨cq4, kq4, q4a, q4b, q4c⟩ := isOf hZ e3 E_w_REENTRANT
  obtain ⟨v4, _, ⟨T4, L4, k4, n4⟩, -, X4, ⟨Lc4, hQ4, l4, y4, z4⟩, st4⟩ := X3.virtualBack hx (y := (⟨"com/example/shu/shu/model/LockType", "isFair", "()Z"⟩ : MethodName)) (z := (⟨"com/example/shu/shu/model/LockType", "isFair", "()Z"⟩ : MethodName)) hown (mvT hZ (hw _ (ow 20 rfl))) (mvT hZ (hw _ (ow 21 rfl))) (notFace_of_selects (args := #[]) (mvT hZ (hw _ (ow 23 rfl)))) (mvT hZ (hw _ (ow 23 rfl))) (mvT hZ (hw _ (ow 22 rfl))) (by decide) (backOf (W := 0) (rm_isFair l Z a0 hw [] w_REENTRANT h0 n0 w_REENTRANT w_READ w_FAIR w_WRITE hK) hZ (hw _ (ow 24 rfl)) (hw _ (ow 5 rfl)) (by decide) (by decide)) q4a q4c (g := (mkF m 46 #[.val (.int p1), .val (.int (0 : Int32)), .val (.ref w_REENTRANT), .val (.int (1 : Int32)), .val (.int (1 : Int32))] [(.ref w_REENTRANT)])) rfl (by rw [hml]; rfl) (Steps.refl _) (argsL := []) (rest := []) (lenOf pd_1 rfl) rfl (Nat.le_of_eq rfl) (hb hby at_46) (fun _ _ => ⟨rfl, e3, (by decide : 0 + 0 ≤ _), (by decide : 0 + 0 ≤ _)⟩)
  dsimp only [Pt.U, Pt.locs, Pt.cells, Pt.slots] at X4 l4 y4 z4 st4 hQ4
  subst l4 y4 z4
  obtain ⟨hv4, Nq4, e4⟩ := hQ4
  obtain rfl : v4 = some (.int (0 : Int32)) := hv4.trans (congrArg some (congrArg Value.int (if_neg (Fld.ne F_ordinal_w_REENTRANT F_ordinal_w_FAIR (by decide)))))
  have N4 := Fr.app N3 Nq4
  have pre5 : ∀ t, Steps p.tables e below (T4.setTop (mkF m 55 #[.val (.int p1), .val (.int (0 : Int32)), .val (.ref w_REENTRANT), .val (.int (1 : Int32)), .val (.int (1 : Int32))] [(.int (1 : Int32))])) t → Steps p.tables e below (s₁.setTop (entryFrame m #[(.int p1)] maxLocals)) t := fun t k => pre0 t (by
    show Steps p.tables e below (s₁.setTop (mkF m 0 #[.val (.int p1), .unset, .unset, .unset, .unset] [])) _
    refine XS.iloadN X0.here hx rfl (hb hby at_0) rfl ?_
    show Steps p.tables e below (s₁.setTop (mkF m 1 #[.val (.int p1), .unset, .unset, .unset, .unset] [(.int p1)])) _
    refine XS.iconst X0.here hx rfl (hb hby at_1) ?_
    show Steps p.tables e below (s₁.setTop (mkF m 2 #[.val (.int p1), .unset, .unset, .unset, .unset] [(.int (3 : Int32)), (.int p1)])) _
    refine XS.iand X0.here hx rfl (hb hby at_2) rfl ?_
    show Steps p.tables e below (s₁.setTop (mkF m 3 #[.val (.int p1), .unset, .unset, .unset, .unset] [(.int (p1 &&& (3 : Int32)))])) _
    rw [hk]
    show Steps p.tables e below (s₁.setTop (mkF m 3 #[.val (.int p1), .unset, .unset, .unset, .unset] [(.int (0 : Int32))])) _
    refine XS.istoreN X0.here hx rfl (hb hby at_3) rfl (l' := #[.val (.int p1), .val (.int (0 : Int32)), .unset, .unset, .unset]) rfl ?_
    show Steps p.tables e below (s₁.setTop (mkF m 4 #[.val (.int p1), .val (.int (0 : Int32)), .unset, .unset, .unset] [])) _
    refine XS.iloadN X0.here hx rfl (hb hby at_4) rfl ?_
    show Steps p.tables e below (s₁.setTop (mkF m 5 #[.val (.int p1), .val (.int (0 : Int32)), .unset, .unset, .unset] [(.int (0 : Int32))])) _
    refine st1 _ ?_
    show Steps p.tables e below (T1.setTop (mkF m 8 #[.val (.int p1), .val (.int (0 : Int32)), .unset, .unset, .unset] [(.ref w_REENTRANT)])) _
    refine XS.astoreN X1.here hx rfl (hb hby at_8) rfl rfl (l' := #[.val (.int p1), .val (.int (0 : Int32)), .val (.ref w_REENTRANT), .unset, .unset]) rfl ?_
    show Steps p.tables e below (T1.setTop (mkF m 9 #[.val (.int p1), .val (.int (0 : Int32)), .val (.ref w_REENTRANT), .unset, .unset] [])) _
    refine XS.iloadN X1.here hx rfl (hb hby at_9) rfl ?_
    show Steps p.tables e below (T1.setTop (mkF m 10 #[.val (.int p1), .val (.int (0 : Int32)), .val (.ref w_REENTRANT), .unset, .unset] [(.int (0 : Int32))])) _
    refine XS.ifNo X1.here hx rfl (hb hby at_10) rfl ((if0 _ _).trans (teq (by decide)).2) ?_
    show Steps p.tables e below (T1.setTop (mkF m 13 #[.val (.int p1), .val (.int (0 : Int32)), .val (.ref w_REENTRANT), .unset, .unset] [])) _
    refine XS.iconst X1.here hx rfl (hb hby at_13) ?_
    show Steps p.tables e below (T1.setTop (mkF m 14 #[.val (.int p1), .val (.int (0 : Int32)), .val (.ref w_REENTRANT), .unset, .unset] [(.int (1 : Int32))])) _
    refine XS.goto X1.here hx rfl (pc0 := 14) (pc' := 18) rfl (hb hby at_14) (by decide) (by decide) ?_
    show Steps p.tables e below (T1.setTop (mkF m 18 #[.val (.int p1), .val (.int (0 : Int32)), .val (.ref w_REENTRANT), .unset, .unset] [(.int (1 : Int32))])) _
    refine XS.istoreN X1.here hx rfl (hb hby at_18) rfl (l' := #[.val (.int p1), .val (.int (0 : Int32)), .val (.ref w_REENTRANT), .val (.int (1 : Int32)), .unset]) rfl ?_
    show Steps p.tables e below (T1.setTop (mkF m 19 #[.val (.int p1), .val (.int (0 : Int32)), .val (.ref w_REENTRANT), .val (.int (1 : Int32)), .unset] [])) _
    refine XS.aloadN X1.here hx rfl (hb hby at_19) rfl rfl ?_
    show Steps p.tables e below (T1.setTop (mkF m 20 #[.val (.int p1), .val (.int (0 : Int32)), .val (.ref w_REENTRANT), .val (.int (1 : Int32)), .unset] [(.ref w_REENTRANT)])) _
    refine st2.trans ?_
    show Steps p.tables e below (T2.setTop (mkF m 23 #[.val (.int p1), .val (.int (0 : Int32)), .val (.ref w_REENTRANT), .val (.int (1 : Int32)), .unset] [(.int (1 : Int32))])) _
    refine XS.istore X2.here hx rfl (hb hby at_23) rfl (l' := #[.val (.int p1), .val (.int (0 : Int32)), .val (.ref w_REENTRANT), .val (.int (1 : Int32)), .val (.int (1 : Int32))]) rfl ?_
    show Steps p.tables e below (T2.setTop (mkF m 25 #[.val (.int p1), .val (.int (0 : Int32)), .val (.ref w_REENTRANT), .val (.int (1 : Int32)), .val (.int (1 : Int32))] [])) _
    refine XS.iload X2.here hx rfl (hb hby at_25) rfl ?_
    show Steps p.tables e below (T2.setTop (mkF m 27 #[.val (.int p1), .val (.int (0 : Int32)), .val (.ref w_REENTRANT), .val (.int (1 : Int32)), .val (.int (1 : Int32))] [(.int (1 : Int32))])) _
    refine XS.iloadN X2.here hx rfl (hb hby at_27) rfl ?_
    show Steps p.tables e below (T2.setTop (mkF m 28 #[.val (.int p1), .val (.int (0 : Int32)), .val (.ref w_REENTRANT), .val (.int (1 : Int32)), .val (.int (1 : Int32))] [(.int (1 : Int32)), (.int (1 : Int32))])) _
    refine XS.icmpYes X2.here hx rfl (pc0 := 28) (pc' := 33) rfl (hb hby at_28) rfl (teq (by decide)).1 (by decide) (by decide) ?_
    show Steps p.tables e below (T2.setTop (mkF m 33 #[.val (.int p1), .val (.int (0 : Int32)), .val (.ref w_REENTRANT), .val (.int (1 : Int32)), .val (.int (1 : Int32))] [])) _
    refine XS.iload X2.here hx rfl (hb hby at_33) rfl ?_
    show Steps p.tables e below (T2.setTop (mkF m 35 #[.val (.int p1), .val (.int (0 : Int32)), .val (.ref w_REENTRANT), .val (.int (1 : Int32)), .val (.int (1 : Int32))] [(.int (1 : Int32))])) _
    refine XS.ifNo X2.here hx rfl (hb hby at_35) rfl ((if0 _ _).trans (feq (by decide)).1) ?_
    show Steps p.tables e below (T2.setTop (mkF m 38 #[.val (.int p1), .val (.int (0 : Int32)), .val (.ref w_REENTRANT), .val (.int (1 : Int32)), .val (.int (1 : Int32))] [])) _
    refine XS.aloadN X2.here hx rfl (hb hby at_38) rfl rfl ?_
    show Steps p.tables e below (T2.setTop (mkF m 39 #[.val (.int p1), .val (.int (0 : Int32)), .val (.ref w_REENTRANT), .val (.int (1 : Int32)), .val (.int (1 : Int32))] [(.ref w_REENTRANT)])) _
    refine st3.trans ?_
    show Steps p.tables e below (T3.setTop (mkF m 42 #[.val (.int p1), .val (.int (0 : Int32)), .val (.ref w_REENTRANT), .val (.int (1 : Int32)), .val (.int (1 : Int32))] [(.int (0 : Int32))])) _
    refine XS.ifNo X3.here hx rfl (hb hby at_42) rfl ((if0 _ _).trans (teq (by decide)).2) ?_
    show Steps p.tables e below (T3.setTop (mkF m 45 #[.val (.int p1), .val (.int (0 : Int32)), .val (.ref w_REENTRANT), .val (.int (1 : Int32)), .val (.int (1 : Int32))] [])) _
    refine XS.aloadN X3.here hx rfl (hb hby at_45) rfl rfl ?_
    show Steps p.tables e below (T3.setTop (mkF m 46 #[.val (.int p1), .val (.int (0 : Int32)), .val (.ref w_REENTRANT), .val (.int (1 : Int32)), .val (.int (1 : Int32))] [(.ref w_REENTRANT)])) _
    refine st4.trans ?_
    show Steps p.tables e below (T4.setTop (mkF m 49 #[.val (.int p1), .val (.int (0 : Int32)), .val (.ref w_REENTRANT), .val (.int (1 : Int32)), .val (.int (1 : Int32))] [(.int (0 : Int32))])) _
    refine XS.ifYes X4.here hx rfl (pc0 := 49) (pc' := 54) rfl (hb hby at_49) rfl ((if0 _ _).trans (teq (by decide)).1) (by decide) (by decide) ?_
    show Steps p.tables e below (T4.setTop (mkF m 54 #[.val (.int p1), .val (.int (0 : Int32)), .val (.ref w_REENTRANT), .val (.int (1 : Int32)), .val (.int (1 : Int32))] [])) _
    refine XS.iconst X4.here hx rfl (hb hby at_54) ?_
    exact k)
  obtain ⟨fs, hr, hrun, hended, hW, hsame⟩ := X4.leave (v := some (.int (1 : Int32))) (fun h => by rw [Bd.returns] at h; cases h)
  refine ⟨_, _, pre5 _ ?_, hrun, hended, _, _, rfl, ?_, ⟨_, rfl⟩, hW, hsame.mono (by decide) (by decide)⟩
  · show Steps p.tables e below (T4.setTop (mkF m 55 #[.val (.int p1), .val (.int (0 : Int32)), .val (.ref w_REENTRANT), .val (.int (1 : Int32)), .val (.int (1 : Int32))] [(.int (1 : Int32))])) _
    exact retN X4 hx (t := .boolean) Bd.returns (by simp) (hb hby at_55) hr
  · exact ⟨rfl, N4, e4⟩
theorem ef_law1 (m : MethodId) (x0 : Int32) : entryFrame m #[(.int x0)] maxLocals = mkF m 0 #[.val (.int x0), .unset, .unset, .unset, .unset] [] := by first | (simp [entryFrame, mkF, argsToLocals, Value.category, maxLocals]; done) | rfl
set_option maxRecDepth 65536 in
set_option maxHeartbeats 40000000 in
theorem rm_law1 (l : Launch) (Z : State) (a0 : Array Value) (hw : ∀ d ∈ tables_1, d.before a0 Z = true) (ws : List Jvm.Cond) (p1 : Int32) (h0 : Heap) (n0 : Nat) (w_REENTRANT w_READ w_FAIR w_WRITE : Addr) (hK : own_K Z h0 w_REENTRANT w_READ w_FAIR w_WRITE) (hk : (p1 &&& (3 : Int32)) = (1 : Int32)) :
    MetFree l x (head1 (Jvm.Cond.code x code maxLocals ret :: ws) room_1) (fun a U => a = #[(.int p1)] ∧ Z.Warmed39 U.vm ∧ U.heap = h0) (fun _ _ _ _ _ => True) (fun _ U o U' => ∃ v L, o = .returned v ∧ own_Q (some (.int (1 : Int32))) h0 n0 v U'.heap L ∧ FrameEnd U o U' L room_1.cells room_1.slots) := by
  refine MetFree.of_bodySF (plainFor_of_name pn_0) hisR ?_
  intro p e s m args below meth c s₁ Bd hml0 hP hK0
  obtain ⟨rfl, hZ, hh⟩ := hP
  have hx := Bd.exec
  have hby := Bd.bytes
  have hml : c.maxLocals = 5 := hml0
  have hown : s.vm.findClass "com/example/shu/shu/model/LockTypeMayKeepReleasesPinLaw" = some m.cls := findClass_of_methodNamed Bd.named
  have hnm := (name_of_methodNamed Bd.named Bd.method).1
  have X0 : Stand p l e room_1 s m #[(.int p1)] below meth c s₁ [] 0 0 := Stand.of_body Bd
  have e0 : s₁.heap = h0 := by rw [← hh, Bd.state]; rfl
  have N0 := Fr.nil n0
  have pre0 : ∀ t, Steps p.tables e below (s₁.setTop (mkF m 0 #[.val (.int p1), .unset, .unset, .unset, .unset] [])) t → Steps p.tables e below (s₁.setTop (entryFrame m #[(.int p1)] maxLocals)) t := fun t k => castTop (ef_law1 m p1) k
  have hK' := hK
  obtain ⟨S_w_REENTRANT, E_w_REENTRANT, S_w_READ, E_w_READ, F_ordinal_w_REENTRANT, F_ordinal_w_READ, S_w_FAIR, E_w_FAIR, F_ordinal_w_FAIR, S_w_WRITE, E_w_WRITE, F_ordinal_w_WRITE⟩ := hK'
  obtain ⟨v1, _, ⟨T1, L1, k1, n1⟩, -, X1, ⟨Lc1, hQ1, l1, y1, z1⟩, st1⟩ := Jvm.LawKit.callS X0 hx (y := (⟨"com/example/shu/shu/model/LockTypeMayKeepReleasesPinLaw", "pick", "(I)Lcom/example/shu/shu/model/LockType;"⟩ : MethodName)) hown (mvT hZ (hw _ (ow 0 rfl))) (mvT hZ (hw _ (ow 1 rfl))) (mvT hZ (hw _ (ow 2 rfl))) (mvT hZ (hw _ (ow 3 rfl))) (by decide) (backOf (W := 0) (rm_pick l Z a0 hw [] (1 : Int32) h0 n0 w_REENTRANT w_READ w_FAIR w_WRITE hK) hZ (hw _ (ow 3 rfl)) (hw _ (ow 2 rfl)) (by decide) (by decide)) (g := (mkF m 5 #[.val (.int p1), .val (.int (1 : Int32)), .unset, .unset, .unset] [(.int (1 : Int32))])) rfl (by rw [hml]; rfl) (argsL := [(.int (1 : Int32))]) (rest := []) (lenOf pd_0 rfl) rfl (Nat.le_of_eq rfl) (hb hby at_5) (fun _ _ => ⟨rfl, e0, (by decide : 0 + 0 ≤ _), (by decide : 0 + 0 ≤ _)⟩)
  dsimp only [Pt.U, Pt.locs, Pt.cells, Pt.slots] at X1 l1 y1 z1 st1 hQ1
  subst l1 y1 z1
  obtain ⟨hv1, Nq1, e1⟩ := hQ1
  obtain rfl : v1 = some (.ref w_FAIR) := hv1.trans (congrArg some (congrArg Value.ref ((if_neg (by decide)).trans (if_pos (by decide)))))
  have N1 := Fr.app N0 Nq1
  obtain ⟨cq2, kq2, q2a, q2b, q2c⟩ := isOf hZ e1 E_w_FAIR
  obtain ⟨v2, _, ⟨T2, L2, k2, n2⟩, -, X2, ⟨Lc2, hQ2, l2, y2, z2⟩, st2⟩ := X1.virtualBack hx (y := (⟨"com/example/shu/shu/model/LockType", "mayKeepReleases", "()Z"⟩ : MethodName)) (z := (⟨"com/example/shu/shu/model/LockType", "mayKeepReleases", "()Z"⟩ : MethodName)) hown (mvT hZ (hw _ (ow 7 rfl))) (mvT hZ (hw _ (ow 8 rfl))) (notFace_of_selects (args := #[]) (mvT hZ (hw _ (ow 10 rfl)))) (mvT hZ (hw _ (ow 10 rfl))) (mvT hZ (hw _ (ow 9 rfl))) (by decide) (backOf (W := 0) (rm_mayKeepReleases l Z a0 hw [] w_FAIR h0 n0 w_REENTRANT w_READ w_FAIR w_WRITE hK) hZ (hw _ (ow 11 rfl)) (hw _ (ow 5 rfl)) (by decide) (by decide)) q2a q2c (g := (mkF m 20 #[.val (.int p1), .val (.int (1 : Int32)), .val (.ref w_FAIR), .val (.int (0 : Int32)), .unset] [(.ref w_FAIR)])) rfl (by rw [hml]; rfl) (Steps.refl _) (argsL := []) (rest := []) (lenOf pd_1 rfl) rfl (Nat.le_of_eq rfl) (hb hby at_20) (fun _ _ => ⟨rfl, e1, (by decide : 0 + 0 ≤ _), (by decide : 0 + 0 ≤ _)⟩)
  dsimp only [Pt.U, Pt.locs, Pt.cells, Pt.slots] at X2 l2 y2 z2 st2 hQ2
  subst l2 y2 z2
  obtain ⟨hv2, Nq2, e2⟩ := hQ2
  obtain rfl : v2 = some (.int (0 : Int32)) := hv2.trans (congrArg some (congrArg Value.int (if_neg (Fld.ne F_ordinal_w_FAIR F_ordinal_w_REENTRANT (by decide)))))
  have N2 := Fr.app N1 Nq2
  have pre3 : ∀ t, Steps p.tables e below (T2.setTop (mkF m 55 #[.val (.int p1), .val (.int (1 : Int32)), .val (.ref w_FAIR), .val (.int (0 : Int32)), .val (.int (0 : Int32))] [(.int (1 : Int32))])) t → Steps p.tables e below (s₁.setTop (entryFrame m #[(.int p1)] maxLocals)) t := fun t k => pre0 t (by
    show Steps p.tables e below (s₁.setTop (mkF m 0 #[.val (.int p1), .unset, .unset, .unset, .unset] [])) _
    refine XS.iloadN X0.here hx rfl (hb hby at_0) rfl ?_
    show Steps p.tables e below (s₁.setTop (mkF m 1 #[.val (.int p1), .unset, .unset, .unset, .unset] [(.int p1)])) _
    refine XS.iconst X0.here hx rfl (hb hby at_1) ?_
    show Steps p.tables e below (s₁.setTop (mkF m 2 #[.val (.int p1), .unset, .unset, .unset, .unset] [(.int (3 : Int32)), (.int p1)])) _
    refine XS.iand X0.here hx rfl (hb hby at_2) rfl ?_
    show Steps p.tables e below (s₁.setTop (mkF m 3 #[.val (.int p1), .unset, .unset, .unset, .unset] [(.int (p1 &&& (3 : Int32)))])) _
    rw [hk]
    show Steps p.tables e below (s₁.setTop (mkF m 3 #[.val (.int p1), .unset, .unset, .unset, .unset] [(.int (1 : Int32))])) _
    refine XS.istoreN X0.here hx rfl (hb hby at_3) rfl (l' := #[.val (.int p1), .val (.int (1 : Int32)), .unset, .unset, .unset]) rfl ?_
    show Steps p.tables e below (s₁.setTop (mkF m 4 #[.val (.int p1), .val (.int (1 : Int32)), .unset, .unset, .unset] [])) _
    refine XS.iloadN X0.here hx rfl (hb hby at_4) rfl ?_
    show Steps p.tables e below (s₁.setTop (mkF m 5 #[.val (.int p1), .val (.int (1 : Int32)), .unset, .unset, .unset] [(.int (1 : Int32))])) _
    refine st1 _ ?_
    show Steps p.tables e below (T1.setTop (mkF m 8 #[.val (.int p1), .val (.int (1 : Int32)), .unset, .unset, .unset] [(.ref w_FAIR)])) _
    refine XS.astoreN X1.here hx rfl (hb hby at_8) rfl rfl (l' := #[.val (.int p1), .val (.int (1 : Int32)), .val (.ref w_FAIR), .unset, .unset]) rfl ?_
    show Steps p.tables e below (T1.setTop (mkF m 9 #[.val (.int p1), .val (.int (1 : Int32)), .val (.ref w_FAIR), .unset, .unset] [])) _
    refine XS.iloadN X1.here hx rfl (hb hby at_9) rfl ?_
    show Steps p.tables e below (T1.setTop (mkF m 10 #[.val (.int p1), .val (.int (1 : Int32)), .val (.ref w_FAIR), .unset, .unset] [(.int (1 : Int32))])) _
    refine XS.ifYes X1.here hx rfl (pc0 := 10) (pc' := 17) rfl (hb hby at_10) rfl ((if0 _ _).trans (feq (by decide)).2) (by decide) (by decide) ?_
    show Steps p.tables e below (T1.setTop (mkF m 17 #[.val (.int p1), .val (.int (1 : Int32)), .val (.ref w_FAIR), .unset, .unset] [])) _
    refine XS.iconst X1.here hx rfl (hb hby at_17) ?_
    show Steps p.tables e below (T1.setTop (mkF m 18 #[.val (.int p1), .val (.int (1 : Int32)), .val (.ref w_FAIR), .unset, .unset] [(.int (0 : Int32))])) _
    refine XS.istoreN X1.here hx rfl (hb hby at_18) rfl (l' := #[.val (.int p1), .val (.int (1 : Int32)), .val (.ref w_FAIR), .val (.int (0 : Int32)), .unset]) rfl ?_
    show Steps p.tables e below (T1.setTop (mkF m 19 #[.val (.int p1), .val (.int (1 : Int32)), .val (.ref w_FAIR), .val (.int (0 : Int32)), .unset] [])) _
    refine XS.aloadN X1.here hx rfl (hb hby at_19) rfl rfl ?_
    show Steps p.tables e below (T1.setTop (mkF m 20 #[.val (.int p1), .val (.int (1 : Int32)), .val (.ref w_FAIR), .val (.int (0 : Int32)), .unset] [(.ref w_FAIR)])) _
    refine st2.trans ?_
    show Steps p.tables e below (T2.setTop (mkF m 23 #[.val (.int p1), .val (.int (1 : Int32)), .val (.ref w_FAIR), .val (.int (0 : Int32)), .unset] [(.int (0 : Int32))])) _
    refine XS.istore X2.here hx rfl (hb hby at_23) rfl (l' := #[.val (.int p1), .val (.int (1 : Int32)), .val (.ref w_FAIR), .val (.int (0 : Int32)), .val (.int (0 : Int32))]) rfl ?_
    show Steps p.tables e below (T2.setTop (mkF m 25 #[.val (.int p1), .val (.int (1 : Int32)), .val (.ref w_FAIR), .val (.int (0 : Int32)), .val (.int (0 : Int32))] [])) _
    refine XS.iload X2.here hx rfl (hb hby at_25) rfl ?_
    show Steps p.tables e below (T2.setTop (mkF m 27 #[.val (.int p1), .val (.int (1 : Int32)), .val (.ref w_FAIR), .val (.int (0 : Int32)), .val (.int (0 : Int32))] [(.int (0 : Int32))])) _
    refine XS.iloadN X2.here hx rfl (hb hby at_27) rfl ?_
    show Steps p.tables e below (T2.setTop (mkF m 28 #[.val (.int p1), .val (.int (1 : Int32)), .val (.ref w_FAIR), .val (.int (0 : Int32)), .val (.int (0 : Int32))] [(.int (0 : Int32)), (.int (0 : Int32))])) _
    refine XS.icmpYes X2.here hx rfl (pc0 := 28) (pc' := 33) rfl (hb hby at_28) rfl (teq (by decide)).1 (by decide) (by decide) ?_
    show Steps p.tables e below (T2.setTop (mkF m 33 #[.val (.int p1), .val (.int (1 : Int32)), .val (.ref w_FAIR), .val (.int (0 : Int32)), .val (.int (0 : Int32))] [])) _
    refine XS.iload X2.here hx rfl (hb hby at_33) rfl ?_
    show Steps p.tables e below (T2.setTop (mkF m 35 #[.val (.int p1), .val (.int (1 : Int32)), .val (.ref w_FAIR), .val (.int (0 : Int32)), .val (.int (0 : Int32))] [(.int (0 : Int32))])) _
    refine XS.ifYes X2.here hx rfl (pc0 := 35) (pc' := 54) rfl (hb hby at_35) rfl ((if0 _ _).trans (teq (by decide)).1) (by decide) (by decide) ?_
    show Steps p.tables e below (T2.setTop (mkF m 54 #[.val (.int p1), .val (.int (1 : Int32)), .val (.ref w_FAIR), .val (.int (0 : Int32)), .val (.int (0 : Int32))] [])) _
    refine XS.iconst X2.here hx rfl (hb hby at_54) ?_
    exact k)
  obtain ⟨fs, hr, hrun, hended, hW, hsame⟩ := X2.leave (v := some (.int (1 : Int32))) (fun h => by rw [Bd.returns] at h; cases h)
  refine ⟨_, _, pre3 _ ?_, hrun, hended, _, _, rfl, ?_, ⟨_, rfl⟩, hW, hsame.mono (by decide) (by decide)⟩
  · show Steps p.tables e below (T2.setTop (mkF m 55 #[.val (.int p1), .val (.int (1 : Int32)), .val (.ref w_FAIR), .val (.int (0 : Int32)), .val (.int (0 : Int32))] [(.int (1 : Int32))])) _
    exact retN X2 hx (t := .boolean) Bd.returns (by simp) (hb hby at_55) hr
  · exact ⟨rfl, N2, e2⟩
theorem ef_law2 (m : MethodId) (x0 : Int32) : entryFrame m #[(.int x0)] maxLocals = mkF m 0 #[.val (.int x0), .unset, .unset, .unset, .unset] [] := by first | (simp [entryFrame, mkF, argsToLocals, Value.category, maxLocals]; done) | rfl
set_option maxRecDepth 65536 in
set_option maxHeartbeats 40000000 in
theorem rm_law2 (l : Launch) (Z : State) (a0 : Array Value) (hw : ∀ d ∈ tables_1, d.before a0 Z = true) (ws : List Jvm.Cond) (p1 : Int32) (h0 : Heap) (n0 : Nat) (w_REENTRANT w_READ w_FAIR w_WRITE : Addr) (hK : own_K Z h0 w_REENTRANT w_READ w_FAIR w_WRITE) (hk : (p1 &&& (3 : Int32)) = (2 : Int32)) :
    MetFree l x (head1 (Jvm.Cond.code x code maxLocals ret :: ws) room_1) (fun a U => a = #[(.int p1)] ∧ Z.Warmed39 U.vm ∧ U.heap = h0) (fun _ _ _ _ _ => True) (fun _ U o U' => ∃ v L, o = .returned v ∧ own_Q (some (.int (1 : Int32))) h0 n0 v U'.heap L ∧ FrameEnd U o U' L room_1.cells room_1.slots) := by
  refine MetFree.of_bodySF (plainFor_of_name pn_0) hisR ?_
  intro p e s m args below meth c s₁ Bd hml0 hP hK0
  obtain ⟨rfl, hZ, hh⟩ := hP
  have hx := Bd.exec
  have hby := Bd.bytes
  have hml : c.maxLocals = 5 := hml0
  have hown : s.vm.findClass "com/example/shu/shu/model/LockTypeMayKeepReleasesPinLaw" = some m.cls := findClass_of_methodNamed Bd.named
  have hnm := (name_of_methodNamed Bd.named Bd.method).1
  have X0 : Stand p l e room_1 s m #[(.int p1)] below meth c s₁ [] 0 0 := Stand.of_body Bd
  have e0 : s₁.heap = h0 := by rw [← hh, Bd.state]; rfl
  have N0 := Fr.nil n0
  have pre0 : ∀ t, Steps p.tables e below (s₁.setTop (mkF m 0 #[.val (.int p1), .unset, .unset, .unset, .unset] [])) t → Steps p.tables e below (s₁.setTop (entryFrame m #[(.int p1)] maxLocals)) t := fun t k => castTop (ef_law2 m p1) k
  have hK' := hK
  obtain ⟨S_w_REENTRANT, E_w_REENTRANT, S_w_READ, E_w_READ, F_ordinal_w_REENTRANT, F_ordinal_w_READ, S_w_FAIR, E_w_FAIR, F_ordinal_w_FAIR, S_w_WRITE, E_w_WRITE, F_ordinal_w_WRITE⟩ := hK'
  obtain ⟨v1, _, ⟨T1, L1, k1, n1⟩, -, X1, ⟨Lc1, hQ1, l1, y1, z1⟩, st1⟩ := Jvm.LawKit.callS X0 hx (y := (⟨"com/example/shu/shu/model/LockTypeMayKeepReleasesPinLaw", "pick", "(I)Lcom/example/shu/shu/model/LockType;"⟩ : MethodName)) hown (mvT hZ (hw _ (ow 0 rfl))) (mvT hZ (hw _ (ow 1 rfl))) (mvT hZ (hw _ (ow 2 rfl))) (mvT hZ (hw _ (ow 3 rfl))) (by decide) (backOf (W := 0) (rm_pick l Z a0 hw [] (2 : Int32) h0 n0 w_REENTRANT w_READ w_FAIR w_WRITE hK) hZ (hw _ (ow 3 rfl)) (hw _ (ow 2 rfl)) (by decide) (by decide)) (g := (mkF m 5 #[.val (.int p1), .val (.int (2 : Int32)), .unset, .unset, .unset] [(.int (2 : Int32))])) rfl (by rw [hml]; rfl) (argsL := [(.int (2 : Int32))]) (rest := []) (lenOf pd_0 rfl) rfl (Nat.le_of_eq rfl) (hb hby at_5) (fun _ _ => ⟨rfl, e0, (by decide : 0 + 0 ≤ _), (by decide : 0 + 0 ≤ _)⟩)
  dsimp only [Pt.U, Pt.locs, Pt.cells, Pt.slots] at X1 l1 y1 z1 st1 hQ1
  subst l1 y1 z1
  obtain ⟨hv1, Nq1, e1⟩ := hQ1
  obtain rfl : v1 = some (.ref w_READ) := hv1.trans (congrArg some (congrArg Value.ref ((if_neg (by decide)).trans ((if_neg (by decide)).trans (if_pos (by decide))))))
  have N1 := Fr.app N0 Nq1
  obtain ⟨cq2, kq2, q2a, q2b, q2c⟩ := isOf hZ e1 E_w_READ
  obtain ⟨v2, _, ⟨T2, L2, k2, n2⟩, -, X2, ⟨Lc2, hQ2, l2, y2, z2⟩, st2⟩ := X1.virtualBack hx (y := (⟨"com/example/shu/shu/model/LockType", "mayKeepReleases", "()Z"⟩ : MethodName)) (z := (⟨"com/example/shu/shu/model/LockType", "mayKeepReleases", "()Z"⟩ : MethodName)) hown (mvT hZ (hw _ (ow 7 rfl))) (mvT hZ (hw _ (ow 8 rfl))) (notFace_of_selects (args := #[]) (mvT hZ (hw _ (ow 10 rfl)))) (mvT hZ (hw _ (ow 10 rfl))) (mvT hZ (hw _ (ow 9 rfl))) (by decide) (backOf (W := 0) (rm_mayKeepReleases l Z a0 hw [] w_READ h0 n0 w_REENTRANT w_READ w_FAIR w_WRITE hK) hZ (hw _ (ow 11 rfl)) (hw _ (ow 5 rfl)) (by decide) (by decide)) q2a q2c (g := (mkF m 20 #[.val (.int p1), .val (.int (2 : Int32)), .val (.ref w_READ), .val (.int (0 : Int32)), .unset] [(.ref w_READ)])) rfl (by rw [hml]; rfl) (Steps.refl _) (argsL := []) (rest := []) (lenOf pd_1 rfl) rfl (Nat.le_of_eq rfl) (hb hby at_20) (fun _ _ => ⟨rfl, e1, (by decide : 0 + 0 ≤ _), (by decide : 0 + 0 ≤ _)⟩)
  dsimp only [Pt.U, Pt.locs, Pt.cells, Pt.slots] at X2 l2 y2 z2 st2 hQ2
  subst l2 y2 z2
  obtain ⟨hv2, Nq2, e2⟩ := hQ2
  obtain rfl : v2 = some (.int (0 : Int32)) := hv2.trans (congrArg some (congrArg Value.int (if_neg (Fld.ne F_ordinal_w_READ F_ordinal_w_REENTRANT (by decide)))))
  have N2 := Fr.app N1 Nq2
  have pre3 : ∀ t, Steps p.tables e below (T2.setTop (mkF m 55 #[.val (.int p1), .val (.int (2 : Int32)), .val (.ref w_READ), .val (.int (0 : Int32)), .val (.int (0 : Int32))] [(.int (1 : Int32))])) t → Steps p.tables e below (s₁.setTop (entryFrame m #[(.int p1)] maxLocals)) t := fun t k => pre0 t (by
    show Steps p.tables e below (s₁.setTop (mkF m 0 #[.val (.int p1), .unset, .unset, .unset, .unset] [])) _
    refine XS.iloadN X0.here hx rfl (hb hby at_0) rfl ?_
    show Steps p.tables e below (s₁.setTop (mkF m 1 #[.val (.int p1), .unset, .unset, .unset, .unset] [(.int p1)])) _
    refine XS.iconst X0.here hx rfl (hb hby at_1) ?_
    show Steps p.tables e below (s₁.setTop (mkF m 2 #[.val (.int p1), .unset, .unset, .unset, .unset] [(.int (3 : Int32)), (.int p1)])) _
    refine XS.iand X0.here hx rfl (hb hby at_2) rfl ?_
    show Steps p.tables e below (s₁.setTop (mkF m 3 #[.val (.int p1), .unset, .unset, .unset, .unset] [(.int (p1 &&& (3 : Int32)))])) _
    rw [hk]
    show Steps p.tables e below (s₁.setTop (mkF m 3 #[.val (.int p1), .unset, .unset, .unset, .unset] [(.int (2 : Int32))])) _
    refine XS.istoreN X0.here hx rfl (hb hby at_3) rfl (l' := #[.val (.int p1), .val (.int (2 : Int32)), .unset, .unset, .unset]) rfl ?_
    show Steps p.tables e below (s₁.setTop (mkF m 4 #[.val (.int p1), .val (.int (2 : Int32)), .unset, .unset, .unset] [])) _
    refine XS.iloadN X0.here hx rfl (hb hby at_4) rfl ?_
    show Steps p.tables e below (s₁.setTop (mkF m 5 #[.val (.int p1), .val (.int (2 : Int32)), .unset, .unset, .unset] [(.int (2 : Int32))])) _
    refine st1 _ ?_
    show Steps p.tables e below (T1.setTop (mkF m 8 #[.val (.int p1), .val (.int (2 : Int32)), .unset, .unset, .unset] [(.ref w_READ)])) _
    refine XS.astoreN X1.here hx rfl (hb hby at_8) rfl rfl (l' := #[.val (.int p1), .val (.int (2 : Int32)), .val (.ref w_READ), .unset, .unset]) rfl ?_
    show Steps p.tables e below (T1.setTop (mkF m 9 #[.val (.int p1), .val (.int (2 : Int32)), .val (.ref w_READ), .unset, .unset] [])) _
    refine XS.iloadN X1.here hx rfl (hb hby at_9) rfl ?_
    show Steps p.tables e below (T1.setTop (mkF m 10 #[.val (.int p1), .val (.int (2 : Int32)), .val (.ref w_READ), .unset, .unset] [(.int (2 : Int32))])) _
    refine XS.ifYes X1.here hx rfl (pc0 := 10) (pc' := 17) rfl (hb hby at_10) rfl ((if0 _ _).trans (feq (by decide)).2) (by decide) (by decide) ?_
    show Steps p.tables e below (T1.setTop (mkF m 17 #[.val (.int p1), .val (.int (2 : Int32)), .val (.ref w_READ), .unset, .unset] [])) _
    refine XS.iconst X1.here hx rfl (hb hby at_17) ?_
    show Steps p.tables e below (T1.setTop (mkF m 18 #[.val (.int p1), .val (.int (2 : Int32)), .val (.ref w_READ), .unset, .unset] [(.int (0 : Int32))])) _
    refine XS.istoreN X1.here hx rfl (hb hby at_18) rfl (l' := #[.val (.int p1), .val (.int (2 : Int32)), .val (.ref w_READ), .val (.int (0 : Int32)), .unset]) rfl ?_
    show Steps p.tables e below (T1.setTop (mkF m 19 #[.val (.int p1), .val (.int (2 : Int32)), .val (.ref w_READ), .val (.int (0 : Int32)), .unset] [])) _
    refine XS.aloadN X1.here hx rfl (hb hby at_19) rfl rfl ?_
    show Steps p.tables e below (T1.setTop (mkF m 20 #[.val (.int p1), .val (.int (2 : Int32)), .val (.ref w_READ), .val (.int (0 : Int32)), .unset] [(.ref w_READ)])) _
    refine st2.trans ?_
    show Steps p.tables e below (T2.setTop (mkF m 23 #[.val (.int p1), .val (.int (2 : Int32)), .val (.ref w_READ), .val (.int (0 : Int32)), .unset] [(.int (0 : Int32))])) _
    refine XS.istore X2.here hx rfl (hb hby at_23) rfl (l' := #[.val (.int p1), .val (.int (2 : Int32)), .val (.ref w_READ), .val (.int (0 : Int32)), .val (.int (0 : Int32))]) rfl ?_
    show Steps p.tables e below (T2.setTop (mkF m 25 #[.val (.int p1), .val (.int (2 : Int32)), .val (.ref w_READ), .val (.int (0 : Int32)), .val (.int (0 : Int32))] [])) _
    refine XS.iload X2.here hx rfl (hb hby at_25) rfl ?_
    show Steps p.tables e below (T2.setTop (mkF m 27 #[.val (.int p1), .val (.int (2 : Int32)), .val (.ref w_READ), .val (.int (0 : Int32)), .val (.int (0 : Int32))] [(.int (0 : Int32))])) _
    refine XS.iloadN X2.here hx rfl (hb hby at_27) rfl ?_
    show Steps p.tables e below (T2.setTop (mkF m 28 #[.val (.int p1), .val (.int (2 : Int32)), .val (.ref w_READ), .val (.int (0 : Int32)), .val (.int (0 : Int32))] [(.int (0 : Int32)), (.int (0 : Int32))])) _
    refine XS.icmpYes X2.here hx rfl (pc0 := 28) (pc' := 33) rfl (hb hby at_28) rfl (teq (by decide)).1 (by decide) (by decide) ?_
    show Steps p.tables e below (T2.setTop (mkF m 33 #[.val (.int p1), .val (.int (2 : Int32)), .val (.ref w_READ), .val (.int (0 : Int32)), .val (.int (0 : Int32))] [])) _
    refine XS.iload X2.here hx rfl (hb hby at_33) rfl ?_
    show Steps p.tables e below (T2.setTop (mkF m 35 #[.val (.int p1), .val (.int (2 : Int32)), .val (.ref w_READ), .val (.int (0 : Int32)), .val (.int (0 : Int32))] [(.int (0 : Int32))])) _
    refine XS.ifYes X2.here hx rfl (pc0 := 35) (pc' := 54) rfl (hb hby at_35) rfl ((if0 _ _).trans (teq (by decide)).1) (by decide) (by decide) ?_
    show Steps p.tables e below (T2.setTop (mkF m 54 #[.val (.int p1), .val (.int (2 : Int32)), .val (.ref w_READ), .val (.int (0 : Int32)), .val (.int (0 : Int32))] [])) _
    refine XS.iconst X2.here hx rfl (hb hby at_54) ?_
    exact k)
  obtain ⟨fs, hr, hrun, hended, hW, hsame⟩ := X2.leave (v := some (.int (1 : Int32))) (fun h => by rw [Bd.returns] at h; cases h)
  refine ⟨_, _, pre3 _ ?_, hrun, hended, _, _, rfl, ?_, ⟨_, rfl⟩, hW, hsame.mono (by decide) (by decide)⟩
  · show Steps p.tables e below (T2.setTop (mkF m 55 #[.val (.int p1), .val (.int (2 : Int32)), .val (.ref w_READ), .val (.int (0 : Int32)), .val (.int (0 : Int32))] [(.int (1 : Int32))])) _
    exact retN X2 hx (t := .boolean) Bd.returns (by simp) (hb hby at_55) hr
  · exact ⟨rfl, N2, e2⟩
theorem ef_law3 (m : MethodId) (x0 : Int32) : entryFrame m #[(.int x0)] maxLocals = mkF m 0 #[.val (.int x0), .unset, .unset, .unset, .unset] [] := by first | (simp [entryFrame, mkF, argsToLocals, Value.category, maxLocals]; done) | rfl
set_option maxRecDepth 65536 in
set_option maxHeartbeats 40000000 in
theorem rm_law3 (l : Launch) (Z : State) (a0 : Array Value) (hw : ∀ d ∈ tables_1, d.before a0 Z = true) (ws : List Jvm.Cond) (p1 : Int32) (h0 : Heap) (n0 : Nat) (w_REENTRANT w_READ w_FAIR w_WRITE : Addr) (hK : own_K Z h0 w_REENTRANT w_READ w_FAIR w_WRITE) (hk : (p1 &&& (3 : Int32)) = (3 : Int32)) :
    MetFree l x (head1 (Jvm.Cond.code x code maxLocals ret :: ws) room_1) (fun a U => a = #[(.int p1)] ∧ Z.Warmed39 U.vm ∧ U.heap = h0) (fun _ _ _ _ _ => True) (fun _ U o U' => ∃ v L, o = .returned v ∧ own_Q (some (.int (1 : Int32))) h0 n0 v U'.heap L ∧ FrameEnd U o U' L room_1.cells room_1.slots) := by
  refine MetFree.of_bodySF (plainFor_of_name pn_0) hisR ?_
  intro p e s m args below meth c s₁ Bd hml0 hP hK0
  obtain ⟨rfl, hZ, hh⟩ := hP
  have hx := Bd.exec
  have hby := Bd.bytes
  have hml : c.maxLocals = 5 := hml0
  have hown : s.vm.findClass "com/example/shu/shu/model/LockTypeMayKeepReleasesPinLaw" = some m.cls := findClass_of_methodNamed Bd.named
  have hnm := (name_of_methodNamed Bd.named Bd.method).1
  have X0 : Stand p l e room_1 s m #[(.int p1)] below meth c s₁ [] 0 0 := Stand.of_body Bd
  have e0 : s₁.heap = h0 := by rw [← hh, Bd.state]; rfl
  have N0 := Fr.nil n0
  have pre0 : ∀ t, Steps p.tables e below (s₁.setTop (mkF m 0 #[.val (.int p1), .unset, .unset, .unset, .unset] [])) t → Steps p.tables e below (s₁.setTop (entryFrame m #[(.int p1)] maxLocals)) t := fun t k => castTop (ef_law3 m p1) k
  have hK' := hK
  obtain ⟨S_w_REENTRANT, E_w_REENTRANT, S_w_READ, E_w_READ, F_ordinal_w_REENTRANT, F_ordinal_w_READ, S_w_FAIR, E_w_FAIR, F_ordinal_w_FAIR, S_w_WRITE, E_w_WRITE, F_ordinal_w_WRITE⟩ := hK'
  obtain ⟨v1, _, ⟨T1, L1, k1, n1⟩, -, X1, ⟨Lc1, hQ1, l1, y1, z1⟩, st1⟩ := Jvm.LawKit.callS X0 hx (y := (⟨"com/example/shu/shu/model/LockTypeMayKeepReleasesPinLaw", "pick", "(I)Lcom/example/shu/shu/model/LockType;"⟩ : MethodName)) hown (mvT hZ (hw _ (ow 0 rfl))) (mvT hZ (hw _ (ow 1 rfl))) (mvT hZ (hw _ (ow 2 rfl))) (mvT hZ (hw _ (ow 3 rfl))) (by decide) (backOf (W := 0) (rm_pick l Z a0 hw [] (3 : Int32) h0 n0 w_REENTRANT w_READ w_FAIR w_WRITE hK) hZ (hw _ (ow 3 rfl)) (hw _ (ow 2 rfl)) (by decide) (by decide)) (g := (mkF m 5 #[.val (.int p1), .val (.int (3 : Int32)), .unset, .unset, .unset] [(.int (3 : Int32))])) rfl (by rw [hml]; rfl) (argsL := [(.int (3 : Int32))]) (rest := []) (lenOf pd_0 rfl) rfl (Nat.le_of_eq rfl) (hb hby at_5) (fun _ _ => ⟨rfl, e0, (by decide : 0 + 0 ≤ _), (by decide : 0 + 0 ≤ _)⟩)
  dsimp only [Pt.U, Pt.locs, Pt.cells, Pt.slots] at X1 l1 y1 z1 st1 hQ1
  subst l1 y1 z1
  obtain ⟨hv1, Nq1, e1⟩ := hQ1
  obtain rfl : v1 = some (.ref w_WRITE) := hv1.trans (congrArg some (congrArg Value.ref ((if_neg (by decide)).trans ((if_neg (by decide)).trans (if_neg (by decide))))))
  have N1 := Fr.app N0 Nq1
  obtain ⟨cq2, kq2, q2a, q2b, q2c⟩ := isOf hZ e1 E_w_WRITE
  obtain ⟨v2, _, ⟨T2, L2, k2, n2⟩, -, X2, ⟨Lc2, hQ2, l2, y2, z2⟩, st2⟩ := X1.virtualBack hx (y := (⟨"com/example/shu/shu/model/LockType", "mayKeepReleases", "()Z"⟩ : MethodName)) (z := (⟨"com/example/shu/shu/model/LockType", "mayKeepReleases", "()Z"⟩ : MethodName)) hown (mvT hZ (hw _ (ow 7 rfl))) (mvT hZ (hw _ (ow 8 rfl))) (notFace_of_selects (args := #[]) (mvT hZ (hw _ (ow 10 rfl)))) (mvT hZ (hw _ (ow 10 rfl))) (mvT hZ (hw _ (ow 9 rfl))) (by decide) (backOf (W := 0) (rm_mayKeepReleases l Z a0 hw [] w_WRITE h0 n0 w_REENTRANT w_READ w_FAIR w_WRITE hK) hZ (hw _ (ow 11 rfl)) (hw _ (ow 5 rfl)) (by decide) (by decide)) q2a q2c (g := (mkF m 20 #[.val (.int p1), .val (.int (3 : Int32)), .val (.ref w_WRITE), .val (.int (0 : Int32)), .unset] [(.ref w_WRITE)])) rfl (by rw [hml]; rfl) (Steps.refl _) (argsL := []) (rest := []) (lenOf pd_1 rfl) rfl (Nat.le_of_eq rfl) (hb hby at_20) (fun _ _ => ⟨rfl, e1, (by decide : 0 + 0 ≤ _), (by decide : 0 + 0 ≤ _)⟩)
  dsimp only [Pt.U, Pt.locs, Pt.cells, Pt.slots] at X2 l2 y2 z2 st2 hQ2
  subst l2 y2 z2
  obtain ⟨hv2, Nq2, e2⟩ := hQ2
  obtain rfl : v2 = some (.int (0 : Int32)) := hv2.trans (congrArg some (congrArg Value.int (if_neg (Fld.ne F_ordinal_w_WRITE F_ordinal_w_REENTRANT (by decide)))))
  have N2 := Fr.app N1 Nq2
  have pre3 : ∀ t, Steps p.tables e below (T2.setTop (mkF m 55 #[.val (.int p1), .val (.int (3 : Int32)), .val (.ref w_WRITE), .val (.int (0 : Int32)), .val (.int (0 : Int32))] [(.int (1 : Int32))])) t → Steps p.tables e below (s₁.setTop (entryFrame m #[(.int p1)] maxLocals)) t := fun t k => pre0 t (by
    show Steps p.tables e below (s₁.setTop (mkF m 0 #[.val (.int p1), .unset, .unset, .unset, .unset] [])) _
    refine XS.iloadN X0.here hx rfl (hb hby at_0) rfl ?_
    show Steps p.tables e below (s₁.setTop (mkF m 1 #[.val (.int p1), .unset, .unset, .unset, .unset] [(.int p1)])) _
    refine XS.iconst X0.here hx rfl (hb hby at_1) ?_
    show Steps p.tables e below (s₁.setTop (mkF m 2 #[.val (.int p1), .unset, .unset, .unset, .unset] [(.int (3 : Int32)), (.int p1)])) _
    refine XS.iand X0.here hx rfl (hb hby at_2) rfl ?_
    show Steps p.tables e below (s₁.setTop (mkF m 3 #[.val (.int p1), .unset, .unset, .unset, .unset] [(.int (p1 &&& (3 : Int32)))])) _
    rw [hk]
    show Steps p.tables e below (s₁.setTop (mkF m 3 #[.val (.int p1), .unset, .unset, .unset, .unset] [(.int (3 : Int32))])) _
    refine XS.istoreN X0.here hx rfl (hb hby at_3) rfl (l' := #[.val (.int p1), .val (.int (3 : Int32)), .unset, .unset, .unset]) rfl ?_
    show Steps p.tables e below (s₁.setTop (mkF m 4 #[.val (.int p1), .val (.int (3 : Int32)), .unset, .unset, .unset] [])) _
    refine XS.iloadN X0.here hx rfl (hb hby at_4) rfl ?_
    show Steps p.tables e below (s₁.setTop (mkF m 5 #[.val (.int p1), .val (.int (3 : Int32)), .unset, .unset, .unset] [(.int (3 : Int32))])) _
    refine st1 _ ?_
    show Steps p.tables e below (T1.setTop (mkF m 8 #[.val (.int p1), .val (.int (3 : Int32)), .unset, .unset, .unset] [(.ref w_WRITE)])) _
    refine XS.astoreN X1.here hx rfl (hb hby at_8) rfl rfl (l' := #[.val (.int p1), .val (.int (3 : Int32)), .val (.ref w_WRITE), .unset, .unset]) rfl ?_
    show Steps p.tables e below (T1.setTop (mkF m 9 #[.val (.int p1), .val (.int (3 : Int32)), .val (.ref w_WRITE), .unset, .unset] [])) _
    refine XS.iloadN X1.here hx rfl (hb hby at_9) rfl ?_
    show Steps p.tables e below (T1.setTop (mkF m 10 #[.val (.int p1), .val (.int (3 : Int32)), .val (.ref w_WRITE), .unset, .unset] [(.int (3 : Int32))])) _
    refine XS.ifYes X1.here hx rfl (pc0 := 10) (pc' := 17) rfl (hb hby at_10) rfl ((if0 _ _).trans (feq (by decide)).2) (by decide) (by decide) ?_
    show Steps p.tables e below (T1.setTop (mkF m 17 #[.val (.int p1), .val (.int (3 : Int32)), .val (.ref w_WRITE), .unset, .unset] [])) _
    refine XS.iconst X1.here hx rfl (hb hby at_17) ?_
    show Steps p.tables e below (T1.setTop (mkF m 18 #[.val (.int p1), .val (.int (3 : Int32)), .val (.ref w_WRITE), .unset, .unset] [(.int (0 : Int32))])) _
    refine XS.istoreN X1.here hx rfl (hb hby at_18) rfl (l' := #[.val (.int p1), .val (.int (3 : Int32)), .val (.ref w_WRITE), .val (.int (0 : Int32)), .unset]) rfl ?_
    show Steps p.tables e below (T1.setTop (mkF m 19 #[.val (.int p1), .val (.int (3 : Int32)), .val (.ref w_WRITE), .val (.int (0 : Int32)), .unset] [])) _
    refine XS.aloadN X1.here hx rfl (hb hby at_19) rfl rfl ?_
    show Steps p.tables e below (T1.setTop (mkF m 20 #[.val (.int p1), .val (.int (3 : Int32)), .val (.ref w_WRITE), .val (.int (0 : Int32)), .unset] [(.ref w_WRITE)])) _
    refine st2.trans ?_
    show Steps p.tables e below (T2.setTop (mkF m 23 #[.val (.int p1), .val (.int (3 : Int32)), .val (.ref w_WRITE), .val (.int (0 : Int32)), .unset] [(.int (0 : Int32))])) _
    refine XS.istore X2.here hx rfl (hb hby at_23) rfl (l' := #[.val (.int p1), .val (.int (3 : Int32)), .val (.ref w_WRITE), .val (.int (0 : Int32)), .val (.int (0 : Int32))]) rfl ?_
    show Steps p.tables e below (T2.setTop (mkF m 25 #[.val (.int p1), .val (.int (3 : Int32)), .val (.ref w_WRITE), .val (.int (0 : Int32)), .val (.int (0 : Int32))] [])) _
    refine XS.iload X2.here hx rfl (hb hby at_25) rfl ?_
    show Steps p.tables e below (T2.setTop (mkF m 27 #[.val (.int p1), .val (.int (3 : Int32)), .val (.ref w_WRITE), .val (.int (0 : Int32)), .val (.int (0 : Int32))] [(.int (0 : Int32))])) _
    refine XS.iloadN X2.here hx rfl (hb hby at_27) rfl ?_
    show Steps p.tables e below (T2.setTop (mkF m 28 #[.val (.int p1), .val (.int (3 : Int32)), .val (.ref w_WRITE), .val (.int (0 : Int32)), .val (.int (0 : Int32))] [(.int (0 : Int32)), (.int (0 : Int32))])) _
    refine XS.icmpYes X2.here hx rfl (pc0 := 28) (pc' := 33) rfl (hb hby at_28) rfl (teq (by decide)).1 (by decide) (by decide) ?_
    show Steps p.tables e below (T2.setTop (mkF m 33 #[.val (.int p1), .val (.int (3 : Int32)), .val (.ref w_WRITE), .val (.int (0 : Int32)), .val (.int (0 : Int32))] [])) _
    refine XS.iload X2.here hx rfl (hb hby at_33) rfl ?_
    show Steps p.tables e below (T2.setTop (mkF m 35 #[.val (.int p1), .val (.int (3 : Int32)), .val (.ref w_WRITE), .val (.int (0 : Int32)), .val (.int (0 : Int32))] [(.int (0 : Int32))])) _
    refine XS.ifYes X2.here hx rfl (pc0 := 35) (pc' := 54) rfl (hb hby at_35) rfl ((if0 _ _).trans (teq (by decide)).1) (by decide) (by decide) ?_
    show Steps p.tables e below (T2.setTop (mkF m 54 #[.val (.int p1), .val (.int (3 : Int32)), .val (.ref w_WRITE), .val (.int (0 : Int32)), .val (.int (0 : Int32))] [])) _
    refine XS.iconst X2.here hx rfl (hb hby at_54) ?_
    exact k)
  obtain ⟨fs, hr, hrun, hended, hW, hsame⟩ := X2.leave (v := some (.int (1 : Int32))) (fun h => by rw [Bd.returns] at h; cases h)
  refine ⟨_, _, pre3 _ ?_, hrun, hended, _, _, rfl, ?_, ⟨_, rfl⟩, hW, hsame.mono (by decide) (by decide)⟩
  · show Steps p.tables e below (T2.setTop (mkF m 55 #[.val (.int p1), .val (.int (3 : Int32)), .val (.ref w_WRITE), .val (.int (0 : Int32)), .val (.int (0 : Int32))] [(.int (1 : Int32))])) _
    exact retN X2 hx (t := .boolean) Bd.returns (by simp) (hb hby at_55) hr
  · exact ⟨rfl, N2, e2⟩
theorem own_cases (y : Int32) (h0 : 0 ≤ y.toInt) (h1 : y.toInt < 4) : y = (0 : Int32) ∨ y = (1 : Int32) ∨ y = (2 : Int32) ∨ y = (3 : Int32) := by
  have q : y.toInt = 0 ∨ y.toInt = 1 ∨ y.toInt = 2 ∨ y.toInt = 3 := by omega
  rcases q with q | q | q | q
  · exact Or.inl (Int32.toInt_inj.mp q)
  · exact Or.inr (Or.inl (Int32.toInt_inj.mp q))
  · exact Or.inr (Or.inr (Or.inl (Int32.toInt_inj.mp q)))
  · exact Or.inr (Or.inr (Or.inr (Int32.toInt_inj.mp q)))
theorem rm_law (l : Launch) (Z : State) (a0 : Array Value) (hw : ∀ d ∈ tables_1, d.before a0 Z = true) (ws : List Jvm.Cond) (p1 : Int32) (h0 : Heap) (n0 : Nat) (w_REENTRANT w_READ w_FAIR w_WRITE : Addr) (hK : own_K Z h0 w_REENTRANT w_READ w_FAIR w_WRITE) :
    MetFree l x (head1 (Jvm.Cond.code x code maxLocals ret :: ws) room_1) (fun a U => a = #[(.int p1)] ∧ Z.Warmed39 U.vm ∧ U.heap = h0) (fun _ _ _ _ _ => True) (fun _ U o U' => ∃ v L, o = .returned v ∧ own_Q (some (.int (1 : Int32))) h0 n0 v U'.heap L ∧ FrameEnd U o U' L room_1.cells room_1.slots) := by
  have q := c_mask p1 3 2 (by decide) (by decide)
  rcases own_cases (p1 &&& (3 : Int32)) (by omega) (by omega) with hk | hk | hk | hk
  · exact rm_law0 l Z a0 hw ws p1 h0 n0 w_REENTRANT w_READ w_FAIR w_WRITE hK hk
  · exact rm_law1 l Z a0 hw ws p1 h0 n0 w_REENTRANT w_READ w_FAIR w_WRITE hK hk
  · exact rm_law2 l Z a0 hw ws p1 h0 n0 w_REENTRANT w_READ w_FAIR w_WRITE hK hk
  · exact rm_law3 l Z a0 hw ws p1 h0 n0 w_REENTRANT w_READ w_FAIR w_WRITE hK hk
set_option maxRecDepth 65536 in
set_option maxHeartbeats 40000000 in
theorem comes_1 {Post : Tables → Env → Array Value → State → Outcome → State → Prop} (hpost : ∀ tb e args s v u, (limb_1_1.after args s (.returned v) u = true ∧ limb_1_2.after args s (.returned v) u = true ∧ True) → FrameEnd s (.returned v) u (Jvm.fieldLocs frame_1_writes args s ++ Jvm.arrayLocs frame_1_arrays args s ++ Jvm.staticLocs frame_1_statics s) 0 0 → Post tb e args s (.returned v) u) :
    ArmFor flags0 classFile x code maxLocals ret World_1 tables_1 room_1 Calls_1 rest_1 Pre_1 Post := by
  intro l hfl _ _ p e ha hc hk s m args below hf hA hF happ hP
  obtain ⟨hcalls, hrest, hpre⟩ := hP
  obtain ⟨-, -, -, hnamed, -, -, -, hat⟩ := (Spec.applies_iff hf).mp happ
  obtain ⟨hg, hn⟩ := and_e (Cond.before_iff.mp (show (Jvm.Cond.and given_1 narrow_1).before args s = true from hpre))
  obtain ⟨g0, hg⟩ := and_e hg
  obtain ⟨w0, rfl⟩ : ∃ w0 : Value, args = #[w0] := by
    have hs : args.size = 1 := by simpa [Cond.value, given_1] using g0
    obtain ⟨L⟩ := args
    match L, hs with
    | [w0], _ => exact ⟨w0, rfl⟩
  have hw := fun d (hd : d ∈ tables_1) => atoms_spec (ws := Jvm.Cond.code x code maxLocals ret :: tables_1) hat d (List.mem_cons_of_mem _ hd)
  have hfit : Fit s := fun {y c} hc i hi => by
    obtain ⟨ha, rfl⟩ := Array.getElem?_eq_some_iff.mp hc
    have q := List.all_eq_true.mp ((Array.all_eq_true_iff_forall_mem.mp hF) _ (Array.getElem_mem ha)) i (List.mem_range.mpr hi)
    simpa [Array.getElem?_eq_getElem hi] using q
  obtain ⟨i0, ei0⟩ := is_v hg
  obtain rfl : w0 = (.int i0) := Option.some.inj ei0
  obtain ⟨c0, hn⟩ := and_e hn
  obtain ⟨w_REENTRANT, v_w_REENTRANT⟩ := exa_v c0
  have S_w_REENTRANT := Sta.start v_w_REENTRANT (Or.inr ⟨(hw _ (ow 5 rfl)), (hw _ (ow 6 rfl))⟩)
  have E_w_REENTRANT := Exa.start v_w_REENTRANT c0
  obtain ⟨c1, hn⟩ := and_e hn
  obtain ⟨w_READ, v_w_READ⟩ := exa_v c1
  have S_w_READ := Sta.start v_w_READ (Or.inr ⟨(hw _ (ow 5 rfl)), (hw _ (ow 19 rfl))⟩)
  have E_w_READ := Exa.start v_w_READ c1
  obtain ⟨c2, hn⟩ := and_e hn
  have F_ordinal_w_REENTRANT := Fld.start ((fld_at v_w_REENTRANT).symm.trans (own_eqI c2))
  obtain ⟨c3, hn⟩ := and_e hn
  have F_ordinal_w_READ := Fld.start ((fld_at v_w_READ).symm.trans (own_eqI c3))
  obtain ⟨c4, hn⟩ := and_e hn
  obtain ⟨w_FAIR, v_w_FAIR⟩ := exa_v c4
  have S_w_FAIR := Sta.start v_w_FAIR (Or.inr ⟨(hw _ (ow 5 rfl)), (hw _ (ow 26 rfl))⟩)
  have E_w_FAIR := Exa.start v_w_FAIR c4
  obtain ⟨c5, hn⟩ := and_e hn
  have F_ordinal_w_FAIR := Fld.start ((fld_at v_w_FAIR).symm.trans (own_eqI c5))
  obtain ⟨c6, hn⟩ := and_e hn
  obtain ⟨w_WRITE, v_w_WRITE⟩ := exa_v c6
  have S_w_WRITE := Sta.start v_w_WRITE (Or.inr ⟨(hw _ (ow 5 rfl)), (hw _ (ow 28 rfl))⟩)
  have E_w_WRITE := Exa.start v_w_WRITE c6
  have F_ordinal_w_WRITE := Fld.start ((fld_at v_w_WRITE).symm.trans (own_eqI hn))
  have hK : own_K s s.heap w_REENTRANT w_READ w_FAIR w_WRITE := ⟨S_w_REENTRANT, E_w_REENTRANT, S_w_READ, E_w_READ, F_ordinal_w_REENTRANT, F_ordinal_w_READ, S_w_FAIR, E_w_FAIR, F_ordinal_w_FAIR, S_w_WRITE, E_w_WRITE, F_ordinal_w_WRITE⟩
  obtain ⟨n, o, h1, h2, h3, _, L, rfl, ⟨rfl, N, -⟩, hq⟩ := rm_law l s _ hw tables_1 i0 s.heap s.heap.size w_REENTRANT w_READ w_FAIR w_WRITE hK p e ha hc hk s m _ below hf ((Spec.applies_iff_loose hf).mp happ).1 ⟨rfl, State.Warmed39.refl s, rfl⟩ trivial
  refine ⟨n, _, h1, h2, h3, hpost _ _ _ _ _ _ ⟨Cond.after_iff.mpr rfl, Cond.after_iff.mpr (eq_i res_at (Term.int_eval (1)) rfl), trivial⟩ ⟨hq.1, hq.2.1, (hq.2.2.sift fun y hy => Or.inr (N y hy)).mono (by decide) (by decide)⟩⟩
theorem main_1_1 : Claimed_1_1 := comes_1 fun _ _ _ _ _ _ h hF => ⟨h.1, hF⟩
theorem main_1_2 : Claimed_1_2 := comes_1 fun _ _ _ _ _ _ h hF => ⟨h.2.1, hF⟩
end Jvm.Pilot.@@N@@
namespace Jvm.Pilot.@@N@@
open Jvm Jvm.ClassFile Sem Op Lib Jvm.Free Jvm.Stand Jvm.Pilot.@@N@@.Jvm.D
/-! MADE BY PROGRAM (witnessworld.py) out of the Statement's table words and the real class files: 10 classes; the members and pool entries that the words name. The judged class is class 1, her method 2. -/
namespace start1
open Jvm.ClassFile
def u (s : String) : CpInfo := .utf8 (stringToUtf16 s)
/-- a pool by its gaps: so many unusable entries, then the entry; so many at the end -/
def gap : Nat → List CpInfo → List CpInfo
  | 0, r => r
  | n + 1, r => .unusable :: gap n r
def poolList (es : List (Nat × CpInfo)) (last : Nat) : List CpInfo := es.foldr (fun e r => gap e.1 (e.2 :: r)) (gap last [])
def pool (es : List (Nat × CpInfo)) (last : Nat) : Array CpInfo := ⟨poolList es last⟩
def fileOf (pool : Array CpInfo) (this : Nat) (attrs : Array Attribute := #[]) (ms : Array MethodInfo := #[]) (fl : Nat := 33) (sup : Nat := 0) (ifs : Array Nat := #[]) (fds : Array FieldInfo := #[]) : ClassFile where
  minorVersion := 0
  majorVersion := 65
  constantPool := pool
  accessFlags := fl
  thisClass := this
  superClass := sup
  interfaces := ifs
  fields := fds
  methods := ms
  attributes := attrs
def plain (name : String) (sup : Option ClassId) : Class where
  name := name
  kind := .ordinary
  loader := none
  accessFlags := 33
  super := sup
  interfaces := #[]
  cf := none
  fields := #[]
  methods := #[]
  instanceTypes := #[]
  staticTypes := #[]
  resolved := #[]
  callSites := []
  init := .initialized
  statics := none
  mirror := none

def pool0 : Array CpInfo := pool [(5, u "<init>"), (0, u "()V"), (1, .class_ 10), (1, u "java/lang/Object")] 113

def k0m0 : Method := { name := "<init>", desc := "()V", sig := { parameters := [], returnType := none }, accessFlags := 1, code := none }
/-- java/lang/Object -/
def k0 : Class := { plain "java/lang/Object" none with
  accessFlags := 33
  interfaces := #[]
  cf := some (fileOf pool0 8 #[] #[{ accessFlags := 1, nameIndex := 5, descriptorIndex := 6, attributes := #[] }] 33 0 #[] #[])
  fields := #[]
  methods := #[k0m0]
  instanceTypes := #[]
  staticTypes := #[]
  resolved := Array.replicate 124 none
  statics := none }

def pool1 : Array CpInfo := pool [(2, .class_ 4), (1, u "java/lang/Object"), (0, u "<init>"), (0, u "()V"), (0, .fieldref 8 9), (0, .class_ 10), (0, .nameAndType 11 12), (0, u "com/example/shu/shu/model/LockType"), (0, u "REENTRANT"), (0, u "Lcom/example/shu/shu/model/LockType;"), (0, .fieldref 8 14), (0, .nameAndType 15 12), (0, u "FAIR"), (0, .fieldref 8 17), (0, .nameAndType 18 12), (0, u "READ"), (0, .fieldref 8 20), (0, .nameAndType 21 12), (0, u "WRITE"), (0, .methodref 23 24), (0, .class_ 25), (0, .nameAndType 26 27), (0, u "com/example/shu/shu/model/LockTypeMayKeepReleasesPinLaw"), (0, u "pick"), (0, u "(I)Lcom/example/shu/shu/model/LockType;"), (0, .methodref 8 29), (0, .nameAndType 30 31), (0, u "mayKeepReleases"), (0, u "()Z"), (0, .methodref 8 33), (0, .nameAndType 34 31), (0, u "isShared"), (0, .methodref 8 36), (0, .nameAndType 37 31), (0, u "isFair"), (3, u "law"), (0, u "(I)Z")] 2

def k1m0 : Method := { name := "<init>", desc := "()V", sig := { parameters := [], returnType := none }, accessFlags := 2, code := none }
def k1c1 : Code := { maxStack := 2, maxLocals := 1, code := method_2_code, exceptionTable := #[], attributes := #[] }
def k1m1 : Method := { name := "pick", desc := "(I)Lcom/example/shu/shu/model/LockType;", sig := { parameters := [.int], returnType := some (.object "com/example/shu/shu/model/LockType") }, accessFlags := 10, code := some k1c1 }
def k1c2 : Code := { maxStack := 2, maxLocals := 5, code := code, exceptionTable := #[], attributes := #[] }
def k1m2 : Method := { name := "law", desc := "(I)Z", sig := { parameters := [.int], returnType := some .boolean }, accessFlags := 9, code := some k1c2 }
/-- com/example/shu/shu/model/LockTypeMayKeepReleasesPinLaw -/
def k1 : Class := { plain "com/example/shu/shu/model/LockTypeMayKeepReleasesPinLaw" (some 0) with
  accessFlags := 49
  interfaces := #[]
  cf := some (fileOf pool1 23 #[] #[{ accessFlags := 2, nameIndex := 5, descriptorIndex := 6, attributes := #[] }, { accessFlags := 10, nameIndex := 26, descriptorIndex := 27, attributes := #[] }, { accessFlags := 9, nameIndex := 41, descriptorIndex := 42, attributes := #[] }] 49 2 #[] #[])
  fields := #[]
  methods := #[k1m0, k1m1, k1m2]
  instanceTypes := #[]
  staticTypes := #[]
  resolved := Array.replicate 45 none
  statics := none }

def pool2 : Array CpInfo := pool [(1, .class_ 2), (0, u "java/lang/constant/Constable"), (0, .class_ 4), (0, u "java/lang/Object")] 6

/-- java/lang/constant/Constable -/
def k2 : Class := { plain "java/lang/constant/Constable" (some 0) with
  accessFlags := 1537
  interfaces := #[]
  cf := some (fileOf pool2 1 #[] #[] 1537 3 #[] #[])
  fields := #[]
  methods := #[]
  instanceTypes := #[]
  staticTypes := #[]
  resolved := Array.replicate 11 none
  statics := none }

def pool3 : Array CpInfo := pool [(1, .class_ 2), (0, u "java/lang/Comparable"), (0, .class_ 4), (0, u "java/lang/Object")] 7

/-- java/lang/Comparable -/
def k3 : Class := { plain "java/lang/Comparable" (some 0) with
  accessFlags := 1537
  interfaces := #[]
  cf := some (fileOf pool3 1 #[] #[] 1537 3 #[] #[])
  fields := #[]
  methods := #[]
  instanceTypes := #[]
  staticTypes := #[]
  resolved := Array.replicate 12 none
  statics := none }

def pool4 : Array CpInfo := pool [(1, .class_ 2), (0, u "java/io/Serializable"), (0, .class_ 4), (0, u "java/lang/Object")] 2

/-- java/io/Serializable -/
def k4 : Class := { plain "java/io/Serializable" (some 0) with
  accessFlags := 1537
  interfaces := #[]
  cf := some (fileOf pool4 1 #[] #[] 1537 3 #[] #[])
  fields := #[]
  methods := #[]
  instanceTypes := #[]
  staticTypes := #[]
  resolved := Array.replicate 7 none
  statics := none }

def pool5 : Array CpInfo := pool [(2, .class_ 4), (1, u "java/lang/Enum"), (0, u "name"), (0, u "Ljava/lang/String;"), (2, u "ordinal"), (0, u "I"), (1, .class_ 14), (1, u "java/lang/Object"), (4, u "hash"), (86, .class_ 108), (1, u "java/lang/Enum$EnumDesc"), (2, .class_ 112), (0, u "java/lang/constant/Constable"), (0, .class_ 114), (0, u "java/lang/Comparable"), (0, .class_ 116), (0, u "java/io/Serializable")] 87

/-- java/lang/Enum -/
def k5 : Class := { plain "java/lang/Enum" (some 0) with
  accessFlags := 1057
  interfaces := #[2, 3, 4]
  cf := some (fileOf pool5 2 #[.nestMembers #[106]] #[] 1057 12 #[111, 113, 115] #[{ accessFlags := 18, nameIndex := 5, descriptorIndex := 6, attributes := #[] }, { accessFlags := 18, nameIndex := 9, descriptorIndex := 10, attributes := #[] }, { accessFlags := 2, nameIndex := 19, descriptorIndex := 10, attributes := #[] }])
  fields := #[{ name := "name", type := (.object "java/lang/String"), accessFlags := 18, slot := 0, constantValue := 0 }, { name := "ordinal", type := .int, accessFlags := 18, slot := 1, constantValue := 0 }, { name := "hash", type := .int, accessFlags := 2, slot := 2, constantValue := 0 }]
  methods := #[]
  instanceTypes := #[(.object "java/lang/String"), .int, .int]
  staticTypes := #[]
  resolved := Array.replicate 204 none
  statics := none }

def pool6 : Array CpInfo := pool [(1, .class_ 2), (0, u "com/example/shu/shu/model/LockType"), (0, .fieldref 1 4), (0, .nameAndType 5 6), (0, u "REENTRANT"), (0, u "Lcom/example/shu/shu/model/LockType;"), (0, .fieldref 1 8), (0, .nameAndType 9 6), (0, u "FAIR"), (0, .fieldref 1 11), (0, .nameAndType 12 6), (0, u "READ"), (2, u "WRITE"), (2, u "$VALUES"), (0, u "[Lcom/example/shu/shu/model/LockType;"), (6, .class_ 28), (1, u "java/lang/Enum"), (8, u "title"), (0, u "Ljava/lang/String;"), (28, u "isShared"), (0, u "()Z"), (1, u "isFair"), (1, u "mayKeepReleases")] 5

def k6c0 : Code := { maxStack := 2, maxLocals := 1, code := prog_19_method_5_code, exceptionTable := #[], attributes := #[] }
def k6m0 : Method := { name := "isShared", desc := "()Z", sig := { parameters := [], returnType := some .boolean }, accessFlags := 1, code := some k6c0 }
def k6c1 : Code := { maxStack := 2, maxLocals := 1, code := prog_19_method_6_code, exceptionTable := #[], attributes := #[] }
def k6m1 : Method := { name := "isFair", desc := "()Z", sig := { parameters := [], returnType := some .boolean }, accessFlags := 1, code := some k6c1 }
def k6c2 : Code := { maxStack := 2, maxLocals := 1, code := prog_19_method_8_code, exceptionTable := #[], attributes := #[] }
def k6m2 : Method := { name := "mayKeepReleases", desc := "()Z", sig := { parameters := [], returnType := some .boolean }, accessFlags := 1, code := some k6c2 }
/-- com/example/shu/shu/model/LockType -/
def k6 : Class := { plain "com/example/shu/shu/model/LockType" (some 5) with
  accessFlags := 16433
  interfaces := #[]
  cf := some (fileOf pool6 1 #[] #[{ accessFlags := 1, nameIndex := 67, descriptorIndex := 68, attributes := #[] }, { accessFlags := 1, nameIndex := 70, descriptorIndex := 68, attributes := #[] }, { accessFlags := 1, nameIndex := 72, descriptorIndex := 68, attributes := #[] }] 16433 26 #[] #[{ accessFlags := 16409, nameIndex := 5, descriptorIndex := 6, attributes := #[] }, { accessFlags := 16409, nameIndex := 9, descriptorIndex := 6, attributes := #[] }, { accessFlags := 16409, nameIndex := 12, descriptorIndex := 6, attributes := #[] }, { accessFlags := 16409, nameIndex := 15, descriptorIndex := 6, attributes := #[] }, { accessFlags := 18, nameIndex := 37, descriptorIndex := 38, attributes := #[] }, { accessFlags := 4122, nameIndex := 18, descriptorIndex := 19, attributes := #[] }])
  fields := #[{ name := "REENTRANT", type := (.object "com/example/shu/shu/model/LockType"), accessFlags := 16409, slot := 0, constantValue := 0 }, { name := "FAIR", type := (.object "com/example/shu/shu/model/LockType"), accessFlags := 16409, slot := 1, constantValue := 0 }, { name := "READ", type := (.object "com/example/shu/shu/model/LockType"), accessFlags := 16409, slot := 2, constantValue := 0 }, { name := "WRITE", type := (.object "com/example/shu/shu/model/LockType"), accessFlags := 16409, slot := 3, constantValue := 0 }, { name := "title", type := (.object "java/lang/String"), accessFlags := 18, slot := 3, constantValue := 0 }, { name := "$VALUES", type := (.array (.object "com/example/shu/shu/model/LockType")), accessFlags := 4122, slot := 4, constantValue := 0 }]
  methods := #[k6m0, k6m1, k6m2]
  instanceTypes := #[(.object "java/lang/String"), .int, .int, (.object "java/lang/String")]
  staticTypes := #[(.object "com/example/shu/shu/model/LockType"), (.object "com/example/shu/shu/model/LockType"), (.object "com/example/shu/shu/model/LockType"), (.object "com/example/shu/shu/model/LockType"), (.array (.object "com/example/shu/shu/model/LockType"))]
  resolved := Array.replicate 78 none
  statics := some 0 }

def pool7 : Array CpInfo := pool [(1, u "java/lang/Cloneable"), (0, .class_ 1), (0, u "java/lang/Object"), (0, .class_ 3)] 3

/-- java/lang/Cloneable -/
def k7 : Class := { plain "java/lang/Cloneable" (some 0) with
  accessFlags := 1537
  interfaces := #[]
  cf := some (fileOf pool7 2 #[] #[] 1537 4 #[] #[])
  fields := #[]
  methods := #[]
  instanceTypes := #[]
  staticTypes := #[]
  resolved := Array.replicate 8 none
  statics := none }

/-- the primitive byte -/
def k8 : Class := { plain "byte" none with kind := .primitive 'B', accessFlags := 0x411 }
/-- [B -/
def k9 : Class := { plain "[B" (some 0) with kind := .array 8 .byte, interfaces := #[7, 4], accessFlags := 1041 }

def heap : Heap := #[{ cls := 6, slots := #[.ref 1, .ref 3, .ref 2, .ref 4, .null], vm := .statics 6 },
  { cls := 6, slots := #[.null, .int 0, .int 0, .null], vm := .none },
  { cls := 6, slots := #[.null, .int 2, .int 0, .null], vm := .none },
  { cls := 6, slots := #[.null, .int 1, .int 0, .null], vm := .none },
  { cls := 6, slots := #[.null, .int 3, .int 0, .null], vm := .none }]
def classes : Array Class := #[k0, k1, k2, k3, k4, k5, k6, k7, k8, k9]
def interned : List (Array UInt16 × Addr) := []
def slotsUsed : Nat := 21
def theMethod : MethodId := ⟨1, 2⟩
def args0 : Array Value := #[.int 5]
def aboutOver (below : List Frame) : State where
  vm := { classes := classes, interned := interned.toArray }
  heap := heap
  slotsUsed := slotsUsed
  threads := #[{ frames := .invoking theMethod args0 :: below }]
def below0 : List Frame := [.native { method := ⟨0, 0⟩, args := #[] }]
def about1 : State := aboutOver below0
def p0 : Program := .bare "" "" ""
def e0 : Env := launch0.env 0 0 0
theorem w_frames : about1.frames = Frame.invoking theMethod args0 :: below0 := rfl
set_option maxRecDepth 65536 in
theorem w_args : argsFit about1.vm theMethod args0 = true := by decide +kernel
set_option maxRecDepth 65536 in
theorem w_heap : heapFits about1 = true := by decide +kernel
set_option maxRecDepth 65536 in
theorem w_runnable : about1.curStatus? = some .runnable := by decide +kernel
set_option maxRecDepth 65536 in
theorem w_alone : about1.alone = true := by decide +kernel
set_option maxRecDepth 65536 in
theorem w_named : about1.methodNamed? x = some theMethod := by decide +kernel
set_option maxRecDepth 65536 in
theorem w_hears : about1.hears theMethod below0 = true := by decide +kernel
set_option maxRecDepth 65536 in
theorem w_ripe : about1.ripe theMethod args0 below0 = true := by decide +kernel
theorem w_running : about1.status = .running := rfl
set_option maxRecDepth 65536 in
theorem w_room : about1.hasRoom e0.platform room_1 = true :=
  launch0.hasRoom_least _ room_1 (by decide +kernel) (by decide +kernel) (by decide +kernel) (by decide +kernel) (by decide +kernel) (by decide +kernel)
theorem allAtoms_all (ts : List Jvm.Cond) (a : Array Jvm.Value) (st : Jvm.State) : (allAtoms ts).before a st = ts.all (fun c => c.before a st) := by
  induction ts with
  | nil => rfl
  | cons c t ih =>
    show (Jvm.Cond.and c (allAtoms t)).before a st = _
    rw [Jvm.Cond.before_and, ih, List.all_cons]
def words1 : List Jvm.Cond := Jvm.Cond.code x code maxLocals ret :: tables_1
/-- a 'code' word, met by the world's own term for the bytes: nothing is compared byte by byte -/
theorem code_word {y : MethodName} {bytes : ByteArray} {mx : Nat} {rt : Option FieldType} {a : Array Value} {s : State} {m : MethodId} {meth : Method} {c : Code} (h1 : s.methodNamed? y = some m) (h2 : s.vm.method? m = some meth) (h3 : meth.code = some c) (h4 : c.code = bytes)
    (h5 : (c.maxLocals == mx && c.exceptionTable.isEmpty && decide (c.maxStack ≤ mostOperands) && decide (meth.sig.returnType = rt) && !meth.locks && decide (parseMethodDescriptor y.desc = some meth.sig)) = true) : (Jvm.Cond.code y bytes mx rt).before a s = true := by
  simp only [Bool.and_eq_true, beq_iff_eq, Bool.not_eq_true', decide_eq_true_eq] at h5
  obtain ⟨⟨⟨⟨⟨g1, g2⟩, g3⟩, g4⟩, g5⟩, g6⟩ := h5
  simp [Cond.before, Cond.holds, Cond.value, h1, h2, h3, h4, g1, g2, g3, g4, g5, g6]
def isCode : Jvm.Cond → Bool
  | .code _ _ _ _ => true
  | _ => false
theorem all_split {L : List Jvm.Cond} {P : Jvm.Cond → Bool} (h1 : L.all (fun c => isCode c || P c) = true) (h2 : ∀ c ∈ L.filter isCode, P c = true) : L.all P = true := by
  refine List.all_eq_true.mpr fun c hc => ?_
  have h := List.all_eq_true.mp h1 c hc
  rcases Bool.eq_false_or_eq_true (isCode c) with hi | hi
  · exact h2 c (List.mem_filter.mpr ⟨hc, hi⟩)
  · simpa [hi] using h
set_option maxRecDepth 65536 in
theorem w_c0 : (Jvm.Cond.code x code maxLocals ret).before args0 about1 = true := code_word (m := ⟨1, 2⟩) (meth := k1m2) (c := k1c2) (by decide +kernel) rfl rfl rfl (by decide +kernel)
set_option maxRecDepth 65536 in
theorem w_c1 : (Jvm.Cond.code ({ cls := "com/example/shu/shu/model/LockTypeMayKeepReleasesPinLaw", name := "pick", desc := "(I)Lcom/example/shu/shu/model/LockType;" } : Jvm.MethodName) method_2_code (1 : Nat) (Option.some (Jvm.ClassFile.FieldType.object "com/example/shu/shu/model/LockType"))).before args0 about1 = true := code_word (m := ⟨1, 1⟩) (meth := k1m1) (c := k1c1) (by decide +kernel) rfl rfl rfl (by decide +kernel)
set_option maxRecDepth 65536 in
theorem w_c2 : (Jvm.Cond.code ({ cls := "com/example/shu/shu/model/LockType", name := "mayKeepReleases", desc := "()Z" } : Jvm.MethodName) prog_19_method_8_code (1 : Nat) (Option.some Jvm.ClassFile.FieldType.boolean)).before args0 about1 = true := code_word (m := ⟨6, 2⟩) (meth := k6m2) (c := k6c2) (by decide +kernel) rfl rfl rfl (by decide +kernel)
set_option maxRecDepth 65536 in
theorem w_c3 : (Jvm.Cond.code ({ cls := "com/example/shu/shu/model/LockType", name := "isShared", desc := "()Z" } : Jvm.MethodName) prog_19_method_5_code (1 : Nat) (Option.some Jvm.ClassFile.FieldType.boolean)).before args0 about1 = true := code_word (m := ⟨6, 0⟩) (meth := k6m0) (c := k6c0) (by decide +kernel) rfl rfl rfl (by decide +kernel)
set_option maxRecDepth 65536 in
theorem w_c4 : (Jvm.Cond.code ({ cls := "com/example/shu/shu/model/LockType", name := "isFair", desc := "()Z" } : Jvm.MethodName) prog_19_method_6_code (1 : Nat) (Option.some Jvm.ClassFile.FieldType.boolean)).before args0 about1 = true := code_word (m := ⟨6, 1⟩) (meth := k6m1) (c := k6c1) (by decide +kernel) rfl rfl rfl (by decide +kernel)
def codes1 : List Jvm.Cond := [Jvm.Cond.code x code maxLocals ret, Jvm.Cond.code ({ cls := "com/example/shu/shu/model/LockTypeMayKeepReleasesPinLaw", name := "pick", desc := "(I)Lcom/example/shu/shu/model/LockType;" } : Jvm.MethodName) method_2_code (1 : Nat) (Option.some (Jvm.ClassFile.FieldType.object "com/example/shu/shu/model/LockType")), Jvm.Cond.code ({ cls := "com/example/shu/shu/model/LockType", name := "mayKeepReleases", desc := "()Z" } : Jvm.MethodName) prog_19_method_8_code (1 : Nat) (Option.some Jvm.ClassFile.FieldType.boolean), Jvm.Cond.code ({ cls := "com/example/shu/shu/model/LockType", name := "isShared", desc := "()Z" } : Jvm.MethodName) prog_19_method_5_code (1 : Nat) (Option.some Jvm.ClassFile.FieldType.boolean), Jvm.Cond.code ({ cls := "com/example/shu/shu/model/LockType", name := "isFair", desc := "()Z" } : Jvm.MethodName) prog_19_method_6_code (1 : Nat) (Option.some Jvm.ClassFile.FieldType.boolean)]
set_option maxRecDepth 65536 in
theorem codes_eq : words1.filter isCode = codes1 := rfl
theorem w_codes : ∀ c ∈ words1.filter isCode, c.before args0 about1 = true := by
  rw [codes_eq]
  intro c hc
  simp only [codes1, List.mem_cons, List.not_mem_nil, or_false] at hc
  rcases hc with rfl | rfl | rfl | rfl | rfl
  · exact w_c0
  · exact w_c1
  · exact w_c2
  · exact w_c3
  · exact w_c4
set_option maxRecDepth 65536 in
theorem w_t1 : (words1.take 24).all (fun c => isCode c || c.before args0 about1) = true := by decide +kernel
set_option maxRecDepth 65536 in
theorem w_t2 : (words1.drop 24).all (fun c => isCode c || c.before args0 about1) = true := by decide +kernel
theorem w_tables : (allAtoms (Jvm.Cond.code x code maxLocals ret :: tables_1)).before args0 about1 = true := by
  rw [allAtoms_all]
  show words1.all (fun c => c.before args0 about1) = true
  refine all_split ?_ w_codes
  rw [← List.take_append_drop 24 words1, List.all_append, w_t1, w_t2]
  rfl
set_option maxRecDepth 65536 in
theorem w_case : (Jvm.Cond.and given_1 narrow_1).before args0 about1 = true := by decide +kernel
theorem w_applies : (headSpec (Jvm.Cond.code x code maxLocals ret :: tables_1) room_1).applies x e0.platform about1 = true :=
  (Spec.applies_iff w_frames).mpr ⟨w_running, w_runnable, w_alone, w_named, w_hears, w_ripe, w_room, w_tables⟩
theorem atStart : AtStart classFile x code maxLocals ret World_1 tables_1 room_1 Calls_1 rest_1 Pre_1 launch0 p0 e0 about1 theMethod args0 below0 :=
  ⟨lists_1, trivial, launch0.admits_env _ _ _, launch0.least_env, fairChoices_fair.cas, fairChoices_fair.clock, w_frames, w_args, w_heap, w_applies, trivial, trivial, w_case⟩
end start1
theorem witness_1 : WitnessClaimed_1 := ⟨start1.p0, start1.e0, start1.about1, start1.theMethod, start1.args0, start1.below0, start1.atStart⟩
end Jvm.Pilot.@@N@@
