import JvmDerived
import JvmDerived.Pilot.@@N@@Statement
import JvmDerived.Pilot.@@N@@Code
set_option linter.unusedVariables false
set_option linter.unusedSimpArgs false
namespace Jvm.RoadKit
open Sem ClassFile Op Lib Jvm.Stand Jvm.Free Jvm.LawKit
section New
variable {p : Program} {l : Launch} {e : Env} {R : Room} {s : State} {m : MethodId} {args : Array Value} {below : List Frame} {meth : Method} {c : Code} {T : State} {locs : List Loc} {cells slots : Nat}
theorem retI (X : Stand p l e R s m args below meth c T locs cells slots) (hx : p.tables.exec = Jvm.exec) {pc : Nat} {Ls : Array Slot} {z : Int32} {rest : List Value} (hret : meth.sig.returnType = some .int) (hd : decode c.code pc = .ok (.ireturn, 1)) {fs : List Frame}
    (hl : ∀ (f : JFrame) (acts : List Action), f.method = m → f.locked = none → f.entered = [] → (doReturn e (T.setTop f) acts (some (.int z))).1 = T.setFrames fs) : Steps p.tables e below (T.setTop (mkF m pc Ls (.int z :: rest))) (T.setFrames fs) :=
  retOut X hx hret rfl (Or.inl ⟨rfl, Or.inl rfl, z, rfl⟩) hd hl
end New
end Jvm.RoadKit
namespace Jvm.Pilot.@@N@@
open Jvm Jvm.ClassFile Sem Op Lib Jvm.Free Jvm.Stand Jvm.LawKit Jvm.RoadKit Bundle Jvm.Pilot.@@N@@.Jvm.D
theorem ow {d : Jvm.Cond} (i : Nat) (h : tables_1[i]? = some d) : d ∈ tables_1 := List.mem_of_getElem? h
/-- what a body that only reads leaves: its answer, nothing written, the heap as it was -/
def own_Q (r : Option Value) (h0 : Heap) (n0 : Nat) (v : Option Value) (h : Heap) (L : List Loc) : Prop := v = r ∧ Fr n0 L ∧ h = h0
section OwnWords
variable {args : Array Value} {first s : State} {o : Option Outcome} {idx : List Nat} {a b : Term}
theorem own_eqI {k : Int32} (h : (Jvm.Cond.eq a (.int k)).value args first o s idx = some true) : a.eval args first o idx s = some (.int k) := by
  obtain ⟨x, y, hx, hy, k1, -⟩ := cmp_v (r := true) (Or.inl h)
  have hy' : y = .int k := (Option.some.inj hy).symm
  subst hy'
  cases x <;> simp [Kin, Value.isRef] at k1
  simp [Jvm.Cond.value, hx, Term.eval] at h
  rw [hx, h]
theorem own_eqR {y : Addr} (h : (Jvm.Cond.eq a b).value args first o s idx = some true) (hb : b.eval args first o idx s = some (.ref y)) : a.eval args first o idx s = some (.ref y) := by
  obtain ⟨x, z, hx, hy, k1, -⟩ := cmp_v (r := true) (Or.inl h)
  cases hb.symm.trans hy
  cases x <;> simp [Kin, Value.isRef] at k1
  · simp [Jvm.Cond.value, hx, hb] at h
  · simp [Jvm.Cond.value, hx, hb] at h
    rw [hx, h]
theorem own_len {y : Addr} {c : Cell} {n : Int32} (h : (Term.length a).eval args first o idx s = some (.int n)) (ht : a.eval args first o idx s = some (.ref y)) (hc : s.heap[y]? = some c) : (c.slots.size : Int) = n.toInt := by
  simp only [Term.eval, Option.bind_eq_bind, ht, Option.bind_some] at h
  obtain ⟨cell, hcell, h⟩ := Option.bind_eq_some_iff.mp h
  cases hc.symm.trans (State.arrayAt?_spec hcell).1
  by_cases hn : c.slots.size < 2147483648
  · rw [if_pos hn] at h; cases h; exact (len_toInt hn).symm
  · rw [if_neg hn] at h; cases h
end OwnWords
/-- an array that stands in the heap, with all that lies in it -/
def own_Arr (Z : State) (h : Heap) (a : Addr) (ty : FieldType) (vs : List Value) : Prop := ∃ c : Cell, Arr Z h a c ty ∧ c.slots = vs.toArray
/-- what a law leaves that makes arrays of its own -/
def own_QH (r : Option Value) (n0 : Nat) (v : Option Value) (h : Heap) (L : List Loc) : Prop := v = r ∧ Fr n0 L ∧ True
/-- the same of an array whose class is known -/
def own_ArrK (Z : State) (h : Heap) (a : Addr) (k : ClassId) (ty : FieldType) (vs : List Value) : Prop := ∃ c : Cell, Arr Z h a c ty ∧ c.cls = k ∧ c.slots = vs.toArray
section OwnArr
variable {Z : State} {h0 h h' : Heap} {a b : Addr} {k : ClassId} {ty : FieldType} {vs : List Value} {v : Value} {sl : Nat} {c : Cell}
theorem own_Arr.ext (F : own_Arr Z h a ty vs) (E : Ext h h') : own_Arr Z h' a ty vs := by obtain ⟨c, A, r⟩ := F; exact ⟨c, A.ext E, r⟩
theorem own_ArrK.lt (F : own_ArrK Z h a k ty vs) : a < h.size := by obtain ⟨c, A, -⟩ := F; exact A.lt
theorem own_ArrK.ext (F : own_ArrK Z h a k ty vs) (E : Ext h h') : own_ArrK Z h' a k ty vs := by obtain ⟨c, A, r⟩ := F; exact ⟨c, A.ext E, r⟩
theorem own_ArrK.other (F : own_ArrK Z h b k ty vs) (W : Wr h h' a sl v) (q : b ≠ a) : own_ArrK Z h' b k ty vs := by obtain ⟨c, A, r⟩ := F; exact ⟨c, A.other W q, r⟩
theorem own_set (W : Wr h h' a sl v) (A : Arr Z h a c ty) (q : c.cls = k) (e : c.slots = vs.toArray) : own_ArrK Z h' a k ty (vs.set sl v) := ⟨_, A.same W, q, by simp [Cell.setSlot, e]⟩
theorem own_inb {j : Int32} (n : Nat) (e : c.slots = vs.toArray) (hl : vs.length = n) (h0 : ¬ j < 0) (h1 : j.toNatClampNeg < n) : ¬ (j < 0 ∨ c.slots.size ≤ j.toNatClampNeg) := by
  rw [e]
  rintro (h | h)
  · exact h0 h
  · simp at h; omega
theorem own_get {j : Int32} (e : c.slots = vs.toArray) (hj : ¬ j < 0) (q : vs[j.toNatClampNeg]? = some v) : (¬ (j < 0 ∨ c.slots.size ≤ j.toNatClampNeg)) ∧ c.slots[j.toNatClampNeg]? = some v := by
  have hl := (List.getElem?_eq_some_iff.mp q).1
  rw [e]
  refine ⟨?_, by simpa using q⟩
  rintro (h | h)
  · exact hj h
  · simp at h; omega
theorem own_ext_trans {h'' : Heap} (E : Ext h h') (E' : Ext h' h'') : Ext h h'' := ⟨Nat.le_trans E.1 E'.1, fun x y q => E'.2 x y (E.2 x y q)⟩
theorem own_ext_wr (E : Ext h0 h) (W : Wr h h' a sl v) (q : h0.size ≤ a) : Ext h0 h' := by
  refine ⟨Nat.le_trans E.1 (Nat.le_of_eq W.size.symm), fun x y hx => ?_⟩
  have hlt := (Array.getElem?_eq_some_iff.mp hx).1
  obtain ⟨c', e1, -, -, -, e5, -⟩ := wr_at W (E.2 x y hx)
  rw [← e5 (Nat.ne_of_lt (Nat.lt_of_lt_of_le hlt q))]; exact e1
theorem own_ext_keep (E : Ext h0 h) (K : Keep h h' [a]) (q : h0.size ≤ a) : Ext h0 h' := ⟨Nat.le_trans E.1 K.1, fun x y hx => K.2.1 x y (E.2 x y hx) (ninS (Nat.ne_of_lt (Nat.lt_of_lt_of_le (Array.getElem?_eq_some_iff.mp hx).1 q)) nin0)⟩
end OwnArr
def own_K (Z : State) (h : Heap) (w_REGULAR w_SEVEN_PAIRS w_THIRTEEN_ORPHANS w_SEVEN_PAIRS_FOURS_AS_TWO : Addr) : Prop := Sta Z h "com/example/tenpai/tenpai/core/Form" "REGULAR" "Lcom/example/tenpai/tenpai/core/Form;" (.ref w_REGULAR) ∧ Exa Z h w_REGULAR "com/example/tenpai/tenpai/core/Form" ∧ Fld Z h w_REGULAR "com/example/tenpai/tenpai/core/Form" "_complete" "I" (.int (0 : Int32)) ∧ Sta Z h "com/example/tenpai/tenpai/core/Form" "SEVEN_PAIRS" "Lcom/example/tenpai/tenpai/core/Form;" (.ref w_SEVEN_PAIRS) ∧ Exa Z h w_SEVEN_PAIRS "com/example/tenpai/tenpai/core/Form" ∧ Fld Z h w_SEVEN_PAIRS "com/example/tenpai/tenpai/core/Form" "_complete" "I" (.int (14 : Int32)) ∧ Sta Z h "com/example/tenpai/tenpai/core/Form" "THIRTEEN_ORPHANS" "Lcom/example/tenpai/tenpai/core/Form;" (.ref w_THIRTEEN_ORPHANS) ∧ Exa Z h w_THIRTEEN_ORPHANS "com/example/tenpai/tenpai/core/Form" ∧ Fld Z h w_THIRTEEN_ORPHANS "com/example/tenpai/tenpai/core/Form" "_complete" "I" (.int (14 : Int32)) ∧ Sta Z h "com/example/tenpai/tenpai/core/Form" "SEVEN_PAIRS_FOURS_AS_TWO" "Lcom/example/tenpai/tenpai/core/Form;" (.ref w_SEVEN_PAIRS_FOURS_AS_TWO) ∧ Exa Z h w_SEVEN_PAIRS_FOURS_AS_TWO "com/example/tenpai/tenpai/core/Form" ∧ Fld Z h w_SEVEN_PAIRS_FOURS_AS_TWO "com/example/tenpai/tenpai/core/Form" "_complete" "I" (.int (14 : Int32))
theorem d_method_2_0 : decode method_2_code 0 = .ok (.iload_n 0, 1) := by decide +kernel
theorem d_method_2_1 : decode method_2_code 1 = .ok (.ifCond .ne 7, 3) := by decide +kernel
theorem d_method_2_4 : decode method_2_code 4 = .ok (.getstatic 7, 3) := by decide +kernel
theorem d_method_2_7 : decode method_2_code 7 = .ok (.areturn, 1) := by decide +kernel
theorem d_method_2_8 : decode method_2_code 8 = .ok (.iload_n 0, 1) := by decide +kernel
theorem d_method_2_9 : decode method_2_code 9 = .ok (.iconst 1, 1) := by decide +kernel
theorem d_method_2_10 : decode method_2_code 10 = .ok (.if_icmp .ne 7, 3) := by decide +kernel
theorem d_method_2_13 : decode method_2_code 13 = .ok (.getstatic 13, 3) := by decide +kernel
theorem d_method_2_16 : decode method_2_code 16 = .ok (.areturn, 1) := by decide +kernel
theorem d_method_2_17 : decode method_2_code 17 = .ok (.iload_n 0, 1) := by decide +kernel
theorem d_method_2_18 : decode method_2_code 18 = .ok (.iconst 2, 1) := by decide +kernel
theorem d_method_2_19 : decode method_2_code 19 = .ok (.if_icmp .ne 7, 3) := by decide +kernel
theorem d_method_2_22 : decode method_2_code 22 = .ok (.getstatic 16, 3) := by decide +kernel
theorem d_method_2_25 : decode method_2_code 25 = .ok (.areturn, 1) := by decide +kernel
theorem d_method_2_26 : decode method_2_code 26 = .ok (.getstatic 19, 3) := by decide +kernel
theorem d_method_2_29 : decode method_2_code 29 = .ok (.areturn, 1) := by decide +kernel
theorem pn_0 : plainName "com/example/tenpai/tenpai/core/FormFitsPinLaw" = true := by first | (simp [plainName, overriddenIn]; done) | decide +kernel
theorem ef_form (m : MethodId) (x0 : Int32) : entryFrame m #[(.int x0)] 1 = mkF m 0 #[.val (.int x0)] [] := by first | (simp [entryFrame, mkF, argsToLocals, Value.category]; done) | rfl
set_option maxRecDepth 65536 in
set_option maxHeartbeats 40000000 in
theorem rm_form (l : Launch) (Z : State) (a0 : Array Value) (hw : ∀ d ∈ tables_1, d.before a0 Z = true) (ws : List Jvm.Cond) (p0 : Int32) (h0 : Heap) (n0 : Nat) (w_REGULAR w_SEVEN_PAIRS w_THIRTEEN_ORPHANS w_SEVEN_PAIRS_FOURS_AS_TWO : Addr) (hK : own_K Z h0 w_REGULAR w_SEVEN_PAIRS w_THIRTEEN_ORPHANS w_SEVEN_PAIRS_FOURS_AS_TWO) :
    MetFree l (⟨"com/example/tenpai/tenpai/core/FormFitsPinLaw", "form", "(I)Lcom/example/tenpai/tenpai/core/Form;"⟩ : MethodName) (head1 (Jvm.Cond.code (⟨"com/example/tenpai/tenpai/core/FormFitsPinLaw", "form", "(I)Lcom/example/tenpai/tenpai/core/Form;"⟩ : MethodName) method_2_code 1 (some (.object "com/example/tenpai/tenpai/core/Form")) :: ws) ({ frames := 0, cells := 0, slots := 0, locals := 0 } : Room)) (fun a U => a = #[(.int p0)] ∧ Z.Warmed39 U.vm ∧ U.heap = h0) (fun _ _ _ _ _ => True) (fun _ U o U' => ∃ v L, o = .returned v ∧ own_Q (some (.ref (if p0 = (0 : Int32) then w_REGULAR else (if p0 = (1 : Int32) then w_SEVEN_PAIRS else (if p0 = (2 : Int32) then w_SEVEN_PAIRS_FOURS_AS_TWO else w_THIRTEEN_ORPHANS))))) h0 n0 v U'.heap L ∧ FrameEnd U o U' L ({ frames := 0, cells := 0, slots := 0, locals := 0 } : Room).cells ({ frames := 0, cells := 0, slots := 0, locals := 0 } : Room).slots) := by
  refine MetFree.of_bodySF (plainFor_of_name pn_0) hisR ?_
  intro p e s m args below meth c s₁ Bd hml0 hP hK0
  obtain ⟨rfl, hZ, hh⟩ := hP
  have hx := Bd.exec
  have hby := Bd.bytes
  have hml : c.maxLocals = 1 := hml0
  have hown : s.vm.findClass "com/example/tenpai/tenpai/core/FormFitsPinLaw" = some m.cls := findClass_of_methodNamed Bd.named
  have hnm := (name_of_methodNamed Bd.named Bd.method).1
  have X0 : Stand p l e ({ frames := 0, cells := 0, slots := 0, locals := 0 } : Room) s m #[(.int p0)] below meth c s₁ [] 0 0 := Stand.of_body Bd
  have e0 : s₁.heap = h0 := by rw [← hh, Bd.state]; rfl
  have N0 := Fr.nil n0
  have pre0 : ∀ t, Steps p.tables e below (s₁.setTop (mkF m 0 #[.val (.int p0)] [])) t → Steps p.tables e below (s₁.setTop (entryFrame m #[(.int p0)] 1)) t := fun t k => castTop (ef_form m p0) k
  have hK' := hK
  obtain ⟨S_w_REGULAR, E_w_REGULAR, F__complete_w_REGULAR, S_w_SEVEN_PAIRS, E_w_SEVEN_PAIRS, F__complete_w_SEVEN_PAIRS, S_w_THIRTEEN_ORPHANS, E_w_THIRTEEN_ORPHANS, F__complete_w_THIRTEEN_ORPHANS, S_w_SEVEN_PAIRS_FOURS_AS_TWO, E_w_SEVEN_PAIRS_FOURS_AS_TWO, F__complete_w_SEVEN_PAIRS_FOURS_AS_TWO⟩ := hK'
  have pre2 : ∀ t, Steps p.tables e below (s₁.setTop (mkF m 1 #[.val (.int p0)] [(.int p0)])) t → Steps p.tables e below (s₁.setTop (entryFrame m #[(.int p0)] 1)) t := fun t k => pre0 t (by
    show Steps p.tables e below (s₁.setTop (mkF m 0 #[.val (.int p0)] [])) _
    refine XS.iloadN X0.here hx rfl (hb hby d_method_2_0) rfl ?_
    exact k)
  by_cases hc1_1 : p0 = (0 : Int32)
  · obtain ⟨T3, X3, e3, st3⟩ := getS2 X0 hx hZ hown (host := "") (Or.inl (hw _ (ow 4 rfl))) Via.refl e0 S_w_REGULAR (g := (mkF m 4 #[.val (.int p0)] [])) rfl (hb hby d_method_2_4)
    have pre4 : ∀ t, Steps p.tables e below (T3.setTop (mkF m 7 #[.val (.int p0)] [(.ref w_REGULAR)])) t → Steps p.tables e below (s₁.setTop (entryFrame m #[(.int p0)] 1)) t := fun t k => pre2 t (by
      show Steps p.tables e below (s₁.setTop (mkF m 1 #[.val (.int p0)] [(.int p0)])) _
      refine XS.ifNo X0.here hx rfl (hb hby d_method_2_1) rfl ((if0 _ _).trans (teq hc1_1).2) ?_
      show Steps p.tables e below (s₁.setTop (mkF m 4 #[.val (.int p0)] [])) _
      refine st3 _ ?_
      exact k)
    obtain ⟨fs, hr, hrun, hended, hW, hsame⟩ := X3.leave (v := some (.ref w_REGULAR)) (fun h => by rw [Bd.returns] at h; cases h)
    refine ⟨_, _, pre4 _ ?_, hrun, hended, _, _, rfl, ?_, ⟨_, rfl⟩, hW, hsame.mono (by decide) (by decide)⟩
    · show Steps p.tables e below (T3.setTop (mkF m 7 #[.val (.int p0)] [(.ref w_REGULAR)])) _
      exact retOut X3 hx Bd.returns rfl (Or.inr (Or.inr (Or.inr (Or.inr ⟨rfl, rfl, rfl⟩)))) (hb hby d_method_2_7) hr
    · exact ⟨congrArg (fun z => some (Value.ref z)) (Eq.symm (if_pos hc1_1)), N0, e3⟩
  · have pre6 : ∀ t, Steps p.tables e below (s₁.setTop (mkF m 10 #[.val (.int p0)] [(.int (1 : Int32)), (.int p0)])) t → Steps p.tables e below (s₁.setTop (entryFrame m #[(.int p0)] 1)) t := fun t k => pre2 t (by
      show Steps p.tables e below (s₁.setTop (mkF m 1 #[.val (.int p0)] [(.int p0)])) _
      refine XS.ifYes X0.here hx rfl (pc0 := 1) (pc' := 8) rfl (hb hby d_method_2_1) rfl ((if0 _ _).trans (feq hc1_1).2) (by decide) (by decide) ?_
      show Steps p.tables e below (s₁.setTop (mkF m 8 #[.val (.int p0)] [])) _
      refine XS.iloadN X0.here hx rfl (hb hby d_method_2_8) rfl ?_
      show Steps p.tables e below (s₁.setTop (mkF m 9 #[.val (.int p0)] [(.int p0)])) _
      refine XS.iconst X0.here hx rfl (hb hby d_method_2_9) ?_
      exact k)
    by_cases hc10_5 : p0 = (1 : Int32)
    · obtain ⟨T7, X7, e7, st7⟩ := getS2 X0 hx hZ hown (host := "") (Or.inl (hw _ (ow 16 rfl))) Via.refl e0 S_w_SEVEN_PAIRS (g := (mkF m 13 #[.val (.int p0)] [])) rfl (hb hby d_method_2_13)
      have pre8 : ∀ t, Steps p.tables e below (T7.setTop (mkF m 16 #[.val (.int p0)] [(.ref w_SEVEN_PAIRS)])) t → Steps p.tables e below (s₁.setTop (entryFrame m #[(.int p0)] 1)) t := fun t k => pre6 t (by
        show Steps p.tables e below (s₁.setTop (mkF m 10 #[.val (.int p0)] [(.int (1 : Int32)), (.int p0)])) _
        refine XS.icmpNo X0.here hx rfl (hb hby d_method_2_10) rfl (teq hc10_5).2 ?_
        show Steps p.tables e below (s₁.setTop (mkF m 13 #[.val (.int p0)] [])) _
        refine st7 _ ?_
        exact k)
      obtain ⟨fs, hr, hrun, hended, hW, hsame⟩ := X7.leave (v := some (.ref w_SEVEN_PAIRS)) (fun h => by rw [Bd.returns] at h; cases h)
      refine ⟨_, _, pre8 _ ?_, hrun, hended, _, _, rfl, ?_, ⟨_, rfl⟩, hW, hsame.mono (by decide) (by decide)⟩
      · show Steps p.tables e below (T7.setTop (mkF m 16 #[.val (.int p0)] [(.ref w_SEVEN_PAIRS)])) _
        exact retOut X7 hx Bd.returns rfl (Or.inr (Or.inr (Or.inr (Or.inr ⟨rfl, rfl, rfl⟩)))) (hb hby d_method_2_16) hr
      · exact ⟨congrArg (fun z => some (Value.ref z)) (Eq.symm ((if_neg hc1_1).trans (if_pos hc10_5))), N0, e7⟩
    · have pre10 : ∀ t, Steps p.tables e below (s₁.setTop (mkF m 19 #[.val (.int p0)] [(.int (2 : Int32)), (.int p0)])) t → Steps p.tables e below (s₁.setTop (entryFrame m #[(.int p0)] 1)) t := fun t k => pre6 t (by
        show Steps p.tables e below (s₁.setTop (mkF m 10 #[.val (.int p0)] [(.int (1 : Int32)), (.int p0)])) _
        refine XS.icmpYes X0.here hx rfl (pc0 := 10) (pc' := 17) rfl (hb hby d_method_2_10) rfl (feq hc10_5).2 (by decide) (by decide) ?_
        show Steps p.tables e below (s₁.setTop (mkF m 17 #[.val (.int p0)] [])) _
        refine XS.iloadN X0.here hx rfl (hb hby d_method_2_17) rfl ?_
        show Steps p.tables e below (s₁.setTop (mkF m 18 #[.val (.int p0)] [(.int p0)])) _
        refine XS.iconst X0.here hx rfl (hb hby d_method_2_18) ?_
        exact k)
      by_cases hc19_9 : p0 = (2 : Int32)
      · obtain ⟨T11, X11, e11, st11⟩ := getS2 X0 hx hZ hown (host := "") (Or.inl (hw _ (ow 20 rfl))) Via.refl e0 S_w_SEVEN_PAIRS_FOURS_AS_TWO (g := (mkF m 22 #[.val (.int p0)] [])) rfl (hb hby d_method_2_22)
        have pre12 : ∀ t, Steps p.tables e below (T11.setTop (mkF m 25 #[.val (.int p0)] [(.ref w_SEVEN_PAIRS_FOURS_AS_TWO)])) t → Steps p.tables e below (s₁.setTop (entryFrame m #[(.int p0)] 1)) t := fun t k => pre10 t (by
          show Steps p.tables e below (s₁.setTop (mkF m 19 #[.val (.int p0)] [(.int (2 : Int32)), (.int p0)])) _
          refine XS.icmpNo X0.here hx rfl (hb hby d_method_2_19) rfl (teq hc19_9).2 ?_
          show Steps p.tables e below (s₁.setTop (mkF m 22 #[.val (.int p0)] [])) _
          refine st11 _ ?_
          exact k)
        obtain ⟨fs, hr, hrun, hended, hW, hsame⟩ := X11.leave (v := some (.ref w_SEVEN_PAIRS_FOURS_AS_TWO)) (fun h => by rw [Bd.returns] at h; cases h)
        refine ⟨_, _, pre12 _ ?_, hrun, hended, _, _, rfl, ?_, ⟨_, rfl⟩, hW, hsame.mono (by decide) (by decide)⟩
        · show Steps p.tables e below (T11.setTop (mkF m 25 #[.val (.int p0)] [(.ref w_SEVEN_PAIRS_FOURS_AS_TWO)])) _
          exact retOut X11 hx Bd.returns rfl (Or.inr (Or.inr (Or.inr (Or.inr ⟨rfl, rfl, rfl⟩)))) (hb hby d_method_2_25) hr
        · exact ⟨congrArg (fun z => some (Value.ref z)) (Eq.symm ((if_neg hc1_1).trans ((if_neg hc10_5).trans (if_pos hc19_9)))), N0, e11⟩
      · obtain ⟨T13, X13, e13, st13⟩ := getS2 X0 hx hZ hown (host := "") (Or.inl (hw _ (ow 18 rfl))) Via.refl e0 S_w_THIRTEEN_ORPHANS (g := (mkF m 26 #[.val (.int p0)] [])) rfl (hb hby d_method_2_26)
        have pre14 : ∀ t, Steps p.tables e below (T13.setTop (mkF m 29 #[.val (.int p0)] [(.ref w_THIRTEEN_ORPHANS)])) t → Steps p.tables e below (s₁.setTop (entryFrame m #[(.int p0)] 1)) t := fun t k => pre10 t (by
          show Steps p.tables e below (s₁.setTop (mkF m 19 #[.val (.int p0)] [(.int (2 : Int32)), (.int p0)])) _
          refine XS.icmpYes X0.here hx rfl (pc0 := 19) (pc' := 26) rfl (hb hby d_method_2_19) rfl (feq hc19_9).2 (by decide) (by decide) ?_
          show Steps p.tables e below (s₁.setTop (mkF m 26 #[.val (.int p0)] [])) _
          refine st13 _ ?_
          exact k)
        obtain ⟨fs, hr, hrun, hended, hW, hsame⟩ := X13.leave (v := some (.ref w_THIRTEEN_ORPHANS)) (fun h => by rw [Bd.returns] at h; cases h)
        refine ⟨_, _, pre14 _ ?_, hrun, hended, _, _, rfl, ?_, ⟨_, rfl⟩, hW, hsame.mono (by decide) (by decide)⟩
        · show Steps p.tables e below (T13.setTop (mkF m 29 #[.val (.int p0)] [(.ref w_THIRTEEN_ORPHANS)])) _
          exact retOut X13 hx Bd.returns rfl (Or.inr (Or.inr (Or.inr (Or.inr ⟨rfl, rfl, rfl⟩)))) (hb hby d_method_2_29) hr
        · exact ⟨congrArg (fun z => some (Value.ref z)) (Eq.symm ((if_neg hc1_1).trans ((if_neg hc10_5).trans (if_neg hc19_9)))), N0, e13⟩
theorem d_prog_21_method_4_0 : decode prog_21_method_4_code 0 = .ok (.aload_n 0, 1) := by decide +kernel
theorem d_prog_21_method_4_1 : decode prog_21_method_4_code 1 = .ok (.getfield 35, 3) := by decide +kernel
theorem d_prog_21_method_4_4 : decode prog_21_method_4_code 4 = .ok (.ifCond .eq 17, 3) := by decide +kernel
theorem d_prog_21_method_4_21 : decode prog_21_method_4_code 21 = .ok (.iconst 1, 1) := by decide +kernel
theorem d_prog_21_method_4_22 : decode prog_21_method_4_code 22 = .ok (.goto 4, 3) := by decide +kernel
theorem d_prog_21_method_4_26 : decode prog_21_method_4_code 26 = .ok (.ireturn, 1) := by decide +kernel
theorem d_prog_21_method_4_7 : decode prog_21_method_4_code 7 = .ok (.iload_n 1, 1) := by decide +kernel
theorem d_prog_21_method_4_8 : decode prog_21_method_4_code 8 = .ok (.iconst 3, 1) := by decide +kernel
theorem d_prog_21_method_4_9 : decode prog_21_method_4_code 9 = .ok (.idiv, 1) := by decide +kernel
theorem d_prog_21_method_4_10 : decode prog_21_method_4_code 10 = .ok (.iconst 3, 1) := by decide +kernel
theorem d_prog_21_method_4_11 : decode prog_21_method_4_code 11 = .ok (.imul, 1) := by decide +kernel
theorem d_prog_21_method_4_12 : decode prog_21_method_4_code 12 = .ok (.iconst 2, 1) := by decide +kernel
theorem d_prog_21_method_4_13 : decode prog_21_method_4_code 13 = .ok (.iadd, 1) := by decide +kernel
theorem d_prog_21_method_4_14 : decode prog_21_method_4_code 14 = .ok (.aload_n 0, 1) := by decide +kernel
theorem d_prog_21_method_4_15 : decode prog_21_method_4_code 15 = .ok (.getfield 35, 3) := by decide +kernel
theorem d_prog_21_method_4_18 : decode prog_21_method_4_code 18 = .ok (.if_icmp .ne 7, 3) := by decide +kernel
theorem d_prog_21_method_4_25 : decode prog_21_method_4_code 25 = .ok (.iconst 0, 1) := by decide +kernel
theorem pn_1 : plainName "com/example/tenpai/tenpai/core/Form" = true := by first | (simp [plainName, overriddenIn]; done) | decide +kernel
theorem ef_fits (m : MethodId) (x0 : Addr) (x1 : Int32) : entryFrame m #[(.ref x0), (.int x1)] 2 = mkF m 0 #[.val (.ref x0), .val (.int x1)] [] := by first | (simp [entryFrame, mkF, argsToLocals, Value.category]; done) | rfl
set_option maxRecDepth 65536 in
set_option maxHeartbeats 40000000 in
theorem rm_fits (l : Launch) (Z : State) (a0 : Array Value) (hw : ∀ d ∈ tables_1, d.before a0 Z = true) (ws : List Jvm.Cond) (a1 : Addr) (p1 : Int32) (f__complete : Int32) (h0 : Heap) (n0 : Nat) (w_REGULAR w_SEVEN_PAIRS w_THIRTEEN_ORPHANS w_SEVEN_PAIRS_FOURS_AS_TWO : Addr) (hK : own_K Z h0 w_REGULAR w_SEVEN_PAIRS w_THIRTEEN_ORPHANS w_SEVEN_PAIRS_FOURS_AS_TWO) (F__complete : Fld Z h0 a1 "com/example/tenpai/tenpai/core/Form" "_complete" "I" (.int f__complete)) :
    MetFree l (⟨"com/example/tenpai/tenpai/core/Form", "fits", "(I)Z"⟩ : MethodName) (head1 (Jvm.Cond.code (⟨"com/example/tenpai/tenpai/core/Form", "fits", "(I)Z"⟩ : MethodName) prog_21_method_4_code 2 (some .boolean) :: ws) ({ frames := 0, cells := 0, slots := 0, locals := 0 } : Room)) (fun a U => a = #[(.ref a1), (.int p1)] ∧ Z.Warmed39 U.vm ∧ U.heap = h0) (fun _ _ _ _ _ => True) (fun _ U o U' => ∃ v L, o = .returned v ∧ own_Q (some (.int (if f__complete = (0 : Int32) then (1 : Int32) else (if (((p1 / (3 : Int32)) * (3 : Int32)) + (2 : Int32)) = f__complete then (1 : Int32) else (0 : Int32))))) h0 n0 v U'.heap L ∧ FrameEnd U o U' L ({ frames := 0, cells := 0, slots := 0, locals := 0 } : Room).cells ({ frames := 0, cells := 0, slots := 0, locals := 0 } : Room).slots) := by
  refine MetFree.of_bodySF (plainFor_of_name pn_1) hisR ?_
  intro p e s m args below meth c s₁ Bd hml0 hP hK0
  obtain ⟨rfl, hZ, hh⟩ := hP
  have hx := Bd.exec
  have hby := Bd.bytes
  have hml : c.maxLocals = 2 := hml0
  have hown : s.vm.findClass "com/example/tenpai/tenpai/core/Form" = some m.cls := findClass_of_methodNamed Bd.named
  have hnm := (name_of_methodNamed Bd.named Bd.method).1
  have X0 : Stand p l e ({ frames := 0, cells := 0, slots := 0, locals := 0 } : Room) s m #[(.ref a1), (.int p1)] below meth c s₁ [] 0 0 := Stand.of_body Bd
  have e0 : s₁.heap = h0 := by rw [← hh, Bd.state]; rfl
  have N0 := Fr.nil n0
  have pre0 : ∀ t, Steps p.tables e below (s₁.setTop (mkF m 0 #[.val (.ref a1), .val (.int p1)] [])) t → Steps p.tables e below (s₁.setTop (entryFrame m #[(.ref a1), (.int p1)] 2)) t := fun t k => castTop (ef_fits m a1 p1) k
  have hK' := hK
  obtain ⟨S_w_REGULAR, E_w_REGULAR, F__complete_w_REGULAR, S_w_SEVEN_PAIRS, E_w_SEVEN_PAIRS, F__complete_w_SEVEN_PAIRS, S_w_THIRTEEN_ORPHANS, E_w_THIRTEEN_ORPHANS, F__complete_w_THIRTEEN_ORPHANS, S_w_SEVEN_PAIRS_FOURS_AS_TWO, E_w_SEVEN_PAIRS_FOURS_AS_TWO, F__complete_w_SEVEN_PAIRS_FOURS_AS_TWO⟩ := hK'
  obtain ⟨T1, X1, e1, st1⟩ := getF X0 hx hZ hown (host := "") (Or.inl (hw _ (ow 14 rfl))) Via.refl e0 F__complete (g := (mkF m 1 #[.val (.ref a1), .val (.int p1)] [(.ref a1)])) rfl rfl (hb hby d_prog_21_method_4_1)
  have pre3 : ∀ t, Steps p.tables e below (T1.setTop (mkF m 4 #[.val (.ref a1), .val (.int p1)] [(.int f__complete)])) t → Steps p.tables e below (s₁.setTop (entryFrame m #[(.ref a1), (.int p1)] 2)) t := fun t k => pre0 t (by
    show Steps p.tables e below (s₁.setTop (mkF m 0 #[.val (.ref a1), .val (.int p1)] [])) _
    refine XS.aloadN X0.here hx rfl (hb hby d_prog_21_method_4_0) rfl rfl ?_
    show Steps p.tables e below (s₁.setTop (mkF m 1 #[.val (.ref a1), .val (.int p1)] [(.ref a1)])) _
    refine st1 _ ?_
    exact k)
  by_cases hc4_2 : f__complete = (0 : Int32)
  · have pre4 : ∀ t, Steps p.tables e below (T1.setTop (mkF m 26 #[.val (.ref a1), .val (.int p1)] [(.int (1 : Int32))])) t → Steps p.tables e below (s₁.setTop (entryFrame m #[(.ref a1), (.int p1)] 2)) t := fun t k => pre3 t (by
      show Steps p.tables e below (T1.setTop (mkF m 4 #[.val (.ref a1), .val (.int p1)] [(.int f__complete)])) _
      refine XS.ifYes X1.here hx rfl (pc0 := 4) (pc' := 21) rfl (hb hby d_prog_21_method_4_4) rfl ((if0 _ _).trans (teq hc4_2).1) (by decide) (by decide) ?_
      show Steps p.tables e below (T1.setTop (mkF m 21 #[.val (.ref a1), .val (.int p1)] [])) _
      refine XS.iconst X1.here hx rfl (hb hby d_prog_21_method_4_21) ?_
      show Steps p.tables e below (T1.setTop (mkF m 22 #[.val (.ref a1), .val (.int p1)] [(.int (1 : Int32))])) _
      refine XS.goto X1.here hx rfl (pc0 := 22) (pc' := 26) rfl (hb hby d_prog_21_method_4_22) (by decide) (by decide) ?_
      exact k)
    obtain ⟨fs, hr, hrun, hended, hW, hsame⟩ := X1.leave (v := some (.int (1 : Int32))) (fun h => by rw [Bd.returns] at h; cases h)
    refine ⟨_, _, pre4 _ ?_, hrun, hended, _, _, rfl, ?_, ⟨_, rfl⟩, hW, hsame.mono (by decide) (by decide)⟩
    · show Steps p.tables e below (T1.setTop (mkF m 26 #[.val (.ref a1), .val (.int p1)] [(.int (1 : Int32))])) _
      exact retN X1 hx (t := .boolean) Bd.returns (by simp) (hb hby d_prog_21_method_4_26) hr
    · exact ⟨congrArg (fun z => some (Value.int z)) (Eq.symm (if_pos hc4_2)), N0, e1⟩
  · obtain ⟨T5, X5, e5, st5⟩ := getF X1 hx hZ hown (host := "") (Or.inl (hw _ (ow 14 rfl))) Via.refl e1 F__complete (g := (mkF m 15 #[.val (.ref a1), .val (.int p1)] [(.ref a1), (.int (((p1 / (3 : Int32)) * (3 : Int32)) + (2 : Int32)))])) rfl rfl (hb hby d_prog_21_method_4_15)
    have pre7 : ∀ t, Steps p.tables e below (T5.setTop (mkF m 18 #[.val (.ref a1), .val (.int p1)] [(.int f__complete), (.int (((p1 / (3 : Int32)) * (3 : Int32)) + (2 : Int32)))])) t → Steps p.tables e below (s₁.setTop (entryFrame m #[(.ref a1), (.int p1)] 2)) t := fun t k => pre3 t (by
      show Steps p.tables e below (T1.setTop (mkF m 4 #[.val (.ref a1), .val (.int p1)] [(.int f__complete)])) _
      refine XS.ifNo X1.here hx rfl (hb hby d_prog_21_method_4_4) rfl ((if0 _ _).trans (feq hc4_2).1) ?_
      show Steps p.tables e below (T1.setTop (mkF m 7 #[.val (.ref a1), .val (.int p1)] [])) _
      refine XS.iloadN X1.here hx rfl (hb hby d_prog_21_method_4_7) rfl ?_
      show Steps p.tables e below (T1.setTop (mkF m 8 #[.val (.ref a1), .val (.int p1)] [(.int p1)])) _
      refine XS.iconst X1.here hx rfl (hb hby d_prog_21_method_4_8) ?_
      show Steps p.tables e below (T1.setTop (mkF m 9 #[.val (.ref a1), .val (.int p1)] [(.int (3 : Int32)), (.int p1)])) _
      refine XS.idiv X1.here hx rfl (hb hby d_prog_21_method_4_9) rfl (by decide) ?_
      show Steps p.tables e below (T1.setTop (mkF m 10 #[.val (.ref a1), .val (.int p1)] [(.int (p1 / (3 : Int32)))])) _
      refine XS.iconst X1.here hx rfl (hb hby d_prog_21_method_4_10) ?_
      show Steps p.tables e below (T1.setTop (mkF m 11 #[.val (.ref a1), .val (.int p1)] [(.int (3 : Int32)), (.int (p1 / (3 : Int32)))])) _
      refine XS.imul X1.here hx rfl (hb hby d_prog_21_method_4_11) rfl ?_
      show Steps p.tables e below (T1.setTop (mkF m 12 #[.val (.ref a1), .val (.int p1)] [(.int ((p1 / (3 : Int32)) * (3 : Int32)))])) _
      refine XS.iconst X1.here hx rfl (hb hby d_prog_21_method_4_12) ?_
      show Steps p.tables e below (T1.setTop (mkF m 13 #[.val (.ref a1), .val (.int p1)] [(.int (2 : Int32)), (.int ((p1 / (3 : Int32)) * (3 : Int32)))])) _
      refine XS.iadd X1.here hx rfl (hb hby d_prog_21_method_4_13) rfl ?_
      show Steps p.tables e below (T1.setTop (mkF m 14 #[.val (.ref a1), .val (.int p1)] [(.int (((p1 / (3 : Int32)) * (3 : Int32)) + (2 : Int32)))])) _
      refine XS.aloadN X1.here hx rfl (hb hby d_prog_21_method_4_14) rfl rfl ?_
      show Steps p.tables e below (T1.setTop (mkF m 15 #[.val (.ref a1), .val (.int p1)] [(.ref a1), (.int (((p1 / (3 : Int32)) * (3 : Int32)) + (2 : Int32)))])) _
      refine st5 _ ?_
      exact k)
    by_cases hc18_6 : (((p1 / (3 : Int32)) * (3 : Int32)) + (2 : Int32)) = f__complete
    · have pre8 : ∀ t, Steps p.tables e below (T5.setTop (mkF m 26 #[.val (.ref a1), .val (.int p1)] [(.int (1 : Int32))])) t → Steps p.tables e below (s₁.setTop (entryFrame m #[(.ref a1), (.int p1)] 2)) t := fun t k => pre7 t (by
        show Steps p.tables e below (T5.setTop (mkF m 18 #[.val (.ref a1), .val (.int p1)] [(.int f__complete), (.int (((p1 / (3 : Int32)) * (3 : Int32)) + (2 : Int32)))])) _
        refine XS.icmpNo X5.here hx rfl (hb hby d_prog_21_method_4_18) rfl (teq hc18_6).2 ?_
        show Steps p.tables e below (T5.setTop (mkF m 21 #[.val (.ref a1), .val (.int p1)] [])) _
        refine XS.iconst X5.here hx rfl (hb hby d_prog_21_method_4_21) ?_
        show Steps p.tables e below (T5.setTop (mkF m 22 #[.val (.ref a1), .val (.int p1)] [(.int (1 : Int32))])) _
        refine XS.goto X5.here hx rfl (pc0 := 22) (pc' := 26) rfl (hb hby d_prog_21_method_4_22) (by decide) (by decide) ?_
        exact k)
      obtain ⟨fs, hr, hrun, hended, hW, hsame⟩ := X5.leave (v := some (.int (1 : Int32))) (fun h => by rw [Bd.returns] at h; cases h)
      refine ⟨_, _, pre8 _ ?_, hrun, hended, _, _, rfl, ?_, ⟨_, rfl⟩, hW, hsame.mono (by decide) (by decide)⟩
      · show Steps p.tables e below (T5.setTop (mkF m 26 #[.val (.ref a1), .val (.int p1)] [(.int (1 : Int32))])) _
        exact retN X5 hx (t := .boolean) Bd.returns (by simp) (hb hby d_prog_21_method_4_26) hr
      · exact ⟨congrArg (fun z => some (Value.int z)) (Eq.symm ((if_neg hc4_2).trans (if_pos hc18_6))), N0, e5⟩
    · have pre9 : ∀ t, Steps p.tables e below (T5.setTop (mkF m 26 #[.val (.ref a1), .val (.int p1)] [(.int (0 : Int32))])) t → Steps p.tables e below (s₁.setTop (entryFrame m #[(.ref a1), (.int p1)] 2)) t := fun t k => pre7 t (by
        show Steps p.tables e below (T5.setTop (mkF m 18 #[.val (.ref a1), .val (.int p1)] [(.int f__complete), (.int (((p1 / (3 : Int32)) * (3 : Int32)) + (2 : Int32)))])) _
        refine XS.icmpYes X5.here hx rfl (pc0 := 18) (pc' := 25) rfl (hb hby d_prog_21_method_4_18) rfl (feq hc18_6).2 (by decide) (by decide) ?_
        show Steps p.tables e below (T5.setTop (mkF m 25 #[.val (.ref a1), .val (.int p1)] [])) _
        refine XS.iconst X5.here hx rfl (hb hby d_prog_21_method_4_25) ?_
        exact k)
      obtain ⟨fs, hr, hrun, hended, hW, hsame⟩ := X5.leave (v := some (.int (0 : Int32))) (fun h => by rw [Bd.returns] at h; cases h)
      refine ⟨_, _, pre9 _ ?_, hrun, hended, _, _, rfl, ?_, ⟨_, rfl⟩, hW, hsame.mono (by decide) (by decide)⟩
      · show Steps p.tables e below (T5.setTop (mkF m 26 #[.val (.ref a1), .val (.int p1)] [(.int (0 : Int32))])) _
        exact retN X5 hx (t := .boolean) Bd.returns (by simp) (hb hby d_prog_21_method_4_26) hr
      · exact ⟨congrArg (fun z => some (Value.int z)) (Eq.symm ((if_neg hc4_2).trans (if_neg hc18_6))), N0, e5⟩
theorem own_fit (p2 p3 : Int32) : ((((((3 : Int32) * ((p2 &&& (2147483647 : Int32)) % (715827882 : Int32))) + (1 : Int32)) + (p3 &&& (1 : Int32))) / (3 : Int32)) * (3 : Int32)) + (2 : Int32) = (14 : Int32) ↔ (((((3 : Int32) * ((p2 &&& (2147483647 : Int32)) % (715827882 : Int32))) + (1 : Int32)) + (p3 &&& (1 : Int32))) = 13 ∨ ((((3 : Int32) * ((p2 &&& (2147483647 : Int32)) % (715827882 : Int32))) + (1 : Int32)) + (p3 &&& (1 : Int32))) = 14) := by
  have q0 := c_mask p2 2147483647 31 (by decide) (by decide)
  have q1 := (c_irem (p2 &&& 2147483647) 715827882 715827882 (by decide)).1 (by omega)
  have q2 := c_mask p3 1 1 (by decide) (by decide)
  have m1 := c_imul 3 ((p2 &&& 2147483647) % 715827882)
  have r1 := rng32 (3 * ((p2 &&& 2147483647) % 715827882))
  have e3 : (3 : Int32).toInt = 3 := by decide
  have e1 : (1 : Int32).toInt = 1 := by decide
  have e2 : (2 : Int32).toInt = 2 := by decide
  have e13 : (13 : Int32).toInt = 13 := by decide
  have e14 : (14 : Int32).toInt = 14 := by decide
  rw [e3] at m1
  have a1 := c_iadd (3 * ((p2 &&& 2147483647) % 715827882)) 1
  have r2 := rng32 (3 * ((p2 &&& 2147483647) % 715827882) + 1)
  have a2 := c_iadd (3 * ((p2 &&& 2147483647) % 715827882) + 1) (p3 &&& 1)
  have r3 := rng32 (3 * ((p2 &&& 2147483647) % 715827882) + 1 + (p3 &&& 1))
  have t1 : (3 * ((p2 &&& 2147483647) % 715827882) : Int32).toInt = 3 * ((p2 &&& 2147483647) % 715827882 : Int32).toInt := by omega
  have t2 : (3 * ((p2 &&& 2147483647) % 715827882) + 1 : Int32).toInt = 3 * ((p2 &&& 2147483647) % 715827882 : Int32).toInt + 1 := by omega
  have t3 : (3 * ((p2 &&& 2147483647) % 715827882) + 1 + (p3 &&& 1) : Int32).toInt = 3 * ((p2 &&& 2147483647) % 715827882 : Int32).toInt + 1 + (p3 &&& 1).toInt := by omega
  have b0 : 0 ≤ ((p2 &&& 2147483647) % 715827882 : Int32).toInt := by omega
  have b1 : ((p2 &&& 2147483647) % 715827882 : Int32).toInt < 715827882 := by omega
  have b2 : 0 ≤ (p3 &&& 1).toInt := by omega
  have b3 : (p3 &&& 1).toInt < 2 := by omega
  generalize ((p2 &&& 2147483647) % 715827882 : Int32).toInt = a at t3 b0 b1
  generalize (p3 &&& 1).toInt = r at t3 b2 b3
  generalize (3 * ((p2 &&& 2147483647) % 715827882) + 1 + (p3 &&& 1) : Int32) = z at t3 ⊢
  clear q0 q1 q2 m1 r1 a1 r2 a2 r3 t1 t2
  have d := (c_idiv z 3 3 (by decide) (by decide)).1 (by omega)
  have m2 := c_imul (z / 3) 3
  have r4 := rng32 (z / 3 * 3)
  rw [e3] at m2
  have u1 : (z / 3 * 3).toInt = (z / 3).toInt * 3 := by omega
  have a3 := c_iadd (z / 3 * 3) 2
  have r5 := rng32 (z / 3 * 3 + 2)
  have u2 : (z / 3 * 3 + 2).toInt = (z / 3).toInt * 3 + 2 := by omega
  rw [← Int32.toInt_inj, ← Int32.toInt_inj, ← Int32.toInt_inj, u2, e14, e13]
  omega
theorem pd_0 : parseMethodDescriptor "(I)Lcom/example/tenpai/tenpai/core/Form;" = some ⟨[.int], some (.object "com/example/tenpai/tenpai/core/Form")⟩ := by decide +kernel
theorem pd_1 : parseMethodDescriptor "(I)Z" = some ⟨[.int], some .boolean⟩ := by decide +kernel
theorem ef_law0 (m : MethodId) (x0 : Int32) (x1 : Int32) (x2 : Int32) : entryFrame m #[(.int x0), (.int x1), (.int x2)] maxLocals = mkF m 0 #[.val (.int x0), .val (.int x1), .val (.int x2), .unset, .unset, .unset, .unset, .unset] [] := by first | (simp [entryFrame, mkF, argsToLocals, Value.category, maxLocals]; done) | rfl
set_option maxRecDepth 65536 in
set_option maxHeartbeats 40000000 in
theorem rm_law0 (l : Launch) (Z : State) (a0 : Array Value) (hw : ∀ d ∈ tables_1, d.before a0 Z = true) (ws : List Jvm.Cond) (p1 : Int32) (p2 : Int32) (p3 : Int32) (h0 : Heap) (n0 : Nat) (w_REGULAR w_SEVEN_PAIRS w_THIRTEEN_ORPHANS w_SEVEN_PAIRS_FOURS_AS_TWO : Addr) (hK : own_K Z h0 w_REGULAR w_SEVEN_PAIRS w_THIRTEEN_ORPHANS w_SEVEN_PAIRS_FOURS_AS_TWO) (z : Int32) (hk : (p1 &&& (3 : Int32)) = (0 : Int32)) (hz : ((((3 : Int32) * ((p2 &&& (2147483647 : Int32)) % (715827882 : Int32))) + (1 : Int32)) + (p3 &&& (1 : Int32))) = z) (hfit : ((z / (3 : Int32)) * (3 : Int32)) + (2 : Int32) = (14 : Int32) ↔ (z = 13 ∨ z = 14)) :
    MetFree l x (head1 (Jvm.Cond.code x code maxLocals ret :: ws) room_1) (fun a U => a = #[(.int p1), (.int p2), (.int p3)] ∧ Z.Warmed39 U.vm ∧ U.heap = h0) (fun _ _ _ _ _ => True) (fun _ U o U' => ∃ v L, o = .returned v ∧ own_Q (some (.int (1 : Int32))) h0 n0 v U'.heap L ∧ FrameEnd U o U' L room_1.cells room_1.slots) := by
  refine MetFree.of_bodySF (plainFor_of_name pn_0) hisR ?_
  intro p e s m args below meth c s₁ Bd hml0 hP hK0
  obtain ⟨rfl, hZ, hh⟩ := hP
  have hx := Bd.exec
  have hby := Bd.bytes
  have hml : c.maxLocals = 8 := hml0
  have hown : s.vm.findClass "com/example/tenpai/tenpai/core/FormFitsPinLaw" = some m.cls := findClass_of_methodNamed Bd.named
  have hnm := (name_of_methodNamed Bd.named Bd.method).1
  have X0 : Stand p l e room_1 s m #[(.int p1), (.int p2), (.int p3)] below meth c s₁ [] 0 0 := Stand.of_body Bd
  have e0 : s₁.heap = h0 := by rw [← hh, Bd.state]; rfl
  have N0 := Fr.nil n0
  have pre0 : ∀ t, Steps p.tables e below (s₁.setTop (mkF m 0 #[.val (.int p1), .val (.int p2), .val (.int p3), .unset, .unset, .unset, .unset, .unset] [])) t → Steps p.tables e below (s₁.setTop (entryFrame m #[(.int p1), (.int p2), (.int p3)] maxLocals)) t := fun t k => castTop (ef_law0 m p1 p2 p3) k
  have hK' := hK
  obtain ⟨S_w_REGULAR, E_w_REGULAR, F__complete_w_REGULAR, S_w_SEVEN_PAIRS, E_w_SEVEN_PAIRS, F__complete_w_SEVEN_PAIRS, S_w_THIRTEEN_ORPHANS, E_w_THIRTEEN_ORPHANS, F__complete_w_THIRTEEN_ORPHANS, S_w_SEVEN_PAIRS_FOURS_AS_TWO, E_w_SEVEN_PAIRS_FOURS_AS_TWO, F__complete_w_SEVEN_PAIRS_FOURS_AS_TWO⟩ := hK'
  obtain ⟨v1, _, ⟨T1, L1, k1, n1⟩, -, X1, ⟨Lc1, hQ1, l1, y1, z1⟩, st1⟩ := Jvm.LawKit.callS X0 hx (y := (⟨"com/example/tenpai/tenpai/core/FormFitsPinLaw", "form", "(I)Lcom/example/tenpai/tenpai/core/Form;"⟩ : MethodName)) hown (mvT hZ (hw _ (ow 0 rfl))) (mvT hZ (hw _ (ow 1 rfl))) (mvT hZ (hw _ (ow 2 rfl))) (mvT hZ (hw _ (ow 3 rfl))) (by decide) (backOf (W := 0) (rm_form l Z a0 hw [] (0 : Int32) h0 n0 w_REGULAR w_SEVEN_PAIRS w_THIRTEEN_ORPHANS w_SEVEN_PAIRS_FOURS_AS_TWO hK) hZ (hw _ (ow 3 rfl)) (hw _ (ow 2 rfl)) (by decide) (by decide)) (g := (mkF m 5 #[.val (.int p1), .val (.int p2), .val (.int p3), .val (.int (0 : Int32)), .unset, .unset, .unset, .unset] [(.int (0 : Int32))])) rfl (by rw [hml]; rfl) (argsL := [(.int (0 : Int32))]) (rest := []) (lenOf pd_0 rfl) rfl (Nat.le_of_eq rfl) (hb hby at_5) (fun _ _ => ⟨rfl, e0, (by decide : 0 + 0 ≤ _), (by decide : 0 + 0 ≤ _)⟩)
  dsimp only [Pt.U, Pt.locs, Pt.cells, Pt.slots] at X1 l1 y1 z1 st1 hQ1
  subst l1 y1 z1
  obtain ⟨hv1, Nq1, e1⟩ := hQ1
  obtain rfl : v1 = some (.ref w_REGULAR) := hv1.trans (congrArg some (congrArg Value.ref (if_pos (by decide))))
  have N1 := Fr.app N0 Nq1
  obtain ⟨cq2, kq2, q2a, q2b, q2c⟩ := isOf hZ e1 E_w_REGULAR
  obtain ⟨v2, _, ⟨T2, L2, k2, n2⟩, -, X2, ⟨Lc2, hQ2, l2, y2, z2⟩, st2⟩ := X1.virtualBack hx (y := (⟨"com/example/tenpai/tenpai/core/Form", "fits", "(I)Z"⟩ : MethodName)) (z := (⟨"com/example/tenpai/tenpai/core/Form", "fits", "(I)Z"⟩ : MethodName)) hown (mvT hZ (hw _ (ow 9 rfl))) (mvT hZ (hw _ (ow 10 rfl))) (notFace_of_selects (args := #[]) (mvT hZ (hw _ (ow 12 rfl)))) (mvT hZ (hw _ (ow 12 rfl))) (mvT hZ (hw _ (ow 11 rfl))) (by decide) (backOf (W := 0) (rm_fits l Z a0 hw [] w_REGULAR z (0 : Int32) h0 n0 w_REGULAR w_SEVEN_PAIRS w_THIRTEEN_ORPHANS w_SEVEN_PAIRS_FOURS_AS_TWO hK F__complete_w_REGULAR) hZ (hw _ (ow 13 rfl)) (hw _ (ow 5 rfl)) (by decide) (by decide)) q2a q2c (g := (mkF m 60 #[.val (.int p1), .val (.int p2), .val (.int p3), .val (.int (0 : Int32)), .val (.ref w_REGULAR), .val (.int ((p2 &&& (2147483647 : Int32)) % (715827882 : Int32))), .val (.int z), .val (.int (1 : Int32))] [(.int z), (.ref w_REGULAR)])) rfl (by rw [hml]; rfl) (Steps.refl _) (argsL := [(.int z)]) (rest := []) (lenOf pd_1 rfl) rfl (Nat.le_of_eq rfl) (hb hby at_60) (fun _ _ => ⟨rfl, e1, (by decide : 0 + 0 ≤ _), (by decide : 0 + 0 ≤ _)⟩)
  dsimp only [Pt.U, Pt.locs, Pt.cells, Pt.slots] at X2 l2 y2 z2 st2 hQ2
  subst l2 y2 z2
  obtain ⟨hv2, Nq2, e2⟩ := hQ2
  obtain rfl : v2 = some (.int (1 : Int32)) := hv2.trans (congrArg some (congrArg Value.int (if_pos (by decide))))
  have N2 := Fr.app N1 Nq2
  have pre3 : ∀ t, Steps p.tables e below (T2.setTop (mkF m 73 #[.val (.int p1), .val (.int p2), .val (.int p3), .val (.int (0 : Int32)), .val (.ref w_REGULAR), .val (.int ((p2 &&& (2147483647 : Int32)) % (715827882 : Int32))), .val (.int z), .val (.int (1 : Int32))] [(.int (1 : Int32))])) t → Steps p.tables e below (s₁.setTop (entryFrame m #[(.int p1), (.int p2), (.int p3)] maxLocals)) t := fun t k => pre0 t (by
    show Steps p.tables e below (s₁.setTop (mkF m 0 #[.val (.int p1), .val (.int p2), .val (.int p3), .unset, .unset, .unset, .unset, .unset] [])) _
    refine XS.iloadN X0.here hx rfl (hb hby at_0) rfl ?_
    show Steps p.tables e below (s₁.setTop (mkF m 1 #[.val (.int p1), .val (.int p2), .val (.int p3), .unset, .unset, .unset, .unset, .unset] [(.int p1)])) _
    refine XS.iconst X0.here hx rfl (hb hby at_1) ?_
    show Steps p.tables e below (s₁.setTop (mkF m 2 #[.val (.int p1), .val (.int p2), .val (.int p3), .unset, .unset, .unset, .unset, .unset] [(.int (3 : Int32)), (.int p1)])) _
    refine XS.iand X0.here hx rfl (hb hby at_2) rfl ?_
    show Steps p.tables e below (s₁.setTop (mkF m 3 #[.val (.int p1), .val (.int p2), .val (.int p3), .unset, .unset, .unset, .unset, .unset] [(.int (p1 &&& (3 : Int32)))])) _
    rw [hk]
    show Steps p.tables e below (s₁.setTop (mkF m 3 #[.val (.int p1), .val (.int p2), .val (.int p3), .unset, .unset, .unset, .unset, .unset] [(.int (0 : Int32))])) _
    refine XS.istoreN X0.here hx rfl (hb hby at_3) rfl (l' := #[.val (.int p1), .val (.int p2), .val (.int p3), .val (.int (0 : Int32)), .unset, .unset, .unset, .unset]) rfl ?_
    show Steps p.tables e below (s₁.setTop (mkF m 4 #[.val (.int p1), .val (.int p2), .val (.int p3), .val (.int (0 : Int32)), .unset, .unset, .unset, .unset] [])) _
    refine XS.iloadN X0.here hx rfl (hb hby at_4) rfl ?_
    show Steps p.tables e below (s₁.setTop (mkF m 5 #[.val (.int p1), .val (.int p2), .val (.int p3), .val (.int (0 : Int32)), .unset, .unset, .unset, .unset] [(.int (0 : Int32))])) _
    refine st1 _ ?_
    show Steps p.tables e below (T1.setTop (mkF m 8 #[.val (.int p1), .val (.int p2), .val (.int p3), .val (.int (0 : Int32)), .unset, .unset, .unset, .unset] [(.ref w_REGULAR)])) _
    refine XS.astore X1.here hx rfl (hb hby at_8) rfl rfl (l' := #[.val (.int p1), .val (.int p2), .val (.int p3), .val (.int (0 : Int32)), .val (.ref w_REGULAR), .unset, .unset, .unset]) rfl ?_
    show Steps p.tables e below (T1.setTop (mkF m 10 #[.val (.int p1), .val (.int p2), .val (.int p3), .val (.int (0 : Int32)), .val (.ref w_REGULAR), .unset, .unset, .unset] [])) _
    refine XS.iloadN X1.here hx rfl (hb hby at_10) rfl ?_
    show Steps p.tables e below (T1.setTop (mkF m 11 #[.val (.int p1), .val (.int p2), .val (.int p3), .val (.int (0 : Int32)), .val (.ref w_REGULAR), .unset, .unset, .unset] [(.int p2)])) _
    refine X1.ldcInt hx hown (mvT hZ (hw _ (ow 7 rfl))) (g := (mkF m 11 #[.val (.int p1), .val (.int p2), .val (.int p3), .val (.int (0 : Int32)), .val (.ref w_REGULAR), .unset, .unset, .unset] [(.int p2)])) rfl (hb hby at_11) _ ?_
    show Steps p.tables e below (T1.setTop (mkF m 13 #[.val (.int p1), .val (.int p2), .val (.int p3), .val (.int (0 : Int32)), .val (.ref w_REGULAR), .unset, .unset, .unset] [(.int (2147483647 : Int32)), (.int p2)])) _
    refine XS.iand X1.here hx rfl (hb hby at_13) rfl ?_
    show Steps p.tables e below (T1.setTop (mkF m 14 #[.val (.int p1), .val (.int p2), .val (.int p3), .val (.int (0 : Int32)), .val (.ref w_REGULAR), .unset, .unset, .unset] [(.int (p2 &&& (2147483647 : Int32)))])) _
    refine X1.ldcInt hx hown (mvT hZ (hw _ (ow 8 rfl))) (g := (mkF m 14 #[.val (.int p1), .val (.int p2), .val (.int p3), .val (.int (0 : Int32)), .val (.ref w_REGULAR), .unset, .unset, .unset] [(.int (p2 &&& (2147483647 : Int32)))])) rfl (hb hby at_14) _ ?_
    show Steps p.tables e below (T1.setTop (mkF m 16 #[.val (.int p1), .val (.int p2), .val (.int p3), .val (.int (0 : Int32)), .val (.ref w_REGULAR), .unset, .unset, .unset] [(.int (715827882 : Int32)), (.int (p2 &&& (2147483647 : Int32)))])) _
    refine iremM X1 hx rfl (hb hby at_16) rfl (by decide) ?_
    show Steps p.tables e below (T1.setTop (mkF m 17 #[.val (.int p1), .val (.int p2), .val (.int p3), .val (.int (0 : Int32)), .val (.ref w_REGULAR), .unset, .unset, .unset] [(.int ((p2 &&& (2147483647 : Int32)) % (715827882 : Int32)))])) _
    refine XS.istore X1.here hx rfl (hb hby at_17) rfl (l' := #[.val (.int p1), .val (.int p2), .val (.int p3), .val (.int (0 : Int32)), .val (.ref w_REGULAR), .val (.int ((p2 &&& (2147483647 : Int32)) % (715827882 : Int32))), .unset, .unset]) rfl ?_
    show Steps p.tables e below (T1.setTop (mkF m 19 #[.val (.int p1), .val (.int p2), .val (.int p3), .val (.int (0 : Int32)), .val (.ref w_REGULAR), .val (.int ((p2 &&& (2147483647 : Int32)) % (715827882 : Int32))), .unset, .unset] [])) _
    refine XS.iconst X1.here hx rfl (hb hby at_19) ?_
    show Steps p.tables e below (T1.setTop (mkF m 20 #[.val (.int p1), .val (.int p2), .val (.int p3), .val (.int (0 : Int32)), .val (.ref w_REGULAR), .val (.int ((p2 &&& (2147483647 : Int32)) % (715827882 : Int32))), .unset, .unset] [(.int (3 : Int32))])) _
    refine XS.iload X1.here hx rfl (hb hby at_20) rfl ?_
    show Steps p.tables e below (T1.setTop (mkF m 22 #[.val (.int p1), .val (.int p2), .val (.int p3), .val (.int (0 : Int32)), .val (.ref w_REGULAR), .val (.int ((p2 &&& (2147483647 : Int32)) % (715827882 : Int32))), .unset, .unset] [(.int ((p2 &&& (2147483647 : Int32)) % (715827882 : Int32))), (.int (3 : Int32))])) _
    refine XS.imul X1.here hx rfl (hb hby at_22) rfl ?_
    show Steps p.tables e below (T1.setTop (mkF m 23 #[.val (.int p1), .val (.int p2), .val (.int p3), .val (.int (0 : Int32)), .val (.ref w_REGULAR), .val (.int ((p2 &&& (2147483647 : Int32)) % (715827882 : Int32))), .unset, .unset] [(.int ((3 : Int32) * ((p2 &&& (2147483647 : Int32)) % (715827882 : Int32))))])) _
    refine XS.iconst X1.here hx rfl (hb hby at_23) ?_
    show Steps p.tables e below (T1.setTop (mkF m 24 #[.val (.int p1), .val (.int p2), .val (.int p3), .val (.int (0 : Int32)), .val (.ref w_REGULAR), .val (.int ((p2 &&& (2147483647 : Int32)) % (715827882 : Int32))), .unset, .unset] [(.int (1 : Int32)), (.int ((3 : Int32) * ((p2 &&& (2147483647 : Int32)) % (715827882 : Int32))))])) _
    refine XS.iadd X1.here hx rfl (hb hby at_24) rfl ?_
    show Steps p.tables e below (T1.setTop (mkF m 25 #[.val (.int p1), .val (.int p2), .val (.int p3), .val (.int (0 : Int32)), .val (.ref w_REGULAR), .val (.int ((p2 &&& (2147483647 : Int32)) % (715827882 : Int32))), .unset, .unset] [(.int (((3 : Int32) * ((p2 &&& (2147483647 : Int32)) % (715827882 : Int32))) + (1 : Int32)))])) _
    refine XS.iloadN X1.here hx rfl (hb hby at_25) rfl ?_
    show Steps p.tables e below (T1.setTop (mkF m 26 #[.val (.int p1), .val (.int p2), .val (.int p3), .val (.int (0 : Int32)), .val (.ref w_REGULAR), .val (.int ((p2 &&& (2147483647 : Int32)) % (715827882 : Int32))), .unset, .unset] [(.int p3), (.int (((3 : Int32) * ((p2 &&& (2147483647 : Int32)) % (715827882 : Int32))) + (1 : Int32)))])) _
    refine XS.iconst X1.here hx rfl (hb hby at_26) ?_
    show Steps p.tables e below (T1.setTop (mkF m 27 #[.val (.int p1), .val (.int p2), .val (.int p3), .val (.int (0 : Int32)), .val (.ref w_REGULAR), .val (.int ((p2 &&& (2147483647 : Int32)) % (715827882 : Int32))), .unset, .unset] [(.int (1 : Int32)), (.int p3), (.int (((3 : Int32) * ((p2 &&& (2147483647 : Int32)) % (715827882 : Int32))) + (1 : Int32)))])) _
    refine XS.iand X1.here hx rfl (hb hby at_27) rfl ?_
    show Steps p.tables e below (T1.setTop (mkF m 28 #[.val (.int p1), .val (.int p2), .val (.int p3), .val (.int (0 : Int32)), .val (.ref w_REGULAR), .val (.int ((p2 &&& (2147483647 : Int32)) % (715827882 : Int32))), .unset, .unset] [(.int (p3 &&& (1 : Int32))), (.int (((3 : Int32) * ((p2 &&& (2147483647 : Int32)) % (715827882 : Int32))) + (1 : Int32)))])) _
    refine XS.iadd X1.here hx rfl (hb hby at_28) rfl ?_
    show Steps p.tables e below (T1.setTop (mkF m 29 #[.val (.int p1), .val (.int p2), .val (.int p3), .val (.int (0 : Int32)), .val (.ref w_REGULAR), .val (.int ((p2 &&& (2147483647 : Int32)) % (715827882 : Int32))), .unset, .unset] [(.int ((((3 : Int32) * ((p2 &&& (2147483647 : Int32)) % (715827882 : Int32))) + (1 : Int32)) + (p3 &&& (1 : Int32))))])) _
    rw [hz]
    show Steps p.tables e below (T1.setTop (mkF m 29 #[.val (.int p1), .val (.int p2), .val (.int p3), .val (.int (0 : Int32)), .val (.ref w_REGULAR), .val (.int ((p2 &&& (2147483647 : Int32)) % (715827882 : Int32))), .unset, .unset] [(.int z)])) _
    refine XS.istore X1.here hx rfl (hb hby at_29) rfl (l' := #[.val (.int p1), .val (.int p2), .val (.int p3), .val (.int (0 : Int32)), .val (.ref w_REGULAR), .val (.int ((p2 &&& (2147483647 : Int32)) % (715827882 : Int32))), .val (.int z), .unset]) rfl ?_
    show Steps p.tables e below (T1.setTop (mkF m 31 #[.val (.int p1), .val (.int p2), .val (.int p3), .val (.int (0 : Int32)), .val (.ref w_REGULAR), .val (.int ((p2 &&& (2147483647 : Int32)) % (715827882 : Int32))), .val (.int z), .unset] [])) _
    refine XS.iloadN X1.here hx rfl (hb hby at_31) rfl ?_
    show Steps p.tables e below (T1.setTop (mkF m 32 #[.val (.int p1), .val (.int p2), .val (.int p3), .val (.int (0 : Int32)), .val (.ref w_REGULAR), .val (.int ((p2 &&& (2147483647 : Int32)) % (715827882 : Int32))), .val (.int z), .unset] [(.int (0 : Int32))])) _
    refine XS.ifYes X1.here hx rfl (pc0 := 32) (pc' := 49) rfl (hb hby at_32) rfl ((if0 _ _).trans (teq (by decide)).1) (by decide) (by decide) ?_
    show Steps p.tables e below (T1.setTop (mkF m 49 #[.val (.int p1), .val (.int p2), .val (.int p3), .val (.int (0 : Int32)), .val (.ref w_REGULAR), .val (.int ((p2 &&& (2147483647 : Int32)) % (715827882 : Int32))), .val (.int z), .unset] [])) _
    refine XS.iconst X1.here hx rfl (hb hby at_49) ?_
    show Steps p.tables e below (T1.setTop (mkF m 50 #[.val (.int p1), .val (.int p2), .val (.int p3), .val (.int (0 : Int32)), .val (.ref w_REGULAR), .val (.int ((p2 &&& (2147483647 : Int32)) % (715827882 : Int32))), .val (.int z), .unset] [(.int (1 : Int32))])) _
    refine XS.goto X1.here hx rfl (pc0 := 50) (pc' := 54) rfl (hb hby at_50) (by decide) (by decide) ?_
    show Steps p.tables e below (T1.setTop (mkF m 54 #[.val (.int p1), .val (.int p2), .val (.int p3), .val (.int (0 : Int32)), .val (.ref w_REGULAR), .val (.int ((p2 &&& (2147483647 : Int32)) % (715827882 : Int32))), .val (.int z), .unset] [(.int (1 : Int32))])) _
    refine XS.istore X1.here hx rfl (hb hby at_54) rfl (l' := #[.val (.int p1), .val (.int p2), .val (.int p3), .val (.int (0 : Int32)), .val (.ref w_REGULAR), .val (.int ((p2 &&& (2147483647 : Int32)) % (715827882 : Int32))), .val (.int z), .val (.int (1 : Int32))]) rfl ?_
    show Steps p.tables e below (T1.setTop (mkF m 56 #[.val (.int p1), .val (.int p2), .val (.int p3), .val (.int (0 : Int32)), .val (.ref w_REGULAR), .val (.int ((p2 &&& (2147483647 : Int32)) % (715827882 : Int32))), .val (.int z), .val (.int (1 : Int32))] [])) _
    refine XS.aload X1.here hx rfl (hb hby at_56) rfl rfl ?_
    show Steps p.tables e below (T1.setTop (mkF m 58 #[.val (.int p1), .val (.int p2), .val (.int p3), .val (.int (0 : Int32)), .val (.ref w_REGULAR), .val (.int ((p2 &&& (2147483647 : Int32)) % (715827882 : Int32))), .val (.int z), .val (.int (1 : Int32))] [(.ref w_REGULAR)])) _
    refine XS.iload X1.here hx rfl (hb hby at_58) rfl ?_
    show Steps p.tables e below (T1.setTop (mkF m 60 #[.val (.int p1), .val (.int p2), .val (.int p3), .val (.int (0 : Int32)), .val (.ref w_REGULAR), .val (.int ((p2 &&& (2147483647 : Int32)) % (715827882 : Int32))), .val (.int z), .val (.int (1 : Int32))] [(.int z), (.ref w_REGULAR)])) _
    refine st2.trans ?_
    show Steps p.tables e below (T2.setTop (mkF m 63 #[.val (.int p1), .val (.int p2), .val (.int p3), .val (.int (0 : Int32)), .val (.ref w_REGULAR), .val (.int ((p2 &&& (2147483647 : Int32)) % (715827882 : Int32))), .val (.int z), .val (.int (1 : Int32))] [(.int (1 : Int32))])) _
    refine XS.iload X2.here hx rfl (hb hby at_63) rfl ?_
    show Steps p.tables e below (T2.setTop (mkF m 65 #[.val (.int p1), .val (.int p2), .val (.int p3), .val (.int (0 : Int32)), .val (.ref w_REGULAR), .val (.int ((p2 &&& (2147483647 : Int32)) % (715827882 : Int32))), .val (.int z), .val (.int (1 : Int32))] [(.int (1 : Int32)), (.int (1 : Int32))])) _
    refine XS.icmpNo X2.here hx rfl (hb hby at_65) rfl (teq (by decide)).2 ?_
    show Steps p.tables e below (T2.setTop (mkF m 68 #[.val (.int p1), .val (.int p2), .val (.int p3), .val (.int (0 : Int32)), .val (.ref w_REGULAR), .val (.int ((p2 &&& (2147483647 : Int32)) % (715827882 : Int32))), .val (.int z), .val (.int (1 : Int32))] [])) _
    refine XS.iconst X2.here hx rfl (hb hby at_68) ?_
    show Steps p.tables e below (T2.setTop (mkF m 69 #[.val (.int p1), .val (.int p2), .val (.int p3), .val (.int (0 : Int32)), .val (.ref w_REGULAR), .val (.int ((p2 &&& (2147483647 : Int32)) % (715827882 : Int32))), .val (.int z), .val (.int (1 : Int32))] [(.int (1 : Int32))])) _
    refine XS.goto X2.here hx rfl (pc0 := 69) (pc' := 73) rfl (hb hby at_69) (by decide) (by decide) ?_
    exact k)
  obtain ⟨fs, hr, hrun, hended, hW, hsame⟩ := X2.leave (v := some (.int (1 : Int32))) (fun h => by rw [Bd.returns] at h; cases h)
  refine ⟨_, _, pre3 _ ?_, hrun, hended, _, _, rfl, ?_, ⟨_, rfl⟩, hW, hsame.mono (by decide) (by decide)⟩
  · show Steps p.tables e below (T2.setTop (mkF m 73 #[.val (.int p1), .val (.int p2), .val (.int p3), .val (.int (0 : Int32)), .val (.ref w_REGULAR), .val (.int ((p2 &&& (2147483647 : Int32)) % (715827882 : Int32))), .val (.int z), .val (.int (1 : Int32))] [(.int (1 : Int32))])) _
    exact retN X2 hx (t := .boolean) Bd.returns (by simp) (hb hby at_73) hr
  · exact ⟨rfl, N2, e2⟩
theorem ef_law1 (m : MethodId) (x0 : Int32) (x1 : Int32) (x2 : Int32) : entryFrame m #[(.int x0), (.int x1), (.int x2)] maxLocals = mkF m 0 #[.val (.int x0), .val (.int x1), .val (.int x2), .unset, .unset, .unset, .unset, .unset] [] := by first | (simp [entryFrame, mkF, argsToLocals, Value.category, maxLocals]; done) | rfl
set_option maxRecDepth 65536 in
set_option maxHeartbeats 40000000 in
theorem rm_law1 (l : Launch) (Z : State) (a0 : Array Value) (hw : ∀ d ∈ tables_1, d.before a0 Z = true) (ws : List Jvm.Cond) (p1 : Int32) (p2 : Int32) (p3 : Int32) (h0 : Heap) (n0 : Nat) (w_REGULAR w_SEVEN_PAIRS w_THIRTEEN_ORPHANS w_SEVEN_PAIRS_FOURS_AS_TWO : Addr) (hK : own_K Z h0 w_REGULAR w_SEVEN_PAIRS w_THIRTEEN_ORPHANS w_SEVEN_PAIRS_FOURS_AS_TWO) (z : Int32) (hk : (p1 &&& (3 : Int32)) = (1 : Int32)) (hz : ((((3 : Int32) * ((p2 &&& (2147483647 : Int32)) % (715827882 : Int32))) + (1 : Int32)) + (p3 &&& (1 : Int32))) = z) (hfit : ((z / (3 : Int32)) * (3 : Int32)) + (2 : Int32) = (14 : Int32) ↔ (z = 13 ∨ z = 14)) :
    MetFree l x (head1 (Jvm.Cond.code x code maxLocals ret :: ws) room_1) (fun a U => a = #[(.int p1), (.int p2), (.int p3)] ∧ Z.Warmed39 U.vm ∧ U.heap = h0) (fun _ _ _ _ _ => True) (fun _ U o U' => ∃ v L, o = .returned v ∧ own_Q (some (.int (1 : Int32))) h0 n0 v U'.heap L ∧ FrameEnd U o U' L room_1.cells room_1.slots) := by
  refine MetFree.of_bodySF (plainFor_of_name pn_0) hisR ?_
  intro p e s m args below meth c s₁ Bd hml0 hP hK0
  obtain ⟨rfl, hZ, hh⟩ := hP
  have hx := Bd.exec
  have hby := Bd.bytes
  have hml : c.maxLocals = 8 := hml0
  have hown : s.vm.findClass "com/example/tenpai/tenpai/core/FormFitsPinLaw" = some m.cls := findClass_of_methodNamed Bd.named
  have hnm := (name_of_methodNamed Bd.named Bd.method).1
  have X0 : Stand p l e room_1 s m #[(.int p1), (.int p2), (.int p3)] below meth c s₁ [] 0 0 := Stand.of_body Bd
  have e0 : s₁.heap = h0 := by rw [← hh, Bd.state]; rfl
  have N0 := Fr.nil n0
  have pre0 : ∀ t, Steps p.tables e below (s₁.setTop (mkF m 0 #[.val (.int p1), .val (.int p2), .val (.int p3), .unset, .unset, .unset, .unset, .unset] [])) t → Steps p.tables e below (s₁.setTop (entryFrame m #[(.int p1), (.int p2), (.int p3)] maxLocals)) t := fun t k => castTop (ef_law1 m p1 p2 p3) k
  have hK' := hK
  obtain ⟨S_w_REGULAR, E_w_REGULAR, F__complete_w_REGULAR, S_w_SEVEN_PAIRS, E_w_SEVEN_PAIRS, F__complete_w_SEVEN_PAIRS, S_w_THIRTEEN_ORPHANS, E_w_THIRTEEN_ORPHANS, F__complete_w_THIRTEEN_ORPHANS, S_w_SEVEN_PAIRS_FOURS_AS_TWO, E_w_SEVEN_PAIRS_FOURS_AS_TWO, F__complete_w_SEVEN_PAIRS_FOURS_AS_TWO⟩ := hK'
  obtain ⟨v1, _, ⟨T1, L1, k1, n1⟩, -, X1, ⟨Lc1, hQ1, l1, y1, z1⟩, st1⟩ := Jvm.LawKit.callS X0 hx (y := (⟨"com/example/tenpai/tenpai/core/FormFitsPinLaw", "form", "(I)Lcom/example/tenpai/tenpai/core/Form;"⟩ : MethodName)) hown (mvT hZ (hw _ (ow 0 rfl))) (mvT hZ (hw _ (ow 1 rfl))) (mvT hZ (hw _ (ow 2 rfl))) (mvT hZ (hw _ (ow 3 rfl))) (by decide) (backOf (W := 0) (rm_form l Z a0 hw [] (1 : Int32) h0 n0 w_REGULAR w_SEVEN_PAIRS w_THIRTEEN_ORPHANS w_SEVEN_PAIRS_FOURS_AS_TWO hK) hZ (hw _ (ow 3 rfl)) (hw _ (ow 2 rfl)) (by decide) (by decide)) (g := (mkF m 5 #[.val (.int p1), .val (.int p2), .val (.int p3), .val (.int (1 : Int32)), .unset, .unset, .unset, .unset] [(.int (1 : Int32))])) rfl (by rw [hml]; rfl) (argsL := [(.int (1 : Int32))]) (rest := []) (lenOf pd_0 rfl) rfl (Nat.le_of_eq rfl) (hb hby at_5) (fun _ _ => ⟨rfl, e0, (by decide : 0 + 0 ≤ _), (by decide : 0 + 0 ≤ _)⟩)
  dsimp only [Pt.U, Pt.locs, Pt.cells, Pt.slots] at X1 l1 y1 z1 st1 hQ1
  subst l1 y1 z1
  obtain ⟨hv1, Nq1, e1⟩ := hQ1
  obtain rfl : v1 = some (.ref w_SEVEN_PAIRS) := hv1.trans (congrArg some (congrArg Value.ref ((if_neg (by decide)).trans (if_pos (by decide)))))
  have N1 := Fr.app N0 Nq1
  have pre3 : ∀ t, Steps p.tables e below (T1.setTop (mkF m 39 #[.val (.int p1), .val (.int p2), .val (.int p3), .val (.int (1 : Int32)), .val (.ref w_SEVEN_PAIRS), .val (.int ((p2 &&& (2147483647 : Int32)) % (715827882 : Int32))), .val (.int z), .unset] [(.int (13 : Int32)), (.int z)])) t → Steps p.tables e below (s₁.setTop (entryFrame m #[(.int p1), (.int p2), (.int p3)] maxLocals)) t := fun t k => pre0 t (by
    show Steps p.tables e below (s₁.setTop (mkF m 0 #[.val (.int p1), .val (.int p2), .val (.int p3), .unset, .unset, .unset, .unset, .unset] [])) _
    refine XS.iloadN X0.here hx rfl (hb hby at_0) rfl ?_
    show Steps p.tables e below (s₁.setTop (mkF m 1 #[.val (.int p1), .val (.int p2), .val (.int p3), .unset, .unset, .unset, .unset, .unset] [(.int p1)])) _
    refine XS.iconst X0.here hx rfl (hb hby at_1) ?_
    show Steps p.tables e below (s₁.setTop (mkF m 2 #[.val (.int p1), .val (.int p2), .val (.int p3), .unset, .unset, .unset, .unset, .unset] [(.int (3 : Int32)), (.int p1)])) _
    refine XS.iand X0.here hx rfl (hb hby at_2) rfl ?_
    show Steps p.tables e below (s₁.setTop (mkF m 3 #[.val (.int p1), .val (.int p2), .val (.int p3), .unset, .unset, .unset, .unset, .unset] [(.int (p1 &&& (3 : Int32)))])) _
    rw [hk]
    show Steps p.tables e below (s₁.setTop (mkF m 3 #[.val (.int p1), .val (.int p2), .val (.int p3), .unset, .unset, .unset, .unset, .unset] [(.int (1 : Int32))])) _
    refine XS.istoreN X0.here hx rfl (hb hby at_3) rfl (l' := #[.val (.int p1), .val (.int p2), .val (.int p3), .val (.int (1 : Int32)), .unset, .unset, .unset, .unset]) rfl ?_
    show Steps p.tables e below (s₁.setTop (mkF m 4 #[.val (.int p1), .val (.int p2), .val (.int p3), .val (.int (1 : Int32)), .unset, .unset, .unset, .unset] [])) _
    refine XS.iloadN X0.here hx rfl (hb hby at_4) rfl ?_
    show Steps p.tables e below (s₁.setTop (mkF m 5 #[.val (.int p1), .val (.int p2), .val (.int p3), .val (.int (1 : Int32)), .unset, .unset, .unset, .unset] [(.int (1 : Int32))])) _
    refine st1 _ ?_
    show Steps p.tables e below (T1.setTop (mkF m 8 #[.val (.int p1), .val (.int p2), .val (.int p3), .val (.int (1 : Int32)), .unset, .unset, .unset, .unset] [(.ref w_SEVEN_PAIRS)])) _
    refine XS.astore X1.here hx rfl (hb hby at_8) rfl rfl (l' := #[.val (.int p1), .val (.int p2), .val (.int p3), .val (.int (1 : Int32)), .val (.ref w_SEVEN_PAIRS), .unset, .unset, .unset]) rfl ?_
    show Steps p.tables e below (T1.setTop (mkF m 10 #[.val (.int p1), .val (.int p2), .val (.int p3), .val (.int (1 : Int32)), .val (.ref w_SEVEN_PAIRS), .unset, .unset, .unset] [])) _
    refine XS.iloadN X1.here hx rfl (hb hby at_10) rfl ?_
    show Steps p.tables e below (T1.setTop (mkF m 11 #[.val (.int p1), .val (.int p2), .val (.int p3), .val (.int (1 : Int32)), .val (.ref w_SEVEN_PAIRS), .unset, .unset, .unset] [(.int p2)])) _
    refine X1.ldcInt hx hown (mvT hZ (hw _ (ow 7 rfl))) (g := (mkF m 11 #[.val (.int p1), .val (.int p2), .val (.int p3), .val (.int (1 : Int32)), .val (.ref w_SEVEN_PAIRS), .unset, .unset, .unset] [(.int p2)])) rfl (hb hby at_11) _ ?_
    show Steps p.tables e below (T1.setTop (mkF m 13 #[.val (.int p1), .val (.int p2), .val (.int p3), .val (.int (1 : Int32)), .val (.ref w_SEVEN_PAIRS), .unset, .unset, .unset] [(.int (2147483647 : Int32)), (.int p2)])) _
    refine XS.iand X1.here hx rfl (hb hby at_13) rfl ?_
    show Steps p.tables e below (T1.setTop (mkF m 14 #[.val (.int p1), .val (.int p2), .val (.int p3), .val (.int (1 : Int32)), .val (.ref w_SEVEN_PAIRS), .unset, .unset, .unset] [(.int (p2 &&& (2147483647 : Int32)))])) _
    refine X1.ldcInt hx hown (mvT hZ (hw _ (ow 8 rfl))) (g := (mkF m 14 #[.val (.int p1), .val (.int p2), .val (.int p3), .val (.int (1 : Int32)), .val (.ref w_SEVEN_PAIRS), .unset, .unset, .unset] [(.int (p2 &&& (2147483647 : Int32)))])) rfl (hb hby at_14) _ ?_
    show Steps p.tables e below (T1.setTop (mkF m 16 #[.val (.int p1), .val (.int p2), .val (.int p3), .val (.int (1 : Int32)), .val (.ref w_SEVEN_PAIRS), .unset, .unset, .unset] [(.int (715827882 : Int32)), (.int (p2 &&& (2147483647 : Int32)))])) _
    refine iremM X1 hx rfl (hb hby at_16) rfl (by decide) ?_
    show Steps p.tables e below (T1.setTop (mkF m 17 #[.val (.int p1), .val (.int p2), .val (.int p3), .val (.int (1 : Int32)), .val (.ref w_SEVEN_PAIRS), .unset, .unset, .unset] [(.int ((p2 &&& (2147483647 : Int32)) % (715827882 : Int32)))])) _
    refine XS.istore X1.here hx rfl (hb hby at_17) rfl (l' := #[.val (.int p1), .val (.int p2), .val (.int p3), .val (.int (1 : Int32)), .val (.ref w_SEVEN_PAIRS), .val (.int ((p2 &&& (2147483647 : Int32)) % (715827882 : Int32))), .unset, .unset]) rfl ?_
    show Steps p.tables e below (T1.setTop (mkF m 19 #[.val (.int p1), .val (.int p2), .val (.int p3), .val (.int (1 : Int32)), .val (.ref w_SEVEN_PAIRS), .val (.int ((p2 &&& (2147483647 : Int32)) % (715827882 : Int32))), .unset, .unset] [])) _
    refine XS.iconst X1.here hx rfl (hb hby at_19) ?_
    show Steps p.tables e below (T1.setTop (mkF m 20 #[.val (.int p1), .val (.int p2), .val (.int p3), .val (.int (1 : Int32)), .val (.ref w_SEVEN_PAIRS), .val (.int ((p2 &&& (2147483647 : Int32)) % (715827882 : Int32))), .unset, .unset] [(.int (3 : Int32))])) _
    refine XS.iload X1.here hx rfl (hb hby at_20) rfl ?_
    show Steps p.tables e below (T1.setTop (mkF m 22 #[.val (.int p1), .val (.int p2), .val (.int p3), .val (.int (1 : Int32)), .val (.ref w_SEVEN_PAIRS), .val (.int ((p2 &&& (2147483647 : Int32)) % (715827882 : Int32))), .unset, .unset] [(.int ((p2 &&& (2147483647 : Int32)) % (715827882 : Int32))), (.int (3 : Int32))])) _
    refine XS.imul X1.here hx rfl (hb hby at_22) rfl ?_
    show Steps p.tables e below (T1.setTop (mkF m 23 #[.val (.int p1), .val (.int p2), .val (.int p3), .val (.int (1 : Int32)), .val (.ref w_SEVEN_PAIRS), .val (.int ((p2 &&& (2147483647 : Int32)) % (715827882 : Int32))), .unset, .unset] [(.int ((3 : Int32) * ((p2 &&& (2147483647 : Int32)) % (715827882 : Int32))))])) _
    refine XS.iconst X1.here hx rfl (hb hby at_23) ?_
    show Steps p.tables e below (T1.setTop (mkF m 24 #[.val (.int p1), .val (.int p2), .val (.int p3), .val (.int (1 : Int32)), .val (.ref w_SEVEN_PAIRS), .val (.int ((p2 &&& (2147483647 : Int32)) % (715827882 : Int32))), .unset, .unset] [(.int (1 : Int32)), (.int ((3 : Int32) * ((p2 &&& (2147483647 : Int32)) % (715827882 : Int32))))])) _
    refine XS.iadd X1.here hx rfl (hb hby at_24) rfl ?_
    show Steps p.tables e below (T1.setTop (mkF m 25 #[.val (.int p1), .val (.int p2), .val (.int p3), .val (.int (1 : Int32)), .val (.ref w_SEVEN_PAIRS), .val (.int ((p2 &&& (2147483647 : Int32)) % (715827882 : Int32))), .unset, .unset] [(.int (((3 : Int32) * ((p2 &&& (2147483647 : Int32)) % (715827882 : Int32))) + (1 : Int32)))])) _
    refine XS.iloadN X1.here hx rfl (hb hby at_25) rfl ?_
    show Steps p.tables e below (T1.setTop (mkF m 26 #[.val (.int p1), .val (.int p2), .val (.int p3), .val (.int (1 : Int32)), .val (.ref w_SEVEN_PAIRS), .val (.int ((p2 &&& (2147483647 : Int32)) % (715827882 : Int32))), .unset, .unset] [(.int p3), (.int (((3 : Int32) * ((p2 &&& (2147483647 : Int32)) % (715827882 : Int32))) + (1 : Int32)))])) _
    refine XS.iconst X1.here hx rfl (hb hby at_26) ?_
    show Steps p.tables e below (T1.setTop (mkF m 27 #[.val (.int p1), .val (.int p2), .val (.int p3), .val (.int (1 : Int32)), .val (.ref w_SEVEN_PAIRS), .val (.int ((p2 &&& (2147483647 : Int32)) % (715827882 : Int32))), .unset, .unset] [(.int (1 : Int32)), (.int p3), (.int (((3 : Int32) * ((p2 &&& (2147483647 : Int32)) % (715827882 : Int32))) + (1 : Int32)))])) _
    refine XS.iand X1.here hx rfl (hb hby at_27) rfl ?_
    show Steps p.tables e below (T1.setTop (mkF m 28 #[.val (.int p1), .val (.int p2), .val (.int p3), .val (.int (1 : Int32)), .val (.ref w_SEVEN_PAIRS), .val (.int ((p2 &&& (2147483647 : Int32)) % (715827882 : Int32))), .unset, .unset] [(.int (p3 &&& (1 : Int32))), (.int (((3 : Int32) * ((p2 &&& (2147483647 : Int32)) % (715827882 : Int32))) + (1 : Int32)))])) _
    refine XS.iadd X1.here hx rfl (hb hby at_28) rfl ?_
    show Steps p.tables e below (T1.setTop (mkF m 29 #[.val (.int p1), .val (.int p2), .val (.int p3), .val (.int (1 : Int32)), .val (.ref w_SEVEN_PAIRS), .val (.int ((p2 &&& (2147483647 : Int32)) % (715827882 : Int32))), .unset, .unset] [(.int ((((3 : Int32) * ((p2 &&& (2147483647 : Int32)) % (715827882 : Int32))) + (1 : Int32)) + (p3 &&& (1 : Int32))))])) _
    rw [hz]
    show Steps p.tables e below (T1.setTop (mkF m 29 #[.val (.int p1), .val (.int p2), .val (.int p3), .val (.int (1 : Int32)), .val (.ref w_SEVEN_PAIRS), .val (.int ((p2 &&& (2147483647 : Int32)) % (715827882 : Int32))), .unset, .unset] [(.int z)])) _
    refine XS.istore X1.here hx rfl (hb hby at_29) rfl (l' := #[.val (.int p1), .val (.int p2), .val (.int p3), .val (.int (1 : Int32)), .val (.ref w_SEVEN_PAIRS), .val (.int ((p2 &&& (2147483647 : Int32)) % (715827882 : Int32))), .val (.int z), .unset]) rfl ?_
    show Steps p.tables e below (T1.setTop (mkF m 31 #[.val (.int p1), .val (.int p2), .val (.int p3), .val (.int (1 : Int32)), .val (.ref w_SEVEN_PAIRS), .val (.int ((p2 &&& (2147483647 : Int32)) % (715827882 : Int32))), .val (.int z), .unset] [])) _
    refine XS.iloadN X1.here hx rfl (hb hby at_31) rfl ?_
    show Steps p.tables e below (T1.setTop (mkF m 32 #[.val (.int p1), .val (.int p2), .val (.int p3), .val (.int (1 : Int32)), .val (.ref w_SEVEN_PAIRS), .val (.int ((p2 &&& (2147483647 : Int32)) % (715827882 : Int32))), .val (.int z), .unset] [(.int (1 : Int32))])) _
    refine XS.ifNo X1.here hx rfl (hb hby at_32) rfl ((if0 _ _).trans (feq (by decide)).1) ?_
    show Steps p.tables e below (T1.setTop (mkF m 35 #[.val (.int p1), .val (.int p2), .val (.int p3), .val (.int (1 : Int32)), .val (.ref w_SEVEN_PAIRS), .val (.int ((p2 &&& (2147483647 : Int32)) % (715827882 : Int32))), .val (.int z), .unset] [])) _
    refine XS.iload X1.here hx rfl (hb hby at_35) rfl ?_
    show Steps p.tables e below (T1.setTop (mkF m 37 #[.val (.int p1), .val (.int p2), .val (.int p3), .val (.int (1 : Int32)), .val (.ref w_SEVEN_PAIRS), .val (.int ((p2 &&& (2147483647 : Int32)) % (715827882 : Int32))), .val (.int z), .unset] [(.int z)])) _
    refine XS.bipush X1.here hx rfl (hb hby at_37) ?_
    exact k)
  by_cases hc39_2 : z = (13 : Int32)
  · obtain ⟨cq4, kq4, q4a, q4b, q4c⟩ := isOf hZ e1 E_w_SEVEN_PAIRS
    obtain ⟨v4, _, ⟨T4, L4, k4, n4⟩, -, X4, ⟨Lc4, hQ4, l4, y4, z4⟩, st4⟩ := X1.virtualBack hx (y := (⟨"com/example/tenpai/tenpai/core/Form", "fits", "(I)Z"⟩ : MethodName)) (z := (⟨"com/example/tenpai/tenpai/core/Form", "fits", "(I)Z"⟩ : MethodName)) hown (mvT hZ (hw _ (ow 9 rfl))) (mvT hZ (hw _ (ow 10 rfl))) (notFace_of_selects (args := #[]) (mvT hZ (hw _ (ow 12 rfl)))) (mvT hZ (hw _ (ow 12 rfl))) (mvT hZ (hw _ (ow 11 rfl))) (by decide) (backOf (W := 0) (rm_fits l Z a0 hw [] w_SEVEN_PAIRS z (14 : Int32) h0 n0 w_REGULAR w_SEVEN_PAIRS w_THIRTEEN_ORPHANS w_SEVEN_PAIRS_FOURS_AS_TWO hK F__complete_w_SEVEN_PAIRS) hZ (hw _ (ow 13 rfl)) (hw _ (ow 5 rfl)) (by decide) (by decide)) q4a q4c (g := (mkF m 60 #[.val (.int p1), .val (.int p2), .val (.int p3), .val (.int (1 : Int32)), .val (.ref w_SEVEN_PAIRS), .val (.int ((p2 &&& (2147483647 : Int32)) % (715827882 : Int32))), .val (.int z), .val (.int (1 : Int32))] [(.int z), (.ref w_SEVEN_PAIRS)])) rfl (by rw [hml]; rfl) (Steps.refl _) (argsL := [(.int z)]) (rest := []) (lenOf pd_1 rfl) rfl (Nat.le_of_eq rfl) (hb hby at_60) (fun _ _ => ⟨rfl, e1, (by decide : 0 + 0 ≤ _), (by decide : 0 + 0 ≤ _)⟩)
    dsimp only [Pt.U, Pt.locs, Pt.cells, Pt.slots] at X4 l4 y4 z4 st4 hQ4
    subst l4 y4 z4
    obtain ⟨hv4, Nq4, e4⟩ := hQ4
    obtain rfl : v4 = some (.int (1 : Int32)) := hv4.trans (congrArg some (congrArg Value.int ((if_neg (by decide)).trans (if_pos (hfit.mpr (Or.inl hc39_2))))))
    have N4 := Fr.app N1 Nq4
    have pre5 : ∀ t, Steps p.tables e below (T4.setTop (mkF m 73 #[.val (.int p1), .val (.int p2), .val (.int p3), .val (.int (1 : Int32)), .val (.ref w_SEVEN_PAIRS), .val (.int ((p2 &&& (2147483647 : Int32)) % (715827882 : Int32))), .val (.int z), .val (.int (1 : Int32))] [(.int (1 : Int32))])) t → Steps p.tables e below (s₁.setTop (entryFrame m #[(.int p1), (.int p2), (.int p3)] maxLocals)) t := fun t k => pre3 t (by
      show Steps p.tables e below (T1.setTop (mkF m 39 #[.val (.int p1), .val (.int p2), .val (.int p3), .val (.int (1 : Int32)), .val (.ref w_SEVEN_PAIRS), .val (.int ((p2 &&& (2147483647 : Int32)) % (715827882 : Int32))), .val (.int z), .unset] [(.int (13 : Int32)), (.int z)])) _
      refine XS.icmpYes X1.here hx rfl (pc0 := 39) (pc' := 49) rfl (hb hby at_39) rfl (teq hc39_2).1 (by decide) (by decide) ?_
      show Steps p.tables e below (T1.setTop (mkF m 49 #[.val (.int p1), .val (.int p2), .val (.int p3), .val (.int (1 : Int32)), .val (.ref w_SEVEN_PAIRS), .val (.int ((p2 &&& (2147483647 : Int32)) % (715827882 : Int32))), .val (.int z), .unset] [])) _
      refine XS.iconst X1.here hx rfl (hb hby at_49) ?_
      show Steps p.tables e below (T1.setTop (mkF m 50 #[.val (.int p1), .val (.int p2), .val (.int p3), .val (.int (1 : Int32)), .val (.ref w_SEVEN_PAIRS), .val (.int ((p2 &&& (2147483647 : Int32)) % (715827882 : Int32))), .val (.int z), .unset] [(.int (1 : Int32))])) _
      refine XS.goto X1.here hx rfl (pc0 := 50) (pc' := 54) rfl (hb hby at_50) (by decide) (by decide) ?_
      show Steps p.tables e below (T1.setTop (mkF m 54 #[.val (.int p1), .val (.int p2), .val (.int p3), .val (.int (1 : Int32)), .val (.ref w_SEVEN_PAIRS), .val (.int ((p2 &&& (2147483647 : Int32)) % (715827882 : Int32))), .val (.int z), .unset] [(.int (1 : Int32))])) _
      refine XS.istore X1.here hx rfl (hb hby at_54) rfl (l' := #[.val (.int p1), .val (.int p2), .val (.int p3), .val (.int (1 : Int32)), .val (.ref w_SEVEN_PAIRS), .val (.int ((p2 &&& (2147483647 : Int32)) % (715827882 : Int32))), .val (.int z), .val (.int (1 : Int32))]) rfl ?_
      show Steps p.tables e below (T1.setTop (mkF m 56 #[.val (.int p1), .val (.int p2), .val (.int p3), .val (.int (1 : Int32)), .val (.ref w_SEVEN_PAIRS), .val (.int ((p2 &&& (2147483647 : Int32)) % (715827882 : Int32))), .val (.int z), .val (.int (1 : Int32))] [])) _
      refine XS.aload X1.here hx rfl (hb hby at_56) rfl rfl ?_
      show Steps p.tables e below (T1.setTop (mkF m 58 #[.val (.int p1), .val (.int p2), .val (.int p3), .val (.int (1 : Int32)), .val (.ref w_SEVEN_PAIRS), .val (.int ((p2 &&& (2147483647 : Int32)) % (715827882 : Int32))), .val (.int z), .val (.int (1 : Int32))] [(.ref w_SEVEN_PAIRS)])) _
      refine XS.iload X1.here hx rfl (hb hby at_58) rfl ?_
      show Steps p.tables e below (T1.setTop (mkF m 60 #[.val (.int p1), .val (.int p2), .val (.int p3), .val (.int (1 : Int32)), .val (.ref w_SEVEN_PAIRS), .val (.int ((p2 &&& (2147483647 : Int32)) % (715827882 : Int32))), .val (.int z), .val (.int (1 : Int32))] [(.int z), (.ref w_SEVEN_PAIRS)])) _
      refine st4.trans ?_
      show Steps p.tables e below (T4.setTop (mkF m 63 #[.val (.int p1), .val (.int p2), .val (.int p3), .val (.int (1 : Int32)), .val (.ref w_SEVEN_PAIRS), .val (.int ((p2 &&& (2147483647 : Int32)) % (715827882 : Int32))), .val (.int z), .val (.int (1 : Int32))] [(.int (1 : Int32))])) _
      refine XS.iload X4.here hx rfl (hb hby at_63) rfl ?_
      show Steps p.tables e below (T4.setTop (mkF m 65 #[.val (.int p1), .val (.int p2), .val (.int p3), .val (.int (1 : Int32)), .val (.ref w_SEVEN_PAIRS), .val (.int ((p2 &&& (2147483647 : Int32)) % (715827882 : Int32))), .val (.int z), .val (.int (1 : Int32))] [(.int (1 : Int32)), (.int (1 : Int32))])) _
      refine XS.icmpNo X4.here hx rfl (hb hby at_65) rfl (teq (by decide)).2 ?_
      show Steps p.tables e below (T4.setTop (mkF m 68 #[.val (.int p1), .val (.int p2), .val (.int p3), .val (.int (1 : Int32)), .val (.ref w_SEVEN_PAIRS), .val (.int ((p2 &&& (2147483647 : Int32)) % (715827882 : Int32))), .val (.int z), .val (.int (1 : Int32))] [])) _
      refine XS.iconst X4.here hx rfl (hb hby at_68) ?_
      show Steps p.tables e below (T4.setTop (mkF m 69 #[.val (.int p1), .val (.int p2), .val (.int p3), .val (.int (1 : Int32)), .val (.ref w_SEVEN_PAIRS), .val (.int ((p2 &&& (2147483647 : Int32)) % (715827882 : Int32))), .val (.int z), .val (.int (1 : Int32))] [(.int (1 : Int32))])) _
      refine XS.goto X4.here hx rfl (pc0 := 69) (pc' := 73) rfl (hb hby at_69) (by decide) (by decide) ?_
      exact k)
    obtain ⟨fs, hr, hrun, hended, hW, hsame⟩ := X4.leave (v := some (.int (1 : Int32))) (fun h => by rw [Bd.returns] at h; cases h)
    refine ⟨_, _, pre5 _ ?_, hrun, hended, _, _, rfl, ?_, ⟨_, rfl⟩, hW, hsame.mono (by decide) (by decide)⟩
    · show Steps p.tables e below (T4.setTop (mkF m 73 #[.val (.int p1), .val (.int p2), .val (.int p3), .val (.int (1 : Int32)), .val (.ref w_SEVEN_PAIRS), .val (.int ((p2 &&& (2147483647 : Int32)) % (715827882 : Int32))), .val (.int z), .val (.int (1 : Int32))] [(.int (1 : Int32))])) _
      exact retN X4 hx (t := .boolean) Bd.returns (by simp) (hb hby at_73) hr
    · exact ⟨rfl, N4, e4⟩
  · have pre7 : ∀ t, Steps p.tables e below (T1.setTop (mkF m 46 #[.val (.int p1), .val (.int p2), .val (.int p3), .val (.int (1 : Int32)), .val (.ref w_SEVEN_PAIRS), .val (.int ((p2 &&& (2147483647 : Int32)) % (715827882 : Int32))), .val (.int z), .unset] [(.int (14 : Int32)), (.int z)])) t → Steps p.tables e below (s₁.setTop (entryFrame m #[(.int p1), (.int p2), (.int p3)] maxLocals)) t := fun t k => pre3 t (by
      show Steps p.tables e below (T1.setTop (mkF m 39 #[.val (.int p1), .val (.int p2), .val (.int p3), .val (.int (1 : Int32)), .val (.ref w_SEVEN_PAIRS), .val (.int ((p2 &&& (2147483647 : Int32)) % (715827882 : Int32))), .val (.int z), .unset] [(.int (13 : Int32)), (.int z)])) _
      refine XS.icmpNo X1.here hx rfl (hb hby at_39) rfl (feq hc39_2).1 ?_
      show Steps p.tables e below (T1.setTop (mkF m 42 #[.val (.int p1), .val (.int p2), .val (.int p3), .val (.int (1 : Int32)), .val (.ref w_SEVEN_PAIRS), .val (.int ((p2 &&& (2147483647 : Int32)) % (715827882 : Int32))), .val (.int z), .unset] [])) _
      refine XS.iload X1.here hx rfl (hb hby at_42) rfl ?_
      show Steps p.tables e below (T1.setTop (mkF m 44 #[.val (.int p1), .val (.int p2), .val (.int p3), .val (.int (1 : Int32)), .val (.ref w_SEVEN_PAIRS), .val (.int ((p2 &&& (2147483647 : Int32)) % (715827882 : Int32))), .val (.int z), .unset] [(.int z)])) _
      refine XS.bipush X1.here hx rfl (hb hby at_44) ?_
      exact k)
    by_cases hc46_6 : z = (14 : Int32)
    · obtain ⟨cq8, kq8, q8a, q8b, q8c⟩ := isOf hZ e1 E_w_SEVEN_PAIRS
      obtain ⟨v8, _, ⟨T8, L8, k8, n8⟩, -, X8, ⟨Lc8, hQ8, l8, y8, z8⟩, st8⟩ := X1.virtualBack hx (y := (⟨"com/example/tenpai/tenpai/core/Form", "fits", "(I)Z"⟩ : MethodName)) (z := (⟨"com/example/tenpai/tenpai/core/Form", "fits", "(I)Z"⟩ : MethodName)) hown (mvT hZ (hw _ (ow 9 rfl))) (mvT hZ (hw _ (ow 10 rfl))) (notFace_of_selects (args := #[]) (mvT hZ (hw _ (ow 12 rfl)))) (mvT hZ (hw _ (ow 12 rfl))) (mvT hZ (hw _ (ow 11 rfl))) (by decide) (backOf (W := 0) (rm_fits l Z a0 hw [] w_SEVEN_PAIRS z (14 : Int32) h0 n0 w_REGULAR w_SEVEN_PAIRS w_THIRTEEN_ORPHANS w_SEVEN_PAIRS_FOURS_AS_TWO hK F__complete_w_SEVEN_PAIRS) hZ (hw _ (ow 13 rfl)) (hw _ (ow 5 rfl)) (by decide) (by decide)) q8a q8c (g := (mkF m 60 #[.val (.int p1), .val (.int p2), .val (.int p3), .val (.int (1 : Int32)), .val (.ref w_SEVEN_PAIRS), .val (.int ((p2 &&& (2147483647 : Int32)) % (715827882 : Int32))), .val (.int z), .val (.int (1 : Int32))] [(.int z), (.ref w_SEVEN_PAIRS)])) rfl (by rw [hml]; rfl) (Steps.refl _) (argsL := [(.int z)]) (rest := []) (lenOf pd_1 rfl) rfl (Nat.le_of_eq rfl) (hb hby at_60) (fun _ _ => ⟨rfl, e1, (by decide : 0 + 0 ≤ _), (by decide : 0 + 0 ≤ _)⟩)
      dsimp only [Pt.U, Pt.locs, Pt.cells, Pt.slots] at X8 l8 y8 z8 st8 hQ8
      subst l8 y8 z8
      obtain ⟨hv8, Nq8, e8⟩ := hQ8
      obtain rfl : v8 = some (.int (1 : Int32)) := hv8.trans (congrArg some (congrArg Value.int ((if_neg (by decide)).trans (if_pos (hfit.mpr (Or.inr hc46_6))))))
      have N8 := Fr.app N1 Nq8
      have pre9 : ∀ t, Steps p.tables e below (T8.setTop (mkF m 73 #[.val (.int p1), .val (.int p2), .val (.int p3), .val (.int (1 : Int32)), .val (.ref w_SEVEN_PAIRS), .val (.int ((p2 &&& (2147483647 : Int32)) % (715827882 : Int32))), .val (.int z), .val (.int (1 : Int32))] [(.int (1 : Int32))])) t → Steps p.tables e below (s₁.setTop (entryFrame m #[(.int p1), (.int p2), (.int p3)] maxLocals)) t := fun t k => pre7 t (by
        show Steps p.tables e below (T1.setTop (mkF m 46 #[.val (.int p1), .val (.int p2), .val (.int p3), .val (.int (1 : Int32)), .val (.ref w_SEVEN_PAIRS), .val (.int ((p2 &&& (2147483647 : Int32)) % (715827882 : Int32))), .val (.int z), .unset] [(.int (14 : Int32)), (.int z)])) _
        refine XS.icmpNo X1.here hx rfl (hb hby at_46) rfl (teq hc46_6).2 ?_
        show Steps p.tables e below (T1.setTop (mkF m 49 #[.val (.int p1), .val (.int p2), .val (.int p3), .val (.int (1 : Int32)), .val (.ref w_SEVEN_PAIRS), .val (.int ((p2 &&& (2147483647 : Int32)) % (715827882 : Int32))), .val (.int z), .unset] [])) _
        refine XS.iconst X1.here hx rfl (hb hby at_49) ?_
        show Steps p.tables e below (T1.setTop (mkF m 50 #[.val (.int p1), .val (.int p2), .val (.int p3), .val (.int (1 : Int32)), .val (.ref w_SEVEN_PAIRS), .val (.int ((p2 &&& (2147483647 : Int32)) % (715827882 : Int32))), .val (.int z), .unset] [(.int (1 : Int32))])) _
        refine XS.goto X1.here hx rfl (pc0 := 50) (pc' := 54) rfl (hb hby at_50) (by decide) (by decide) ?_
        show Steps p.tables e below (T1.setTop (mkF m 54 #[.val (.int p1), .val (.int p2), .val (.int p3), .val (.int (1 : Int32)), .val (.ref w_SEVEN_PAIRS), .val (.int ((p2 &&& (2147483647 : Int32)) % (715827882 : Int32))), .val (.int z), .unset] [(.int (1 : Int32))])) _
        refine XS.istore X1.here hx rfl (hb hby at_54) rfl (l' := #[.val (.int p1), .val (.int p2), .val (.int p3), .val (.int (1 : Int32)), .val (.ref w_SEVEN_PAIRS), .val (.int ((p2 &&& (2147483647 : Int32)) % (715827882 : Int32))), .val (.int z), .val (.int (1 : Int32))]) rfl ?_
        show Steps p.tables e below (T1.setTop (mkF m 56 #[.val (.int p1), .val (.int p2), .val (.int p3), .val (.int (1 : Int32)), .val (.ref w_SEVEN_PAIRS), .val (.int ((p2 &&& (2147483647 : Int32)) % (715827882 : Int32))), .val (.int z), .val (.int (1 : Int32))] [])) _
        refine XS.aload X1.here hx rfl (hb hby at_56) rfl rfl ?_
        show Steps p.tables e below (T1.setTop (mkF m 58 #[.val (.int p1), .val (.int p2), .val (.int p3), .val (.int (1 : Int32)), .val (.ref w_SEVEN_PAIRS), .val (.int ((p2 &&& (2147483647 : Int32)) % (715827882 : Int32))), .val (.int z), .val (.int (1 : Int32))] [(.ref w_SEVEN_PAIRS)])) _
        refine XS.iload X1.here hx rfl (hb hby at_58) rfl ?_
        show Steps p.tables e below (T1.setTop (mkF m 60 #[.val (.int p1), .val (.int p2), .val (.int p3), .val (.int (1 : Int32)), .val (.ref w_SEVEN_PAIRS), .val (.int ((p2 &&& (2147483647 : Int32)) % (715827882 : Int32))), .val (.int z), .val (.int (1 : Int32))] [(.int z), (.ref w_SEVEN_PAIRS)])) _
        refine st8.trans ?_
        show Steps p.tables e below (T8.setTop (mkF m 63 #[.val (.int p1), .val (.int p2), .val (.int p3), .val (.int (1 : Int32)), .val (.ref w_SEVEN_PAIRS), .val (.int ((p2 &&& (2147483647 : Int32)) % (715827882 : Int32))), .val (.int z), .val (.int (1 : Int32))] [(.int (1 : Int32))])) _
        refine XS.iload X8.here hx rfl (hb hby at_63) rfl ?_
        show Steps p.tables e below (T8.setTop (mkF m 65 #[.val (.int p1), .val (.int p2), .val (.int p3), .val (.int (1 : Int32)), .val (.ref w_SEVEN_PAIRS), .val (.int ((p2 &&& (2147483647 : Int32)) % (715827882 : Int32))), .val (.int z), .val (.int (1 : Int32))] [(.int (1 : Int32)), (.int (1 : Int32))])) _
        refine XS.icmpNo X8.here hx rfl (hb hby at_65) rfl (teq (by decide)).2 ?_
        show Steps p.tables e below (T8.setTop (mkF m 68 #[.val (.int p1), .val (.int p2), .val (.int p3), .val (.int (1 : Int32)), .val (.ref w_SEVEN_PAIRS), .val (.int ((p2 &&& (2147483647 : Int32)) % (715827882 : Int32))), .val (.int z), .val (.int (1 : Int32))] [])) _
        refine XS.iconst X8.here hx rfl (hb hby at_68) ?_
        show Steps p.tables e below (T8.setTop (mkF m 69 #[.val (.int p1), .val (.int p2), .val (.int p3), .val (.int (1 : Int32)), .val (.ref w_SEVEN_PAIRS), .val (.int ((p2 &&& (2147483647 : Int32)) % (715827882 : Int32))), .val (.int z), .val (.int (1 : Int32))] [(.int (1 : Int32))])) _
        refine XS.goto X8.here hx rfl (pc0 := 69) (pc' := 73) rfl (hb hby at_69) (by decide) (by decide) ?_
        exact k)
      obtain ⟨fs, hr, hrun, hended, hW, hsame⟩ := X8.leave (v := some (.int (1 : Int32))) (fun h => by rw [Bd.returns] at h; cases h)
      refine ⟨_, _, pre9 _ ?_, hrun, hended, _, _, rfl, ?_, ⟨_, rfl⟩, hW, hsame.mono (by decide) (by decide)⟩
      · show Steps p.tables e below (T8.setTop (mkF m 73 #[.val (.int p1), .val (.int p2), .val (.int p3), .val (.int (1 : Int32)), .val (.ref w_SEVEN_PAIRS), .val (.int ((p2 &&& (2147483647 : Int32)) % (715827882 : Int32))), .val (.int z), .val (.int (1 : Int32))] [(.int (1 : Int32))])) _
        exact retN X8 hx (t := .boolean) Bd.returns (by simp) (hb hby at_73) hr
      · exact ⟨rfl, N8, e8⟩
    · obtain ⟨cq10, kq10, q10a, q10b, q10c⟩ := isOf hZ e1 E_w_SEVEN_PAIRS
      obtain ⟨v10, _, ⟨T10, L10, k10, n10⟩, -, X10, ⟨Lc10, hQ10, l10, y10, z10⟩, st10⟩ := X1.virtualBack hx (y := (⟨"com/example/tenpai/tenpai/core/Form", "fits", "(I)Z"⟩ : MethodName)) (z := (⟨"com/example/tenpai/tenpai/core/Form", "fits", "(I)Z"⟩ : MethodName)) hown (mvT hZ (hw _ (ow 9 rfl))) (mvT hZ (hw _ (ow 10 rfl))) (notFace_of_selects (args := #[]) (mvT hZ (hw _ (ow 12 rfl)))) (mvT hZ (hw _ (ow 12 rfl))) (mvT hZ (hw _ (ow 11 rfl))) (by decide) (backOf (W := 0) (rm_fits l Z a0 hw [] w_SEVEN_PAIRS z (14 : Int32) h0 n0 w_REGULAR w_SEVEN_PAIRS w_THIRTEEN_ORPHANS w_SEVEN_PAIRS_FOURS_AS_TWO hK F__complete_w_SEVEN_PAIRS) hZ (hw _ (ow 13 rfl)) (hw _ (ow 5 rfl)) (by decide) (by decide)) q10a q10c (g := (mkF m 60 #[.val (.int p1), .val (.int p2), .val (.int p3), .val (.int (1 : Int32)), .val (.ref w_SEVEN_PAIRS), .val (.int ((p2 &&& (2147483647 : Int32)) % (715827882 : Int32))), .val (.int z), .val (.int (0 : Int32))] [(.int z), (.ref w_SEVEN_PAIRS)])) rfl (by rw [hml]; rfl) (Steps.refl _) (argsL := [(.int z)]) (rest := []) (lenOf pd_1 rfl) rfl (Nat.le_of_eq rfl) (hb hby at_60) (fun _ _ => ⟨rfl, e1, (by decide : 0 + 0 ≤ _), (by decide : 0 + 0 ≤ _)⟩)
      dsimp only [Pt.U, Pt.locs, Pt.cells, Pt.slots] at X10 l10 y10 z10 st10 hQ10
      subst l10 y10 z10
      obtain ⟨hv10, Nq10, e10⟩ := hQ10
      obtain rfl : v10 = some (.int (0 : Int32)) := hv10.trans (congrArg some (congrArg Value.int ((if_neg (by decide)).trans (if_neg (fun q => (hfit.mp q).elim hc39_2 hc46_6)))))
      have N10 := Fr.app N1 Nq10
      have pre11 : ∀ t, Steps p.tables e below (T10.setTop (mkF m 73 #[.val (.int p1), .val (.int p2), .val (.int p3), .val (.int (1 : Int32)), .val (.ref w_SEVEN_PAIRS), .val (.int ((p2 &&& (2147483647 : Int32)) % (715827882 : Int32))), .val (.int z), .val (.int (0 : Int32))] [(.int (1 : Int32))])) t → Steps p.tables e below (s₁.setTop (entryFrame m #[(.int p1), (.int p2), (.int p3)] maxLocals)) t := fun t k => pre7 t (by
        show Steps p.tables e below (T1.setTop (mkF m 46 #[.val (.int p1), .val (.int p2), .val (.int p3), .val (.int (1 : Int32)), .val (.ref w_SEVEN_PAIRS), .val (.int ((p2 &&& (2147483647 : Int32)) % (715827882 : Int32))), .val (.int z), .unset] [(.int (14 : Int32)), (.int z)])) _
        refine XS.icmpYes X1.here hx rfl (pc0 := 46) (pc' := 53) rfl (hb hby at_46) rfl (feq hc46_6).2 (by decide) (by decide) ?_
        show Steps p.tables e below (T1.setTop (mkF m 53 #[.val (.int p1), .val (.int p2), .val (.int p3), .val (.int (1 : Int32)), .val (.ref w_SEVEN_PAIRS), .val (.int ((p2 &&& (2147483647 : Int32)) % (715827882 : Int32))), .val (.int z), .unset] [])) _
        refine XS.iconst X1.here hx rfl (hb hby at_53) ?_
        show Steps p.tables e below (T1.setTop (mkF m 54 #[.val (.int p1), .val (.int p2), .val (.int p3), .val (.int (1 : Int32)), .val (.ref w_SEVEN_PAIRS), .val (.int ((p2 &&& (2147483647 : Int32)) % (715827882 : Int32))), .val (.int z), .unset] [(.int (0 : Int32))])) _
        refine XS.istore X1.here hx rfl (hb hby at_54) rfl (l' := #[.val (.int p1), .val (.int p2), .val (.int p3), .val (.int (1 : Int32)), .val (.ref w_SEVEN_PAIRS), .val (.int ((p2 &&& (2147483647 : Int32)) % (715827882 : Int32))), .val (.int z), .val (.int (0 : Int32))]) rfl ?_
        show Steps p.tables e below (T1.setTop (mkF m 56 #[.val (.int p1), .val (.int p2), .val (.int p3), .val (.int (1 : Int32)), .val (.ref w_SEVEN_PAIRS), .val (.int ((p2 &&& (2147483647 : Int32)) % (715827882 : Int32))), .val (.int z), .val (.int (0 : Int32))] [])) _
        refine XS.aload X1.here hx rfl (hb hby at_56) rfl rfl ?_
        show Steps p.tables e below (T1.setTop (mkF m 58 #[.val (.int p1), .val (.int p2), .val (.int p3), .val (.int (1 : Int32)), .val (.ref w_SEVEN_PAIRS), .val (.int ((p2 &&& (2147483647 : Int32)) % (715827882 : Int32))), .val (.int z), .val (.int (0 : Int32))] [(.ref w_SEVEN_PAIRS)])) _
        refine XS.iload X1.here hx rfl (hb hby at_58) rfl ?_
        show Steps p.tables e below (T1.setTop (mkF m 60 #[.val (.int p1), .val (.int p2), .val (.int p3), .val (.int (1 : Int32)), .val (.ref w_SEVEN_PAIRS), .val (.int ((p2 &&& (2147483647 : Int32)) % (715827882 : Int32))), .val (.int z), .val (.int (0 : Int32))] [(.int z), (.ref w_SEVEN_PAIRS)])) _
        refine st10.trans ?_
        show Steps p.tables e below (T10.setTop (mkF m 63 #[.val (.int p1), .val (.int p2), .val (.int p3), .val (.int (1 : Int32)), .val (.ref w_SEVEN_PAIRS), .val (.int ((p2 &&& (2147483647 : Int32)) % (715827882 : Int32))), .val (.int z), .val (.int (0 : Int32))] [(.int (0 : Int32))])) _
        refine XS.iload X10.here hx rfl (hb hby at_63) rfl ?_
        show Steps p.tables e below (T10.setTop (mkF m 65 #[.val (.int p1), .val (.int p2), .val (.int p3), .val (.int (1 : Int32)), .val (.ref w_SEVEN_PAIRS), .val (.int ((p2 &&& (2147483647 : Int32)) % (715827882 : Int32))), .val (.int z), .val (.int (0 : Int32))] [(.int (0 : Int32)), (.int (0 : Int32))])) _
        refine XS.icmpNo X10.here hx rfl (hb hby at_65) rfl (teq (by decide)).2 ?_
        show Steps p.tables e below (T10.setTop (mkF m 68 #[.val (.int p1), .val (.int p2), .val (.int p3), .val (.int (1 : Int32)), .val (.ref w_SEVEN_PAIRS), .val (.int ((p2 &&& (2147483647 : Int32)) % (715827882 : Int32))), .val (.int z), .val (.int (0 : Int32))] [])) _
        refine XS.iconst X10.here hx rfl (hb hby at_68) ?_
        show Steps p.tables e below (T10.setTop (mkF m 69 #[.val (.int p1), .val (.int p2), .val (.int p3), .val (.int (1 : Int32)), .val (.ref w_SEVEN_PAIRS), .val (.int ((p2 &&& (2147483647 : Int32)) % (715827882 : Int32))), .val (.int z), .val (.int (0 : Int32))] [(.int (1 : Int32))])) _
        refine XS.goto X10.here hx rfl (pc0 := 69) (pc' := 73) rfl (hb hby at_69) (by decide) (by decide) ?_
        exact k)
      obtain ⟨fs, hr, hrun, hended, hW, hsame⟩ := X10.leave (v := some (.int (1 : Int32))) (fun h => by rw [Bd.returns] at h; cases h)
      refine ⟨_, _, pre11 _ ?_, hrun, hended, _, _, rfl, ?_, ⟨_, rfl⟩, hW, hsame.mono (by decide) (by decide)⟩
      · show Steps p.tables e below (T10.setTop (mkF m 73 #[.val (.int p1), .val (.int p2), .val (.int p3), .val (.int (1 : Int32)), .val (.ref w_SEVEN_PAIRS), .val (.int ((p2 &&& (2147483647 : Int32)) % (715827882 : Int32))), .val (.int z), .val (.int (0 : Int32))] [(.int (1 : Int32))])) _
        exact retN X10 hx (t := .boolean) Bd.returns (by simp) (hb hby at_73) hr
      · exact ⟨rfl, N10, e10⟩
theorem ef_law2 (m : MethodId) (x0 : Int32) (x1 : Int32) (x2 : Int32) : entryFrame m #[(.int x0), (.int x1), (.int x2)] maxLocals = mkF m 0 #[.val (.int x0), .val (.int x1), .val (.int x2), .unset, .unset, .unset, .unset, .unset] [] := by first | (simp [entryFrame, mkF, argsToLocals, Value.category, maxLocals]; done) | rfl
set_option maxRecDepth 65536 in
set_option maxHeartbeats 40000000 in
theorem rm_law2 (l : Launch) (Z : State) (a0 : Array Value) (hw : ∀ d ∈ tables_1, d.before a0 Z = true) (ws : List Jvm.Cond) (p1 : Int32) (p2 : Int32) (p3 : Int32) (h0 : Heap) (n0 : Nat) (w_REGULAR w_SEVEN_PAIRS w_THIRTEEN_ORPHANS w_SEVEN_PAIRS_FOURS_AS_TWO : Addr) (hK : own_K Z h0 w_REGULAR w_SEVEN_PAIRS w_THIRTEEN_ORPHANS w_SEVEN_PAIRS_FOURS_AS_TWO) (z : Int32) (hk : (p1 &&& (3 : Int32)) = (2 : Int32)) (hz : ((((3 : Int32) * ((p2 &&& (2147483647 : Int32)) % (715827882 : Int32))) + (1 : Int32)) + (p3 &&& (1 : Int32))) = z) (hfit : ((z / (3 : Int32)) * (3 : Int32)) + (2 : Int32) = (14 : Int32) ↔ (z = 13 ∨ z = 14)) :
    MetFree l x (head1 (Jvm.Cond.code x code maxLocals ret :: ws) room_1) (fun a U => a = #[(.int p1), (.int p2), (.int p3)] ∧ Z.Warmed39 U.vm ∧ U.heap = h0) (fun _ _ _ _ _ => True) (fun _ U o U' => ∃ v L, o = .returned v ∧ own_Q (some (.int (1 : Int32))) h0 n0 v U'.heap L ∧ FrameEnd U o U' L room_1.cells room_1.slots) := by
  refine MetFree.of_bodySF (plainFor_of_name pn_0) hisR ?_
  intro p e s m args below meth c s₁ Bd hml0 hP hK0
  obtain ⟨rfl, hZ, hh⟩ := hP
  have hx := Bd.exec
  have hby := Bd.bytes
  have hml : c.maxLocals = 8 := hml0
  have hown : s.vm.findClass "com/example/tenpai/tenpai/core/FormFitsPinLaw" = some m.cls := findClass_of_methodNamed Bd.named
  have hnm := (name_of_methodNamed Bd.named Bd.method).1
  have X0 : Stand p l e room_1 s m #[(.int p1), (.int p2), (.int p3)] below meth c s₁ [] 0 0 := Stand.of_body Bd
  have e0 : s₁.heap = h0 := by rw [← hh, Bd.state]; rfl
  have N0 := Fr.nil n0
  have pre0 : ∀ t, Steps p.tables e below (s₁.setTop (mkF m 0 #[.val (.int p1), .val (.int p2), .val (.int p3), .unset, .unset, .unset, .unset, .unset] [])) t → Steps p.tables e below (s₁.setTop (entryFrame m #[(.int p1), (.int p2), (.int p3)] maxLocals)) t := fun t k => castTop (ef_law2 m p1 p2 p3) k
  have hK' := hK
  obtain ⟨S_w_REGULAR, E_w_REGULAR, F__complete_w_REGULAR, S_w_SEVEN_PAIRS, E_w_SEVEN_PAIRS, F__complete_w_SEVEN_PAIRS, S_w_THIRTEEN_ORPHANS, E_w_THIRTEEN_ORPHANS, F__complete_w_THIRTEEN_ORPHANS, S_w_SEVEN_PAIRS_FOURS_AS_TWO, E_w_SEVEN_PAIRS_FOURS_AS_TWO, F__complete_w_SEVEN_PAIRS_FOURS_AS_TWO⟩ := hK'
  obtain ⟨v1, _, ⟨T1, L1, k1, n1⟩, -, X1, ⟨Lc1, hQ1, l1, y1, z1⟩, st1⟩ := Jvm.LawKit.callS X0 hx (y := (⟨"com/example/tenpai/tenpai/core/FormFitsPinLaw", "form", "(I)Lcom/example/tenpai/tenpai/core/Form;"⟩ : MethodName)) hown (mvT hZ (hw _ (ow 0 rfl))) (mvT hZ (hw _ (ow 1 rfl))) (mvT hZ (hw _ (ow 2 rfl))) (mvT hZ (hw _ (ow 3 rfl))) (by decide) (backOf (W := 0) (rm_form l Z a0 hw [] (2 : Int32) h0 n0 w_REGULAR w_SEVEN_PAIRS w_THIRTEEN_ORPHANS w_SEVEN_PAIRS_FOURS_AS_TWO hK) hZ (hw _ (ow 3 rfl)) (hw _ (ow 2 rfl)) (by decide) (by decide)) (g := (mkF m 5 #[.val (.int p1), .val (.int p2), .val (.int p3), .val (.int (2 : Int32)), .unset, .unset, .unset, .unset] [(.int (2 : Int32))])) rfl (by rw [hml]; rfl) (argsL := [(.int (2 : Int32))]) (rest := []) (lenOf pd_0 rfl) rfl (Nat.le_of_eq rfl) (hb hby at_5) (fun _ _ => ⟨rfl, e0, (by decide : 0 + 0 ≤ _), (by decide : 0 + 0 ≤ _)⟩)
  dsimp only [Pt.U, Pt.locs, Pt.cells, Pt.slots] at X1 l1 y1 z1 st1 hQ1
  subst l1 y1 z1
  obtain ⟨hv1, Nq1, e1⟩ := hQ1
  obtain rfl : v1 = some (.ref w_SEVEN_PAIRS_FOURS_AS_TWO) := hv1.trans (congrArg some (congrArg Value.ref ((if_neg (by decide)).trans ((if_neg (by decide)).trans (if_pos (by decide))))))
  have N1 := Fr.app N0 Nq1
  have pre3 : ∀ t, Steps p.tables e below (T1.setTop (mkF m 39 #[.val (.int p1), .val (.int p2), .val (.int p3), .val (.int (2 : Int32)), .val (.ref w_SEVEN_PAIRS_FOURS_AS_TWO), .val (.int ((p2 &&& (2147483647 : Int32)) % (715827882 : Int32))), .val (.int z), .unset] [(.int (13 : Int32)), (.int z)])) t → Steps p.tables e below (s₁.setTop (entryFrame m #[(.int p1), (.int p2), (.int p3)] maxLocals)) t := fun t k => pre0 t (by
    show Steps p.tables e below (s₁.setTop (mkF m 0 #[.val (.int p1), .val (.int p2), .val (.int p3), .unset, .unset, .unset, .unset, .unset] [])) _
    refine XS.iloadN X0.here hx rfl (hb hby at_0) rfl ?_
    show Steps p.tables e below (s₁.setTop (mkF m 1 #[.val (.int p1), .val (.int p2), .val (.int p3), .unset, .unset, .unset, .unset, .unset] [(.int p1)])) _
    refine XS.iconst X0.here hx rfl (hb hby at_1) ?_
    show Steps p.tables e below (s₁.setTop (mkF m 2 #[.val (.int p1), .val (.int p2), .val (.int p3), .unset, .unset, .unset, .unset, .unset] [(.int (3 : Int32)), (.int p1)])) _
    refine XS.iand X0.here hx rfl (hb hby at_2) rfl ?_
    show Steps p.tables e below (s₁.setTop (mkF m 3 #[.val (.int p1), .val (.int p2), .val (.int p3), .unset, .unset, .unset, .unset, .unset] [(.int (p1 &&& (3 : Int32)))])) _
    rw [hk]
    show Steps p.tables e below (s₁.setTop (mkF m 3 #[.val (.int p1), .val (.int p2), .val (.int p3), .unset, .unset, .unset, .unset, .unset] [(.int (2 : Int32))])) _
    refine XS.istoreN X0.here hx rfl (hb hby at_3) rfl (l' := #[.val (.int p1), .val (.int p2), .val (.int p3), .val (.int (2 : Int32)), .unset, .unset, .unset, .unset]) rfl ?_
    show Steps p.tables e below (s₁.setTop (mkF m 4 #[.val (.int p1), .val (.int p2), .val (.int p3), .val (.int (2 : Int32)), .unset, .unset, .unset, .unset] [])) _
    refine XS.iloadN X0.here hx rfl (hb hby at_4) rfl ?_
    show Steps p.tables e below (s₁.setTop (mkF m 5 #[.val (.int p1), .val (.int p2), .val (.int p3), .val (.int (2 : Int32)), .unset, .unset, .unset, .unset] [(.int (2 : Int32))])) _
    refine st1 _ ?_
    show Steps p.tables e below (T1.setTop (mkF m 8 #[.val (.int p1), .val (.int p2), .val (.int p3), .val (.int (2 : Int32)), .unset, .unset, .unset, .unset] [(.ref w_SEVEN_PAIRS_FOURS_AS_TWO)])) _
    refine XS.astore X1.here hx rfl (hb hby at_8) rfl rfl (l' := #[.val (.int p1), .val (.int p2), .val (.int p3), .val (.int (2 : Int32)), .val (.ref w_SEVEN_PAIRS_FOURS_AS_TWO), .unset, .unset, .unset]) rfl ?_
    show Steps p.tables e below (T1.setTop (mkF m 10 #[.val (.int p1), .val (.int p2), .val (.int p3), .val (.int (2 : Int32)), .val (.ref w_SEVEN_PAIRS_FOURS_AS_TWO), .unset, .unset, .unset] [])) _
    refine XS.iloadN X1.here hx rfl (hb hby at_10) rfl ?_
    show Steps p.tables e below (T1.setTop (mkF m 11 #[.val (.int p1), .val (.int p2), .val (.int p3), .val (.int (2 : Int32)), .val (.ref w_SEVEN_PAIRS_FOURS_AS_TWO), .unset, .unset, .unset] [(.int p2)])) _
    refine X1.ldcInt hx hown (mvT hZ (hw _ (ow 7 rfl))) (g := (mkF m 11 #[.val (.int p1), .val (.int p2), .val (.int p3), .val (.int (2 : Int32)), .val (.ref w_SEVEN_PAIRS_FOURS_AS_TWO), .unset, .unset, .unset] [(.int p2)])) rfl (hb hby at_11) _ ?_
    show Steps p.tables e below (T1.setTop (mkF m 13 #[.val (.int p1), .val (.int p2), .val (.int p3), .val (.int (2 : Int32)), .val (.ref w_SEVEN_PAIRS_FOURS_AS_TWO), .unset, .unset, .unset] [(.int (2147483647 : Int32)), (.int p2)])) _
    refine XS.iand X1.here hx rfl (hb hby at_13) rfl ?_
    show Steps p.tables e below (T1.setTop (mkF m 14 #[.val (.int p1), .val (.int p2), .val (.int p3), .val (.int (2 : Int32)), .val (.ref w_SEVEN_PAIRS_FOURS_AS_TWO), .unset, .unset, .unset] [(.int (p2 &&& (2147483647 : Int32)))])) _
    refine X1.ldcInt hx hown (mvT hZ (hw _ (ow 8 rfl))) (g := (mkF m 14 #[.val (.int p1), .val (.int p2), .val (.int p3), .val (.int (2 : Int32)), .val (.ref w_SEVEN_PAIRS_FOURS_AS_TWO), .unset, .unset, .unset] [(.int (p2 &&& (2147483647 : Int32)))])) rfl (hb hby at_14) _ ?_
    show Steps p.tables e below (T1.setTop (mkF m 16 #[.val (.int p1), .val (.int p2), .val (.int p3), .val (.int (2 : Int32)), .val (.ref w_SEVEN_PAIRS_FOURS_AS_TWO), .unset, .unset, .unset] [(.int (715827882 : Int32)), (.int (p2 &&& (2147483647 : Int32)))])) _
    refine iremM X1 hx rfl (hb hby at_16) rfl (by decide) ?_
    show Steps p.tables e below (T1.setTop (mkF m 17 #[.val (.int p1), .val (.int p2), .val (.int p3), .val (.int (2 : Int32)), .val (.ref w_SEVEN_PAIRS_FOURS_AS_TWO), .unset, .unset, .unset] [(.int ((p2 &&& (2147483647 : Int32)) % (715827882 : Int32)))])) _
    refine XS.istore X1.here hx rfl (hb hby at_17) rfl (l' := #[.val (.int p1), .val (.int p2), .val (.int p3), .val (.int (2 : Int32)), .val (.ref w_SEVEN_PAIRS_FOURS_AS_TWO), .val (.int ((p2 &&& (2147483647 : Int32)) % (715827882 : Int32))), .unset, .unset]) rfl ?_
    show Steps p.tables e below (T1.setTop (mkF m 19 #[.val (.int p1), .val (.int p2), .val (.int p3), .val (.int (2 : Int32)), .val (.ref w_SEVEN_PAIRS_FOURS_AS_TWO), .val (.int ((p2 &&& (2147483647 : Int32)) % (715827882 : Int32))), .unset, .unset] [])) _
    refine XS.iconst X1.here hx rfl (hb hby at_19) ?_
    show Steps p.tables e below (T1.setTop (mkF m 20 #[.val (.int p1), .val (.int p2), .val (.int p3), .val (.int (2 : Int32)), .val (.ref w_SEVEN_PAIRS_FOURS_AS_TWO), .val (.int ((p2 &&& (2147483647 : Int32)) % (715827882 : Int32))), .unset, .unset] [(.int (3 : Int32))])) _
    refine XS.iload X1.here hx rfl (hb hby at_20) rfl ?_
    show Steps p.tables e below (T1.setTop (mkF m 22 #[.val (.int p1), .val (.int p2), .val (.int p3), .val (.int (2 : Int32)), .val (.ref w_SEVEN_PAIRS_FOURS_AS_TWO), .val (.int ((p2 &&& (2147483647 : Int32)) % (715827882 : Int32))), .unset, .unset] [(.int ((p2 &&& (2147483647 : Int32)) % (715827882 : Int32))), (.int (3 : Int32))])) _
    refine XS.imul X1.here hx rfl (hb hby at_22) rfl ?_
    show Steps p.tables e below (T1.setTop (mkF m 23 #[.val (.int p1), .val (.int p2), .val (.int p3), .val (.int (2 : Int32)), .val (.ref w_SEVEN_PAIRS_FOURS_AS_TWO), .val (.int ((p2 &&& (2147483647 : Int32)) % (715827882 : Int32))), .unset, .unset] [(.int ((3 : Int32) * ((p2 &&& (2147483647 : Int32)) % (715827882 : Int32))))])) _
    refine XS.iconst X1.here hx rfl (hb hby at_23) ?_
    show Steps p.tables e below (T1.setTop (mkF m 24 #[.val (.int p1), .val (.int p2), .val (.int p3), .val (.int (2 : Int32)), .val (.ref w_SEVEN_PAIRS_FOURS_AS_TWO), .val (.int ((p2 &&& (2147483647 : Int32)) % (715827882 : Int32))), .unset, .unset] [(.int (1 : Int32)), (.int ((3 : Int32) * ((p2 &&& (2147483647 : Int32)) % (715827882 : Int32))))])) _
    refine XS.iadd X1.here hx rfl (hb hby at_24) rfl ?_
    show Steps p.tables e below (T1.setTop (mkF m 25 #[.val (.int p1), .val (.int p2), .val (.int p3), .val (.int (2 : Int32)), .val (.ref w_SEVEN_PAIRS_FOURS_AS_TWO), .val (.int ((p2 &&& (2147483647 : Int32)) % (715827882 : Int32))), .unset, .unset] [(.int (((3 : Int32) * ((p2 &&& (2147483647 : Int32)) % (715827882 : Int32))) + (1 : Int32)))])) _
    refine XS.iloadN X1.here hx rfl (hb hby at_25) rfl ?_
    show Steps p.tables e below (T1.setTop (mkF m 26 #[.val (.int p1), .val (.int p2), .val (.int p3), .val (.int (2 : Int32)), .val (.ref w_SEVEN_PAIRS_FOURS_AS_TWO), .val (.int ((p2 &&& (2147483647 : Int32)) % (715827882 : Int32))), .unset, .unset] [(.int p3), (.int (((3 : Int32) * ((p2 &&& (2147483647 : Int32)) % (715827882 : Int32))) + (1 : Int32)))])) _
    refine XS.iconst X1.here hx rfl (hb hby at_26) ?_
    show Steps p.tables e below (T1.setTop (mkF m 27 #[.val (.int p1), .val (.int p2), .val (.int p3), .val (.int (2 : Int32)), .val (.ref w_SEVEN_PAIRS_FOURS_AS_TWO), .val (.int ((p2 &&& (2147483647 : Int32)) % (715827882 : Int32))), .unset, .unset] [(.int (1 : Int32)), (.int p3), (.int (((3 : Int32) * ((p2 &&& (2147483647 : Int32)) % (715827882 : Int32))) + (1 : Int32)))])) _
    refine XS.iand X1.here hx rfl (hb hby at_27) rfl ?_
    show Steps p.tables e below (T1.setTop (mkF m 28 #[.val (.int p1), .val (.int p2), .val (.int p3), .val (.int (2 : Int32)), .val (.ref w_SEVEN_PAIRS_FOURS_AS_TWO), .val (.int ((p2 &&& (2147483647 : Int32)) % (715827882 : Int32))), .unset, .unset] [(.int (p3 &&& (1 : Int32))), (.int (((3 : Int32) * ((p2 &&& (2147483647 : Int32)) % (715827882 : Int32))) + (1 : Int32)))])) _
    refine XS.iadd X1.here hx rfl (hb hby at_28) rfl ?_
    show Steps p.tables e below (T1.setTop (mkF m 29 #[.val (.int p1), .val (.int p2), .val (.int p3), .val (.int (2 : Int32)), .val (.ref w_SEVEN_PAIRS_FOURS_AS_TWO), .val (.int ((p2 &&& (2147483647 : Int32)) % (715827882 : Int32))), .unset, .unset] [(.int ((((3 : Int32) * ((p2 &&& (2147483647 : Int32)) % (715827882 : Int32))) + (1 : Int32)) + (p3 &&& (1 : Int32))))])) _
    rw [hz]
    show Steps p.tables e below (T1.setTop (mkF m 29 #[.val (.int p1), .val (.int p2), .val (.int p3), .val (.int (2 : Int32)), .val (.ref w_SEVEN_PAIRS_FOURS_AS_TWO), .val (.int ((p2 &&& (2147483647 : Int32)) % (715827882 : Int32))), .unset, .unset] [(.int z)])) _
    refine XS.istore X1.here hx rfl (hb hby at_29) rfl (l' := #[.val (.int p1), .val (.int p2), .val (.int p3), .val (.int (2 : Int32)), .val (.ref w_SEVEN_PAIRS_FOURS_AS_TWO), .val (.int ((p2 &&& (2147483647 : Int32)) % (715827882 : Int32))), .val (.int z), .unset]) rfl ?_
    show Steps p.tables e below (T1.setTop (mkF m 31 #[.val (.int p1), .val (.int p2), .val (.int p3), .val (.int (2 : Int32)), .val (.ref w_SEVEN_PAIRS_FOURS_AS_TWO), .val (.int ((p2 &&& (2147483647 : Int32)) % (715827882 : Int32))), .val (.int z), .unset] [])) _
    refine XS.iloadN X1.here hx rfl (hb hby at_31) rfl ?_
    show Steps p.tables e below (T1.setTop (mkF m 32 #[.val (.int p1), .val (.int p2), .val (.int p3), .val (.int (2 : Int32)), .val (.ref w_SEVEN_PAIRS_FOURS_AS_TWO), .val (.int ((p2 &&& (2147483647 : Int32)) % (715827882 : Int32))), .val (.int z), .unset] [(.int (2 : Int32))])) _
    refine XS.ifNo X1.here hx rfl (hb hby at_32) rfl ((if0 _ _).trans (feq (by decide)).1) ?_
    show Steps p.tables e below (T1.setTop (mkF m 35 #[.val (.int p1), .val (.int p2), .val (.int p3), .val (.int (2 : Int32)), .val (.ref w_SEVEN_PAIRS_FOURS_AS_TWO), .val (.int ((p2 &&& (2147483647 : Int32)) % (715827882 : Int32))), .val (.int z), .unset] [])) _
    refine XS.iload X1.here hx rfl (hb hby at_35) rfl ?_
    show Steps p.tables e below (T1.setTop (mkF m 37 #[.val (.int p1), .val (.int p2), .val (.int p3), .val (.int (2 : Int32)), .val (.ref w_SEVEN_PAIRS_FOURS_AS_TWO), .val (.int ((p2 &&& (2147483647 : Int32)) % (715827882 : Int32))), .val (.int z), .unset] [(.int z)])) _
    refine XS.bipush X1.here hx rfl (hb hby at_37) ?_
    exact k)
  by_cases hc39_2 : z = (13 : Int32)
  · obtain ⟨cq4, kq4, q4a, q4b, q4c⟩ := isOf hZ e1 E_w_SEVEN_PAIRS_FOURS_AS_TWO
    obtain ⟨v4, _, ⟨T4, L4, k4, n4⟩, -, X4, ⟨Lc4, hQ4, l4, y4, z4⟩, st4⟩ := X1.virtualBack hx (y := (⟨"com/example/tenpai/tenpai/core/Form", "fits", "(I)Z"⟩ : MethodName)) (z := (⟨"com/example/tenpai/tenpai/core/Form", "fits", "(I)Z"⟩ : MethodName)) hown (mvT hZ (hw _ (ow 9 rfl))) (mvT hZ (hw _ (ow 10 rfl))) (notFace_of_selects (args := #[]) (mvT hZ (hw _ (ow 12 rfl)))) (mvT hZ (hw _ (ow 12 rfl))) (mvT hZ (hw _ (ow 11 rfl))) (by decide) (backOf (W := 0) (rm_fits l Z a0 hw [] w_SEVEN_PAIRS_FOURS_AS_TWO z (14 : Int32) h0 n0 w_REGULAR w_SEVEN_PAIRS w_THIRTEEN_ORPHANS w_SEVEN_PAIRS_FOURS_AS_TWO hK F__complete_w_SEVEN_PAIRS_FOURS_AS_TWO) hZ (hw _ (ow 13 rfl)) (hw _ (ow 5 rfl)) (by decide) (by decide)) q4a q4c (g := (mkF m 60 #[.val (.int p1), .val (.int p2), .val (.int p3), .val (.int (2 : Int32)), .val (.ref w_SEVEN_PAIRS_FOURS_AS_TWO), .val (.int ((p2 &&& (2147483647 : Int32)) % (715827882 : Int32))), .val (.int z), .val (.int (1 : Int32))] [(.int z), (.ref w_SEVEN_PAIRS_FOURS_AS_TWO)])) rfl (by rw [hml]; rfl) (Steps.refl _) (argsL := [(.int z)]) (rest := []) (lenOf pd_1 rfl) rfl (Nat.le_of_eq rfl) (hb hby at_60) (fun _ _ => ⟨rfl, e1, (by decide : 0 + 0 ≤ _), (by decide : 0 + 0 ≤ _)⟩)
    dsimp only [Pt.U, Pt.locs, Pt.cells, Pt.slots] at X4 l4 y4 z4 st4 hQ4
    subst l4 y4 z4
    obtain ⟨hv4, Nq4, e4⟩ := hQ4
    obtain rfl : v4 = some (.int (1 : Int32)) := hv4.trans (congrArg some (congrArg Value.int ((if_neg (by decide)).trans (if_pos (hfit.mpr (Or.inl hc39_2))))))
    have N4 := Fr.app N1 Nq4
    have pre5 : ∀ t, Steps p.tables e below (T4.setTop (mkF m 73 #[.val (.int p1), .val (.int p2), .val (.int p3), .val (.int (2 : Int32)), .val (.ref w_SEVEN_PAIRS_FOURS_AS_TWO), .val (.int ((p2 &&& (2147483647 : Int32)) % (715827882 : Int32))), .val (.int z), .val (.int (1 : Int32))] [(.int (1 : Int32))])) t → Steps p.tables e below (s₁.setTop (entryFrame m #[(.int p1), (.int p2), (.int p3)] maxLocals)) t := fun t k => pre3 t (by
      show Steps p.tables e below (T1.setTop (mkF m 39 #[.val (.int p1), .val (.int p2), .val (.int p3), .val (.int (2 : Int32)), .val (.ref w_SEVEN_PAIRS_FOURS_AS_TWO), .val (.int ((p2 &&& (2147483647 : Int32)) % (715827882 : Int32))), .val (.int z), .unset] [(.int (13 : Int32)), (.int z)])) _
      refine XS.icmpYes X1.here hx rfl (pc0 := 39) (pc' := 49) rfl (hb hby at_39) rfl (teq hc39_2).1 (by decide) (by decide) ?_
      show Steps p.tables e below (T1.setTop (mkF m 49 #[.val (.int p1), .val (.int p2), .val (.int p3), .val (.int (2 : Int32)), .val (.ref w_SEVEN_PAIRS_FOURS_AS_TWO), .val (.int ((p2 &&& (2147483647 : Int32)) % (715827882 : Int32))), .val (.int z), .unset] [])) _
      refine XS.iconst X1.here hx rfl (hb hby at_49) ?_
      show Steps p.tables e below (T1.setTop (mkF m 50 #[.val (.int p1), .val (.int p2), .val (.int p3), .val (.int (2 : Int32)), .val (.ref w_SEVEN_PAIRS_FOURS_AS_TWO), .val (.int ((p2 &&& (2147483647 : Int32)) % (715827882 : Int32))), .val (.int z), .unset] [(.int (1 : Int32))])) _
      refine XS.goto X1.here hx rfl (pc0 := 50) (pc' := 54) rfl (hb hby at_50) (by decide) (by decide) ?_
      show Steps p.tables e below (T1.setTop (mkF m 54 #[.val (.int p1), .val (.int p2), .val (.int p3), .val (.int (2 : Int32)), .val (.ref w_SEVEN_PAIRS_FOURS_AS_TWO), .val (.int ((p2 &&& (2147483647 : Int32)) % (715827882 : Int32))), .val (.int z), .unset] [(.int (1 : Int32))])) _
      refine XS.istore X1.here hx rfl (hb hby at_54) rfl (l' := #[.val (.int p1), .val (.int p2), .val (.int p3), .val (.int (2 : Int32)), .val (.ref w_SEVEN_PAIRS_FOURS_AS_TWO), .val (.int ((p2 &&& (2147483647 : Int32)) % (715827882 : Int32))), .val (.int z), .val (.int (1 : Int32))]) rfl ?_
      show Steps p.tables e below (T1.setTop (mkF m 56 #[.val (.int p1), .val (.int p2), .val (.int p3), .val (.int (2 : Int32)), .val (.ref w_SEVEN_PAIRS_FOURS_AS_TWO), .val (.int ((p2 &&& (2147483647 : Int32)) % (715827882 : Int32))), .val (.int z), .val (.int (1 : Int32))] [])) _
      refine XS.aload X1.here hx rfl (hb hby at_56) rfl rfl ?_
      show Steps p.tables e below (T1.setTop (mkF m 58 #[.val (.int p1), .val (.int p2), .val (.int p3), .val (.int (2 : Int32)), .val (.ref w_SEVEN_PAIRS_FOURS_AS_TWO), .val (.int ((p2 &&& (2147483647 : Int32)) % (715827882 : Int32))), .val (.int z), .val (.int (1 : Int32))] [(.ref w_SEVEN_PAIRS_FOURS_AS_TWO)])) _
      refine XS.iload X1.here hx rfl (hb hby at_58) rfl ?_
      show Steps p.tables e below (T1.setTop (mkF m 60 #[.val (.int p1), .val (.int p2), .val (.int p3), .val (.int (2 : Int32)), .val (.ref w_SEVEN_PAIRS_FOURS_AS_TWO), .val (.int ((p2 &&& (2147483647 : Int32)) % (715827882 : Int32))), .val (.int z), .val (.int (1 : Int32))] [(.int z), (.ref w_SEVEN_PAIRS_FOURS_AS_TWO)])) _
      refine st4.trans ?_
      show Steps p.tables e below (T4.setTop (mkF m 63 #[.val (.int p1), .val (.int p2), .val (.int p3), .val (.int (2 : Int32)), .val (.ref w_SEVEN_PAIRS_FOURS_AS_TWO), .val (.int ((p2 &&& (2147483647 : Int32)) % (715827882 : Int32))), .val (.int z), .val (.int (1 : Int32))] [(.int (1 : Int32))])) _
      refine XS.iload X4.here hx rfl (hb hby at_63) rfl ?_
      show Steps p.tables e below (T4.setTop (mkF m 65 #[.val (.int p1), .val (.int p2), .val (.int p3), .val (.int (2 : Int32)), .val (.ref w_SEVEN_PAIRS_FOURS_AS_TWO), .val (.int ((p2 &&& (2147483647 : Int32)) % (715827882 : Int32))), .val (.int z), .val (.int (1 : Int32))] [(.int (1 : Int32)), (.int (1 : Int32))])) _
      refine XS.icmpNo X4.here hx rfl (hb hby at_65) rfl (teq (by decide)).2 ?_
      show Steps p.tables e below (T4.setTop (mkF m 68 #[.val (.int p1), .val (.int p2), .val (.int p3), .val (.int (2 : Int32)), .val (.ref w_SEVEN_PAIRS_FOURS_AS_TWO), .val (.int ((p2 &&& (2147483647 : Int32)) % (715827882 : Int32))), .val (.int z), .val (.int (1 : Int32))] [])) _
      refine XS.iconst X4.here hx rfl (hb hby at_68) ?_
      show Steps p.tables e below (T4.setTop (mkF m 69 #[.val (.int p1), .val (.int p2), .val (.int p3), .val (.int (2 : Int32)), .val (.ref w_SEVEN_PAIRS_FOURS_AS_TWO), .val (.int ((p2 &&& (2147483647 : Int32)) % (715827882 : Int32))), .val (.int z), .val (.int (1 : Int32))] [(.int (1 : Int32))])) _
      refine XS.goto X4.here hx rfl (pc0 := 69) (pc' := 73) rfl (hb hby at_69) (by decide) (by decide) ?_
      exact k)
    obtain ⟨fs, hr, hrun, hended, hW, hsame⟩ := X4.leave (v := some (.int (1 : Int32))) (fun h => by rw [Bd.returns] at h; cases h)
    refine ⟨_, _, pre5 _ ?_, hrun, hended, _, _, rfl, ?_, ⟨_, rfl⟩, hW, hsame.mono (by decide) (by decide)⟩
    · show Steps p.tables e below (T4.setTop (mkF m 73 #[.val (.int p1), .val (.int p2), .val (.int p3), .val (.int (2 : Int32)), .val (.ref w_SEVEN_PAIRS_FOURS_AS_TWO), .val (.int ((p2 &&& (2147483647 : Int32)) % (715827882 : Int32))), .val (.int z), .val (.int (1 : Int32))] [(.int (1 : Int32))])) _
      exact retN X4 hx (t := .boolean) Bd.returns (by simp) (hb hby at_73) hr
    · exact ⟨rfl, N4, e4⟩
  · have pre7 : ∀ t, Steps p.tables e below (T1.setTop (mkF m 46 #[.val (.int p1), .val (.int p2), .val (.int p3), .val (.int (2 : Int32)), .val (.ref w_SEVEN_PAIRS_FOURS_AS_TWO), .val (.int ((p2 &&& (2147483647 : Int32)) % (715827882 : Int32))), .val (.int z), .unset] [(.int (14 : Int32)), (.int z)])) t → Steps p.tables e below (s₁.setTop (entryFrame m #[(.int p1), (.int p2), (.int p3)] maxLocals)) t := fun t k => pre3 t (by
      show Steps p.tables e below (T1.setTop (mkF m 39 #[.val (.int p1), .val (.int p2), .val (.int p3), .val (.int (2 : Int32)), .val (.ref w_SEVEN_PAIRS_FOURS_AS_TWO), .val (.int ((p2 &&& (2147483647 : Int32)) % (715827882 : Int32))), .val (.int z), .unset] [(.int (13 : Int32)), (.int z)])) _
      refine XS.icmpNo X1.here hx rfl (hb hby at_39) rfl (feq hc39_2).1 ?_
      show Steps p.tables e below (T1.setTop (mkF m 42 #[.val (.int p1), .val (.int p2), .val (.int p3), .val (.int (2 : Int32)), .val (.ref w_SEVEN_PAIRS_FOURS_AS_TWO), .val (.int ((p2 &&& (2147483647 : Int32)) % (715827882 : Int32))), .val (.int z), .unset] [])) _
      refine XS.iload X1.here hx rfl (hb hby at_42) rfl ?_
      show Steps p.tables e below (T1.setTop (mkF m 44 #[.val (.int p1), .val (.int p2), .val (.int p3), .val (.int (2 : Int32)), .val (.ref w_SEVEN_PAIRS_FOURS_AS_TWO), .val (.int ((p2 &&& (2147483647 : Int32)) % (715827882 : Int32))), .val (.int z), .unset] [(.int z)])) _
      refine XS.bipush X1.here hx rfl (hb hby at_44) ?_
      exact k)
    by_cases hc46_6 : z = (14 : Int32)
    · obtain ⟨cq8, kq8, q8a, q8b, q8c⟩ := isOf hZ e1 E_w_SEVEN_PAIRS_FOURS_AS_TWO
      obtain ⟨v8, _, ⟨T8, L8, k8, n8⟩, -, X8, ⟨Lc8, hQ8, l8, y8, z8⟩, st8⟩ := X1.virtualBack hx (y := (⟨"com/example/tenpai/tenpai/core/Form", "fits", "(I)Z"⟩ : MethodName)) (z := (⟨"com/example/tenpai/tenpai/core/Form", "fits", "(I)Z"⟩ : MethodName)) hown (mvT hZ (hw _ (ow 9 rfl))) (mvT hZ (hw _ (ow 10 rfl))) (notFace_of_selects (args := #[]) (mvT hZ (hw _ (ow 12 rfl)))) (mvT hZ (hw _ (ow 12 rfl))) (mvT hZ (hw _ (ow 11 rfl))) (by decide) (backOf (W := 0) (rm_fits l Z a0 hw [] w_SEVEN_PAIRS_FOURS_AS_TWO z (14 : Int32) h0 n0 w_REGULAR w_SEVEN_PAIRS w_THIRTEEN_ORPHANS w_SEVEN_PAIRS_FOURS_AS_TWO hK F__complete_w_SEVEN_PAIRS_FOURS_AS_TWO) hZ (hw _ (ow 13 rfl)) (hw _ (ow 5 rfl)) (by decide) (by decide)) q8a q8c (g := (mkF m 60 #[.val (.int p1), .val (.int p2), .val (.int p3), .val (.int (2 : Int32)), .val (.ref w_SEVEN_PAIRS_FOURS_AS_TWO), .val (.int ((p2 &&& (2147483647 : Int32)) % (715827882 : Int32))), .val (.int z), .val (.int (1 : Int32))] [(.int z), (.ref w_SEVEN_PAIRS_FOURS_AS_TWO)])) rfl (by rw [hml]; rfl) (Steps.refl _) (argsL := [(.int z)]) (rest := []) (lenOf pd_1 rfl) rfl (Nat.le_of_eq rfl) (hb hby at_60) (fun _ _ => ⟨rfl, e1, (by decide : 0 + 0 ≤ _), (by decide : 0 + 0 ≤ _)⟩)
      dsimp only [Pt.U, Pt.locs, Pt.cells, Pt.slots] at X8 l8 y8 z8 st8 hQ8
      subst l8 y8 z8
      obtain ⟨hv8, Nq8, e8⟩ := hQ8
      obtain rfl : v8 = some (.int (1 : Int32)) := hv8.trans (congrArg some (congrArg Value.int ((if_neg (by decide)).trans (if_pos (hfit.mpr (Or.inr hc46_6))))))
      have N8 := Fr.app N1 Nq8
      have pre9 : ∀ t, Steps p.tables e below (T8.setTop (mkF m 73 #[.val (.int p1), .val (.int p2), .val (.int p3), .val (.int (2 : Int32)), .val (.ref w_SEVEN_PAIRS_FOURS_AS_TWO), .val (.int ((p2 &&& (2147483647 : Int32)) % (715827882 : Int32))), .val (.int z), .val (.int (1 : Int32))] [(.int (1 : Int32))])) t → Steps p.tables e below (s₁.setTop (entryFrame m #[(.int p1), (.int p2), (.int p3)] maxLocals)) t := fun t k => pre7 t (by
        show Steps p.tables e below (T1.setTop (mkF m 46 #[.val (.int p1), .val (.int p2), .val (.int p3), .val (.int (2 : Int32)), .val (.ref w_SEVEN_PAIRS_FOURS_AS_TWO), .val (.int ((p2 &&& (2147483647 : Int32)) % (715827882 : Int32))), .val (.int z), .unset] [(.int (14 : Int32)), (.int z)])) _
        refine XS.icmpNo X1.here hx rfl (hb hby at_46) rfl (teq hc46_6).2 ?_
        show Steps p.tables e below (T1.setTop (mkF m 49 #[.val (.int p1), .val (.int p2), .val (.int p3), .val (.int (2 : Int32)), .val (.ref w_SEVEN_PAIRS_FOURS_AS_TWO), .val (.int ((p2 &&& (2147483647 : Int32)) % (715827882 : Int32))), .val (.int z), .unset] [])) _
        refine XS.iconst X1.here hx rfl (hb hby at_49) ?_
        show Steps p.tables e below (T1.setTop (mkF m 50 #[.val (.int p1), .val (.int p2), .val (.int p3), .val (.int (2 : Int32)), .val (.ref w_SEVEN_PAIRS_FOURS_AS_TWO), .val (.int ((p2 &&& (2147483647 : Int32)) % (715827882 : Int32))), .val (.int z), .unset] [(.int (1 : Int32))])) _
        refine XS.goto X1.here hx rfl (pc0 := 50) (pc' := 54) rfl (hb hby at_50) (by decide) (by decide) ?_
        show Steps p.tables e below (T1.setTop (mkF m 54 #[.val (.int p1), .val (.int p2), .val (.int p3), .val (.int (2 : Int32)), .val (.ref w_SEVEN_PAIRS_FOURS_AS_TWO), .val (.int ((p2 &&& (2147483647 : Int32)) % (715827882 : Int32))), .val (.int z), .unset] [(.int (1 : Int32))])) _
        refine XS.istore X1.here hx rfl (hb hby at_54) rfl (l' := #[.val (.int p1), .val (.int p2), .val (.int p3), .val (.int (2 : Int32)), .val (.ref w_SEVEN_PAIRS_FOURS_AS_TWO), .val (.int ((p2 &&& (2147483647 : Int32)) % (715827882 : Int32))), .val (.int z), .val (.int (1 : Int32))]) rfl ?_
        show Steps p.tables e below (T1.setTop (mkF m 56 #[.val (.int p1), .val (.int p2), .val (.int p3), .val (.int (2 : Int32)), .val (.ref w_SEVEN_PAIRS_FOURS_AS_TWO), .val (.int ((p2 &&& (2147483647 : Int32)) % (715827882 : Int32))), .val (.int z), .val (.int (1 : Int32))] [])) _
        refine XS.aload X1.here hx rfl (hb hby at_56) rfl rfl ?_
        show Steps p.tables e below (T1.setTop (mkF m 58 #[.val (.int p1), .val (.int p2), .val (.int p3), .val (.int (2 : Int32)), .val (.ref w_SEVEN_PAIRS_FOURS_AS_TWO), .val (.int ((p2 &&& (2147483647 : Int32)) % (715827882 : Int32))), .val (.int z), .val (.int (1 : Int32))] [(.ref w_SEVEN_PAIRS_FOURS_AS_TWO)])) _
        refine XS.iload X1.here hx rfl (hb hby at_58) rfl ?_
        show Steps p.tables e below (T1.setTop (mkF m 60 #[.val (.int p1), .val (.int p2), .val (.int p3), .val (.int (2 : Int32)), .val (.ref w_SEVEN_PAIRS_FOURS_AS_TWO), .val (.int ((p2 &&& (2147483647 : Int32)) % (715827882 : Int32))), .val (.int z), .val (.int (1 : Int32))] [(.int z), (.ref w_SEVEN_PAIRS_FOURS_AS_TWO)])) _
        refine st8.trans ?_
        show Steps p.tables e below (T8.setTop (mkF m 63 #[.val (.int p1), .val (.int p2), .val (.int p3), .val (.int (2 : Int32)), .val (.ref w_SEVEN_PAIRS_FOURS_AS_TWO), .val (.int ((p2 &&& (2147483647 : Int32)) % (715827882 : Int32))), .val (.int z), .val (.int (1 : Int32))] [(.int (1 : Int32))])) _
        refine XS.iload X8.here hx rfl (hb hby at_63) rfl ?_
        show Steps p.tables e below (T8.setTop (mkF m 65 #[.val (.int p1), .val (.int p2), .val (.int p3), .val (.int (2 : Int32)), .val (.ref w_SEVEN_PAIRS_FOURS_AS_TWO), .val (.int ((p2 &&& (2147483647 : Int32)) % (715827882 : Int32))), .val (.int z), .val (.int (1 : Int32))] [(.int (1 : Int32)), (.int (1 : Int32))])) _
        refine XS.icmpNo X8.here hx rfl (hb hby at_65) rfl (teq (by decide)).2 ?_
        show Steps p.tables e below (T8.setTop (mkF m 68 #[.val (.int p1), .val (.int p2), .val (.int p3), .val (.int (2 : Int32)), .val (.ref w_SEVEN_PAIRS_FOURS_AS_TWO), .val (.int ((p2 &&& (2147483647 : Int32)) % (715827882 : Int32))), .val (.int z), .val (.int (1 : Int32))] [])) _
        refine XS.iconst X8.here hx rfl (hb hby at_68) ?_
        show Steps p.tables e below (T8.setTop (mkF m 69 #[.val (.int p1), .val (.int p2), .val (.int p3), .val (.int (2 : Int32)), .val (.ref w_SEVEN_PAIRS_FOURS_AS_TWO), .val (.int ((p2 &&& (2147483647 : Int32)) % (715827882 : Int32))), .val (.int z), .val (.int (1 : Int32))] [(.int (1 : Int32))])) _
        refine XS.goto X8.here hx rfl (pc0 := 69) (pc' := 73) rfl (hb hby at_69) (by decide) (by decide) ?_
        exact k)
      obtain ⟨fs, hr, hrun, hended, hW, hsame⟩ := X8.leave (v := some (.int (1 : Int32))) (fun h => by rw [Bd.returns] at h; cases h)
      refine ⟨_, _, pre9 _ ?_, hrun, hended, _, _, rfl, ?_, ⟨_, rfl⟩, hW, hsame.mono (by decide) (by decide)⟩
      · show Steps p.tables e below (T8.setTop (mkF m 73 #[.val (.int p1), .val (.int p2), .val (.int p3), .val (.int (2 : Int32)), .val (.ref w_SEVEN_PAIRS_FOURS_AS_TWO), .val (.int ((p2 &&& (2147483647 : Int32)) % (715827882 : Int32))), .val (.int z), .val (.int (1 : Int32))] [(.int (1 : Int32))])) _
        exact retN X8 hx (t := .boolean) Bd.returns (by simp) (hb hby at_73) hr
      · exact ⟨rfl, N8, e8⟩
    · obtain ⟨cq10, kq10, q10a, q10b, q10c⟩ := isOf hZ e1 E_w_SEVEN_PAIRS_FOURS_AS_TWO
      obtain ⟨v10, _, ⟨T10, L10, k10, n10⟩, -, X10, ⟨Lc10, hQ10, l10, y10, z10⟩, st10⟩ := X1.virtualBack hx (y := (⟨"com/example/tenpai/tenpai/core/Form", "fits", "(I)Z"⟩ : MethodName)) (z := (⟨"com/example/tenpai/tenpai/core/Form", "fits", "(I)Z"⟩ : MethodName)) hown (mvT hZ (hw _ (ow 9 rfl))) (mvT hZ (hw _ (ow 10 rfl))) (notFace_of_selects (args := #[]) (mvT hZ (hw _ (ow 12 rfl)))) (mvT hZ (hw _ (ow 12 rfl))) (mvT hZ (hw _ (ow 11 rfl))) (by decide) (backOf (W := 0) (rm_fits l Z a0 hw [] w_SEVEN_PAIRS_FOURS_AS_TWO z (14 : Int32) h0 n0 w_REGULAR w_SEVEN_PAIRS w_THIRTEEN_ORPHANS w_SEVEN_PAIRS_FOURS_AS_TWO hK F__complete_w_SEVEN_PAIRS_FOURS_AS_TWO) hZ (hw _ (ow 13 rfl)) (hw _ (ow 5 rfl)) (by decide) (by decide)) q10a q10c (g := (mkF m 60 #[.val (.int p1), .val (.int p2), .val (.int p3), .val (.int (2 : Int32)), .val (.ref w_SEVEN_PAIRS_FOURS_AS_TWO), .val (.int ((p2 &&& (2147483647 : Int32)) % (715827882 : Int32))), .val (.int z), .val (.int (0 : Int32))] [(.int z), (.ref w_SEVEN_PAIRS_FOURS_AS_TWO)])) rfl (by rw [hml]; rfl) (Steps.refl _) (argsL := [(.int z)]) (rest := []) (lenOf pd_1 rfl) rfl (Nat.le_of_eq rfl) (hb hby at_60) (fun _ _ => ⟨rfl, e1, (by decide : 0 + 0 ≤ _), (by decide : 0 + 0 ≤ _)⟩)
      dsimp only [Pt.U, Pt.locs, Pt.cells, Pt.slots] at X10 l10 y10 z10 st10 hQ10
      subst l10 y10 z10
      obtain ⟨hv10, Nq10, e10⟩ := hQ10
      obtain rfl : v10 = some (.int (0 : Int32)) := hv10.trans (congrArg some (congrArg Value.int ((if_neg (by decide)).trans (if_neg (fun q => (hfit.mp q).elim hc39_2 hc46_6)))))
      have N10 := Fr.app N1 Nq10
      have pre11 : ∀ t, Steps p.tables e below (T10.setTop (mkF m 73 #[.val (.int p1), .val (.int p2), .val (.int p3), .val (.int (2 : Int32)), .val (.ref w_SEVEN_PAIRS_FOURS_AS_TWO), .val (.int ((p2 &&& (2147483647 : Int32)) % (715827882 : Int32))), .val (.int z), .val (.int (0 : Int32))] [(.int (1 : Int32))])) t → Steps p.tables e below (s₁.setTop (entryFrame m #[(.int p1), (.int p2), (.int p3)] maxLocals)) t := fun t k => pre7 t (by
        show Steps p.tables e below (T1.setTop (mkF m 46 #[.val (.int p1), .val (.int p2), .val (.int p3), .val (.int (2 : Int32)), .val (.ref w_SEVEN_PAIRS_FOURS_AS_TWO), .val (.int ((p2 &&& (2147483647 : Int32)) % (715827882 : Int32))), .val (.int z), .unset] [(.int (14 : Int32)), (.int z)])) _
        refine XS.icmpYes X1.here hx rfl (pc0 := 46) (pc' := 53) rfl (hb hby at_46) rfl (feq hc46_6).2 (by decide) (by decide) ?_
        show Steps p.tables e below (T1.setTop (mkF m 53 #[.val (.int p1), .val (.int p2), .val (.int p3), .val (.int (2 : Int32)), .val (.ref w_SEVEN_PAIRS_FOURS_AS_TWO), .val (.int ((p2 &&& (2147483647 : Int32)) % (715827882 : Int32))), .val (.int z), .unset] [])) _
        refine XS.iconst X1.here hx rfl (hb hby at_53) ?_
        show Steps p.tables e below (T1.setTop (mkF m 54 #[.val (.int p1), .val (.int p2), .val (.int p3), .val (.int (2 : Int32)), .val (.ref w_SEVEN_PAIRS_FOURS_AS_TWO), .val (.int ((p2 &&& (2147483647 : Int32)) % (715827882 : Int32))), .val (.int z), .unset] [(.int (0 : Int32))])) _
        refine XS.istore X1.here hx rfl (hb hby at_54) rfl (l' := #[.val (.int p1), .val (.int p2), .val (.int p3), .val (.int (2 : Int32)), .val (.ref w_SEVEN_PAIRS_FOURS_AS_TWO), .val (.int ((p2 &&& (2147483647 : Int32)) % (715827882 : Int32))), .val (.int z), .val (.int (0 : Int32))]) rfl ?_
        show Steps p.tables e below (T1.setTop (mkF m 56 #[.val (.int p1), .val (.int p2), .val (.int p3), .val (.int (2 : Int32)), .val (.ref w_SEVEN_PAIRS_FOURS_AS_TWO), .val (.int ((p2 &&& (2147483647 : Int32)) % (715827882 : Int32))), .val (.int z), .val (.int (0 : Int32))] [])) _
        refine XS.aload X1.here hx rfl (hb hby at_56) rfl rfl ?_
        show Steps p.tables e below (T1.setTop (mkF m 58 #[.val (.int p1), .val (.int p2), .val (.int p3), .val (.int (2 : Int32)), .val (.ref w_SEVEN_PAIRS_FOURS_AS_TWO), .val (.int ((p2 &&& (2147483647 : Int32)) % (715827882 : Int32))), .val (.int z), .val (.int (0 : Int32))] [(.ref w_SEVEN_PAIRS_FOURS_AS_TWO)])) _
        refine XS.iload X1.here hx rfl (hb hby at_58) rfl ?_
        show Steps p.tables e below (T1.setTop (mkF m 60 #[.val (.int p1), .val (.int p2), .val (.int p3), .val (.int (2 : Int32)), .val (.ref w_SEVEN_PAIRS_FOURS_AS_TWO), .val (.int ((p2 &&& (2147483647 : Int32)) % (715827882 : Int32))), .val (.int z), .val (.int (0 : Int32))] [(.int z), (.ref w_SEVEN_PAIRS_FOURS_AS_TWO)])) _
        refine st10.trans ?_
        show Steps p.tables e below (T10.setTop (mkF m 63 #[.val (.int p1), .val (.int p2), .val (.int p3), .val (.int (2 : Int32)), .val (.ref w_SEVEN_PAIRS_FOURS_AS_TWO), .val (.int ((p2 &&& (2147483647 : Int32)) % (715827882 : Int32))), .val (.int z), .val (.int (0 : Int32))] [(.int (0 : Int32))])) _
        refine XS.iload X10.here hx rfl (hb hby at_63) rfl ?_
        show Steps p.tables e below (T10.setTop (mkF m 65 #[.val (.int p1), .val (.int p2), .val (.int p3), .val (.int (2 : Int32)), .val (.ref w_SEVEN_PAIRS_FOURS_AS_TWO), .val (.int ((p2 &&& (2147483647 : Int32)) % (715827882 : Int32))), .val (.int z), .val (.int (0 : Int32))] [(.int (0 : Int32)), (.int (0 : Int32))])) _
        refine XS.icmpNo X10.here hx rfl (hb hby at_65) rfl (teq (by decide)).2 ?_
        show Steps p.tables e below (T10.setTop (mkF m 68 #[.val (.int p1), .val (.int p2), .val (.int p3), .val (.int (2 : Int32)), .val (.ref w_SEVEN_PAIRS_FOURS_AS_TWO), .val (.int ((p2 &&& (2147483647 : Int32)) % (715827882 : Int32))), .val (.int z), .val (.int (0 : Int32))] [])) _
        refine XS.iconst X10.here hx rfl (hb hby at_68) ?_
        show Steps p.tables e below (T10.setTop (mkF m 69 #[.val (.int p1), .val (.int p2), .val (.int p3), .val (.int (2 : Int32)), .val (.ref w_SEVEN_PAIRS_FOURS_AS_TWO), .val (.int ((p2 &&& (2147483647 : Int32)) % (715827882 : Int32))), .val (.int z), .val (.int (0 : Int32))] [(.int (1 : Int32))])) _
        refine XS.goto X10.here hx rfl (pc0 := 69) (pc' := 73) rfl (hb hby at_69) (by decide) (by decide) ?_
        exact k)
      obtain ⟨fs, hr, hrun, hended, hW, hsame⟩ := X10.leave (v := some (.int (1 : Int32))) (fun h => by rw [Bd.returns] at h; cases h)
      refine ⟨_, _, pre11 _ ?_, hrun, hended, _, _, rfl, ?_, ⟨_, rfl⟩, hW, hsame.mono (by decide) (by decide)⟩
      · show Steps p.tables e below (T10.setTop (mkF m 73 #[.val (.int p1), .val (.int p2), .val (.int p3), .val (.int (2 : Int32)), .val (.ref w_SEVEN_PAIRS_FOURS_AS_TWO), .val (.int ((p2 &&& (2147483647 : Int32)) % (715827882 : Int32))), .val (.int z), .val (.int (0 : Int32))] [(.int (1 : Int32))])) _
        exact retN X10 hx (t := .boolean) Bd.returns (by simp) (hb hby at_73) hr
      · exact ⟨rfl, N10, e10⟩
theorem ef_law3 (m : MethodId) (x0 : Int32) (x1 : Int32) (x2 : Int32) : entryFrame m #[(.int x0), (.int x1), (.int x2)] maxLocals = mkF m 0 #[.val (.int x0), .val (.int x1), .val (.int x2), .unset, .unset, .unset, .unset, .unset] [] := by first | (simp [entryFrame, mkF, argsToLocals, Value.category, maxLocals]; done) | rfl
set_option maxRecDepth 65536 in
set_option maxHeartbeats 40000000 in
theorem rm_law3 (l : Launch) (Z : State) (a0 : Array Value) (hw : ∀ d ∈ tables_1, d.before a0 Z = true) (ws : List Jvm.Cond) (p1 : Int32) (p2 : Int32) (p3 : Int32) (h0 : Heap) (n0 : Nat) (w_REGULAR w_SEVEN_PAIRS w_THIRTEEN_ORPHANS w_SEVEN_PAIRS_FOURS_AS_TWO : Addr) (hK : own_K Z h0 w_REGULAR w_SEVEN_PAIRS w_THIRTEEN_ORPHANS w_SEVEN_PAIRS_FOURS_AS_TWO) (z : Int32) (hk : (p1 &&& (3 : Int32)) = (3 : Int32)) (hz : ((((3 : Int32) * ((p2 &&& (2147483647 : Int32)) % (715827882 : Int32))) + (1 : Int32)) + (p3 &&& (1 : Int32))) = z) (hfit : ((z / (3 : Int32)) * (3 : Int32)) + (2 : Int32) = (14 : Int32) ↔ (z = 13 ∨ z = 14)) :
    MetFree l x (head1 (Jvm.Cond.code x code maxLocals ret :: ws) room_1) (fun a U => a = #[(.int p1), (.int p2), (.int p3)] ∧ Z.Warmed39 U.vm ∧ U.heap = h0) (fun _ _ _ _ _ => True) (fun _ U o U' => ∃ v L, o = .returned v ∧ own_Q (some (.int (1 : Int32))) h0 n0 v U'.heap L ∧ FrameEnd U o U' L room_1.cells room_1.slots) := by
  refine MetFree.of_bodySF (plainFor_of_name pn_0) hisR ?_
  intro p e s m args below meth c s₁ Bd hml0 hP hK0
  obtain ⟨rfl, hZ, hh⟩ := hP
  have hx := Bd.exec
  have hby := Bd.bytes
  have hml : c.maxLocals = 8 := hml0
  have hown : s.vm.findClass "com/example/tenpai/tenpai/core/FormFitsPinLaw" = some m.cls := findClass_of_methodNamed Bd.named
  have hnm := (name_of_methodNamed Bd.named Bd.method).1
  have X0 : Stand p l e room_1 s m #[(.int p1), (.int p2), (.int p3)] below meth c s₁ [] 0 0 := Stand.of_body Bd
  have e0 : s₁.heap = h0 := by rw [← hh, Bd.state]; rfl
  have N0 := Fr.nil n0
  have pre0 : ∀ t, Steps p.tables e below (s₁.setTop (mkF m 0 #[.val (.int p1), .val (.int p2), .val (.int p3), .unset, .unset, .unset, .unset, .unset] [])) t → Steps p.tables e below (s₁.setTop (entryFrame m #[(.int p1), (.int p2), (.int p3)] maxLocals)) t := fun t k => castTop (ef_law3 m p1 p2 p3) k
  have hK' := hK
  obtain ⟨S_w_REGULAR, E_w_REGULAR, F__complete_w_REGULAR, S_w_SEVEN_PAIRS, E_w_SEVEN_PAIRS, F__complete_w_SEVEN_PAIRS, S_w_THIRTEEN_ORPHANS, E_w_THIRTEEN_ORPHANS, F__complete_w_THIRTEEN_ORPHANS, S_w_SEVEN_PAIRS_FOURS_AS_TWO, E_w_SEVEN_PAIRS_FOURS_AS_TWO, F__complete_w_SEVEN_PAIRS_FOURS_AS_TWO⟩ := hK'
  obtain ⟨v1, _, ⟨T1, L1, k1, n1⟩, -, X1, ⟨Lc1, hQ1, l1, y1, z1⟩, st1⟩ := Jvm.LawKit.callS X0 hx (y := (⟨"com/example/tenpai/tenpai/core/FormFitsPinLaw", "form", "(I)Lcom/example/tenpai/tenpai/core/Form;"⟩ : MethodName)) hown (mvT hZ (hw _ (ow 0 rfl))) (mvT hZ (hw _ (ow 1 rfl))) (mvT hZ (hw _ (ow 2 rfl))) (mvT hZ (hw _ (ow 3 rfl))) (by decide) (backOf (W := 0) (rm_form l Z a0 hw [] (3 : Int32) h0 n0 w_REGULAR w_SEVEN_PAIRS w_THIRTEEN_ORPHANS w_SEVEN_PAIRS_FOURS_AS_TWO hK) hZ (hw _ (ow 3 rfl)) (hw _ (ow 2 rfl)) (by decide) (by decide)) (g := (mkF m 5 #[.val (.int p1), .val (.int p2), .val (.int p3), .val (.int (3 : Int32)), .unset, .unset, .unset, .unset] [(.int (3 : Int32))])) rfl (by rw [hml]; rfl) (argsL := [(.int (3 : Int32))]) (rest := []) (lenOf pd_0 rfl) rfl (Nat.le_of_eq rfl) (hb hby at_5) (fun _ _ => ⟨rfl, e0, (by decide : 0 + 0 ≤ _), (by decide : 0 + 0 ≤ _)⟩)
  dsimp only [Pt.U, Pt.locs, Pt.cells, Pt.slots] at X1 l1 y1 z1 st1 hQ1
  subst l1 y1 z1
  obtain ⟨hv1, Nq1, e1⟩ := hQ1
  obtain rfl : v1 = some (.ref w_THIRTEEN_ORPHANS) := hv1.trans (congrArg some (congrArg Value.ref ((if_neg (by decide)).trans ((if_neg (by decide)).trans (if_neg (by decide))))))
  have N1 := Fr.app N0 Nq1
  have pre3 : ∀ t, Steps p.tables e below (T1.setTop (mkF m 39 #[.val (.int p1), .val (.int p2), .val (.int p3), .val (.int (3 : Int32)), .val (.ref w_THIRTEEN_ORPHANS), .val (.int ((p2 &&& (2147483647 : Int32)) % (715827882 : Int32))), .val (.int z), .unset] [(.int (13 : Int32)), (.int z)])) t → Steps p.tables e below (s₁.setTop (entryFrame m #[(.int p1), (.int p2), (.int p3)] maxLocals)) t := fun t k => pre0 t (by
    show Steps p.tables e below (s₁.setTop (mkF m 0 #[.val (.int p1), .val (.int p2), .val (.int p3), .unset, .unset, .unset, .unset, .unset] [])) _
    refine XS.iloadN X0.here hx rfl (hb hby at_0) rfl ?_
    show Steps p.tables e below (s₁.setTop (mkF m 1 #[.val (.int p1), .val (.int p2), .val (.int p3), .unset, .unset, .unset, .unset, .unset] [(.int p1)])) _
    refine XS.iconst X0.here hx rfl (hb hby at_1) ?_
    show Steps p.tables e below (s₁.setTop (mkF m 2 #[.val (.int p1), .val (.int p2), .val (.int p3), .unset, .unset, .unset, .unset, .unset] [(.int (3 : Int32)), (.int p1)])) _
    refine XS.iand X0.here hx rfl (hb hby at_2) rfl ?_
    show Steps p.tables e below (s₁.setTop (mkF m 3 #[.val (.int p1), .val (.int p2), .val (.int p3), .unset, .unset, .unset, .unset, .unset] [(.int (p1 &&& (3 : Int32)))])) _
    rw [hk]
    show Steps p.tables e below (s₁.setTop (mkF m 3 #[.val (.int p1), .val (.int p2), .val (.int p3), .unset, .unset, .unset, .unset, .unset] [(.int (3 : Int32))])) _
    refine XS.istoreN X0.here hx rfl (hb hby at_3) rfl (l' := #[.val (.int p1), .val (.int p2), .val (.int p3), .val (.int (3 : Int32)), .unset, .unset, .unset, .unset]) rfl ?_
    show Steps p.tables e below (s₁.setTop (mkF m 4 #[.val (.int p1), .val (.int p2), .val (.int p3), .val (.int (3 : Int32)), .unset, .unset, .unset, .unset] [])) _
    refine XS.iloadN X0.here hx rfl (hb hby at_4) rfl ?_
    show Steps p.tables e below (s₁.setTop (mkF m 5 #[.val (.int p1), .val (.int p2), .val (.int p3), .val (.int (3 : Int32)), .unset, .unset, .unset, .unset] [(.int (3 : Int32))])) _
    refine st1 _ ?_
    show Steps p.tables e below (T1.setTop (mkF m 8 #[.val (.int p1), .val (.int p2), .val (.int p3), .val (.int (3 : Int32)), .unset, .unset, .unset, .unset] [(.ref w_THIRTEEN_ORPHANS)])) _
    refine XS.astore X1.here hx rfl (hb hby at_8) rfl rfl (l' := #[.val (.int p1), .val (.int p2), .val (.int p3), .val (.int (3 : Int32)), .val (.ref w_THIRTEEN_ORPHANS), .unset, .unset, .unset]) rfl ?_
    show Steps p.tables e below (T1.setTop (mkF m 10 #[.val (.int p1), .val (.int p2), .val (.int p3), .val (.int (3 : Int32)), .val (.ref w_THIRTEEN_ORPHANS), .unset, .unset, .unset] [])) _
    refine XS.iloadN X1.here hx rfl (hb hby at_10) rfl ?_
    show Steps p.tables e below (T1.setTop (mkF m 11 #[.val (.int p1), .val (.int p2), .val (.int p3), .val (.int (3 : Int32)), .val (.ref w_THIRTEEN_ORPHANS), .unset, .unset, .unset] [(.int p2)])) _
    refine X1.ldcInt hx hown (mvT hZ (hw _ (ow 7 rfl))) (g := (mkF m 11 #[.val (.int p1), .val (.int p2), .val (.int p3), .val (.int (3 : Int32)), .val (.ref w_THIRTEEN_ORPHANS), .unset, .unset, .unset] [(.int p2)])) rfl (hb hby at_11) _ ?_
    show Steps p.tables e below (T1.setTop (mkF m 13 #[.val (.int p1), .val (.int p2), .val (.int p3), .val (.int (3 : Int32)), .val (.ref w_THIRTEEN_ORPHANS), .unset, .unset, .unset] [(.int (2147483647 : Int32)), (.int p2)])) _
    refine XS.iand X1.here hx rfl (hb hby at_13) rfl ?_
    show Steps p.tables e below (T1.setTop (mkF m 14 #[.val (.int p1), .val (.int p2), .val (.int p3), .val (.int (3 : Int32)), .val (.ref w_THIRTEEN_ORPHANS), .unset, .unset, .unset] [(.int (p2 &&& (2147483647 : Int32)))])) _
    refine X1.ldcInt hx hown (mvT hZ (hw _ (ow 8 rfl))) (g := (mkF m 14 #[.val (.int p1), .val (.int p2), .val (.int p3), .val (.int (3 : Int32)), .val (.ref w_THIRTEEN_ORPHANS), .unset, .unset, .unset] [(.int (p2 &&& (2147483647 : Int32)))])) rfl (hb hby at_14) _ ?_
    show Steps p.tables e below (T1.setTop (mkF m 16 #[.val (.int p1), .val (.int p2), .val (.int p3), .val (.int (3 : Int32)), .val (.ref w_THIRTEEN_ORPHANS), .unset, .unset, .unset] [(.int (715827882 : Int32)), (.int (p2 &&& (2147483647 : Int32)))])) _
    refine iremM X1 hx rfl (hb hby at_16) rfl (by decide) ?_
    show Steps p.tables e below (T1.setTop (mkF m 17 #[.val (.int p1), .val (.int p2), .val (.int p3), .val (.int (3 : Int32)), .val (.ref w_THIRTEEN_ORPHANS), .unset, .unset, .unset] [(.int ((p2 &&& (2147483647 : Int32)) % (715827882 : Int32)))])) _
    refine XS.istore X1.here hx rfl (hb hby at_17) rfl (l' := #[.val (.int p1), .val (.int p2), .val (.int p3), .val (.int (3 : Int32)), .val (.ref w_THIRTEEN_ORPHANS), .val (.int ((p2 &&& (2147483647 : Int32)) % (715827882 : Int32))), .unset, .unset]) rfl ?_
    show Steps p.tables e below (T1.setTop (mkF m 19 #[.val (.int p1), .val (.int p2), .val (.int p3), .val (.int (3 : Int32)), .val (.ref w_THIRTEEN_ORPHANS), .val (.int ((p2 &&& (2147483647 : Int32)) % (715827882 : Int32))), .unset, .unset] [])) _
    refine XS.iconst X1.here hx rfl (hb hby at_19) ?_
    show Steps p.tables e below (T1.setTop (mkF m 20 #[.val (.int p1), .val (.int p2), .val (.int p3), .val (.int (3 : Int32)), .val (.ref w_THIRTEEN_ORPHANS), .val (.int ((p2 &&& (2147483647 : Int32)) % (715827882 : Int32))), .unset, .unset] [(.int (3 : Int32))])) _
    refine XS.iload X1.here hx rfl (hb hby at_20) rfl ?_
    show Steps p.tables e below (T1.setTop (mkF m 22 #[.val (.int p1), .val (.int p2), .val (.int p3), .val (.int (3 : Int32)), .val (.ref w_THIRTEEN_ORPHANS), .val (.int ((p2 &&& (2147483647 : Int32)) % (715827882 : Int32))), .unset, .unset] [(.int ((p2 &&& (2147483647 : Int32)) % (715827882 : Int32))), (.int (3 : Int32))])) _
    refine XS.imul X1.here hx rfl (hb hby at_22) rfl ?_
    show Steps p.tables e below (T1.setTop (mkF m 23 #[.val (.int p1), .val (.int p2), .val (.int p3), .val (.int (3 : Int32)), .val (.ref w_THIRTEEN_ORPHANS), .val (.int ((p2 &&& (2147483647 : Int32)) % (715827882 : Int32))), .unset, .unset] [(.int ((3 : Int32) * ((p2 &&& (2147483647 : Int32)) % (715827882 : Int32))))])) _
    refine XS.iconst X1.here hx rfl (hb hby at_23) ?_
    show Steps p.tables e below (T1.setTop (mkF m 24 #[.val (.int p1), .val (.int p2), .val (.int p3), .val (.int (3 : Int32)), .val (.ref w_THIRTEEN_ORPHANS), .val (.int ((p2 &&& (2147483647 : Int32)) % (715827882 : Int32))), .unset, .unset] [(.int (1 : Int32)), (.int ((3 : Int32) * ((p2 &&& (2147483647 : Int32)) % (715827882 : Int32))))])) _
    refine XS.iadd X1.here hx rfl (hb hby at_24) rfl ?_
    show Steps p.tables e below (T1.setTop (mkF m 25 #[.val (.int p1), .val (.int p2), .val (.int p3), .val (.int (3 : Int32)), .val (.ref w_THIRTEEN_ORPHANS), .val (.int ((p2 &&& (2147483647 : Int32)) % (715827882 : Int32))), .unset, .unset] [(.int (((3 : Int32) * ((p2 &&& (2147483647 : Int32)) % (715827882 : Int32))) + (1 : Int32)))])) _
    refine XS.iloadN X1.here hx rfl (hb hby at_25) rfl ?_
    show Steps p.tables e below (T1.setTop (mkF m 26 #[.val (.int p1), .val (.int p2), .val (.int p3), .val (.int (3 : Int32)), .val (.ref w_THIRTEEN_ORPHANS), .val (.int ((p2 &&& (2147483647 : Int32)) % (715827882 : Int32))), .unset, .unset] [(.int p3), (.int (((3 : Int32) * ((p2 &&& (2147483647 : Int32)) % (715827882 : Int32))) + (1 : Int32)))])) _
    refine XS.iconst X1.here hx rfl (hb hby at_26) ?_
    show Steps p.tables e below (T1.setTop (mkF m 27 #[.val (.int p1), .val (.int p2), .val (.int p3), .val (.int (3 : Int32)), .val (.ref w_THIRTEEN_ORPHANS), .val (.int ((p2 &&& (2147483647 : Int32)) % (715827882 : Int32))), .unset, .unset] [(.int (1 : Int32)), (.int p3), (.int (((3 : Int32) * ((p2 &&& (2147483647 : Int32)) % (715827882 : Int32))) + (1 : Int32)))])) _
    refine XS.iand X1.here hx rfl (hb hby at_27) rfl ?_
    show Steps p.tables e below (T1.setTop (mkF m 28 #[.val (.int p1), .val (.int p2), .val (.int p3), .val (.int (3 : Int32)), .val (.ref w_THIRTEEN_ORPHANS), .val (.int ((p2 &&& (2147483647 : Int32)) % (715827882 : Int32))), .unset, .unset] [(.int (p3 &&& (1 : Int32))), (.int (((3 : Int32) * ((p2 &&& (2147483647 : Int32)) % (715827882 : Int32))) + (1 : Int32)))])) _
    refine XS.iadd X1.here hx rfl (hb hby at_28) rfl ?_
    show Steps p.tables e below (T1.setTop (mkF m 29 #[.val (.int p1), .val (.int p2), .val (.int p3), .val (.int (3 : Int32)), .val (.ref w_THIRTEEN_ORPHANS), .val (.int ((p2 &&& (2147483647 : Int32)) % (715827882 : Int32))), .unset, .unset] [(.int ((((3 : Int32) * ((p2 &&& (2147483647 : Int32)) % (715827882 : Int32))) + (1 : Int32)) + (p3 &&& (1 : Int32))))])) _
    rw [hz]
    show Steps p.tables e below (T1.setTop (mkF m 29 #[.val (.int p1), .val (.int p2), .val (.int p3), .val (.int (3 : Int32)), .val (.ref w_THIRTEEN_ORPHANS), .val (.int ((p2 &&& (2147483647 : Int32)) % (715827882 : Int32))), .unset, .unset] [(.int z)])) _
    refine XS.istore X1.here hx rfl (hb hby at_29) rfl (l' := #[.val (.int p1), .val (.int p2), .val (.int p3), .val (.int (3 : Int32)), .val (.ref w_THIRTEEN_ORPHANS), .val (.int ((p2 &&& (2147483647 : Int32)) % (715827882 : Int32))), .val (.int z), .unset]) rfl ?_
    show Steps p.tables e below (T1.setTop (mkF m 31 #[.val (.int p1), .val (.int p2), .val (.int p3), .val (.int (3 : Int32)), .val (.ref w_THIRTEEN_ORPHANS), .val (.int ((p2 &&& (2147483647 : Int32)) % (715827882 : Int32))), .val (.int z), .unset] [])) _
    refine XS.iloadN X1.here hx rfl (hb hby at_31) rfl ?_
    show Steps p.tables e below (T1.setTop (mkF m 32 #[.val (.int p1), .val (.int p2), .val (.int p3), .val (.int (3 : Int32)), .val (.ref w_THIRTEEN_ORPHANS), .val (.int ((p2 &&& (2147483647 : Int32)) % (715827882 : Int32))), .val (.int z), .unset] [(.int (3 : Int32))])) _
    refine XS.ifNo X1.here hx rfl (hb hby at_32) rfl ((if0 _ _).trans (feq (by decide)).1) ?_
    show Steps p.tables e below (T1.setTop (mkF m 35 #[.val (.int p1), .val (.int p2), .val (.int p3), .val (.int (3 : Int32)), .val (.ref w_THIRTEEN_ORPHANS), .val (.int ((p2 &&& (2147483647 : Int32)) % (715827882 : Int32))), .val (.int z), .unset] [])) _
    refine XS.iload X1.here hx rfl (hb hby at_35) rfl ?_
    show Steps p.tables e below (T1.setTop (mkF m 37 #[.val (.int p1), .val (.int p2), .val (.int p3), .val (.int (3 : Int32)), .val (.ref w_THIRTEEN_ORPHANS), .val (.int ((p2 &&& (2147483647 : Int32)) % (715827882 : Int32))), .val (.int z), .unset] [(.int z)])) _
    refine XS.bipush X1.here hx rfl (hb hby at_37) ?_
    exact k)
  by_cases hc39_2 : z = (13 : Int32)
  · obtain ⟨cq4, kq4, q4a, q4b, q4c⟩ := isOf hZ e1 E_w_THIRTEEN_ORPHANS
    obtain ⟨v4, _, ⟨T4, L4, k4, n4⟩, -, X4, ⟨Lc4, hQ4, l4, y4, z4⟩, st4⟩ := X1.virtualBack hx (y := (⟨"com/example/tenpai/tenpai/core/Form", "fits", "(I)Z"⟩ : MethodName)) (z := (⟨"com/example/tenpai/tenpai/core/Form", "fits", "(I)Z"⟩ : MethodName)) hown (mvT hZ (hw _ (ow 9 rfl))) (mvT hZ (hw _ (ow 10 rfl))) (notFace_of_selects (args := #[]) (mvT hZ (hw _ (ow 12 rfl)))) (mvT hZ (hw _ (ow 12 rfl))) (mvT hZ (hw _ (ow 11 rfl))) (by decide) (backOf (W := 0) (rm_fits l Z a0 hw [] w_THIRTEEN_ORPHANS z (14 : Int32) h0 n0 w_REGULAR w_SEVEN_PAIRS w_THIRTEEN_ORPHANS w_SEVEN_PAIRS_FOURS_AS_TWO hK F__complete_w_THIRTEEN_ORPHANS) hZ (hw _ (ow 13 rfl)) (hw _ (ow 5 rfl)) (by decide) (by decide)) q4a q4c (g := (mkF m 60 #[.val (.int p1), .val (.int p2), .val (.int p3), .val (.int (3 : Int32)), .val (.ref w_THIRTEEN_ORPHANS), .val (.int ((p2 &&& (2147483647 : Int32)) % (715827882 : Int32))), .val (.int z), .val (.int (1 : Int32))] [(.int z), (.ref w_THIRTEEN_ORPHANS)])) rfl (by rw [hml]; rfl) (Steps.refl _) (argsL := [(.int z)]) (rest := []) (lenOf pd_1 rfl) rfl (Nat.le_of_eq rfl) (hb hby at_60) (fun _ _ => ⟨rfl, e1, (by decide : 0 + 0 ≤ _), (by decide : 0 + 0 ≤ _)⟩)
    dsimp only [Pt.U, Pt.locs, Pt.cells, Pt.slots] at X4 l4 y4 z4 st4 hQ4
    subst l4 y4 z4
    obtain ⟨hv4, Nq4, e4⟩ := hQ4
    obtain rfl : v4 = some (.int (1 : Int32)) := hv4.trans (congrArg some (congrArg Value.int ((if_neg (by decide)).trans (if_pos (hfit.mpr (Or.inl hc39_2))))))
    have N4 := Fr.app N1 Nq4
    have pre5 : ∀ t, Steps p.tables e below (T4.setTop (mkF m 73 #[.val (.int p1), .val (.int p2), .val (.int p3), .val (.int (3 : Int32)), .val (.ref w_THIRTEEN_ORPHANS), .val (.int ((p2 &&& (2147483647 : Int32)) % (715827882 : Int32))), .val (.int z), .val (.int (1 : Int32))] [(.int (1 : Int32))])) t → Steps p.tables e below (s₁.setTop (entryFrame m #[(.int p1), (.int p2), (.int p3)] maxLocals)) t := fun t k => pre3 t (by
      show Steps p.tables e below (T1.setTop (mkF m 39 #[.val (.int p1), .val (.int p2), .val (.int p3), .val (.int (3 : Int32)), .val (.ref w_THIRTEEN_ORPHANS), .val (.int ((p2 &&& (2147483647 : Int32)) % (715827882 : Int32))), .val (.int z), .unset] [(.int (13 : Int32)), (.int z)])) _
      refine XS.icmpYes X1.here hx rfl (pc0 := 39) (pc' := 49) rfl (hb hby at_39) rfl (teq hc39_2).1 (by decide) (by decide) ?_
      show Steps p.tables e below (T1.setTop (mkF m 49 #[.val (.int p1), .val (.int p2), .val (.int p3), .val (.int (3 : Int32)), .val (.ref w_THIRTEEN_ORPHANS), .val (.int ((p2 &&& (2147483647 : Int32)) % (715827882 : Int32))), .val (.int z), .unset] [])) _
      refine XS.iconst X1.here hx rfl (hb hby at_49) ?_
      show Steps p.tables e below (T1.setTop (mkF m 50 #[.val (.int p1), .val (.int p2), .val (.int p3), .val (.int (3 : Int32)), .val (.ref w_THIRTEEN_ORPHANS), .val (.int ((p2 &&& (2147483647 : Int32)) % (715827882 : Int32))), .val (.int z), .unset] [(.int (1 : Int32))])) _
      refine XS.goto X1.here hx rfl (pc0 := 50) (pc' := 54) rfl (hb hby at_50) (by decide) (by decide) ?_
      show Steps p.tables e below (T1.setTop (mkF m 54 #[.val (.int p1), .val (.int p2), .val (.int p3), .val (.int (3 : Int32)), .val (.ref w_THIRTEEN_ORPHANS), .val (.int ((p2 &&& (2147483647 : Int32)) % (715827882 : Int32))), .val (.int z), .unset] [(.int (1 : Int32))])) _
      refine XS.istore X1.here hx rfl (hb hby at_54) rfl (l' := #[.val (.int p1), .val (.int p2), .val (.int p3), .val (.int (3 : Int32)), .val (.ref w_THIRTEEN_ORPHANS), .val (.int ((p2 &&& (2147483647 : Int32)) % (715827882 : Int32))), .val (.int z), .val (.int (1 : Int32))]) rfl ?_
      show Steps p.tables e below (T1.setTop (mkF m 56 #[.val (.int p1), .val (.int p2), .val (.int p3), .val (.int (3 : Int32)), .val (.ref w_THIRTEEN_ORPHANS), .val (.int ((p2 &&& (2147483647 : Int32)) % (715827882 : Int32))), .val (.int z), .val (.int (1 : Int32))] [])) _
      refine XS.aload X1.here hx rfl (hb hby at_56) rfl rfl ?_
      show Steps p.tables e below (T1.setTop (mkF m 58 #[.val (.int p1), .val (.int p2), .val (.int p3), .val (.int (3 : Int32)), .val (.ref w_THIRTEEN_ORPHANS), .val (.int ((p2 &&& (2147483647 : Int32)) % (715827882 : Int32))), .val (.int z), .val (.int (1 : Int32))] [(.ref w_THIRTEEN_ORPHANS)])) _
      refine XS.iload X1.here hx rfl (hb hby at_58) rfl ?_
      show Steps p.tables e below (T1.setTop (mkF m 60 #[.val (.int p1), .val (.int p2), .val (.int p3), .val (.int (3 : Int32)), .val (.ref w_THIRTEEN_ORPHANS), .val (.int ((p2 &&& (2147483647 : Int32)) % (715827882 : Int32))), .val (.int z), .val (.int (1 : Int32))] [(.int z), (.ref w_THIRTEEN_ORPHANS)])) _
      refine st4.trans ?_
      show Steps p.tables e below (T4.setTop (mkF m 63 #[.val (.int p1), .val (.int p2), .val (.int p3), .val (.int (3 : Int32)), .val (.ref w_THIRTEEN_ORPHANS), .val (.int ((p2 &&& (2147483647 : Int32)) % (715827882 : Int32))), .val (.int z), .val (.int (1 : Int32))] [(.int (1 : Int32))])) _
      refine XS.iload X4.here hx rfl (hb hby at_63) rfl ?_
      show Steps p.tables e below (T4.setTop (mkF m 65 #[.val (.int p1), .val (.int p2), .val (.int p3), .val (.int (3 : Int32)), .val (.ref w_THIRTEEN_ORPHANS), .val (.int ((p2 &&& (2147483647 : Int32)) % (715827882 : Int32))), .val (.int z), .val (.int (1 : Int32))] [(.int (1 : Int32)), (.int (1 : Int32))])) _
      refine XS.icmpNo X4.here hx rfl (hb hby at_65) rfl (teq (by decide)).2 ?_
      show Steps p.tables e below (T4.setTop (mkF m 68 #[.val (.int p1), .val (.int p2), .val (.int p3), .val (.int (3 : Int32)), .val (.ref w_THIRTEEN_ORPHANS), .val (.int ((p2 &&& (2147483647 : Int32)) % (715827882 : Int32))), .val (.int z), .val (.int (1 : Int32))] [])) _
      refine XS.iconst X4.here hx rfl (hb hby at_68) ?_
      show Steps p.tables e below (T4.setTop (mkF m 69 #[.val (.int p1), .val (.int p2), .val (.int p3), .val (.int (3 : Int32)), .val (.ref w_THIRTEEN_ORPHANS), .val (.int ((p2 &&& (2147483647 : Int32)) % (715827882 : Int32))), .val (.int z), .val (.int (1 : Int32))] [(.int (1 : Int32))])) _
      refine XS.goto X4.here hx rfl (pc0 := 69) (pc' := 73) rfl (hb hby at_69) (by decide) (by decide) ?_
      exact k)
    obtain ⟨fs, hr, hrun, hended, hW, hsame⟩ := X4.leave (v := some (.int (1 : Int32))) (fun h => by rw [Bd.returns] at h; cases h)
    refine ⟨_, _, pre5 _ ?_, hrun, hended, _, _, rfl, ?_, ⟨_, rfl⟩, hW, hsame.mono (by decide) (by decide)⟩
    · show Steps p.tables e below (T4.setTop (mkF m 73 #[.val (.int p1), .val (.int p2), .val (.int p3), .val (.int (3 : Int32)), .val (.ref w_THIRTEEN_ORPHANS), .val (.int ((p2 &&& (2147483647 : Int32)) % (715827882 : Int32))), .val (.int z), .val (.int (1 : Int32))] [(.int (1 : Int32))])) _
      exact retN X4 hx (t := .boolean) Bd.returns (by simp) (hb hby at_73) hr
    · exact ⟨rfl, N4, e4⟩
  · have pre7 : ∀ t, Steps p.tables e below (T1.setTop (mkF m 46 #[.val (.int p1), .val (.int p2), .val (.int p3), .val (.int (3 : Int32)), .val (.ref w_THIRTEEN_ORPHANS), .val (.int ((p2 &&& (2147483647 : Int32)) % (715827882 : Int32))), .val (.int z), .unset] [(.int (14 : Int32)), (.int z)])) t → Steps p.tables e below (s₁.setTop (entryFrame m #[(.int p1), (.int p2), (.int p3)] maxLocals)) t := fun t k => pre3 t (by
      show Steps p.tables e below (T1.setTop (mkF m 39 #[.val (.int p1), .val (.int p2), .val (.int p3), .val (.int (3 : Int32)), .val (.ref w_THIRTEEN_ORPHANS), .val (.int ((p2 &&& (2147483647 : Int32)) % (715827882 : Int32))), .val (.int z), .unset] [(.int (13 : Int32)), (.int z)])) _
      refine XS.icmpNo X1.here hx rfl (hb hby at_39) rfl (feq hc39_2).1 ?_
      show Steps p.tables e below (T1.setTop (mkF m 42 #[.val (.int p1), .val (.int p2), .val (.int p3), .val (.int (3 : Int32)), .val (.ref w_THIRTEEN_ORPHANS), .val (.int ((p2 &&& (2147483647 : Int32)) % (715827882 : Int32))), .val (.int z), .unset] [])) _
      refine XS.iload X1.here hx rfl (hb hby at_42) rfl ?_
      show Steps p.tables e below (T1.setTop (mkF m 44 #[.val (.int p1), .val (.int p2), .val (.int p3), .val (.int (3 : Int32)), .val (.ref w_THIRTEEN_ORPHANS), .val (.int ((p2 &&& (2147483647 : Int32)) % (715827882 : Int32))), .val (.int z), .unset] [(.int z)])) _
      refine XS.bipush X1.here hx rfl (hb hby at_44) ?_
      exact k)
    by_cases hc46_6 : z = (14 : Int32)
    · obtain ⟨cq8, kq8, q8a, q8b, q8c⟩ := isOf hZ e1 E_w_THIRTEEN_ORPHANS
      obtain ⟨v8, _, ⟨T8, L8, k8, n8⟩, -, X8, ⟨Lc8, hQ8, l8, y8, z8⟩, st8⟩ := X1.virtualBack hx (y := (⟨"com/example/tenpai/tenpai/core/Form", "fits", "(I)Z"⟩ : MethodName)) (z := (⟨"com/example/tenpai/tenpai/core/Form", "fits", "(I)Z"⟩ : MethodName)) hown (mvT hZ (hw _ (ow 9 rfl))) (mvT hZ (hw _ (ow 10 rfl))) (notFace_of_selects (args := #[]) (mvT hZ (hw _ (ow 12 rfl)))) (mvT hZ (hw _ (ow 12 rfl))) (mvT hZ (hw _ (ow 11 rfl))) (by decide) (backOf (W := 0) (rm_fits l Z a0 hw [] w_THIRTEEN_ORPHANS z (14 : Int32) h0 n0 w_REGULAR w_SEVEN_PAIRS w_THIRTEEN_ORPHANS w_SEVEN_PAIRS_FOURS_AS_TWO hK F__complete_w_THIRTEEN_ORPHANS) hZ (hw _ (ow 13 rfl)) (hw _ (ow 5 rfl)) (by decide) (by decide)) q8a q8c (g := (mkF m 60 #[.val (.int p1), .val (.int p2), .val (.int p3), .val (.int (3 : Int32)), .val (.ref w_THIRTEEN_ORPHANS), .val (.int ((p2 &&& (2147483647 : Int32)) % (715827882 : Int32))), .val (.int z), .val (.int (1 : Int32))] [(.int z), (.ref w_THIRTEEN_ORPHANS)])) rfl (by rw [hml]; rfl) (Steps.refl _) (argsL := [(.int z)]) (rest := []) (lenOf pd_1 rfl) rfl (Nat.le_of_eq rfl) (hb hby at_60) (fun _ _ => ⟨rfl, e1, (by decide : 0 + 0 ≤ _), (by decide : 0 + 0 ≤ _)⟩)
      dsimp only [Pt.U, Pt.locs, Pt.cells, Pt.slots] at X8 l8 y8 z8 st8 hQ8
      subst l8 y8 z8
      obtain ⟨hv8, Nq8, e8⟩ := hQ8
      obtain rfl : v8 = some (.int (1 : Int32)) := hv8.trans (congrArg some (congrArg Value.int ((if_neg (by decide)).trans (if_pos (hfit.mpr (Or.inr hc46_6))))))
      have N8 := Fr.app N1 Nq8
      have pre9 : ∀ t, Steps p.tables e below (T8.setTop (mkF m 73 #[.val (.int p1), .val (.int p2), .val (.int p3), .val (.int (3 : Int32)), .val (.ref w_THIRTEEN_ORPHANS), .val (.int ((p2 &&& (2147483647 : Int32)) % (715827882 : Int32))), .val (.int z), .val (.int (1 : Int32))] [(.int (1 : Int32))])) t → Steps p.tables e below (s₁.setTop (entryFrame m #[(.int p1), (.int p2), (.int p3)] maxLocals)) t := fun t k => pre7 t (by
        show Steps p.tables e below (T1.setTop (mkF m 46 #[.val (.int p1), .val (.int p2), .val (.int p3), .val (.int (3 : Int32)), .val (.ref w_THIRTEEN_ORPHANS), .val (.int ((p2 &&& (2147483647 : Int32)) % (715827882 : Int32))), .val (.int z), .unset] [(.int (14 : Int32)), (.int z)])) _
        refine XS.icmpNo X1.here hx rfl (hb hby at_46) rfl (teq hc46_6).2 ?_
        show Steps p.tables e below (T1.setTop (mkF m 49 #[.val (.int p1), .val (.int p2), .val (.int p3), .val (.int (3 : Int32)), .val (.ref w_THIRTEEN_ORPHANS), .val (.int ((p2 &&& (2147483647 : Int32)) % (715827882 : Int32))), .val (.int z), .unset] [])) _
        refine XS.iconst X1.here hx rfl (hb hby at_49) ?_
        show Steps p.tables e below (T1.setTop (mkF m 50 #[.val (.int p1), .val (.int p2), .val (.int p3), .val (.int (3 : Int32)), .val (.ref w_THIRTEEN_ORPHANS), .val (.int ((p2 &&& (2147483647 : Int32)) % (715827882 : Int32))), .val (.int z), .unset] [(.int (1 : Int32))])) _
        refine XS.goto X1.here hx rfl (pc0 := 50) (pc' := 54) rfl (hb hby at_50) (by decide) (by decide) ?_
        show Steps p.tables e below (T1.setTop (mkF m 54 #[.val (.int p1), .val (.int p2), .val (.int p3), .val (.int (3 : Int32)), .val (.ref w_THIRTEEN_ORPHANS), .val (.int ((p2 &&& (2147483647 : Int32)) % (715827882 : Int32))), .val (.int z), .unset] [(.int (1 : Int32))])) _
        refine XS.istore X1.here hx rfl (hb hby at_54) rfl (l' := #[.val (.int p1), .val (.int p2), .val (.int p3), .val (.int (3 : Int32)), .val (.ref w_THIRTEEN_ORPHANS), .val (.int ((p2 &&& (2147483647 : Int32)) % (715827882 : Int32))), .val (.int z), .val (.int (1 : Int32))]) rfl ?_
        show Steps p.tables e below (T1.setTop (mkF m 56 #[.val (.int p1), .val (.int p2), .val (.int p3), .val (.int (3 : Int32)), .val (.ref w_THIRTEEN_ORPHANS), .val (.int ((p2 &&& (2147483647 : Int32)) % (715827882 : Int32))), .val (.int z), .val (.int (1 : Int32))] [])) _
        refine XS.aload X1.here hx rfl (hb hby at_56) rfl rfl ?_
        show Steps p.tables e below (T1.setTop (mkF m 58 #[.val (.int p1), .val (.int p2), .val (.int p3), .val (.int (3 : Int32)), .val (.ref w_THIRTEEN_ORPHANS), .val (.int ((p2 &&& (2147483647 : Int32)) % (715827882 : Int32))), .val (.int z), .val (.int (1 : Int32))] [(.ref w_THIRTEEN_ORPHANS)])) _
        refine XS.iload X1.here hx rfl (hb hby at_58) rfl ?_
        show Steps p.tables e below (T1.setTop (mkF m 60 #[.val (.int p1), .val (.int p2), .val (.int p3), .val (.int (3 : Int32)), .val (.ref w_THIRTEEN_ORPHANS), .val (.int ((p2 &&& (2147483647 : Int32)) % (715827882 : Int32))), .val (.int z), .val (.int (1 : Int32))] [(.int z), (.ref w_THIRTEEN_ORPHANS)])) _
        refine st8.trans ?_
        show Steps p.tables e below (T8.setTop (mkF m 63 #[.val (.int p1), .val (.int p2), .val (.int p3), .val (.int (3 : Int32)), .val (.ref w_THIRTEEN_ORPHANS), .val (.int ((p2 &&& (2147483647 : Int32)) % (715827882 : Int32))), .val (.int z), .val (.int (1 : Int32))] [(.int (1 : Int32))])) _
        refine XS.iload X8.here hx rfl (hb hby at_63) rfl ?_
        show Steps p.tables e below (T8.setTop (mkF m 65 #[.val (.int p1), .val (.int p2), .val (.int p3), .val (.int (3 : Int32)), .val (.ref w_THIRTEEN_ORPHANS), .val (.int ((p2 &&& (2147483647 : Int32)) % (715827882 : Int32))), .val (.int z), .val (.int (1 : Int32))] [(.int (1 : Int32)), (.int (1 : Int32))])) _
        refine XS.icmpNo X8.here hx rfl (hb hby at_65) rfl (teq (by decide)).2 ?_
        show Steps p.tables e below (T8.setTop (mkF m 68 #[.val (.int p1), .val (.int p2), .val (.int p3), .val (.int (3 : Int32)), .val (.ref w_THIRTEEN_ORPHANS), .val (.int ((p2 &&& (2147483647 : Int32)) % (715827882 : Int32))), .val (.int z), .val (.int (1 : Int32))] [])) _
        refine XS.iconst X8.here hx rfl (hb hby at_68) ?_
        show Steps p.tables e below (T8.setTop (mkF m 69 #[.val (.int p1), .val (.int p2), .val (.int p3), .val (.int (3 : Int32)), .val (.ref w_THIRTEEN_ORPHANS), .val (.int ((p2 &&& (2147483647 : Int32)) % (715827882 : Int32))), .val (.int z), .val (.int (1 : Int32))] [(.int (1 : Int32))])) _
        refine XS.goto X8.here hx rfl (pc0 := 69) (pc' := 73) rfl (hb hby at_69) (by decide) (by decide) ?_
        exact k)
      obtain ⟨fs, hr, hrun, hended, hW, hsame⟩ := X8.leave (v := some (.int (1 : Int32))) (fun h => by rw [Bd.returns] at h; cases h)
      refine ⟨_, _, pre9 _ ?_, hrun, hended, _, _, rfl, ?_, ⟨_, rfl⟩, hW, hsame.mono (by decide) (by decide)⟩
      · show Steps p.tables e below (T8.setTop (mkF m 73 #[.val (.int p1), .val (.int p2), .val (.int p3), .val (.int (3 : Int32)), .val (.ref w_THIRTEEN_ORPHANS), .val (.int ((p2 &&& (2147483647 : Int32)) % (715827882 : Int32))), .val (.int z), .val (.int (1 : Int32))] [(.int (1 : Int32))])) _
        exact retN X8 hx (t := .boolean) Bd.returns (by simp) (hb hby at_73) hr
      · exact ⟨rfl, N8, e8⟩
    · obtain ⟨cq10, kq10, q10a, q10b, q10c⟩ := isOf hZ e1 E_w_THIRTEEN_ORPHANS
      obtain ⟨v10, _, ⟨T10, L10, k10, n10⟩, -, X10, ⟨Lc10, hQ10, l10, y10, z10⟩, st10⟩ := X1.virtualBack hx (y := (⟨"com/example/tenpai/tenpai/core/Form", "fits", "(I)Z"⟩ : MethodName)) (z := (⟨"com/example/tenpai/tenpai/core/Form", "fits", "(I)Z"⟩ : MethodName)) hown (mvT hZ (hw _ (ow 9 rfl))) (mvT hZ (hw _ (ow 10 rfl))) (notFace_of_selects (args := #[]) (mvT hZ (hw _ (ow 12 rfl)))) (mvT hZ (hw _ (ow 12 rfl))) (mvT hZ (hw _ (ow 11 rfl))) (by decide) (backOf (W := 0) (rm_fits l Z a0 hw [] w_THIRTEEN_ORPHANS z (14 : Int32) h0 n0 w_REGULAR w_SEVEN_PAIRS w_THIRTEEN_ORPHANS w_SEVEN_PAIRS_FOURS_AS_TWO hK F__complete_w_THIRTEEN_ORPHANS) hZ (hw _ (ow 13 rfl)) (hw _ (ow 5 rfl)) (by decide) (by decide)) q10a q10c (g := (mkF m 60 #[.val (.int p1), .val (.int p2), .val (.int p3), .val (.int (3 : Int32)), .val (.ref w_THIRTEEN_ORPHANS), .val (.int ((p2 &&& (2147483647 : Int32)) % (715827882 : Int32))), .val (.int z), .val (.int (0 : Int32))] [(.int z), (.ref w_THIRTEEN_ORPHANS)])) rfl (by rw [hml]; rfl) (Steps.refl _) (argsL := [(.int z)]) (rest := []) (lenOf pd_1 rfl) rfl (Nat.le_of_eq rfl) (hb hby at_60) (fun _ _ => ⟨rfl, e1, (by decide : 0 + 0 ≤ _), (by decide : 0 + 0 ≤ _)⟩)
      dsimp only [Pt.U, Pt.locs, Pt.cells, Pt.slots] at X10 l10 y10 z10 st10 hQ10
      subst l10 y10 z10
      obtain ⟨hv10, Nq10, e10⟩ := hQ10
      obtain rfl : v10 = some (.int (0 : Int32)) := hv10.trans (congrArg some (congrArg Value.int ((if_neg (by decide)).trans (if_neg (fun q => (hfit.mp q).elim hc39_2 hc46_6)))))
      have N10 := Fr.app N1 Nq10
      have pre11 : ∀ t, Steps p.tables e below (T10.setTop (mkF m 73 #[.val (.int p1), .val (.int p2), .val (.int p3), .val (.int (3 : Int32)), .val (.ref w_THIRTEEN_ORPHANS), .val (.int ((p2 &&& (2147483647 : Int32)) % (715827882 : Int32))), .val (.int z), .val (.int (0 : Int32))] [(.int (1 : Int32))])) t → Steps p.tables e below (s₁.setTop (entryFrame m #[(.int p1), (.int p2), (.int p3)] maxLocals)) t := fun t k => pre7 t (by
        show Steps p.tables e below (T1.setTop (mkF m 46 #[.val (.int p1), .val (.int p2), .val (.int p3), .val (.int (3 : Int32)), .val (.ref w_THIRTEEN_ORPHANS), .val (.int ((p2 &&& (2147483647 : Int32)) % (715827882 : Int32))), .val (.int z), .unset] [(.int (14 : Int32)), (.int z)])) _
        refine XS.icmpYes X1.here hx rfl (pc0 := 46) (pc' := 53) rfl (hb hby at_46) rfl (feq hc46_6).2 (by decide) (by decide) ?_
        show Steps p.tables e below (T1.setTop (mkF m 53 #[.val (.int p1), .val (.int p2), .val (.int p3), .val (.int (3 : Int32)), .val (.ref w_THIRTEEN_ORPHANS), .val (.int ((p2 &&& (2147483647 : Int32)) % (715827882 : Int32))), .val (.int z), .unset] [])) _
        refine XS.iconst X1.here hx rfl (hb hby at_53) ?_
        show Steps p.tables e below (T1.setTop (mkF m 54 #[.val (.int p1), .val (.int p2), .val (.int p3), .val (.int (3 : Int32)), .val (.ref w_THIRTEEN_ORPHANS), .val (.int ((p2 &&& (2147483647 : Int32)) % (715827882 : Int32))), .val (.int z), .unset] [(.int (0 : Int32))])) _
        refine XS.istore X1.here hx rfl (hb hby at_54) rfl (l' := #[.val (.int p1), .val (.int p2), .val (.int p3), .val (.int (3 : Int32)), .val (.ref w_THIRTEEN_ORPHANS), .val (.int ((p2 &&& (2147483647 : Int32)) % (715827882 : Int32))), .val (.int z), .val (.int (0 : Int32))]) rfl ?_
        show Steps p.tables e below (T1.setTop (mkF m 56 #[.val (.int p1), .val (.int p2), .val (.int p3), .val (.int (3 : Int32)), .val (.ref w_THIRTEEN_ORPHANS), .val (.int ((p2 &&& (2147483647 : Int32)) % (715827882 : Int32))), .val (.int z), .val (.int (0 : Int32))] [])) _
        refine XS.aload X1.here hx rfl (hb hby at_56) rfl rfl ?_
        show Steps p.tables e below (T1.setTop (mkF m 58 #[.val (.int p1), .val (.int p2), .val (.int p3), .val (.int (3 : Int32)), .val (.ref w_THIRTEEN_ORPHANS), .val (.int ((p2 &&& (2147483647 : Int32)) % (715827882 : Int32))), .val (.int z), .val (.int (0 : Int32))] [(.ref w_THIRTEEN_ORPHANS)])) _
        refine XS.iload X1.here hx rfl (hb hby at_58) rfl ?_
        show Steps p.tables e below (T1.setTop (mkF m 60 #[.val (.int p1), .val (.int p2), .val (.int p3), .val (.int (3 : Int32)), .val (.ref w_THIRTEEN_ORPHANS), .val (.int ((p2 &&& (2147483647 : Int32)) % (715827882 : Int32))), .val (.int z), .val (.int (0 : Int32))] [(.int z), (.ref w_THIRTEEN_ORPHANS)])) _
        refine st10.trans ?_
        show Steps p.tables e below (T10.setTop (mkF m 63 #[.val (.int p1), .val (.int p2), .val (.int p3), .val (.int (3 : Int32)), .val (.ref w_THIRTEEN_ORPHANS), .val (.int ((p2 &&& (2147483647 : Int32)) % (715827882 : Int32))), .val (.int z), .val (.int (0 : Int32))] [(.int (0 : Int32))])) _
        refine XS.iload X10.here hx rfl (hb hby at_63) rfl ?_
        show Steps p.tables e below (T10.setTop (mkF m 65 #[.val (.int p1), .val (.int p2), .val (.int p3), .val (.int (3 : Int32)), .val (.ref w_THIRTEEN_ORPHANS), .val (.int ((p2 &&& (2147483647 : Int32)) % (715827882 : Int32))), .val (.int z), .val (.int (0 : Int32))] [(.int (0 : Int32)), (.int (0 : Int32))])) _
        refine XS.icmpNo X10.here hx rfl (hb hby at_65) rfl (teq (by decide)).2 ?_
        show Steps p.tables e below (T10.setTop (mkF m 68 #[.val (.int p1), .val (.int p2), .val (.int p3), .val (.int (3 : Int32)), .val (.ref w_THIRTEEN_ORPHANS), .val (.int ((p2 &&& (2147483647 : Int32)) % (715827882 : Int32))), .val (.int z), .val (.int (0 : Int32))] [])) _
        refine XS.iconst X10.here hx rfl (hb hby at_68) ?_
        show Steps p.tables e below (T10.setTop (mkF m 69 #[.val (.int p1), .val (.int p2), .val (.int p3), .val (.int (3 : Int32)), .val (.ref w_THIRTEEN_ORPHANS), .val (.int ((p2 &&& (2147483647 : Int32)) % (715827882 : Int32))), .val (.int z), .val (.int (0 : Int32))] [(.int (1 : Int32))])) _
        refine XS.goto X10.here hx rfl (pc0 := 69) (pc' := 73) rfl (hb hby at_69) (by decide) (by decide) ?_
        exact k)
      obtain ⟨fs, hr, hrun, hended, hW, hsame⟩ := X10.leave (v := some (.int (1 : Int32))) (fun h => by rw [Bd.returns] at h; cases h)
      refine ⟨_, _, pre11 _ ?_, hrun, hended, _, _, rfl, ?_, ⟨_, rfl⟩, hW, hsame.mono (by decide) (by decide)⟩
      · show Steps p.tables e below (T10.setTop (mkF m 73 #[.val (.int p1), .val (.int p2), .val (.int p3), .val (.int (3 : Int32)), .val (.ref w_THIRTEEN_ORPHANS), .val (.int ((p2 &&& (2147483647 : Int32)) % (715827882 : Int32))), .val (.int z), .val (.int (0 : Int32))] [(.int (1 : Int32))])) _
        exact retN X10 hx (t := .boolean) Bd.returns (by simp) (hb hby at_73) hr
      · exact ⟨rfl, N10, e10⟩
theorem own_cases (y : Int32) (h0 : 0 ≤ y.toInt) (h1 : y.toInt < 4) : y = (0 : Int32) ∨ y = (1 : Int32) ∨ y = (2 : Int32) ∨ y = (3 : Int32) := by
  have q : y.toInt = 0 ∨ y.toInt = 1 ∨ y.toInt = 2 ∨ y.toInt = 3 := by omega
  rcases q with q | q | q | q
  · exact Or.inl (Int32.toInt_inj.mp q)
  · exact Or.inr (Or.inl (Int32.toInt_inj.mp q))
  · exact Or.inr (Or.inr (Or.inl (Int32.toInt_inj.mp q)))
  · exact Or.inr (Or.inr (Or.inr (Int32.toInt_inj.mp q)))
theorem rm_law (l : Launch) (Z : State) (a0 : Array Value) (hw : ∀ d ∈ tables_1, d.before a0 Z = true) (ws : List Jvm.Cond) (p1 : Int32) (p2 : Int32) (p3 : Int32) (h0 : Heap) (n0 : Nat) (w_REGULAR w_SEVEN_PAIRS w_THIRTEEN_ORPHANS w_SEVEN_PAIRS_FOURS_AS_TWO : Addr) (hK : own_K Z h0 w_REGULAR w_SEVEN_PAIRS w_THIRTEEN_ORPHANS w_SEVEN_PAIRS_FOURS_AS_TWO) :
    MetFree l x (head1 (Jvm.Cond.code x code maxLocals ret :: ws) room_1) (fun a U => a = #[(.int p1), (.int p2), (.int p3)] ∧ Z.Warmed39 U.vm ∧ U.heap = h0) (fun _ _ _ _ _ => True) (fun _ U o U' => ∃ v L, o = .returned v ∧ own_Q (some (.int (1 : Int32))) h0 n0 v U'.heap L ∧ FrameEnd U o U' L room_1.cells room_1.slots) := by
  have q := c_mask p1 3 2 (by decide) (by decide)
  rcases own_cases (p1 &&& (3 : Int32)) (by omega) (by omega) with hk | hk | hk | hk
  · exact rm_law0 l Z a0 hw ws p1 p2 p3 h0 n0 w_REGULAR w_SEVEN_PAIRS w_THIRTEEN_ORPHANS w_SEVEN_PAIRS_FOURS_AS_TWO hK _ hk rfl (own_fit p2 p3)
  · exact rm_law1 l Z a0 hw ws p1 p2 p3 h0 n0 w_REGULAR w_SEVEN_PAIRS w_THIRTEEN_ORPHANS w_SEVEN_PAIRS_FOURS_AS_TWO hK _ hk rfl (own_fit p2 p3)
  · exact rm_law2 l Z a0 hw ws p1 p2 p3 h0 n0 w_REGULAR w_SEVEN_PAIRS w_THIRTEEN_ORPHANS w_SEVEN_PAIRS_FOURS_AS_TWO hK _ hk rfl (own_fit p2 p3)
  · exact rm_law3 l Z a0 hw ws p1 p2 p3 h0 n0 w_REGULAR w_SEVEN_PAIRS w_THIRTEEN_ORPHANS w_SEVEN_PAIRS_FOURS_AS_TWO hK _ hk rfl (own_fit p2 p3)
set_option maxRecDepth 65536 in
set_option maxHeartbeats 40000000 in
theorem comes_1 {Post : Tables → Env → Array Value → State → Outcome → State → Prop} (hpost : ∀ tb e args s v u, (limb_1_1.after args s (.returned v) u = true ∧ limb_1_2.after args s (.returned v) u = true ∧ True) → FrameEnd s (.returned v) u (Jvm.fieldLocs frame_1_writes args s ++ Jvm.arrayLocs frame_1_arrays args s ++ Jvm.staticLocs frame_1_statics s) 0 0 → Post tb e args s (.returned v) u) :
    ArmFor flags0 classFile x code maxLocals ret World_1 tables_1 room_1 Calls_1 rest_1 Pre_1 Post := by
  intro l hfl _ _ p e ha hc hk s m args below hf hA hF happ hP
  obtain ⟨hcalls, hrest, hpre⟩ := hP
  obtain ⟨-, -, -, hnamed, -, -, -, hat⟩ := (Spec.applies_iff hf).mp happ
  obtain ⟨hg, hn⟩ := and_e (Cond.before_iff.mp (show (Jvm.Cond.and given_1 narrow_1).before args s = true from hpre))
  obtain ⟨g0, hg⟩ := and_e hg
  obtain ⟨g1, hg⟩ := and_e hg
  obtain ⟨g2, hg⟩ := and_e hg
  obtain ⟨w0, w1, w2, rfl⟩ : ∃ w0 w1 w2 : Value, args = #[w0, w1, w2] := by
    have hs : args.size = 3 := by simpa [Cond.value, given_1] using g0
    obtain ⟨L⟩ := args
    match L, hs with
    | [w0, w1, w2], _ => exact ⟨w0, w1, w2, rfl⟩
  have hw := fun d (hd : d ∈ tables_1) => atoms_spec (ws := Jvm.Cond.code x code maxLocals ret :: tables_1) hat d (List.mem_cons_of_mem _ hd)
  have hfit : Fit s := fun {y c} hc i hi => by
    obtain ⟨ha, rfl⟩ := Array.getElem?_eq_some_iff.mp hc
    have q := List.all_eq_true.mp ((Array.all_eq_true_iff_forall_mem.mp hF) _ (Array.getElem_mem ha)) i (List.mem_range.mpr hi)
    simpa [Array.getElem?_eq_getElem hi] using q
  obtain ⟨i0, ei0⟩ := is_v g1
  obtain rfl : w0 = (.int i0) := Option.some.inj ei0
  obtain ⟨i1, ei1⟩ := is_v g2
  obtain rfl : w1 = (.int i1) := Option.some.inj ei1
  obtain ⟨i2, ei2⟩ := is_v hg
  obtain rfl : w2 = (.int i2) := Option.some.inj ei2
  obtain ⟨c0, hn⟩ := and_e hn
  obtain ⟨w_REGULAR, v_w_REGULAR⟩ := exa_v c0
  have S_w_REGULAR := Sta.start v_w_REGULAR (Or.inr ⟨(hw _ (ow 5 rfl)), (hw _ (ow 6 rfl))⟩)
  have E_w_REGULAR := Exa.start v_w_REGULAR c0
  obtain ⟨c1, hn⟩ := and_e hn
  have F__complete_w_REGULAR := Fld.start ((fld_at v_w_REGULAR).symm.trans (own_eqI c1))
  obtain ⟨c2, hn⟩ := and_e hn
  obtain ⟨w_SEVEN_PAIRS, v_w_SEVEN_PAIRS⟩ := exa_v c2
  have S_w_SEVEN_PAIRS := Sta.start v_w_SEVEN_PAIRS (Or.inr ⟨(hw _ (ow 5 rfl)), (hw _ (ow 17 rfl))⟩)
  have E_w_SEVEN_PAIRS := Exa.start v_w_SEVEN_PAIRS c2
  obtain ⟨c3, hn⟩ := and_e hn
  have F__complete_w_SEVEN_PAIRS := Fld.start ((fld_at v_w_SEVEN_PAIRS).symm.trans (own_eqI c3))
  obtain ⟨c4, hn⟩ := and_e hn
  obtain ⟨w_THIRTEEN_ORPHANS, v_w_THIRTEEN_ORPHANS⟩ := exa_v c4
  have S_w_THIRTEEN_ORPHANS := Sta.start v_w_THIRTEEN_ORPHANS (Or.inr ⟨(hw _ (ow 5 rfl)), (hw _ (ow 19 rfl))⟩)
  have E_w_THIRTEEN_ORPHANS := Exa.start v_w_THIRTEEN_ORPHANS c4
  obtain ⟨c5, hn⟩ := and_e hn
  have F__complete_w_THIRTEEN_ORPHANS := Fld.start ((fld_at v_w_THIRTEEN_ORPHANS).symm.trans (own_eqI c5))
  obtain ⟨c6, hn⟩ := and_e hn
  obtain ⟨w_SEVEN_PAIRS_FOURS_AS_TWO, v_w_SEVEN_PAIRS_FOURS_AS_TWO⟩ := exa_v c6
  have S_w_SEVEN_PAIRS_FOURS_AS_TWO := Sta.start v_w_SEVEN_PAIRS_FOURS_AS_TWO (Or.inr ⟨(hw _ (ow 5 rfl)), (hw _ (ow 21 rfl))⟩)
  have E_w_SEVEN_PAIRS_FOURS_AS_TWO := Exa.start v_w_SEVEN_PAIRS_FOURS_AS_TWO c6
  have F__complete_w_SEVEN_PAIRS_FOURS_AS_TWO := Fld.start ((fld_at v_w_SEVEN_PAIRS_FOURS_AS_TWO).symm.trans (own_eqI hn))
  have hK : own_K s s.heap w_REGULAR w_SEVEN_PAIRS w_THIRTEEN_ORPHANS w_SEVEN_PAIRS_FOURS_AS_TWO := ⟨S_w_REGULAR, E_w_REGULAR, F__complete_w_REGULAR, S_w_SEVEN_PAIRS, E_w_SEVEN_PAIRS, F__complete_w_SEVEN_PAIRS, S_w_THIRTEEN_ORPHANS, E_w_THIRTEEN_ORPHANS, F__complete_w_THIRTEEN_ORPHANS, S_w_SEVEN_PAIRS_FOURS_AS_TWO, E_w_SEVEN_PAIRS_FOURS_AS_TWO, F__complete_w_SEVEN_PAIRS_FOURS_AS_TWO⟩
  obtain ⟨n, o, h1, h2, h3, _, L, rfl, ⟨rfl, N, -⟩, hq⟩ := rm_law l s _ hw tables_1 i0 i1 i2 s.heap s.heap.size w_REGULAR w_SEVEN_PAIRS w_THIRTEEN_ORPHANS w_SEVEN_PAIRS_FOURS_AS_TWO hK p e ha hc hk s m _ below hf ((Spec.applies_iff_loose hf).mp happ).1 ⟨rfl, State.Warmed39.refl s, rfl⟩ trivial
  refine ⟨n, _, h1, h2, h3, hpost _ _ _ _ _ _ ⟨Cond.after_iff.mpr rfl, Cond.after_iff.mpr (eq_i res_at (Term.int_eval (1)) rfl), trivial⟩ ⟨hq.1, hq.2.1, (hq.2.2.sift fun y hy => Or.inr (N y hy)).mono (by decide) (by decide)⟩⟩
theorem main_1_1 : Claimed_1_1 := comes_1 fun _ _ _ _ _ _ h hF => ⟨h.1, hF⟩
theorem main_1_2 : Claimed_1_2 := comes_1 fun _ _ _ _ _ _ h hF => ⟨h.2.1, hF⟩
end Jvm.Pilot.@@N@@
namespace Jvm.Pilot.@@N@@
open Jvm Jvm.ClassFile Sem Op Lib Jvm.Free Jvm.Stand Jvm.Pilot.@@N@@.Jvm.D
/-! MADE BY PROGRAM (witnessworld.py) out of the Statement's table words and the real class files: 12 classes; the members and pool entries that the words name. The judged class is class 1, her method 2. -/
namespace start1
open Jvm.ClassFile
def u (s : String) : CpInfo := .utf8 (stringToUtf16 s)
/-- a pool by its gaps: so many unusable entries, then the entry; so many at the end -/
def gap : Nat → List CpInfo → List CpInfo
  | 0, r => r
  | n + 1, r => .unusable :: gap n r
def poolList (es : List (Nat × CpInfo)) (last : Nat) : List CpInfo := es.foldr (fun e r => gap e.1 (e.2 :: r)) (gap last [])
def pool (es : List (Nat × CpInfo)) (last : Nat) : Array CpInfo := ⟨poolList es last⟩
def fileOf (pool : Array CpInfo) (this : Nat) (attrs : Array Attribute := #[]) (ms : Array MethodInfo := #[]) (fl : Nat := 33) (sup : Nat := 0) (ifs : Array Nat := #[]) (fds : Array FieldInfo := #[]) : ClassFile where
  minorVersion := 0
  majorVersion := 65
  constantPool := pool
  accessFlags := fl
  thisClass := this
  superClass := sup
  interfaces := ifs
  fields := fds
  methods := ms
  attributes := attrs
def plain (name : String) (sup : Option ClassId) : Class where
  name := name
  kind := .ordinary
  loader := none
  accessFlags := 33
  super := sup
  interfaces := #[]
  cf := none
  fields := #[]
  methods := #[]
  instanceTypes := #[]
  staticTypes := #[]
  resolved := #[]
  callSites := []
  init := .initialized
  statics := none
  mirror := none

def pool0 : Array CpInfo := pool [(5, u "<init>"), (0, u "()V"), (1, .class_ 10), (1, u "java/lang/Object")] 113

def k0m0 : Method := { name := "<init>", desc := "()V", sig := { parameters := [], returnType := none }, accessFlags := 1, code := none }
/-- java/lang/Object -/
def k0 : Class := { plain "java/lang/Object" none with
  accessFlags := 33
  interfaces := #[]
  cf := some (fileOf pool0 8 #[] #[{ accessFlags := 1, nameIndex := 5, descriptorIndex := 6, attributes := #[] }] 33 0 #[] #[])
  fields := #[]
  methods := #[k0m0]
  instanceTypes := #[]
  staticTypes := #[]
  resolved := Array.replicate 124 none
  statics := none }

def pool1 : Array CpInfo := pool [(2, .class_ 4), (1, u "java/lang/Object"), (0, u "<init>"), (0, u "()V"), (0, .fieldref 8 9), (0, .class_ 10), (0, .nameAndType 11 12), (0, u "com/example/tenpai/tenpai/core/Form"), (0, u "REGULAR"), (0, u "Lcom/example/tenpai/tenpai/core/Form;"), (0, .fieldref 8 14), (0, .nameAndType 15 12), (0, u "SEVEN_PAIRS"), (0, .fieldref 8 17), (0, .nameAndType 18 12), (0, u "SEVEN_PAIRS_FOURS_AS_TWO"), (0, .fieldref 8 20), (0, .nameAndType 21 12), (0, u "THIRTEEN_ORPHANS"), (0, .methodref 23 24), (0, .class_ 25), (0, .nameAndType 26 27), (0, u "com/example/tenpai/tenpai/core/FormFitsPinLaw"), (0, u "form"), (0, u "(I)Lcom/example/tenpai/tenpai/core/Form;"), (0, .integer 2147483647), (0, .integer 715827882), (0, .methodref 8 31), (0, .nameAndType 32 33), (0, u "fits"), (0, u "(I)Z"), (3, u "law"), (0, u "(III)Z")] 2

def k1m0 : Method := { name := "<init>", desc := "()V", sig := { parameters := [], returnType := none }, accessFlags := 2, code := none }
def k1c1 : Code := { maxStack := 2, maxLocals := 1, code := method_2_code, exceptionTable := #[], attributes := #[] }
def k1m1 : Method := { name := "form", desc := "(I)Lcom/example/tenpai/tenpai/core/Form;", sig := { parameters := [.int], returnType := some (.object "com/example/tenpai/tenpai/core/Form") }, accessFlags := 10, code := some k1c1 }
def k1c2 : Code := { maxStack := 3, maxLocals := 8, code := code, exceptionTable := #[], attributes := #[] }
def k1m2 : Method := { name := "law", desc := "(III)Z", sig := { parameters := [.int, .int, .int], returnType := some .boolean }, accessFlags := 9, code := some k1c2 }
/-- com/example/tenpai/tenpai/core/FormFitsPinLaw -/
def k1 : Class := { plain "com/example/tenpai/tenpai/core/FormFitsPinLaw" (some 0) with
  accessFlags := 49
  interfaces := #[]
  cf := some (fileOf pool1 23 #[] #[{ accessFlags := 2, nameIndex := 5, descriptorIndex := 6, attributes := #[] }, { accessFlags := 10, nameIndex := 26, descriptorIndex := 27, attributes := #[] }, { accessFlags := 9, nameIndex := 37, descriptorIndex := 38, attributes := #[] }] 49 2 #[] #[])
  fields := #[]
  methods := #[k1m0, k1m1, k1m2]
  instanceTypes := #[]
  staticTypes := #[]
  resolved := Array.replicate 41 none
  statics := none }

def pool2 : Array CpInfo := pool [(1, .class_ 2), (0, u "java/lang/constant/Constable"), (0, .class_ 4), (0, u "java/lang/Object")] 6

/-- java/lang/constant/Constable -/
def k2 : Class := { plain "java/lang/constant/Constable" (some 0) with
  accessFlags := 1537
  interfaces := #[]
  cf := some (fileOf pool2 1 #[] #[] 1537 3 #[] #[])
  fields := #[]
  methods := #[]
  instanceTypes := #[]
  staticTypes := #[]
  resolved := Array.replicate 11 none
  statics := none }

def pool3 : Array CpInfo := pool [(1, .class_ 2), (0, u "java/lang/Comparable"), (0, .class_ 4), (0, u "java/lang/Object")] 7

/-- java/lang/Comparable -/
def k3 : Class := { plain "java/lang/Comparable" (some 0) with
  accessFlags := 1537
  interfaces := #[]
  cf := some (fileOf pool3 1 #[] #[] 1537 3 #[] #[])
  fields := #[]
  methods := #[]
  instanceTypes := #[]
  staticTypes := #[]
  resolved := Array.replicate 12 none
  statics := none }

def pool4 : Array CpInfo := pool [(1, .class_ 2), (0, u "java/io/Serializable"), (0, .class_ 4), (0, u "java/lang/Object")] 2

/-- java/io/Serializable -/
def k4 : Class := { plain "java/io/Serializable" (some 0) with
  accessFlags := 1537
  interfaces := #[]
  cf := some (fileOf pool4 1 #[] #[] 1537 3 #[] #[])
  fields := #[]
  methods := #[]
  instanceTypes := #[]
  staticTypes := #[]
  resolved := Array.replicate 7 none
  statics := none }

def pool5 : Array CpInfo := pool [(2, .class_ 4), (1, u "java/lang/Enum"), (0, u "name"), (0, u "Ljava/lang/String;"), (2, u "ordinal"), (0, u "I"), (1, .class_ 14), (1, u "java/lang/Object"), (4, u "hash"), (86, .class_ 108), (1, u "java/lang/Enum$EnumDesc"), (2, .class_ 112), (0, u "java/lang/constant/Constable"), (0, .class_ 114), (0, u "java/lang/Comparable"), (0, .class_ 116), (0, u "java/io/Serializable")] 87

/-- java/lang/Enum -/
def k5 : Class := { plain "java/lang/Enum" (some 0) with
  accessFlags := 1057
  interfaces := #[2, 3, 4]
  cf := some (fileOf pool5 2 #[.nestMembers #[106]] #[] 1057 12 #[111, 113, 115] #[{ accessFlags := 18, nameIndex := 5, descriptorIndex := 6, attributes := #[] }, { accessFlags := 18, nameIndex := 9, descriptorIndex := 10, attributes := #[] }, { accessFlags := 2, nameIndex := 19, descriptorIndex := 10, attributes := #[] }])
  fields := #[{ name := "name", type := (.object "java/lang/String"), accessFlags := 18, slot := 0, constantValue := 0 }, { name := "ordinal", type := .int, accessFlags := 18, slot := 1, constantValue := 0 }, { name := "hash", type := .int, accessFlags := 2, slot := 2, constantValue := 0 }]
  methods := #[]
  instanceTypes := #[(.object "java/lang/String"), .int, .int]
  staticTypes := #[]
  resolved := Array.replicate 204 none
  statics := none }

def pool6 : Array CpInfo := pool [(1, .class_ 2), (0, u "com/example/tenpai/tenpai/core/Form"), (2, u "REGULAR"), (0, u "Lcom/example/tenpai/tenpai/core/Form;"), (2, u "SEVEN_PAIRS"), (2, u "SEVEN_PAIRS_FOURS_AS_TWO"), (2, u "THIRTEEN_ORPHANS"), (2, u "$VALUES"), (0, u "[Lcom/example/tenpai/tenpai/core/Form;"), (6, .class_ 28), (1, u "java/lang/Enum"), (6, .fieldref 1 36), (0, .nameAndType 37 38), (0, u "_complete"), (0, u "I"), (2, u "_distance"), (0, u "Ljava/util/function/ToIntFunction;"), (28, u "ORPHANS"), (0, u "[I"), (43, u "fits"), (0, u "(I)Z")] 44

def k6c0 : Code := { maxStack := 2, maxLocals := 2, code := prog_21_method_4_code, exceptionTable := #[], attributes := #[] }
def k6m0 : Method := { name := "fits", desc := "(I)Z", sig := { parameters := [.int], returnType := some .boolean }, accessFlags := 0, code := some k6c0 }
/-- com/example/tenpai/tenpai/core/Form -/
def k6 : Class := { plain "com/example/tenpai/tenpai/core/Form" (some 5) with
  accessFlags := 16432
  interfaces := #[]
  cf := some (fileOf pool6 1 #[] #[{ accessFlags := 0, nameIndex := 116, descriptorIndex := 117, attributes := #[] }] 16432 26 #[] #[{ accessFlags := 16409, nameIndex := 5, descriptorIndex := 6, attributes := #[] }, { accessFlags := 16409, nameIndex := 9, descriptorIndex := 6, attributes := #[] }, { accessFlags := 16409, nameIndex := 12, descriptorIndex := 6, attributes := #[] }, { accessFlags := 16409, nameIndex := 15, descriptorIndex := 6, attributes := #[] }, { accessFlags := 26, nameIndex := 71, descriptorIndex := 72, attributes := #[] }, { accessFlags := 18, nameIndex := 37, descriptorIndex := 38, attributes := #[] }, { accessFlags := 18, nameIndex := 41, descriptorIndex := 42, attributes := #[] }, { accessFlags := 4122, nameIndex := 18, descriptorIndex := 19, attributes := #[] }])
  fields := #[{ name := "REGULAR", type := (.object "com/example/tenpai/tenpai/core/Form"), accessFlags := 16409, slot := 0, constantValue := 0 }, { name := "SEVEN_PAIRS", type := (.object "com/example/tenpai/tenpai/core/Form"), accessFlags := 16409, slot := 1, constantValue := 0 }, { name := "SEVEN_PAIRS_FOURS_AS_TWO", type := (.object "com/example/tenpai/tenpai/core/Form"), accessFlags := 16409, slot := 2, constantValue := 0 }, { name := "THIRTEEN_ORPHANS", type := (.object "com/example/tenpai/tenpai/core/Form"), accessFlags := 16409, slot := 3, constantValue := 0 }, { name := "ORPHANS", type := (.array .int), accessFlags := 26, slot := 4, constantValue := 0 }, { name := "_complete", type := .int, accessFlags := 18, slot := 3, constantValue := 0 }, { name := "_distance", type := (.object "java/util/function/ToIntFunction"), accessFlags := 18, slot := 4, constantValue := 0 }, { name := "$VALUES", type := (.array (.object "com/example/tenpai/tenpai/core/Form")), accessFlags := 4122, slot := 5, constantValue := 0 }]
  methods := #[k6m0]
  instanceTypes := #[(.object "java/lang/String"), .int, .int, .int, (.object "java/util/function/ToIntFunction")]
  staticTypes := #[(.object "com/example/tenpai/tenpai/core/Form"), (.object "com/example/tenpai/tenpai/core/Form"), (.object "com/example/tenpai/tenpai/core/Form"), (.object "com/example/tenpai/tenpai/core/Form"), (.array .int), (.array (.object "com/example/tenpai/tenpai/core/Form"))]
  resolved := Array.replicate 162 none
  statics := some 0 }

def pool7 : Array CpInfo := pool [(1, u "java/lang/Cloneable"), (0, .class_ 1), (0, u "java/lang/Object"), (0, .class_ 3)] 3

/-- java/lang/Cloneable -/
def k7 : Class := { plain "java/lang/Cloneable" (some 0) with
  accessFlags := 1537
  interfaces := #[]
  cf := some (fileOf pool7 2 #[] #[] 1537 4 #[] #[])
  fields := #[]
  methods := #[]
  instanceTypes := #[]
  staticTypes := #[]
  resolved := Array.replicate 8 none
  statics := none }

/-- the primitive byte -/
def k8 : Class := { plain "byte" none with kind := .primitive 'B', accessFlags := 0x411 }
/-- [B -/
def k9 : Class := { plain "[B" (some 0) with kind := .array 8 .byte, interfaces := #[7, 4], accessFlags := 1041 }

/-- the primitive int -/
def k10 : Class := { plain "int" none with kind := .primitive 'I', accessFlags := 0x411 }
/-- [I -/
def k11 : Class := { plain "[I" (some 0) with kind := .array 10 .int, interfaces := #[7, 4], accessFlags := 1041 }

def heap : Heap := #[{ cls := 6, slots := #[.ref 1, .ref 2, .ref 4, .ref 3, .null, .null], vm := .statics 6 },
  { cls := 6, slots := #[.null, .int 0, .int 0, .int 0, .null], vm := .none },
  { cls := 6, slots := #[.null, .int 0, .int 0, .int 14, .null], vm := .none },
  { cls := 6, slots := #[.null, .int 0, .int 0, .int 14, .null], vm := .none },
  { cls := 6, slots := #[.null, .int 0, .int 0, .int 14, .null], vm := .none }]
def classes : Array Class := #[k0, k1, k2, k3, k4, k5, k6, k7, k8, k9, k10, k11]
def interned : List (Array UInt16 × Addr) := []
def slotsUsed : Nat := 26
def theMethod : MethodId := ⟨1, 2⟩
def args0 : Array Value := #[.int 5, .int 4, .int 1]
def aboutOver (below : List Frame) : State where
  vm := { classes := classes, interned := interned.toArray }
  heap := heap
  slotsUsed := slotsUsed
  threads := #[{ frames := .invoking theMethod args0 :: below }]
def below0 : List Frame := [.native { method := ⟨0, 0⟩, args := #[] }]
def about1 : State := aboutOver below0
def p0 : Program := .bare "" "" ""
def e0 : Env := launch0.env 0 0 0
theorem w_frames : about1.frames = Frame.invoking theMethod args0 :: below0 := rfl
set_option maxRecDepth 65536 in
theorem w_args : argsFit about1.vm theMethod args0 = true := by decide +kernel
set_option maxRecDepth 65536 in
theorem w_heap : heapFits about1 = true := by decide +kernel
set_option maxRecDepth 65536 in
theorem w_runnable : about1.curStatus? = some .runnable := by decide +kernel
set_option maxRecDepth 65536 in
theorem w_alone : about1.alone = true := by decide +kernel
set_option maxRecDepth 65536 in
theorem w_named : about1.methodNamed? x = some theMethod := by decide +kernel
set_option maxRecDepth 65536 in
theorem w_hears : about1.hears theMethod below0 = true := by decide +kernel
set_option maxRecDepth 65536 in
theorem w_ripe : about1.ripe theMethod args0 below0 = true := by decide +kernel
theorem w_running : about1.status = .running := rfl
set_option maxRecDepth 65536 in
theorem w_room : about1.hasRoom e0.platform room_1 = true :=
  launch0.hasRoom_least _ room_1 (by decide +kernel) (by decide +kernel) (by decide +kernel) (by decide +kernel) (by decide +kernel) (by decide +kernel)
theorem allAtoms_all (ts : List Jvm.Cond) (a : Array Jvm.Value) (st : Jvm.State) : (allAtoms ts).before a st = ts.all (fun c => c.before a st) := by
  induction ts with
  | nil => rfl
  | cons c t ih =>
    show (Jvm.Cond.and c (allAtoms t)).before a st = _
    rw [Jvm.Cond.before_and, ih, List.all_cons]
def words1 : List Jvm.Cond := Jvm.Cond.code x code maxLocals ret :: tables_1
/-- a 'code' word, met by the world's own term for the bytes: nothing is compared byte by byte -/
theorem code_word {y : MethodName} {bytes : ByteArray} {mx : Nat} {rt : Option FieldType} {a : Array Value} {s : State} {m : MethodId} {meth : Method} {c : Code} (h1 : s.methodNamed? y = some m) (h2 : s.vm.method? m = some meth) (h3 : meth.code = some c) (h4 : c.code = bytes)
    (h5 : (c.maxLocals == mx && c.exceptionTable.isEmpty && decide (c.maxStack ≤ mostOperands) && decide (meth.sig.returnType = rt) && !meth.locks && decide (parseMethodDescriptor y.desc = some meth.sig)) = true) : (Jvm.Cond.code y bytes mx rt).before a s = true := by
  simp only [Bool.and_eq_true, beq_iff_eq, Bool.not_eq_true', decide_eq_true_eq] at h5
  obtain ⟨⟨⟨⟨⟨g1, g2⟩, g3⟩, g4⟩, g5⟩, g6⟩ := h5
  simp [Cond.before, Cond.holds, Cond.value, h1, h2, h3, h4, g1, g2, g3, g4, g5, g6]
def isCode : Jvm.Cond → Bool
  | .code _ _ _ _ => true
  | _ => false
theorem all_split {L : List Jvm.Cond} {P : Jvm.Cond → Bool} (h1 : L.all (fun c => isCode c || P c) = true) (h2 : ∀ c ∈ L.filter isCode, P c = true) : L.all P = true := by
  refine List.all_eq_true.mpr fun c hc => ?_
  have h := List.all_eq_true.mp h1 c hc
  rcases Bool.eq_false_or_eq_true (isCode c) with hi | hi
  · exact h2 c (List.mem_filter.mpr ⟨hc, hi⟩)
  · simpa [hi] using h
set_option maxRecDepth 65536 in
theorem w_c0 : (Jvm.Cond.code x code maxLocals ret).before args0 about1 = true := code_word (m := ⟨1, 2⟩) (meth := k1m2) (c := k1c2) (by decide +kernel) rfl rfl rfl (by decide +kernel)
set_option maxRecDepth 65536 in
theorem w_c1 : (Jvm.Cond.code ({ cls := "com/example/tenpai/tenpai/core/FormFitsPinLaw", name := "form", desc := "(I)Lcom/example/tenpai/tenpai/core/Form;" } : Jvm.MethodName) method_2_code (1 : Nat) (Option.some (Jvm.ClassFile.FieldType.object "com/example/tenpai/tenpai/core/Form"))).before args0 about1 = true := code_word (m := ⟨1, 1⟩) (meth := k1m1) (c := k1c1) (by decide +kernel) rfl rfl rfl (by decide +kernel)
set_option maxRecDepth 65536 in
theorem w_c2 : (Jvm.Cond.code ({ cls := "com/example/tenpai/tenpai/core/Form", name := "fits", desc := "(I)Z" } : Jvm.MethodName) prog_21_method_4_code (2 : Nat) (Option.some Jvm.ClassFile.FieldType.boolean)).before args0 about1 = true := code_word (m := ⟨6, 0⟩) (meth := k6m0) (c := k6c0) (by decide +kernel) rfl rfl rfl (by decide +kernel)
def codes1 : List Jvm.Cond := [Jvm.Cond.code x code maxLocals ret, Jvm.Cond.code ({ cls := "com/example/tenpai/tenpai/core/FormFitsPinLaw", name := "form", desc := "(I)Lcom/example/tenpai/tenpai/core/Form;" } : Jvm.MethodName) method_2_code (1 : Nat) (Option.some (Jvm.ClassFile.FieldType.object "com/example/tenpai/tenpai/core/Form")), Jvm.Cond.code ({ cls := "com/example/tenpai/tenpai/core/Form", name := "fits", desc := "(I)Z" } : Jvm.MethodName) prog_21_method_4_code (2 : Nat) (Option.some Jvm.ClassFile.FieldType.boolean)]
set_option maxRecDepth 65536 in
theorem codes_eq : words1.filter isCode = codes1 := rfl
theorem w_codes : ∀ c ∈ words1.filter isCode, c.before args0 about1 = true := by
  rw [codes_eq]
  intro c hc
  simp only [codes1, List.mem_cons, List.not_mem_nil, or_false] at hc
  rcases hc with rfl | rfl | rfl
  · exact w_c0
  · exact w_c1
  · exact w_c2
set_option maxRecDepth 65536 in
theorem w_t1 : words1.all (fun c => isCode c || c.before args0 about1) = true := by decide +kernel
theorem w_tables : (allAtoms (Jvm.Cond.code x code maxLocals ret :: tables_1)).before args0 about1 = true := by
  rw [allAtoms_all]
  show words1.all (fun c => c.before args0 about1) = true
  refine all_split ?_ w_codes
  rw [w_t1]
set_option maxRecDepth 65536 in
theorem w_case : (Jvm.Cond.and given_1 narrow_1).before args0 about1 = true := by decide +kernel
theorem w_applies : (headSpec (Jvm.Cond.code x code maxLocals ret :: tables_1) room_1).applies x e0.platform about1 = true :=
  (Spec.applies_iff w_frames).mpr ⟨w_running, w_runnable, w_alone, w_named, w_hears, w_ripe, w_room, w_tables⟩
theorem atStart : AtStart classFile x code maxLocals ret World_1 tables_1 room_1 Calls_1 rest_1 Pre_1 launch0 p0 e0 about1 theMethod args0 below0 :=
  ⟨lists_1, trivial, launch0.admits_env _ _ _, launch0.least_env, fairChoices_fair.cas, fairChoices_fair.clock, w_frames, w_args, w_heap, w_applies, trivial, trivial, w_case⟩
end start1
theorem witness_1 : WitnessClaimed_1 := ⟨start1.p0, start1.e0, start1.about1, start1.theMethod, start1.args0, start1.below0, start1.atStart⟩
end Jvm.Pilot.@@N@@
