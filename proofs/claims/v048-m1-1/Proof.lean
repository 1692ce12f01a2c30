import JvmDerived
import JvmDerived.Pilot.@@N@@Statement
import JvmDerived.Pilot.@@N@@Code
set_option linter.unusedVariables false
set_option linter.unusedSimpArgs false
namespace Jvm.RoadKit
open Sem ClassFile Op Lib Jvm.Stand Jvm.Free Jvm.LawKit
section New
variable {p : Program} {l : Launch} {e : Env} {R : Room} {s : State} {m : MethodId} {args : Array Value} {below : List Frame} {meth : Method} {c : Code} {T : State} {locs : List Loc} {cells slots : Nat}
theorem retI (X : Stand p l e R s m args below meth c T locs cells slots) (hx : p.tables.exec = Jvm.exec) {pc : Nat} {Ls : Array Slot} {z : Int32} {rest : List Value} (hret : meth.sig.returnType = some .int) (hd : decode c.code pc = .ok (.ireturn, 1)) {fs : List Frame}
    (hl : ∀ (f : JFrame) (acts : List Action), f.method = m → f.locked = none → f.entered = [] → (doReturn e (T.setTop f) acts (some (.int z))).1 = T.setFrames fs) : Steps p.tables e below (T.setTop (mkF m pc Ls (.int z :: rest))) (T.setFrames fs) :=
  retOut X hx hret rfl (Or.inl ⟨rfl, Or.inl rfl, z, rfl⟩) hd hl
end New
end Jvm.RoadKit
namespace Jvm.Pilot.@@N@@
open Jvm Jvm.ClassFile Sem Op Lib Jvm.Free Jvm.Stand Jvm.LawKit Jvm.RoadKit Bundle Jvm.Pilot.@@N@@.Jvm.D
theorem ow {d : Jvm.Cond} (i : Nat) (h : tables_1[i]? = some d) : d ∈ tables_1 := List.mem_of_getElem? h
/-- what a body that only reads leaves: its answer, nothing written, the heap as it was -/
def own_Q (r : Option Value) (h0 : Heap) (n0 : Nat) (v : Option Value) (h : Heap) (L : List Loc) : Prop := v = r ∧ Fr n0 L ∧ h = h0
section OwnWords
variable {args : Array Value} {first s : State} {o : Option Outcome} {idx : List Nat} {a b : Term}
theorem own_eqI {k : Int32} (h : (Jvm.Cond.eq a (.int k)).value args first o s idx = some true) : a.eval args first o idx s = some (.int k) := by
  obtain ⟨x, y, hx, hy, k1, -⟩ := cmp_v (r := true) (Or.inl h)
  have hy' : y = .int k := (Option.some.inj hy).symm
  subst hy'
  cases x <;> simp [Kin, Value.isRef] at k1
  simp [Jvm.Cond.value, hx, Term.eval] at h
  rw [hx, h]
theorem own_eqR {y : Addr} (h : (Jvm.Cond.eq a b).value args first o s idx = some true) (hb : b.eval args first o idx s = some (.ref y)) : a.eval args first o idx s = some (.ref y) := by
  obtain ⟨x, z, hx, hy, k1, -⟩ := cmp_v (r := true) (Or.inl h)
  cases hb.symm.trans hy
  cases x <;> simp [Kin, Value.isRef] at k1
  · simp [Jvm.Cond.value, hx, hb] at h
  · simp [Jvm.Cond.value, hx, hb] at h
    rw [hx, h]
theorem own_len {y : Addr} {c : Cell} {n : Int32} (h : (Term.length a).eval args first o idx s = some (.int n)) (ht : a.eval args first o idx s = some (.ref y)) (hc : s.heap[y]? = some c) : (c.slots.size : Int) = n.toInt := by
  simp only [Term.eval, Option.bind_eq_bind, ht, Option.bind_some] at h
  obtain ⟨cell, hcell, h⟩ := Option.bind_eq_some_iff.mp h
  cases hc.symm.trans (State.arrayAt?_spec hcell).1
  by_cases hn : c.slots.size < 2147483648
  · rw [if_pos hn] at h; cases h; exact (len_toInt hn).symm
  · rw [if_neg hn] at h; cases h
end OwnWords
/-- an array that stands in the heap, with all that lies in it -/
def own_Arr (Z : State) (h : Heap) (a : Addr) (ty : FieldType) (vs : List Value) : Prop := ∃ c : Cell, Arr Z h a c ty ∧ c.slots = vs.toArray
/-- what a law leaves that makes arrays of its own -/
def own_QH (r : Option Value) (n0 : Nat) (v : Option Value) (h : Heap) (L : List Loc) : Prop := v = r ∧ Fr n0 L ∧ True
/-- the same of an array whose class is known -/
def own_ArrK (Z : State) (h : Heap) (a : Addr) (k : ClassId) (ty : FieldType) (vs : List Value) : Prop := ∃ c : Cell, Arr Z h a c ty ∧ c.cls = k ∧ c.slots = vs.toArray
section OwnArr
variable {Z : State} {h0 h h' : Heap} {a b : Addr} {k : ClassId} {ty : FieldType} {vs : List Value} {v : Value} {sl : Nat} {c : Cell}
theorem own_Arr.ext (F : own_Arr Z h a ty vs) (E : Ext h h') : own_Arr Z h' a ty vs := by obtain ⟨c, A, r⟩ := F; exact ⟨c, A.ext E, r⟩
theorem own_ArrK.lt (F : own_ArrK Z h a k ty vs) : a < h.size := by obtain ⟨c, A, -⟩ := F; exact A.lt
theorem own_ArrK.ext (F : own_ArrK Z h a k ty vs) (E : Ext h h') : own_ArrK Z h' a k ty vs := by obtain ⟨c, A, r⟩ := F; exact ⟨c, A.ext E, r⟩
theorem own_ArrK.other (F : own_ArrK Z h b k ty vs) (W : Wr h h' a sl v) (q : b ≠ a) : own_ArrK Z h' b k ty vs := by obtain ⟨c, A, r⟩ := F; exact ⟨c, A.other W q, r⟩
theorem own_set (W : Wr h h' a sl v) (A : Arr Z h a c ty) (q : c.cls = k) (e : c.slots = vs.toArray) : own_ArrK Z h' a k ty (vs.set sl v) := ⟨_, A.same W, q, by simp [Cell.setSlot, e]⟩
theorem own_inb {j : Int32} (n : Nat) (e : c.slots = vs.toArray) (hl : vs.length = n) (h0 : ¬ j < 0) (h1 : j.toNatClampNeg < n) : ¬ (j < 0 ∨ c.slots.size ≤ j.toNatClampNeg) := by
  rw [e]
  rintro (h | h)
  · exact h0 h
  · simp at h; omega
theorem own_get {j : Int32} (e : c.slots = vs.toArray) (hj : ¬ j < 0) (q : vs[j.toNatClampNeg]? = some v) : (¬ (j < 0 ∨ c.slots.size ≤ j.toNatClampNeg)) ∧ c.slots[j.toNatClampNeg]? = some v := by
  have hl := (List.getElem?_eq_some_iff.mp q).1
  rw [e]
  refine ⟨?_, by simpa using q⟩
  rintro (h | h)
  · exact hj h
  · simp at h; omega
theorem own_ext_trans {h'' : Heap} (E : Ext h h') (E' : Ext h' h'') : Ext h h'' := ⟨Nat.le_trans E.1 E'.1, fun x y q => E'.2 x y (E.2 x y q)⟩
theorem own_ext_wr (E : Ext h0 h) (W : Wr h h' a sl v) (q : h0.size ≤ a) : Ext h0 h' := by
  refine ⟨Nat.le_trans E.1 (Nat.le_of_eq W.size.symm), fun x y hx => ?_⟩
  have hlt := (Array.getElem?_eq_some_iff.mp hx).1
  obtain ⟨c', e1, -, -, -, e5, -⟩ := wr_at W (E.2 x y hx)
  rw [← e5 (Nat.ne_of_lt (Nat.lt_of_lt_of_le hlt q))]; exact e1
theorem own_ext_keep (E : Ext h0 h) (K : Keep h h' [a]) (q : h0.size ≤ a) : Ext h0 h' := ⟨Nat.le_trans E.1 K.1, fun x y hx => K.2.1 x y (E.2 x y hx) (ninS (Nat.ne_of_lt (Nat.lt_of_lt_of_le (Array.getElem?_eq_some_iff.mp hx).1 q)) nin0)⟩
end OwnArr
theorem own_ext_w_ALL {S : Array Value} {v0 v1 v2 v3 : Value} (hn : (S.size : Int) = 4) (h0 : S[0]? = some v0) (h1 : S[1]? = some v1) (h2 : S[2]? = some v2) (h3 : S[3]? = some v3) : S = #[v0, v1, v2, v3] := by
  refine Array.ext_getElem? fun i => ?_
  match i with
  | 0 => exact h0
  | 1 => exact h1
  | 2 => exact h2
  | 3 => exact h3
  | k + 4 => rw [Array.getElem?_eq_none (by omega), Array.getElem?_eq_none (by simp)]
def own_K (Z : State) (h : Heap) (w_ALL w_CHARACTERS w_DOTS w_BAMBOO w_HONOURS : Addr) : Prop := Sta Z h "com/example/tenpai/tenpai/core/Suit" "ALL" "[Lcom/example/tenpai/tenpai/core/Suit;" (.ref w_ALL) ∧ Sta Z h "com/example/tenpai/tenpai/core/Suit" "CHARACTERS" "Lcom/example/tenpai/tenpai/core/Suit;" (.ref w_CHARACTERS) ∧ Exa Z h w_CHARACTERS "com/example/tenpai/tenpai/core/Suit" ∧ Fld Z h w_CHARACTERS "com/example/tenpai/tenpai/core/Suit" "_letter" "C" (.int (109 : Int32)) ∧ Sta Z h "com/example/tenpai/tenpai/core/Suit" "DOTS" "Lcom/example/tenpai/tenpai/core/Suit;" (.ref w_DOTS) ∧ Exa Z h w_DOTS "com/example/tenpai/tenpai/core/Suit" ∧ Fld Z h w_DOTS "com/example/tenpai/tenpai/core/Suit" "_letter" "C" (.int (112 : Int32)) ∧ Sta Z h "com/example/tenpai/tenpai/core/Suit" "BAMBOO" "Lcom/example/tenpai/tenpai/core/Suit;" (.ref w_BAMBOO) ∧ Exa Z h w_BAMBOO "com/example/tenpai/tenpai/core/Suit" ∧ Fld Z h w_BAMBOO "com/example/tenpai/tenpai/core/Suit" "_letter" "C" (.int (115 : Int32)) ∧ Sta Z h "com/example/tenpai/tenpai/core/Suit" "HONOURS" "Lcom/example/tenpai/tenpai/core/Suit;" (.ref w_HONOURS) ∧ Exa Z h w_HONOURS "com/example/tenpai/tenpai/core/Suit" ∧ Fld Z h w_HONOURS "com/example/tenpai/tenpai/core/Suit" "_letter" "C" (.int (122 : Int32)) ∧ own_Arr Z h w_ALL (.object "com/example/tenpai/tenpai/core/Suit") [(.ref w_CHARACTERS), (.ref w_DOTS), (.ref w_BAMBOO), (.ref w_HONOURS)]
theorem d_method_2_0 : decode method_2_code 0 = .ok (.iload_n 0, 1) := by decide +kernel
theorem d_method_2_1 : decode method_2_code 1 = .ok (.ifCond .ne 6, 3) := by decide +kernel
theorem d_method_2_4 : decode method_2_code 4 = .ok (.bipush 109, 2) := by decide +kernel
theorem d_method_2_6 : decode method_2_code 6 = .ok (.ireturn, 1) := by decide +kernel
theorem d_method_2_7 : decode method_2_code 7 = .ok (.iload_n 0, 1) := by decide +kernel
theorem d_method_2_8 : decode method_2_code 8 = .ok (.iconst 1, 1) := by decide +kernel
theorem d_method_2_9 : decode method_2_code 9 = .ok (.if_icmp .ne 6, 3) := by decide +kernel
theorem d_method_2_12 : decode method_2_code 12 = .ok (.bipush 112, 2) := by decide +kernel
theorem d_method_2_14 : decode method_2_code 14 = .ok (.ireturn, 1) := by decide +kernel
theorem d_method_2_15 : decode method_2_code 15 = .ok (.iload_n 0, 1) := by decide +kernel
theorem d_method_2_16 : decode method_2_code 16 = .ok (.iconst 2, 1) := by decide +kernel
theorem d_method_2_17 : decode method_2_code 17 = .ok (.if_icmp .ne 6, 3) := by decide +kernel
theorem d_method_2_20 : decode method_2_code 20 = .ok (.bipush 115, 2) := by decide +kernel
theorem d_method_2_22 : decode method_2_code 22 = .ok (.ireturn, 1) := by decide +kernel
theorem d_method_2_23 : decode method_2_code 23 = .ok (.bipush 122, 2) := by decide +kernel
theorem d_method_2_25 : decode method_2_code 25 = .ok (.ireturn, 1) := by decide +kernel
theorem pn_0 : plainName "com/example/tenpai/tenpai/core/SuitOfPinLaw" = true := by first | (simp [plainName, overriddenIn]; done) | decide +kernel
theorem ef_pick (m : MethodId) (x0 : Int32) : entryFrame m #[(.int x0)] 1 = mkF m 0 #[.val (.int x0)] [] := by first | (simp [entryFrame, mkF, argsToLocals, Value.category]; done) | rfl
set_option maxRecDepth 65536 in
set_option maxHeartbeats 40000000 in
theorem rm_pick (l : Launch) (Z : State) (a0 : Array Value) (hw : ∀ d ∈ tables_1, d.before a0 Z = true) (ws : List Jvm.Cond) (p0 : Int32) (h0 : Heap) (n0 : Nat) (w_ALL w_CHARACTERS w_DOTS w_BAMBOO w_HONOURS : Addr) (hK : own_K Z h0 w_ALL w_CHARACTERS w_DOTS w_BAMBOO w_HONOURS) :
    MetFree l (⟨"com/example/tenpai/tenpai/core/SuitOfPinLaw", "pick", "(I)C"⟩ : MethodName) (head1 (Jvm.Cond.code (⟨"com/example/tenpai/tenpai/core/SuitOfPinLaw", "pick", "(I)C"⟩ : MethodName) method_2_code 1 (some .char) :: ws) ({ frames := 0, cells := 0, slots := 0, locals := 0 } : Room)) (fun a U => a = #[(.int p0)] ∧ Z.Warmed39 U.vm ∧ U.heap = h0) (fun _ _ _ _ _ => True) (fun _ U o U' => ∃ v L, o = .returned v ∧ own_Q (some (.int (if p0 = (0 : Int32) then (109 : Int32) else (if p0 = (1 : Int32) then (112 : Int32) else (if p0 = (2 : Int32) then (115 : Int32) else (122 : Int32)))))) h0 n0 v U'.heap L ∧ FrameEnd U o U' L ({ frames := 0, cells := 0, slots := 0, locals := 0 } : Room).cells ({ frames := 0, cells := 0, slots := 0, locals := 0 } : Room).slots) := by
  refine MetFree.of_bodySF (plainFor_of_name pn_0) hisR ?_
  intro p e s m args below meth c s₁ Bd hml0 hP hK0
  obtain ⟨rfl, hZ, hh⟩ := hP
  have hx := Bd.exec
  have hby := Bd.bytes
  have hml : c.maxLocals = 1 := hml0
  have hown : s.vm.findClass "com/example/tenpai/tenpai/core/SuitOfPinLaw" = some m.cls := findClass_of_methodNamed Bd.named
  have hnm := (name_of_methodNamed Bd.named Bd.method).1
  have X0 : Stand p l e ({ frames := 0, cells := 0, slots := 0, locals := 0 } : Room) s m #[(.int p0)] below meth c s₁ [] 0 0 := Stand.of_body Bd
  have e0 : s₁.heap = h0 := by rw [← hh, Bd.state]; rfl
  have N0 := Fr.nil n0
  have pre0 : ∀ t, Steps p.tables e below (s₁.setTop (mkF m 0 #[.val (.int p0)] [])) t → Steps p.tables e below (s₁.setTop (entryFrame m #[(.int p0)] 1)) t := fun t k => castTop (ef_pick m p0) k
  have hK' := hK
  obtain ⟨S_w_ALL, S_w_CHARACTERS, E_w_CHARACTERS, F__letter_w_CHARACTERS, S_w_DOTS, E_w_DOTS, F__letter_w_DOTS, S_w_BAMBOO, E_w_BAMBOO, F__letter_w_BAMBOO, S_w_HONOURS, E_w_HONOURS, F__letter_w_HONOURS, B_w_ALL⟩ := hK'
  obtain ⟨cl_w_ALL, A_w_ALL, q_w_ALL⟩ := B_w_ALL
  have pre2 : ∀ t, Steps p.tables e below (s₁.setTop (mkF m 1 #[.val (.int p0)] [(.int p0)])) t → Steps p.tables e below (s₁.setTop (entryFrame m #[(.int p0)] 1)) t := fun t k => pre0 t (by
    show Steps p.tables e below (s₁.setTop (mkF m 0 #[.val (.int p0)] [])) _
    refine XS.iloadN X0.here hx rfl (hb hby d_method_2_0) rfl ?_
    exact k)
  by_cases hc1_1 : p0 = (0 : Int32)
  · have pre3 : ∀ t, Steps p.tables e below (s₁.setTop (mkF m 6 #[.val (.int p0)] [(.int (109 : Int32))])) t → Steps p.tables e below (s₁.setTop (entryFrame m #[(.int p0)] 1)) t := fun t k => pre2 t (by
      show Steps p.tables e below (s₁.setTop (mkF m 1 #[.val (.int p0)] [(.int p0)])) _
      refine XS.ifNo X0.here hx rfl (hb hby d_method_2_1) rfl ((if0 _ _).trans (teq hc1_1).2) ?_
      show Steps p.tables e below (s₁.setTop (mkF m 4 #[.val (.int p0)] [])) _
      refine XS.bipush X0.here hx rfl (hb hby d_method_2_4) ?_
      exact k)
    obtain ⟨fs, hr, hrun, hended, hW, hsame⟩ := X0.leave (v := some (.int (109 : Int32))) (fun h => by rw [Bd.returns] at h; cases h)
    refine ⟨_, _, pre3 _ ?_, hrun, hended, _, _, rfl, ?_, ⟨_, rfl⟩, hW, hsame.mono (by decide) (by decide)⟩
    · show Steps p.tables e below (s₁.setTop (mkF m 6 #[.val (.int p0)] [(.int (109 : Int32))])) _
      exact retN X0 hx (t := .char) Bd.returns (by simp) (hb hby d_method_2_6) hr
    · exact ⟨congrArg (fun z => some (Value.int z)) (Eq.symm (if_pos hc1_1)), N0, e0⟩
  · have pre5 : ∀ t, Steps p.tables e below (s₁.setTop (mkF m 9 #[.val (.int p0)] [(.int (1 : Int32)), (.int p0)])) t → Steps p.tables e below (s₁.setTop (entryFrame m #[(.int p0)] 1)) t := fun t k => pre2 t (by
      show Steps p.tables e below (s₁.setTop (mkF m 1 #[.val (.int p0)] [(.int p0)])) _
      refine XS.ifYes X0.here hx rfl (pc0 := 1) (pc' := 7) rfl (hb hby d_method_2_1) rfl ((if0 _ _).trans (feq hc1_1).2) (by decide) (by decide) ?_
      show Steps p.tables e below (s₁.setTop (mkF m 7 #[.val (.int p0)] [])) _
      refine XS.iloadN X0.here hx rfl (hb hby d_method_2_7) rfl ?_
      show Steps p.tables e below (s₁.setTop (mkF m 8 #[.val (.int p0)] [(.int p0)])) _
      refine XS.iconst X0.here hx rfl (hb hby d_method_2_8) ?_
      exact k)
    by_cases hc9_4 : p0 = (1 : Int32)
    · have pre6 : ∀ t, Steps p.tables e below (s₁.setTop (mkF m 14 #[.val (.int p0)] [(.int (112 : Int32))])) t → Steps p.tables e below (s₁.setTop (entryFrame m #[(.int p0)] 1)) t := fun t k => pre5 t (by
        show Steps p.tables e below (s₁.setTop (mkF m 9 #[.val (.int p0)] [(.int (1 : Int32)), (.int p0)])) _
        refine XS.icmpNo X0.here hx rfl (hb hby d_method_2_9) rfl (teq hc9_4).2 ?_
        show Steps p.tables e below (s₁.setTop (mkF m 12 #[.val (.int p0)] [])) _
        refine XS.bipush X0.here hx rfl (hb hby d_method_2_12) ?_
        exact k)
      obtain ⟨fs, hr, hrun, hended, hW, hsame⟩ := X0.leave (v := some (.int (112 : Int32))) (fun h => by rw [Bd.returns] at h; cases h)
      refine ⟨_, _, pre6 _ ?_, hrun, hended, _, _, rfl, ?_, ⟨_, rfl⟩, hW, hsame.mono (by decide) (by decide)⟩
      · show Steps p.tables e below (s₁.setTop (mkF m 14 #[.val (.int p0)] [(.int (112 : Int32))])) _
        exact retN X0 hx (t := .char) Bd.returns (by simp) (hb hby d_method_2_14) hr
      · exact ⟨congrArg (fun z => some (Value.int z)) (Eq.symm ((if_neg hc1_1).trans (if_pos hc9_4))), N0, e0⟩
    · have pre8 : ∀ t, Steps p.tables e below (s₁.setTop (mkF m 17 #[.val (.int p0)] [(.int (2 : Int32)), (.int p0)])) t → Steps p.tables e below (s₁.setTop (entryFrame m #[(.int p0)] 1)) t := fun t k => pre5 t (by
        show Steps p.tables e below (s₁.setTop (mkF m 9 #[.val (.int p0)] [(.int (1 : Int32)), (.int p0)])) _
        refine XS.icmpYes X0.here hx rfl (pc0 := 9) (pc' := 15) rfl (hb hby d_method_2_9) rfl (feq hc9_4).2 (by decide) (by decide) ?_
        show Steps p.tables e below (s₁.setTop (mkF m 15 #[.val (.int p0)] [])) _
        refine XS.iloadN X0.here hx rfl (hb hby d_method_2_15) rfl ?_
        show Steps p.tables e below (s₁.setTop (mkF m 16 #[.val (.int p0)] [(.int p0)])) _
        refine XS.iconst X0.here hx rfl (hb hby d_method_2_16) ?_
        exact k)
      by_cases hc17_7 : p0 = (2 : Int32)
      · have pre9 : ∀ t, Steps p.tables e below (s₁.setTop (mkF m 22 #[.val (.int p0)] [(.int (115 : Int32))])) t → Steps p.tables e below (s₁.setTop (entryFrame m #[(.int p0)] 1)) t := fun t k => pre8 t (by
          show Steps p.tables e below (s₁.setTop (mkF m 17 #[.val (.int p0)] [(.int (2 : Int32)), (.int p0)])) _
          refine XS.icmpNo X0.here hx rfl (hb hby d_method_2_17) rfl (teq hc17_7).2 ?_
          show Steps p.tables e below (s₁.setTop (mkF m 20 #[.val (.int p0)] [])) _
          refine XS.bipush X0.here hx rfl (hb hby d_method_2_20) ?_
          exact k)
        obtain ⟨fs, hr, hrun, hended, hW, hsame⟩ := X0.leave (v := some (.int (115 : Int32))) (fun h => by rw [Bd.returns] at h; cases h)
        refine ⟨_, _, pre9 _ ?_, hrun, hended, _, _, rfl, ?_, ⟨_, rfl⟩, hW, hsame.mono (by decide) (by decide)⟩
        · show Steps p.tables e below (s₁.setTop (mkF m 22 #[.val (.int p0)] [(.int (115 : Int32))])) _
          exact retN X0 hx (t := .char) Bd.returns (by simp) (hb hby d_method_2_22) hr
        · exact ⟨congrArg (fun z => some (Value.int z)) (Eq.symm ((if_neg hc1_1).trans ((if_neg hc9_4).trans (if_pos hc17_7)))), N0, e0⟩
      · have pre10 : ∀ t, Steps p.tables e below (s₁.setTop (mkF m 25 #[.val (.int p0)] [(.int (122 : Int32))])) t → Steps p.tables e below (s₁.setTop (entryFrame m #[(.int p0)] 1)) t := fun t k => pre8 t (by
          show Steps p.tables e below (s₁.setTop (mkF m 17 #[.val (.int p0)] [(.int (2 : Int32)), (.int p0)])) _
          refine XS.icmpYes X0.here hx rfl (pc0 := 17) (pc' := 23) rfl (hb hby d_method_2_17) rfl (feq hc17_7).2 (by decide) (by decide) ?_
          show Steps p.tables e below (s₁.setTop (mkF m 23 #[.val (.int p0)] [])) _
          refine XS.bipush X0.here hx rfl (hb hby d_method_2_23) ?_
          exact k)
        obtain ⟨fs, hr, hrun, hended, hW, hsame⟩ := X0.leave (v := some (.int (122 : Int32))) (fun h => by rw [Bd.returns] at h; cases h)
        refine ⟨_, _, pre10 _ ?_, hrun, hended, _, _, rfl, ?_, ⟨_, rfl⟩, hW, hsame.mono (by decide) (by decide)⟩
        · show Steps p.tables e below (s₁.setTop (mkF m 25 #[.val (.int p0)] [(.int (122 : Int32))])) _
          exact retN X0 hx (t := .char) Bd.returns (by simp) (hb hby d_method_2_25) hr
        · exact ⟨congrArg (fun z => some (Value.int z)) (Eq.symm ((if_neg hc1_1).trans ((if_neg hc9_4).trans (if_neg hc17_7)))), N0, e0⟩
theorem d_prog_25_method_4_0 : decode prog_25_method_4_code 0 = .ok (.getstatic 47, 3) := by decide +kernel
theorem d_prog_25_method_4_3 : decode prog_25_method_4_code 3 = .ok (.astore_n 1, 1) := by decide +kernel
theorem d_prog_25_method_4_4 : decode prog_25_method_4_code 4 = .ok (.aload_n 1, 1) := by decide +kernel
theorem d_prog_25_method_4_5 : decode prog_25_method_4_code 5 = .ok (.arraylength, 1) := by decide +kernel
theorem d_prog_25_method_4_6 : decode prog_25_method_4_code 6 = .ok (.istore_n 2, 1) := by decide +kernel
theorem d_prog_25_method_4_7 : decode prog_25_method_4_code 7 = .ok (.iconst 0, 1) := by decide +kernel
theorem d_prog_25_method_4_8 : decode prog_25_method_4_code 8 = .ok (.istore_n 3, 1) := by decide +kernel
theorem d_prog_25_method_4_9 : decode prog_25_method_4_code 9 = .ok (.iload_n 3, 1) := by decide +kernel
theorem d_prog_25_method_4_10 : decode prog_25_method_4_code 10 = .ok (.iload_n 2, 1) := by decide +kernel
theorem d_prog_25_method_4_11 : decode prog_25_method_4_code 11 = .ok (.if_icmp .ge 26, 3) := by decide +kernel
theorem d_prog_25_method_4_14 : decode prog_25_method_4_code 14 = .ok (.aload_n 1, 1) := by decide +kernel
theorem d_prog_25_method_4_15 : decode prog_25_method_4_code 15 = .ok (.iload_n 3, 1) := by decide +kernel
theorem d_prog_25_method_4_16 : decode prog_25_method_4_code 16 = .ok (.aaload, 1) := by decide +kernel
theorem d_prog_25_method_4_17 : decode prog_25_method_4_code 17 = .ok (.astore 4, 2) := by decide +kernel
theorem d_prog_25_method_4_19 : decode prog_25_method_4_code 19 = .ok (.aload 4, 2) := by decide +kernel
theorem d_prog_25_method_4_21 : decode prog_25_method_4_code 21 = .ok (.getfield 35, 3) := by decide +kernel
theorem d_prog_25_method_4_24 : decode prog_25_method_4_code 24 = .ok (.iload_n 0, 1) := by decide +kernel
theorem d_prog_25_method_4_25 : decode prog_25_method_4_code 25 = .ok (.if_icmp .ne 6, 3) := by decide +kernel
theorem d_prog_25_method_4_28 : decode prog_25_method_4_code 28 = .ok (.aload 4, 2) := by decide +kernel
theorem d_prog_25_method_4_30 : decode prog_25_method_4_code 30 = .ok (.areturn, 1) := by decide +kernel
theorem d_prog_25_method_4_31 : decode prog_25_method_4_code 31 = .ok (.iinc 3 1, 3) := by decide +kernel
theorem d_prog_25_method_4_34 : decode prog_25_method_4_code 34 = .ok (.goto (-25), 3) := by decide +kernel
theorem d_prog_25_method_4_37 : decode prog_25_method_4_code 37 = .ok (.aconst_null, 1) := by decide +kernel
theorem d_prog_25_method_4_38 : decode prog_25_method_4_code 38 = .ok (.areturn, 1) := by decide +kernel
theorem pn_1 : plainName "com/example/tenpai/tenpai/core/Suit" = true := by first | (simp [plainName, overriddenIn]; done) | decide +kernel
theorem ef_of (m : MethodId) (x0 : Int32) : entryFrame m #[(.int x0)] 5 = mkF m 0 #[.val (.int x0), .unset, .unset, .unset, .unset] [] := by first | (simp [entryFrame, mkF, argsToLocals, Value.category]; done) | rfl
set_option maxRecDepth 65536 in
set_option maxHeartbeats 40000000 in
theorem rm_of (l : Launch) (Z : State) (a0 : Array Value) (hw : ∀ d ∈ tables_1, d.before a0 Z = true) (ws : List Jvm.Cond) (p0 : Int32) (h0 : Heap) (n0 : Nat) (w_ALL w_CHARACTERS w_DOTS w_BAMBOO w_HONOURS : Addr) (hK : own_K Z h0 w_ALL w_CHARACTERS w_DOTS w_BAMBOO w_HONOURS) :
    MetFree l (⟨"com/example/tenpai/tenpai/core/Suit", "of", "(C)Lcom/example/tenpai/tenpai/core/Suit;"⟩ : MethodName) (head1 (Jvm.Cond.code (⟨"com/example/tenpai/tenpai/core/Suit", "of", "(C)Lcom/example/tenpai/tenpai/core/Suit;"⟩ : MethodName) prog_25_method_4_code 5 (some (.object "com/example/tenpai/tenpai/core/Suit")) :: ws) ({ frames := 0, cells := 0, slots := 0, locals := 0 } : Room)) (fun a U => a = #[(.int p0)] ∧ Z.Warmed39 U.vm ∧ U.heap = h0) (fun _ _ _ _ _ => True) (fun _ U o U' => ∃ v L, o = .returned v ∧ own_Q (some (if (109 : Int32) = p0 then (.ref w_CHARACTERS) else (if (112 : Int32) = p0 then (.ref w_DOTS) else (if (115 : Int32) = p0 then (.ref w_BAMBOO) else (if (122 : Int32) = p0 then (.ref w_HONOURS) else .null))))) h0 n0 v U'.heap L ∧ FrameEnd U o U' L ({ frames := 0, cells := 0, slots := 0, locals := 0 } : Room).cells ({ frames := 0, cells := 0, slots := 0, locals := 0 } : Room).slots) := by
  refine MetFree.of_bodySF (plainFor_of_name pn_1) hisR ?_
  intro p e s m args below meth c s₁ Bd hml0 hP hK0
  obtain ⟨rfl, hZ, hh⟩ := hP
  have hx := Bd.exec
  have hby := Bd.bytes
  have hml : c.maxLocals = 5 := hml0
  have hown : s.vm.findClass "com/example/tenpai/tenpai/core/Suit" = some m.cls := findClass_of_methodNamed Bd.named
  have hnm := (name_of_methodNamed Bd.named Bd.method).1
  have X0 : Stand p l e ({ frames := 0, cells := 0, slots := 0, locals := 0 } : Room) s m #[(.int p0)] below meth c s₁ [] 0 0 := Stand.of_body Bd
  have e0 : s₁.heap = h0 := by rw [← hh, Bd.state]; rfl
  have N0 := Fr.nil n0
  have pre0 : ∀ t, Steps p.tables e below (s₁.setTop (mkF m 0 #[.val (.int p0), .unset, .unset, .unset, .unset] [])) t → Steps p.tables e below (s₁.setTop (entryFrame m #[(.int p0)] 5)) t := fun t k => castTop (ef_of m p0) k
  have hK' := hK
  obtain ⟨S_w_ALL, S_w_CHARACTERS, E_w_CHARACTERS, F__letter_w_CHARACTERS, S_w_DOTS, E_w_DOTS, F__letter_w_DOTS, S_w_BAMBOO, E_w_BAMBOO, F__letter_w_BAMBOO, S_w_HONOURS, E_w_HONOURS, F__letter_w_HONOURS, B_w_ALL⟩ := hK'
  obtain ⟨cl_w_ALL, A_w_ALL, q_w_ALL⟩ := B_w_ALL
  obtain ⟨T1, X1, e1, st1⟩ := getS2 X0 hx hZ hown (host := "") (Or.inl (hw _ (ow 8 rfl))) Via.refl e0 S_w_ALL (g := (mkF m 0 #[.val (.int p0), .unset, .unset, .unset, .unset] [])) rfl (hb hby d_prog_25_method_4_0)
  obtain ⟨T2, X2, e2, st2⟩ := getF X1 hx hZ hown (host := "") (Or.inl (hw _ (ow 11 rfl))) Via.refl e1 F__letter_w_CHARACTERS (g := (mkF m 21 #[.val (.int p0), .val (.ref w_ALL), .val (.int (4 : Int32)), .val (.int (0 : Int32)), .val (.ref w_CHARACTERS)] [(.ref w_CHARACTERS)])) rfl rfl (hb hby d_prog_25_method_4_21)
  have pre4 : ∀ t, Steps p.tables e below (T2.setTop (mkF m 25 #[.val (.int p0), .val (.ref w_ALL), .val (.int (4 : Int32)), .val (.int (0 : Int32)), .val (.ref w_CHARACTERS)] [(.int p0), (.int (109 : Int32))])) t → Steps p.tables e below (s₁.setTop (entryFrame m #[(.int p0)] 5)) t := fun t k => pre0 t (by
    show Steps p.tables e below (s₁.setTop (mkF m 0 #[.val (.int p0), .unset, .unset, .unset, .unset] [])) _
    refine st1 _ ?_
    show Steps p.tables e below (T1.setTop (mkF m 3 #[.val (.int p0), .unset, .unset, .unset, .unset] [(.ref w_ALL)])) _
    refine XS.astoreN X1.here hx rfl (hb hby d_prog_25_method_4_3) rfl rfl (l' := #[.val (.int p0), .val (.ref w_ALL), .unset, .unset, .unset]) rfl ?_
    show Steps p.tables e below (T1.setTop (mkF m 4 #[.val (.int p0), .val (.ref w_ALL), .unset, .unset, .unset] [])) _
    refine XS.aloadN X1.here hx rfl (hb hby d_prog_25_method_4_4) rfl rfl ?_
    show Steps p.tables e below (T1.setTop (mkF m 5 #[.val (.int p0), .val (.ref w_ALL), .unset, .unset, .unset] [(.ref w_ALL)])) _
    refine X1.arraylength hx (by rw [e1]; exact A_w_ALL.1) (State.isArrayOf_alike hZ.alike A_w_ALL.2.1) (g := (mkF m 5 #[.val (.int p0), .val (.ref w_ALL), .unset, .unset, .unset] [(.ref w_ALL)])) rfl rfl (hb hby d_prog_25_method_4_5) _ ?_
    rw [q_w_ALL]
    show Steps p.tables e below (T1.setTop (mkF m 6 #[.val (.int p0), .val (.ref w_ALL), .unset, .unset, .unset] [(.int (4 : Int32))])) _
    refine XS.istoreN X1.here hx rfl (hb hby d_prog_25_method_4_6) rfl (l' := #[.val (.int p0), .val (.ref w_ALL), .val (.int (4 : Int32)), .unset, .unset]) rfl ?_
    show Steps p.tables e below (T1.setTop (mkF m 7 #[.val (.int p0), .val (.ref w_ALL), .val (.int (4 : Int32)), .unset, .unset] [])) _
    refine XS.iconst X1.here hx rfl (hb hby d_prog_25_method_4_7) ?_
    show Steps p.tables e below (T1.setTop (mkF m 8 #[.val (.int p0), .val (.ref w_ALL), .val (.int (4 : Int32)), .unset, .unset] [(.int (0 : Int32))])) _
    refine XS.istoreN X1.here hx rfl (hb hby d_prog_25_method_4_8) rfl (l' := #[.val (.int p0), .val (.ref w_ALL), .val (.int (4 : Int32)), .val (.int (0 : Int32)), .unset]) rfl ?_
    show Steps p.tables e below (T1.setTop (mkF m 9 #[.val (.int p0), .val (.ref w_ALL), .val (.int (4 : Int32)), .val (.int (0 : Int32)), .unset] [])) _
    refine XS.iloadN X1.here hx rfl (hb hby d_prog_25_method_4_9) rfl ?_
    show Steps p.tables e below (T1.setTop (mkF m 10 #[.val (.int p0), .val (.ref w_ALL), .val (.int (4 : Int32)), .val (.int (0 : Int32)), .unset] [(.int (0 : Int32))])) _
    refine XS.iloadN X1.here hx rfl (hb hby d_prog_25_method_4_10) rfl ?_
    show Steps p.tables e below (T1.setTop (mkF m 11 #[.val (.int p0), .val (.ref w_ALL), .val (.int (4 : Int32)), .val (.int (0 : Int32)), .unset] [(.int (4 : Int32)), (.int (0 : Int32))])) _
    refine XS.icmpNo X1.here hx rfl (hb hby d_prog_25_method_4_11) rfl (tlt (by decide)).2.1 ?_
    show Steps p.tables e below (T1.setTop (mkF m 14 #[.val (.int p0), .val (.ref w_ALL), .val (.int (4 : Int32)), .val (.int (0 : Int32)), .unset] [])) _
    refine XS.aloadN X1.here hx rfl (hb hby d_prog_25_method_4_14) rfl rfl ?_
    show Steps p.tables e below (T1.setTop (mkF m 15 #[.val (.int p0), .val (.ref w_ALL), .val (.int (4 : Int32)), .val (.int (0 : Int32)), .unset] [(.ref w_ALL)])) _
    refine XS.iloadN X1.here hx rfl (hb hby d_prog_25_method_4_15) rfl ?_
    show Steps p.tables e below (T1.setTop (mkF m 16 #[.val (.int p0), .val (.ref w_ALL), .val (.int (4 : Int32)), .val (.int (0 : Int32)), .unset] [(.int (0 : Int32)), (.ref w_ALL)])) _
    refine X1.aaload hx (j := (0 : Int32)) (v := (.ref w_CHARACTERS)) (by rw [e1]; exact A_w_ALL.1) (State.isArrayOf_alike hZ.alike A_w_ALL.2.1) rfl A_w_ALL.2.2 (own_get (v := (.ref w_CHARACTERS)) q_w_ALL (by decide) rfl).1 (own_get q_w_ALL (by decide) rfl).2 (g := (mkF m 16 #[.val (.int p0), .val (.ref w_ALL), .val (.int (4 : Int32)), .val (.int (0 : Int32)), .unset] [(.int (0 : Int32)), (.ref w_ALL)])) rfl rfl (hb hby d_prog_25_method_4_16) _ ?_
    show Steps p.tables e below (T1.setTop (mkF m 17 #[.val (.int p0), .val (.ref w_ALL), .val (.int (4 : Int32)), .val (.int (0 : Int32)), .unset] [(.ref w_CHARACTERS)])) _
    refine XS.astore X1.here hx rfl (hb hby d_prog_25_method_4_17) rfl rfl (l' := #[.val (.int p0), .val (.ref w_ALL), .val (.int (4 : Int32)), .val (.int (0 : Int32)), .val (.ref w_CHARACTERS)]) rfl ?_
    show Steps p.tables e below (T1.setTop (mkF m 19 #[.val (.int p0), .val (.ref w_ALL), .val (.int (4 : Int32)), .val (.int (0 : Int32)), .val (.ref w_CHARACTERS)] [])) _
    refine XS.aload X1.here hx rfl (hb hby d_prog_25_method_4_19) rfl rfl ?_
    show Steps p.tables e below (T1.setTop (mkF m 21 #[.val (.int p0), .val (.ref w_ALL), .val (.int (4 : Int32)), .val (.int (0 : Int32)), .val (.ref w_CHARACTERS)] [(.ref w_CHARACTERS)])) _
    refine st2 _ ?_
    show Steps p.tables e below (T2.setTop (mkF m 24 #[.val (.int p0), .val (.ref w_ALL), .val (.int (4 : Int32)), .val (.int (0 : Int32)), .val (.ref w_CHARACTERS)] [(.int (109 : Int32))])) _
    refine XS.iloadN X2.here hx rfl (hb hby d_prog_25_method_4_24) rfl ?_
    exact k)
  by_cases hc25_3 : (109 : Int32) = p0
  · have pre5 : ∀ t, Steps p.tables e below (T2.setTop (mkF m 30 #[.val (.int p0), .val (.ref w_ALL), .val (.int (4 : Int32)), .val (.int (0 : Int32)), .val (.ref w_CHARACTERS)] [(.ref w_CHARACTERS)])) t → Steps p.tables e below (s₁.setTop (entryFrame m #[(.int p0)] 5)) t := fun t k => pre4 t (by
      show Steps p.tables e below (T2.setTop (mkF m 25 #[.val (.int p0), .val (.ref w_ALL), .val (.int (4 : Int32)), .val (.int (0 : Int32)), .val (.ref w_CHARACTERS)] [(.int p0), (.int (109 : Int32))])) _
      refine XS.icmpNo X2.here hx rfl (hb hby d_prog_25_method_4_25) rfl (teq hc25_3).2 ?_
      show Steps p.tables e below (T2.setTop (mkF m 28 #[.val (.int p0), .val (.ref w_ALL), .val (.int (4 : Int32)), .val (.int (0 : Int32)), .val (.ref w_CHARACTERS)] [])) _
      refine XS.aload X2.here hx rfl (hb hby d_prog_25_method_4_28) rfl rfl ?_
      exact k)
    obtain ⟨fs, hr, hrun, hended, hW, hsame⟩ := X2.leave (v := some (.ref w_CHARACTERS)) (fun h => by rw [Bd.returns] at h; cases h)
    refine ⟨_, _, pre5 _ ?_, hrun, hended, _, _, rfl, ?_, ⟨_, rfl⟩, hW, hsame.mono (by decide) (by decide)⟩
    · show Steps p.tables e below (T2.setTop (mkF m 30 #[.val (.int p0), .val (.ref w_ALL), .val (.int (4 : Int32)), .val (.int (0 : Int32)), .val (.ref w_CHARACTERS)] [(.ref w_CHARACTERS)])) _
      exact retOut X2 hx Bd.returns rfl (Or.inr (Or.inr (Or.inr (Or.inr ⟨rfl, rfl, rfl⟩)))) (hb hby d_prog_25_method_4_30) hr
    · exact ⟨congrArg some (Eq.symm (if_pos hc25_3)), N0, e2⟩
  · obtain ⟨T6, X6, e6, st6⟩ := getF X2 hx hZ hown (host := "") (Or.inl (hw _ (ow 11 rfl))) Via.refl e2 F__letter_w_DOTS (g := (mkF m 21 #[.val (.int p0), .val (.ref w_ALL), .val (.int (4 : Int32)), .val (.int (1 : Int32)), .val (.ref w_DOTS)] [(.ref w_DOTS)])) rfl rfl (hb hby d_prog_25_method_4_21)
    have pre8 : ∀ t, Steps p.tables e below (T6.setTop (mkF m 25 #[.val (.int p0), .val (.ref w_ALL), .val (.int (4 : Int32)), .val (.int (1 : Int32)), .val (.ref w_DOTS)] [(.int p0), (.int (112 : Int32))])) t → Steps p.tables e below (s₁.setTop (entryFrame m #[(.int p0)] 5)) t := fun t k => pre4 t (by
      show Steps p.tables e below (T2.setTop (mkF m 25 #[.val (.int p0), .val (.ref w_ALL), .val (.int (4 : Int32)), .val (.int (0 : Int32)), .val (.ref w_CHARACTERS)] [(.int p0), (.int (109 : Int32))])) _
      refine XS.icmpYes X2.here hx rfl (pc0 := 25) (pc' := 31) rfl (hb hby d_prog_25_method_4_25) rfl (feq hc25_3).2 (by decide) (by decide) ?_
      show Steps p.tables e below (T2.setTop (mkF m 31 #[.val (.int p0), .val (.ref w_ALL), .val (.int (4 : Int32)), .val (.int (0 : Int32)), .val (.ref w_CHARACTERS)] [])) _
      refine XS.iinc X2.here hx rfl (hb hby d_prog_25_method_4_31) rfl (l' := #[.val (.int p0), .val (.ref w_ALL), .val (.int (4 : Int32)), .val (.int (1 : Int32)), .val (.ref w_CHARACTERS)]) rfl ?_
      show Steps p.tables e below (T2.setTop (mkF m 34 #[.val (.int p0), .val (.ref w_ALL), .val (.int (4 : Int32)), .val (.int (1 : Int32)), .val (.ref w_CHARACTERS)] [])) _
      refine XS.goto X2.here hx rfl (pc0 := 34) (pc' := 9) rfl (hb hby d_prog_25_method_4_34) (by decide) (by decide) ?_
      show Steps p.tables e below (T2.setTop (mkF m 9 #[.val (.int p0), .val (.ref w_ALL), .val (.int (4 : Int32)), .val (.int (1 : Int32)), .val (.ref w_CHARACTERS)] [])) _
      refine XS.iloadN X2.here hx rfl (hb hby d_prog_25_method_4_9) rfl ?_
      show Steps p.tables e below (T2.setTop (mkF m 10 #[.val (.int p0), .val (.ref w_ALL), .val (.int (4 : Int32)), .val (.int (1 : Int32)), .val (.ref w_CHARACTERS)] [(.int (1 : Int32))])) _
      refine XS.iloadN X2.here hx rfl (hb hby d_prog_25_method_4_10) rfl ?_
      show Steps p.tables e below (T2.setTop (mkF m 11 #[.val (.int p0), .val (.ref w_ALL), .val (.int (4 : Int32)), .val (.int (1 : Int32)), .val (.ref w_CHARACTERS)] [(.int (4 : Int32)), (.int (1 : Int32))])) _
      refine XS.icmpNo X2.here hx rfl (hb hby d_prog_25_method_4_11) rfl (tlt (by decide)).2.1 ?_
      show Steps p.tables e below (T2.setTop (mkF m 14 #[.val (.int p0), .val (.ref w_ALL), .val (.int (4 : Int32)), .val (.int (1 : Int32)), .val (.ref w_CHARACTERS)] [])) _
      refine XS.aloadN X2.here hx rfl (hb hby d_prog_25_method_4_14) rfl rfl ?_
      show Steps p.tables e below (T2.setTop (mkF m 15 #[.val (.int p0), .val (.ref w_ALL), .val (.int (4 : Int32)), .val (.int (1 : Int32)), .val (.ref w_CHARACTERS)] [(.ref w_ALL)])) _
      refine XS.iloadN X2.here hx rfl (hb hby d_prog_25_method_4_15) rfl ?_
      show Steps p.tables e below (T2.setTop (mkF m 16 #[.val (.int p0), .val (.ref w_ALL), .val (.int (4 : Int32)), .val (.int (1 : Int32)), .val (.ref w_CHARACTERS)] [(.int (1 : Int32)), (.ref w_ALL)])) _
      refine X2.aaload hx (j := (1 : Int32)) (v := (.ref w_DOTS)) (by rw [e2]; exact A_w_ALL.1) (State.isArrayOf_alike hZ.alike A_w_ALL.2.1) rfl A_w_ALL.2.2 (own_get (v := (.ref w_DOTS)) q_w_ALL (by decide) rfl).1 (own_get q_w_ALL (by decide) rfl).2 (g := (mkF m 16 #[.val (.int p0), .val (.ref w_ALL), .val (.int (4 : Int32)), .val (.int (1 : Int32)), .val (.ref w_CHARACTERS)] [(.int (1 : Int32)), (.ref w_ALL)])) rfl rfl (hb hby d_prog_25_method_4_16) _ ?_
      show Steps p.tables e below (T2.setTop (mkF m 17 #[.val (.int p0), .val (.ref w_ALL), .val (.int (4 : Int32)), .val (.int (1 : Int32)), .val (.ref w_CHARACTERS)] [(.ref w_DOTS)])) _
      refine XS.astore X2.here hx rfl (hb hby d_prog_25_method_4_17) rfl rfl (l' := #[.val (.int p0), .val (.ref w_ALL), .val (.int (4 : Int32)), .val (.int (1 : Int32)), .val (.ref w_DOTS)]) rfl ?_
      show Steps p.tables e below (T2.setTop (mkF m 19 #[.val (.int p0), .val (.ref w_ALL), .val (.int (4 : Int32)), .val (.int (1 : Int32)), .val (.ref w_DOTS)] [])) _
      refine XS.aload X2.here hx rfl (hb hby d_prog_25_method_4_19) rfl rfl ?_
      show Steps p.tables e below (T2.setTop (mkF m 21 #[.val (.int p0), .val (.ref w_ALL), .val (.int (4 : Int32)), .val (.int (1 : Int32)), .val (.ref w_DOTS)] [(.ref w_DOTS)])) _
      refine st6 _ ?_
      show Steps p.tables e below (T6.setTop (mkF m 24 #[.val (.int p0), .val (.ref w_ALL), .val (.int (4 : Int32)), .val (.int (1 : Int32)), .val (.ref w_DOTS)] [(.int (112 : Int32))])) _
      refine XS.iloadN X6.here hx rfl (hb hby d_prog_25_method_4_24) rfl ?_
      exact k)
    by_cases hc25_7 : (112 : Int32) = p0
    · have pre9 : ∀ t, Steps p.tables e below (T6.setTop (mkF m 30 #[.val (.int p0), .val (.ref w_ALL), .val (.int (4 : Int32)), .val (.int (1 : Int32)), .val (.ref w_DOTS)] [(.ref w_DOTS)])) t → Steps p.tables e below (s₁.setTop (entryFrame m #[(.int p0)] 5)) t := fun t k => pre8 t (by
        show Steps p.tables e below (T6.setTop (mkF m 25 #[.val (.int p0), .val (.ref w_ALL), .val (.int (4 : Int32)), .val (.int (1 : Int32)), .val (.ref w_DOTS)] [(.int p0), (.int (112 : Int32))])) _
        refine XS.icmpNo X6.here hx rfl (hb hby d_prog_25_method_4_25) rfl (teq hc25_7).2 ?_
        show Steps p.tables e below (T6.setTop (mkF m 28 #[.val (.int p0), .val (.ref w_ALL), .val (.int (4 : Int32)), .val (.int (1 : Int32)), .val (.ref w_DOTS)] [])) _
        refine XS.aload X6.here hx rfl (hb hby d_prog_25_method_4_28) rfl rfl ?_
        exact k)
      obtain ⟨fs, hr, hrun, hended, hW, hsame⟩ := X6.leave (v := some (.ref w_DOTS)) (fun h => by rw [Bd.returns] at h; cases h)
      refine ⟨_, _, pre9 _ ?_, hrun, hended, _, _, rfl, ?_, ⟨_, rfl⟩, hW, hsame.mono (by decide) (by decide)⟩
      · show Steps p.tables e below (T6.setTop (mkF m 30 #[.val (.int p0), .val (.ref w_ALL), .val (.int (4 : Int32)), .val (.int (1 : Int32)), .val (.ref w_DOTS)] [(.ref w_DOTS)])) _
        exact retOut X6 hx Bd.returns rfl (Or.inr (Or.inr (Or.inr (Or.inr ⟨rfl, rfl, rfl⟩)))) (hb hby d_prog_25_method_4_30) hr
      · exact ⟨congrArg some (Eq.symm ((if_neg hc25_3).trans (if_pos hc25_7))), N0, e6⟩
    · obtain ⟨T10, X10, e10, st10⟩ := getF X6 hx hZ hown (host := "") (Or.inl (hw _ (ow 11 rfl))) Via.refl e6 F__letter_w_BAMBOO (g := (mkF m 21 #[.val (.int p0), .val (.ref w_ALL), .val (.int (4 : Int32)), .val (.int (2 : Int32)), .val (.ref w_BAMBOO)] [(.ref w_BAMBOO)])) rfl rfl (hb hby d_prog_25_method_4_21)
      have pre12 : ∀ t, Steps p.tables e below (T10.setTop (mkF m 25 #[.val (.int p0), .val (.ref w_ALL), .val (.int (4 : Int32)), .val (.int (2 : Int32)), .val (.ref w_BAMBOO)] [(.int p0), (.int (115 : Int32))])) t → Steps p.tables e below (s₁.setTop (entryFrame m #[(.int p0)] 5)) t := fun t k => pre8 t (by
        show Steps p.tables e below (T6.setTop (mkF m 25 #[.val (.int p0), .val (.ref w_ALL), .val (.int (4 : Int32)), .val (.int (1 : Int32)), .val (.ref w_DOTS)] [(.int p0), (.int (112 : Int32))])) _
        refine XS.icmpYes X6.here hx rfl (pc0 := 25) (pc' := 31) rfl (hb hby d_prog_25_method_4_25) rfl (feq hc25_7).2 (by decide) (by decide) ?_
        show Steps p.tables e below (T6.setTop (mkF m 31 #[.val (.int p0), .val (.ref w_ALL), .val (.int (4 : Int32)), .val (.int (1 : Int32)), .val (.ref w_DOTS)] [])) _
        refine XS.iinc X6.here hx rfl (hb hby d_prog_25_method_4_31) rfl (l' := #[.val (.int p0), .val (.ref w_ALL), .val (.int (4 : Int32)), .val (.int (2 : Int32)), .val (.ref w_DOTS)]) rfl ?_
        show Steps p.tables e below (T6.setTop (mkF m 34 #[.val (.int p0), .val (.ref w_ALL), .val (.int (4 : Int32)), .val (.int (2 : Int32)), .val (.ref w_DOTS)] [])) _
        refine XS.goto X6.here hx rfl (pc0 := 34) (pc' := 9) rfl (hb hby d_prog_25_method_4_34) (by decide) (by decide) ?_
        show Steps p.tables e below (T6.setTop (mkF m 9 #[.val (.int p0), .val (.ref w_ALL), .val (.int (4 : Int32)), .val (.int (2 : Int32)), .val (.ref w_DOTS)] [])) _
        refine XS.iloadN X6.here hx rfl (hb hby d_prog_25_method_4_9) rfl ?_
        show Steps p.tables e below (T6.setTop (mkF m 10 #[.val (.int p0), .val (.ref w_ALL), .val (.int (4 : Int32)), .val (.int (2 : Int32)), .val (.ref w_DOTS)] [(.int (2 : Int32))])) _
        refine XS.iloadN X6.here hx rfl (hb hby d_prog_25_method_4_10) rfl ?_
        show Steps p.tables e below (T6.setTop (mkF m 11 #[.val (.int p0), .val (.ref w_ALL), .val (.int (4 : Int32)), .val (.int (2 : Int32)), .val (.ref w_DOTS)] [(.int (4 : Int32)), (.int (2 : Int32))])) _
        refine XS.icmpNo X6.here hx rfl (hb hby d_prog_25_method_4_11) rfl (tlt (by decide)).2.1 ?_
        show Steps p.tables e below (T6.setTop (mkF m 14 #[.val (.int p0), .val (.ref w_ALL), .val (.int (4 : Int32)), .val (.int (2 : Int32)), .val (.ref w_DOTS)] [])) _
        refine XS.aloadN X6.here hx rfl (hb hby d_prog_25_method_4_14) rfl rfl ?_
        show Steps p.tables e below (T6.setTop (mkF m 15 #[.val (.int p0), .val (.ref w_ALL), .val (.int (4 : Int32)), .val (.int (2 : Int32)), .val (.ref w_DOTS)] [(.ref w_ALL)])) _
        refine XS.iloadN X6.here hx rfl (hb hby d_prog_25_method_4_15) rfl ?_
        show Steps p.tables e below (T6.setTop (mkF m 16 #[.val (.int p0), .val (.ref w_ALL), .val (.int (4 : Int32)), .val (.int (2 : Int32)), .val (.ref w_DOTS)] [(.int (2 : Int32)), (.ref w_ALL)])) _
        refine X6.aaload hx (j := (2 : Int32)) (v := (.ref w_BAMBOO)) (by rw [e6]; exact A_w_ALL.1) (State.isArrayOf_alike hZ.alike A_w_ALL.2.1) rfl A_w_ALL.2.2 (own_get (v := (.ref w_BAMBOO)) q_w_ALL (by decide) rfl).1 (own_get q_w_ALL (by decide) rfl).2 (g := (mkF m 16 #[.val (.int p0), .val (.ref w_ALL), .val (.int (4 : Int32)), .val (.int (2 : Int32)), .val (.ref w_DOTS)] [(.int (2 : Int32)), (.ref w_ALL)])) rfl rfl (hb hby d_prog_25_method_4_16) _ ?_
        show Steps p.tables e below (T6.setTop (mkF m 17 #[.val (.int p0), .val (.ref w_ALL), .val (.int (4 : Int32)), .val (.int (2 : Int32)), .val (.ref w_DOTS)] [(.ref w_BAMBOO)])) _
        refine XS.astore X6.here hx rfl (hb hby d_prog_25_method_4_17) rfl rfl (l' := #[.val (.int p0), .val (.ref w_ALL), .val (.int (4 : Int32)), .val (.int (2 : Int32)), .val (.ref w_BAMBOO)]) rfl ?_
        show Steps p.tables e below (T6.setTop (mkF m 19 #[.val (.int p0), .val (.ref w_ALL), .val (.int (4 : Int32)), .val (.int (2 : Int32)), .val (.ref w_BAMBOO)] [])) _
        refine XS.aload X6.here hx rfl (hb hby d_prog_25_method_4_19) rfl rfl ?_
        show Steps p.tables e below (T6.setTop (mkF m 21 #[.val (.int p0), .val (.ref w_ALL), .val (.int (4 : Int32)), .val (.int (2 : Int32)), .val (.ref w_BAMBOO)] [(.ref w_BAMBOO)])) _
        refine st10 _ ?_
        show Steps p.tables e below (T10.setTop (mkF m 24 #[.val (.int p0), .val (.ref w_ALL), .val (.int (4 : Int32)), .val (.int (2 : Int32)), .val (.ref w_BAMBOO)] [(.int (115 : Int32))])) _
        refine XS.iloadN X10.here hx rfl (hb hby d_prog_25_method_4_24) rfl ?_
        exact k)
      by_cases hc25_11 : (115 : Int32) = p0
      · have pre13 : ∀ t, Steps p.tables e below (T10.setTop (mkF m 30 #[.val (.int p0), .val (.ref w_ALL), .val (.int (4 : Int32)), .val (.int (2 : Int32)), .val (.ref w_BAMBOO)] [(.ref w_BAMBOO)])) t → Steps p.tables e below (s₁.setTop (entryFrame m #[(.int p0)] 5)) t := fun t k => pre12 t (by
          show Steps p.tables e below (T10.setTop (mkF m 25 #[.val (.int p0), .val (.ref w_ALL), .val (.int (4 : Int32)), .val (.int (2 : Int32)), .val (.ref w_BAMBOO)] [(.int p0), (.int (115 : Int32))])) _
          refine XS.icmpNo X10.here hx rfl (hb hby d_prog_25_method_4_25) rfl (teq hc25_11).2 ?_
          show Steps p.tables e below (T10.setTop (mkF m 28 #[.val (.int p0), .val (.ref w_ALL), .val (.int (4 : Int32)), .val (.int (2 : Int32)), .val (.ref w_BAMBOO)] [])) _
          refine XS.aload X10.here hx rfl (hb hby d_prog_25_method_4_28) rfl rfl ?_
          exact k)
        obtain ⟨fs, hr, hrun, hended, hW, hsame⟩ := X10.leave (v := some (.ref w_BAMBOO)) (fun h => by rw [Bd.returns] at h; cases h)
        refine ⟨_, _, pre13 _ ?_, hrun, hended, _, _, rfl, ?_, ⟨_, rfl⟩, hW, hsame.mono (by decide) (by decide)⟩
        · show Steps p.tables e below (T10.setTop (mkF m 30 #[.val (.int p0), .val (.ref w_ALL), .val (.int (4 : Int32)), .val (.int (2 : Int32)), .val (.ref w_BAMBOO)] [(.ref w_BAMBOO)])) _
          exact retOut X10 hx Bd.returns rfl (Or.inr (Or.inr (Or.inr (Or.inr ⟨rfl, rfl, rfl⟩)))) (hb hby d_prog_25_method_4_30) hr
        · exact ⟨congrArg some (Eq.symm ((if_neg hc25_3).trans ((if_neg hc25_7).trans (if_pos hc25_11)))), N0, e10⟩
      · obtain ⟨T14, X14, e14, st14⟩ := getF X10 hx hZ hown (host := "") (Or.inl (hw _ (ow 11 rfl))) Via.refl e10 F__letter_w_HONOURS (g := (mkF m 21 #[.val (.int p0), .val (.ref w_ALL), .val (.int (4 : Int32)), .val (.int (3 : Int32)), .val (.ref w_HONOURS)] [(.ref w_HONOURS)])) rfl rfl (hb hby d_prog_25_method_4_21)
        have pre16 : ∀ t, Steps p.tables e below (T14.setTop (mkF m 25 #[.val (.int p0), .val (.ref w_ALL), .val (.int (4 : Int32)), .val (.int (3 : Int32)), .val (.ref w_HONOURS)] [(.int p0), (.int (122 : Int32))])) t → Steps p.tables e below (s₁.setTop (entryFrame m #[(.int p0)] 5)) t := fun t k => pre12 t (by
          show Steps p.tables e below (T10.setTop (mkF m 25 #[.val (.int p0), .val (.ref w_ALL), .val (.int (4 : Int32)), .val (.int (2 : Int32)), .val (.ref w_BAMBOO)] [(.int p0), (.int (115 : Int32))])) _
          refine XS.icmpYes X10.here hx rfl (pc0 := 25) (pc' := 31) rfl (hb hby d_prog_25_method_4_25) rfl (feq hc25_11).2 (by decide) (by decide) ?_
          show Steps p.tables e below (T10.setTop (mkF m 31 #[.val (.int p0), .val (.ref w_ALL), .val (.int (4 : Int32)), .val (.int (2 : Int32)), .val (.ref w_BAMBOO)] [])) _
          refine XS.iinc X10.here hx rfl (hb hby d_prog_25_method_4_31) rfl (l' := #[.val (.int p0), .val (.ref w_ALL), .val (.int (4 : Int32)), .val (.int (3 : Int32)), .val (.ref w_BAMBOO)]) rfl ?_
          show Steps p.tables e below (T10.setTop (mkF m 34 #[.val (.int p0), .val (.ref w_ALL), .val (.int (4 : Int32)), .val (.int (3 : Int32)), .val (.ref w_BAMBOO)] [])) _
          refine XS.goto X10.here hx rfl (pc0 := 34) (pc' := 9) rfl (hb hby d_prog_25_method_4_34) (by decide) (by decide) ?_
          show Steps p.tables e below (T10.setTop (mkF m 9 #[.val (.int p0), .val (.ref w_ALL), .val (.int (4 : Int32)), .val (.int (3 : Int32)), .val (.ref w_BAMBOO)] [])) _
          refine XS.iloadN X10.here hx rfl (hb hby d_prog_25_method_4_9) rfl ?_
          show Steps p.tables e below (T10.setTop (mkF m 10 #[.val (.int p0), .val (.ref w_ALL), .val (.int (4 : Int32)), .val (.int (3 : Int32)), .val (.ref w_BAMBOO)] [(.int (3 : Int32))])) _
          refine XS.iloadN X10.here hx rfl (hb hby d_prog_25_method_4_10) rfl ?_
          show Steps p.tables e below (T10.setTop (mkF m 11 #[.val (.int p0), .val (.ref w_ALL), .val (.int (4 : Int32)), .val (.int (3 : Int32)), .val (.ref w_BAMBOO)] [(.int (4 : Int32)), (.int (3 : Int32))])) _
          refine XS.icmpNo X10.here hx rfl (hb hby d_prog_25_method_4_11) rfl (tlt (by decide)).2.1 ?_
          show Steps p.tables e below (T10.setTop (mkF m 14 #[.val (.int p0), .val (.ref w_ALL), .val (.int (4 : Int32)), .val (.int (3 : Int32)), .val (.ref w_BAMBOO)] [])) _
          refine XS.aloadN X10.here hx rfl (hb hby d_prog_25_method_4_14) rfl rfl ?_
          show Steps p.tables e below (T10.setTop (mkF m 15 #[.val (.int p0), .val (.ref w_ALL), .val (.int (4 : Int32)), .val (.int (3 : Int32)), .val (.ref w_BAMBOO)] [(.ref w_ALL)])) _
          refine XS.iloadN X10.here hx rfl (hb hby d_prog_25_method_4_15) rfl ?_
          show Steps p.tables e below (T10.setTop (mkF m 16 #[.val (.int p0), .val (.ref w_ALL), .val (.int (4 : Int32)), .val (.int (3 : Int32)), .val (.ref w_BAMBOO)] [(.int (3 : Int32)), (.ref w_ALL)])) _
          refine X10.aaload hx (j := (3 : Int32)) (v := (.ref w_HONOURS)) (by rw [e10]; exact A_w_ALL.1) (State.isArrayOf_alike hZ.alike A_w_ALL.2.1) rfl A_w_ALL.2.2 (own_get (v := (.ref w_HONOURS)) q_w_ALL (by decide) rfl).1 (own_get q_w_ALL (by decide) rfl).2 (g := (mkF m 16 #[.val (.int p0), .val (.ref w_ALL), .val (.int (4 : Int32)), .val (.int (3 : Int32)), .val (.ref w_BAMBOO)] [(.int (3 : Int32)), (.ref w_ALL)])) rfl rfl (hb hby d_prog_25_method_4_16) _ ?_
          show Steps p.tables e below (T10.setTop (mkF m 17 #[.val (.int p0), .val (.ref w_ALL), .val (.int (4 : Int32)), .val (.int (3 : Int32)), .val (.ref w_BAMBOO)] [(.ref w_HONOURS)])) _
          refine XS.astore X10.here hx rfl (hb hby d_prog_25_method_4_17) rfl rfl (l' := #[.val (.int p0), .val (.ref w_ALL), .val (.int (4 : Int32)), .val (.int (3 : Int32)), .val (.ref w_HONOURS)]) rfl ?_
          show Steps p.tables e below (T10.setTop (mkF m 19 #[.val (.int p0), .val (.ref w_ALL), .val (.int (4 : Int32)), .val (.int (3 : Int32)), .val (.ref w_HONOURS)] [])) _
          refine XS.aload X10.here hx rfl (hb hby d_prog_25_method_4_19) rfl rfl ?_
          show Steps p.tables e below (T10.setTop (mkF m 21 #[.val (.int p0), .val (.ref w_ALL), .val (.int (4 : Int32)), .val (.int (3 : Int32)), .val (.ref w_HONOURS)] [(.ref w_HONOURS)])) _
          refine st14 _ ?_
          show Steps p.tables e below (T14.setTop (mkF m 24 #[.val (.int p0), .val (.ref w_ALL), .val (.int (4 : Int32)), .val (.int (3 : Int32)), .val (.ref w_HONOURS)] [(.int (122 : Int32))])) _
          refine XS.iloadN X14.here hx rfl (hb hby d_prog_25_method_4_24) rfl ?_
          exact k)
        by_cases hc25_15 : (122 : Int32) = p0
        · have pre17 : ∀ t, Steps p.tables e below (T14.setTop (mkF m 30 #[.val (.int p0), .val (.ref w_ALL), .val (.int (4 : Int32)), .val (.int (3 : Int32)), .val (.ref w_HONOURS)] [(.ref w_HONOURS)])) t → Steps p.tables e below (s₁.setTop (entryFrame m #[(.int p0)] 5)) t := fun t k => pre16 t (by
            show Steps p.tables e below (T14.setTop (mkF m 25 #[.val (.int p0), .val (.ref w_ALL), .val (.int (4 : Int32)), .val (.int (3 : Int32)), .val (.ref w_HONOURS)] [(.int p0), (.int (122 : Int32))])) _
            refine XS.icmpNo X14.here hx rfl (hb hby d_prog_25_method_4_25) rfl (teq hc25_15).2 ?_
            show Steps p.tables e below (T14.setTop (mkF m 28 #[.val (.int p0), .val (.ref w_ALL), .val (.int (4 : Int32)), .val (.int (3 : Int32)), .val (.ref w_HONOURS)] [])) _
            refine XS.aload X14.here hx rfl (hb hby d_prog_25_method_4_28) rfl rfl ?_
            exact k)
          obtain ⟨fs, hr, hrun, hended, hW, hsame⟩ := X14.leave (v := some (.ref w_HONOURS)) (fun h => by rw [Bd.returns] at h; cases h)
          refine ⟨_, _, pre17 _ ?_, hrun, hended, _, _, rfl, ?_, ⟨_, rfl⟩, hW, hsame.mono (by decide) (by decide)⟩
          · show Steps p.tables e below (T14.setTop (mkF m 30 #[.val (.int p0), .val (.ref w_ALL), .val (.int (4 : Int32)), .val (.int (3 : Int32)), .val (.ref w_HONOURS)] [(.ref w_HONOURS)])) _
            exact retOut X14 hx Bd.returns rfl (Or.inr (Or.inr (Or.inr (Or.inr ⟨rfl, rfl, rfl⟩)))) (hb hby d_prog_25_method_4_30) hr
          · exact ⟨congrArg some (Eq.symm ((if_neg hc25_3).trans ((if_neg hc25_7).trans ((if_neg hc25_11).trans (if_pos hc25_15))))), N0, e14⟩
        · have pre18 : ∀ t, Steps p.tables e below (T14.setTop (mkF m 38 #[.val (.int p0), .val (.ref w_ALL), .val (.int (4 : Int32)), .val (.int (4 : Int32)), .val (.ref w_HONOURS)] [.null])) t → Steps p.tables e below (s₁.setTop (entryFrame m #[(.int p0)] 5)) t := fun t k => pre16 t (by
            show Steps p.tables e below (T14.setTop (mkF m 25 #[.val (.int p0), .val (.ref w_ALL), .val (.int (4 : Int32)), .val (.int (3 : Int32)), .val (.ref w_HONOURS)] [(.int p0), (.int (122 : Int32))])) _
            refine XS.icmpYes X14.here hx rfl (pc0 := 25) (pc' := 31) rfl (hb hby d_prog_25_method_4_25) rfl (feq hc25_15).2 (by decide) (by decide) ?_
            show Steps p.tables e below (T14.setTop (mkF m 31 #[.val (.int p0), .val (.ref w_ALL), .val (.int (4 : Int32)), .val (.int (3 : Int32)), .val (.ref w_HONOURS)] [])) _
            refine XS.iinc X14.here hx rfl (hb hby d_prog_25_method_4_31) rfl (l' := #[.val (.int p0), .val (.ref w_ALL), .val (.int (4 : Int32)), .val (.int (4 : Int32)), .val (.ref w_HONOURS)]) rfl ?_
            show Steps p.tables e below (T14.setTop (mkF m 34 #[.val (.int p0), .val (.ref w_ALL), .val (.int (4 : Int32)), .val (.int (4 : Int32)), .val (.ref w_HONOURS)] [])) _
            refine XS.goto X14.here hx rfl (pc0 := 34) (pc' := 9) rfl (hb hby d_prog_25_method_4_34) (by decide) (by decide) ?_
            show Steps p.tables e below (T14.setTop (mkF m 9 #[.val (.int p0), .val (.ref w_ALL), .val (.int (4 : Int32)), .val (.int (4 : Int32)), .val (.ref w_HONOURS)] [])) _
            refine XS.iloadN X14.here hx rfl (hb hby d_prog_25_method_4_9) rfl ?_
            show Steps p.tables e below (T14.setTop (mkF m 10 #[.val (.int p0), .val (.ref w_ALL), .val (.int (4 : Int32)), .val (.int (4 : Int32)), .val (.ref w_HONOURS)] [(.int (4 : Int32))])) _
            refine XS.iloadN X14.here hx rfl (hb hby d_prog_25_method_4_10) rfl ?_
            show Steps p.tables e below (T14.setTop (mkF m 11 #[.val (.int p0), .val (.ref w_ALL), .val (.int (4 : Int32)), .val (.int (4 : Int32)), .val (.ref w_HONOURS)] [(.int (4 : Int32)), (.int (4 : Int32))])) _
            refine XS.icmpYes X14.here hx rfl (pc0 := 11) (pc' := 37) rfl (hb hby d_prog_25_method_4_11) rfl (flt (by decide)).2.1 (by decide) (by decide) ?_
            show Steps p.tables e below (T14.setTop (mkF m 37 #[.val (.int p0), .val (.ref w_ALL), .val (.int (4 : Int32)), .val (.int (4 : Int32)), .val (.ref w_HONOURS)] [])) _
            refine XS.aconstNull X14.here hx rfl (hb hby d_prog_25_method_4_37) ?_
            exact k)
          obtain ⟨fs, hr, hrun, hended, hW, hsame⟩ := X14.leave (v := some .null) (fun h => by rw [Bd.returns] at h; cases h)
          refine ⟨_, _, pre18 _ ?_, hrun, hended, _, _, rfl, ?_, ⟨_, rfl⟩, hW, hsame.mono (by decide) (by decide)⟩
          · show Steps p.tables e below (T14.setTop (mkF m 38 #[.val (.int p0), .val (.ref w_ALL), .val (.int (4 : Int32)), .val (.int (4 : Int32)), .val (.ref w_HONOURS)] [.null])) _
            exact retOut X14 hx Bd.returns rfl (Or.inr (Or.inr (Or.inr (Or.inr ⟨rfl, rfl, rfl⟩)))) (hb hby d_prog_25_method_4_38) hr
          · exact ⟨congrArg some (Eq.symm ((if_neg hc25_3).trans ((if_neg hc25_7).trans ((if_neg hc25_11).trans (if_neg hc25_15))))), N0, e14⟩
theorem d_method_3_0 : decode method_3_code 0 = .ok (.iload_n 0, 1) := by decide +kernel
theorem d_method_3_1 : decode method_3_code 1 = .ok (.bipush 109, 2) := by decide +kernel
theorem d_method_3_3 : decode method_3_code 3 = .ok (.if_icmp .ne 7, 3) := by decide +kernel
theorem d_method_3_6 : decode method_3_code 6 = .ok (.getstatic 7, 3) := by decide +kernel
theorem d_method_3_9 : decode method_3_code 9 = .ok (.areturn, 1) := by decide +kernel
theorem d_method_3_10 : decode method_3_code 10 = .ok (.iload_n 0, 1) := by decide +kernel
theorem d_method_3_11 : decode method_3_code 11 = .ok (.bipush 112, 2) := by decide +kernel
theorem d_method_3_13 : decode method_3_code 13 = .ok (.if_icmp .ne 7, 3) := by decide +kernel
theorem d_method_3_16 : decode method_3_code 16 = .ok (.getstatic 13, 3) := by decide +kernel
theorem d_method_3_19 : decode method_3_code 19 = .ok (.areturn, 1) := by decide +kernel
theorem d_method_3_20 : decode method_3_code 20 = .ok (.iload_n 0, 1) := by decide +kernel
theorem d_method_3_21 : decode method_3_code 21 = .ok (.bipush 115, 2) := by decide +kernel
theorem d_method_3_23 : decode method_3_code 23 = .ok (.if_icmp .ne 7, 3) := by decide +kernel
theorem d_method_3_26 : decode method_3_code 26 = .ok (.getstatic 16, 3) := by decide +kernel
theorem d_method_3_29 : decode method_3_code 29 = .ok (.areturn, 1) := by decide +kernel
theorem d_method_3_30 : decode method_3_code 30 = .ok (.iload_n 0, 1) := by decide +kernel
theorem d_method_3_31 : decode method_3_code 31 = .ok (.bipush 122, 2) := by decide +kernel
theorem d_method_3_33 : decode method_3_code 33 = .ok (.if_icmp .ne 7, 3) := by decide +kernel
theorem d_method_3_36 : decode method_3_code 36 = .ok (.getstatic 19, 3) := by decide +kernel
theorem d_method_3_39 : decode method_3_code 39 = .ok (.areturn, 1) := by decide +kernel
theorem d_method_3_40 : decode method_3_code 40 = .ok (.aconst_null, 1) := by decide +kernel
theorem d_method_3_41 : decode method_3_code 41 = .ok (.areturn, 1) := by decide +kernel
theorem ef_expected (m : MethodId) (x0 : Int32) : entryFrame m #[(.int x0)] 1 = mkF m 0 #[.val (.int x0)] [] := by first | (simp [entryFrame, mkF, argsToLocals, Value.category]; done) | rfl
set_option maxRecDepth 65536 in
set_option maxHeartbeats 40000000 in
theorem rm_expected (l : Launch) (Z : State) (a0 : Array Value) (hw : ∀ d ∈ tables_1, d.before a0 Z = true) (ws : List Jvm.Cond) (p0 : Int32) (h0 : Heap) (n0 : Nat) (w_ALL w_CHARACTERS w_DOTS w_BAMBOO w_HONOURS : Addr) (hK : own_K Z h0 w_ALL w_CHARACTERS w_DOTS w_BAMBOO w_HONOURS) :
    MetFree l (⟨"com/example/tenpai/tenpai/core/SuitOfPinLaw", "expected", "(C)Lcom/example/tenpai/tenpai/core/Suit;"⟩ : MethodName) (head1 (Jvm.Cond.code (⟨"com/example/tenpai/tenpai/core/SuitOfPinLaw", "expected", "(C)Lcom/example/tenpai/tenpai/core/Suit;"⟩ : MethodName) method_3_code 1 (some (.object "com/example/tenpai/tenpai/core/Suit")) :: ws) ({ frames := 0, cells := 0, slots := 0, locals := 0 } : Room)) (fun a U => a = #[(.int p0)] ∧ Z.Warmed39 U.vm ∧ U.heap = h0) (fun _ _ _ _ _ => True) (fun _ U o U' => ∃ v L, o = .returned v ∧ own_Q (some (if p0 = (109 : Int32) then (.ref w_CHARACTERS) else (if p0 = (112 : Int32) then (.ref w_DOTS) else (if p0 = (115 : Int32) then (.ref w_BAMBOO) else (if p0 = (122 : Int32) then (.ref w_HONOURS) else .null))))) h0 n0 v U'.heap L ∧ FrameEnd U o U' L ({ frames := 0, cells := 0, slots := 0, locals := 0 } : Room).cells ({ frames := 0, cells := 0, slots := 0, locals := 0 } : Room).slots) := by
  refine MetFree.of_bodySF (plainFor_of_name pn_0) hisR ?_
  intro p e s m args below meth c s₁ Bd hml0 hP hK0
  obtain ⟨rfl, hZ, hh⟩ := hP
  have hx := Bd.exec
  have hby := Bd.bytes
  have hml : c.maxLocals = 1 := hml0
  have hown : s.vm.findClass "com/example/tenpai/tenpai/core/SuitOfPinLaw" = some m.cls := findClass_of_methodNamed Bd.named
  have hnm := (name_of_methodNamed Bd.named Bd.method).1
  have X0 : Stand p l e ({ frames := 0, cells := 0, slots := 0, locals := 0 } : Room) s m #[(.int p0)] below meth c s₁ [] 0 0 := Stand.of_body Bd
  have e0 : s₁.heap = h0 := by rw [← hh, Bd.state]; rfl
  have N0 := Fr.nil n0
  have pre0 : ∀ t, Steps p.tables e below (s₁.setTop (mkF m 0 #[.val (.int p0)] [])) t → Steps p.tables e below (s₁.setTop (entryFrame m #[(.int p0)] 1)) t := fun t k => castTop (ef_expected m p0) k
  have hK' := hK
  obtain ⟨S_w_ALL, S_w_CHARACTERS, E_w_CHARACTERS, F__letter_w_CHARACTERS, S_w_DOTS, E_w_DOTS, F__letter_w_DOTS, S_w_BAMBOO, E_w_BAMBOO, F__letter_w_BAMBOO, S_w_HONOURS, E_w_HONOURS, F__letter_w_HONOURS, B_w_ALL⟩ := hK'
  obtain ⟨cl_w_ALL, A_w_ALL, q_w_ALL⟩ := B_w_ALL
  have pre2 : ∀ t, Steps p.tables e below (s₁.setTop (mkF m 3 #[.val (.int p0)] [(.int (109 : Int32)), (.int p0)])) t → Steps p.tables e below (s₁.setTop (entryFrame m #[(.int p0)] 1)) t := fun t k => pre0 t (by
    show Steps p.tables e below (s₁.setTop (mkF m 0 #[.val (.int p0)] [])) _
    refine XS.iloadN X0.here hx rfl (hb hby d_method_3_0) rfl ?_
    show Steps p.tables e below (s₁.setTop (mkF m 1 #[.val (.int p0)] [(.int p0)])) _
    refine XS.bipush X0.here hx rfl (hb hby d_method_3_1) ?_
    exact k)
  by_cases hc3_1 : p0 = (109 : Int32)
  · obtain ⟨T3, X3, e3, st3⟩ := getS2 X0 hx hZ hown (host := "") (Or.inl (hw _ (ow 18 rfl))) Via.refl e0 S_w_CHARACTERS (g := (mkF m 6 #[.val (.int p0)] [])) rfl (hb hby d_method_3_6)
    have pre4 : ∀ t, Steps p.tables e below (T3.setTop (mkF m 9 #[.val (.int p0)] [(.ref w_CHARACTERS)])) t → Steps p.tables e below (s₁.setTop (entryFrame m #[(.int p0)] 1)) t := fun t k => pre2 t (by
      show Steps p.tables e below (s₁.setTop (mkF m 3 #[.val (.int p0)] [(.int (109 : Int32)), (.int p0)])) _
      refine XS.icmpNo X0.here hx rfl (hb hby d_method_3_3) rfl (teq hc3_1).2 ?_
      show Steps p.tables e below (s₁.setTop (mkF m 6 #[.val (.int p0)] [])) _
      refine st3 _ ?_
      exact k)
    obtain ⟨fs, hr, hrun, hended, hW, hsame⟩ := X3.leave (v := some (.ref w_CHARACTERS)) (fun h => by rw [Bd.returns] at h; cases h)
    refine ⟨_, _, pre4 _ ?_, hrun, hended, _, _, rfl, ?_, ⟨_, rfl⟩, hW, hsame.mono (by decide) (by decide)⟩
    · show Steps p.tables e below (T3.setTop (mkF m 9 #[.val (.int p0)] [(.ref w_CHARACTERS)])) _
      exact retOut X3 hx Bd.returns rfl (Or.inr (Or.inr (Or.inr (Or.inr ⟨rfl, rfl, rfl⟩)))) (hb hby d_method_3_9) hr
    · exact ⟨congrArg some (Eq.symm (if_pos hc3_1)), N0, e3⟩
  · have pre6 : ∀ t, Steps p.tables e below (s₁.setTop (mkF m 13 #[.val (.int p0)] [(.int (112 : Int32)), (.int p0)])) t → Steps p.tables e below (s₁.setTop (entryFrame m #[(.int p0)] 1)) t := fun t k => pre2 t (by
      show Steps p.tables e below (s₁.setTop (mkF m 3 #[.val (.int p0)] [(.int (109 : Int32)), (.int p0)])) _
      refine XS.icmpYes X0.here hx rfl (pc0 := 3) (pc' := 10) rfl (hb hby d_method_3_3) rfl (feq hc3_1).2 (by decide) (by decide) ?_
      show Steps p.tables e below (s₁.setTop (mkF m 10 #[.val (.int p0)] [])) _
      refine XS.iloadN X0.here hx rfl (hb hby d_method_3_10) rfl ?_
      show Steps p.tables e below (s₁.setTop (mkF m 11 #[.val (.int p0)] [(.int p0)])) _
      refine XS.bipush X0.here hx rfl (hb hby d_method_3_11) ?_
      exact k)
    by_cases hc13_5 : p0 = (112 : Int32)
    · obtain ⟨T7, X7, e7, st7⟩ := getS2 X0 hx hZ hown (host := "") (Or.inl (hw _ (ow 17 rfl))) Via.refl e0 S_w_DOTS (g := (mkF m 16 #[.val (.int p0)] [])) rfl (hb hby d_method_3_16)
      have pre8 : ∀ t, Steps p.tables e below (T7.setTop (mkF m 19 #[.val (.int p0)] [(.ref w_DOTS)])) t → Steps p.tables e below (s₁.setTop (entryFrame m #[(.int p0)] 1)) t := fun t k => pre6 t (by
        show Steps p.tables e below (s₁.setTop (mkF m 13 #[.val (.int p0)] [(.int (112 : Int32)), (.int p0)])) _
        refine XS.icmpNo X0.here hx rfl (hb hby d_method_3_13) rfl (teq hc13_5).2 ?_
        show Steps p.tables e below (s₁.setTop (mkF m 16 #[.val (.int p0)] [])) _
        refine st7 _ ?_
        exact k)
      obtain ⟨fs, hr, hrun, hended, hW, hsame⟩ := X7.leave (v := some (.ref w_DOTS)) (fun h => by rw [Bd.returns] at h; cases h)
      refine ⟨_, _, pre8 _ ?_, hrun, hended, _, _, rfl, ?_, ⟨_, rfl⟩, hW, hsame.mono (by decide) (by decide)⟩
      · show Steps p.tables e below (T7.setTop (mkF m 19 #[.val (.int p0)] [(.ref w_DOTS)])) _
        exact retOut X7 hx Bd.returns rfl (Or.inr (Or.inr (Or.inr (Or.inr ⟨rfl, rfl, rfl⟩)))) (hb hby d_method_3_19) hr
      · exact ⟨congrArg some (Eq.symm ((if_neg hc3_1).trans (if_pos hc13_5))), N0, e7⟩
    · have pre10 : ∀ t, Steps p.tables e below (s₁.setTop (mkF m 23 #[.val (.int p0)] [(.int (115 : Int32)), (.int p0)])) t → Steps p.tables e below (s₁.setTop (entryFrame m #[(.int p0)] 1)) t := fun t k => pre6 t (by
        show Steps p.tables e below (s₁.setTop (mkF m 13 #[.val (.int p0)] [(.int (112 : Int32)), (.int p0)])) _
        refine XS.icmpYes X0.here hx rfl (pc0 := 13) (pc' := 20) rfl (hb hby d_method_3_13) rfl (feq hc13_5).2 (by decide) (by decide) ?_
        show Steps p.tables e below (s₁.setTop (mkF m 20 #[.val (.int p0)] [])) _
        refine XS.iloadN X0.here hx rfl (hb hby d_method_3_20) rfl ?_
        show Steps p.tables e below (s₁.setTop (mkF m 21 #[.val (.int p0)] [(.int p0)])) _
        refine XS.bipush X0.here hx rfl (hb hby d_method_3_21) ?_
        exact k)
      by_cases hc23_9 : p0 = (115 : Int32)
      · obtain ⟨T11, X11, e11, st11⟩ := getS2 X0 hx hZ hown (host := "") (Or.inl (hw _ (ow 21 rfl))) Via.refl e0 S_w_BAMBOO (g := (mkF m 26 #[.val (.int p0)] [])) rfl (hb hby d_method_3_26)
        have pre12 : ∀ t, Steps p.tables e below (T11.setTop (mkF m 29 #[.val (.int p0)] [(.ref w_BAMBOO)])) t → Steps p.tables e below (s₁.setTop (entryFrame m #[(.int p0)] 1)) t := fun t k => pre10 t (by
          show Steps p.tables e below (s₁.setTop (mkF m 23 #[.val (.int p0)] [(.int (115 : Int32)), (.int p0)])) _
          refine XS.icmpNo X0.here hx rfl (hb hby d_method_3_23) rfl (teq hc23_9).2 ?_
          show Steps p.tables e below (s₁.setTop (mkF m 26 #[.val (.int p0)] [])) _
          refine st11 _ ?_
          exact k)
        obtain ⟨fs, hr, hrun, hended, hW, hsame⟩ := X11.leave (v := some (.ref w_BAMBOO)) (fun h => by rw [Bd.returns] at h; cases h)
        refine ⟨_, _, pre12 _ ?_, hrun, hended, _, _, rfl, ?_, ⟨_, rfl⟩, hW, hsame.mono (by decide) (by decide)⟩
        · show Steps p.tables e below (T11.setTop (mkF m 29 #[.val (.int p0)] [(.ref w_BAMBOO)])) _
          exact retOut X11 hx Bd.returns rfl (Or.inr (Or.inr (Or.inr (Or.inr ⟨rfl, rfl, rfl⟩)))) (hb hby d_method_3_29) hr
        · exact ⟨congrArg some (Eq.symm ((if_neg hc3_1).trans ((if_neg hc13_5).trans (if_pos hc23_9)))), N0, e11⟩
      · have pre14 : ∀ t, Steps p.tables e below (s₁.setTop (mkF m 33 #[.val (.int p0)] [(.int (122 : Int32)), (.int p0)])) t → Steps p.tables e below (s₁.setTop (entryFrame m #[(.int p0)] 1)) t := fun t k => pre10 t (by
          show Steps p.tables e below (s₁.setTop (mkF m 23 #[.val (.int p0)] [(.int (115 : Int32)), (.int p0)])) _
          refine XS.icmpYes X0.here hx rfl (pc0 := 23) (pc' := 30) rfl (hb hby d_method_3_23) rfl (feq hc23_9).2 (by decide) (by decide) ?_
          show Steps p.tables e below (s₁.setTop (mkF m 30 #[.val (.int p0)] [])) _
          refine XS.iloadN X0.here hx rfl (hb hby d_method_3_30) rfl ?_
          show Steps p.tables e below (s₁.setTop (mkF m 31 #[.val (.int p0)] [(.int p0)])) _
          refine XS.bipush X0.here hx rfl (hb hby d_method_3_31) ?_
          exact k)
        by_cases hc33_13 : p0 = (122 : Int32)
        · obtain ⟨T15, X15, e15, st15⟩ := getS2 X0 hx hZ hown (host := "") (Or.inl (hw _ (ow 22 rfl))) Via.refl e0 S_w_HONOURS (g := (mkF m 36 #[.val (.int p0)] [])) rfl (hb hby d_method_3_36)
          have pre16 : ∀ t, Steps p.tables e below (T15.setTop (mkF m 39 #[.val (.int p0)] [(.ref w_HONOURS)])) t → Steps p.tables e below (s₁.setTop (entryFrame m #[(.int p0)] 1)) t := fun t k => pre14 t (by
            show Steps p.tables e below (s₁.setTop (mkF m 33 #[.val (.int p0)] [(.int (122 : Int32)), (.int p0)])) _
            refine XS.icmpNo X0.here hx rfl (hb hby d_method_3_33) rfl (teq hc33_13).2 ?_
            show Steps p.tables e below (s₁.setTop (mkF m 36 #[.val (.int p0)] [])) _
            refine st15 _ ?_
            exact k)
          obtain ⟨fs, hr, hrun, hended, hW, hsame⟩ := X15.leave (v := some (.ref w_HONOURS)) (fun h => by rw [Bd.returns] at h; cases h)
          refine ⟨_, _, pre16 _ ?_, hrun, hended, _, _, rfl, ?_, ⟨_, rfl⟩, hW, hsame.mono (by decide) (by decide)⟩
          · show Steps p.tables e below (T15.setTop (mkF m 39 #[.val (.int p0)] [(.ref w_HONOURS)])) _
            exact retOut X15 hx Bd.returns rfl (Or.inr (Or.inr (Or.inr (Or.inr ⟨rfl, rfl, rfl⟩)))) (hb hby d_method_3_39) hr
          · exact ⟨congrArg some (Eq.symm ((if_neg hc3_1).trans ((if_neg hc13_5).trans ((if_neg hc23_9).trans (if_pos hc33_13))))), N0, e15⟩
        · have pre17 : ∀ t, Steps p.tables e below (s₁.setTop (mkF m 41 #[.val (.int p0)] [.null])) t → Steps p.tables e below (s₁.setTop (entryFrame m #[(.int p0)] 1)) t := fun t k => pre14 t (by
            show Steps p.tables e below (s₁.setTop (mkF m 33 #[.val (.int p0)] [(.int (122 : Int32)), (.int p0)])) _
            refine XS.icmpYes X0.here hx rfl (pc0 := 33) (pc' := 40) rfl (hb hby d_method_3_33) rfl (feq hc33_13).2 (by decide) (by decide) ?_
            show Steps p.tables e below (s₁.setTop (mkF m 40 #[.val (.int p0)] [])) _
            refine XS.aconstNull X0.here hx rfl (hb hby d_method_3_40) ?_
            exact k)
          obtain ⟨fs, hr, hrun, hended, hW, hsame⟩ := X0.leave (v := some .null) (fun h => by rw [Bd.returns] at h; cases h)
          refine ⟨_, _, pre17 _ ?_, hrun, hended, _, _, rfl, ?_, ⟨_, rfl⟩, hW, hsame.mono (by decide) (by decide)⟩
          · show Steps p.tables e below (s₁.setTop (mkF m 41 #[.val (.int p0)] [.null])) _
            exact retOut X0 hx Bd.returns rfl (Or.inr (Or.inr (Or.inr (Or.inr ⟨rfl, rfl, rfl⟩)))) (hb hby d_method_3_41) hr
          · exact ⟨congrArg some (Eq.symm ((if_neg hc3_1).trans ((if_neg hc13_5).trans ((if_neg hc23_9).trans (if_neg hc33_13))))), N0, e0⟩
theorem pd_0 : parseMethodDescriptor "(I)C" = some ⟨[.int], some .char⟩ := by decide +kernel
theorem pd_1 : parseMethodDescriptor "(C)Lcom/example/tenpai/tenpai/core/Suit;" = some ⟨[.char], some (.object "com/example/tenpai/tenpai/core/Suit")⟩ := by decide +kernel
theorem ef_law1_0 (m : MethodId) (x0 : Int32) (x1 : Int32) : entryFrame m #[(.int x0), (.int x1)] maxLocals = mkF m 0 #[.val (.int x0), .val (.int x1), .unset, .unset, .unset] [] := by first | (simp [entryFrame, mkF, argsToLocals, Value.category, maxLocals]; done) | rfl
set_option maxRecDepth 65536 in
set_option maxHeartbeats 40000000 in
theorem rm_law1_0 (l : Launch) (Z : State) (a0 : Array Value) (hw : ∀ d ∈ tables_1, d.before a0 Z = true) (ws : List Jvm.Cond) (p1 : Int32) (p2 : Int32) (h0 : Heap) (n0 : Nat) (w_ALL w_CHARACTERS w_DOTS w_BAMBOO w_HONOURS : Addr) (hK : own_K Z h0 w_ALL w_CHARACTERS w_DOTS w_BAMBOO w_HONOURS) (hj : (p2 &&& (1 : Int32)) = (1 : Int32)) (hk : (((p2.toUInt32 >>> ((1 : Int32) &&& 31).toUInt32).toInt32) &&& (3 : Int32)) = (0 : Int32)) :
    MetFree l x (head1 (Jvm.Cond.code x code maxLocals ret :: ws) room_1) (fun a U => a = #[(.int p1), (.int p2)] ∧ Z.Warmed39 U.vm ∧ U.heap = h0) (fun _ _ _ _ _ => True) (fun _ U o U' => ∃ v L, o = .returned v ∧ own_Q (some (.int (1 : Int32))) h0 n0 v U'.heap L ∧ FrameEnd U o U' L room_1.cells room_1.slots) := by
  refine MetFree.of_bodySF (plainFor_of_name pn_0) hisR ?_
  intro p e s m args below meth c s₁ Bd hml0 hP hK0
  obtain ⟨rfl, hZ, hh⟩ := hP
  have hx := Bd.exec
  have hby := Bd.bytes
  have hml : c.maxLocals = 5 := hml0
  have hown : s.vm.findClass "com/example/tenpai/tenpai/core/SuitOfPinLaw" = some m.cls := findClass_of_methodNamed Bd.named
  have hnm := (name_of_methodNamed Bd.named Bd.method).1
  have X0 : Stand p l e room_1 s m #[(.int p1), (.int p2)] below meth c s₁ [] 0 0 := Stand.of_body Bd
  have e0 : s₁.heap = h0 := by rw [← hh, Bd.state]; rfl
  have N0 := Fr.nil n0
  have pre0 : ∀ t, Steps p.tables e below (s₁.setTop (mkF m 0 #[.val (.int p1), .val (.int p2), .unset, .unset, .unset] [])) t → Steps p.tables e below (s₁.setTop (entryFrame m #[(.int p1), (.int p2)] maxLocals)) t := fun t k => castTop (ef_law1_0 m p1 p2) k
  have hK' := hK
  obtain ⟨S_w_ALL, S_w_CHARACTERS, E_w_CHARACTERS, F__letter_w_CHARACTERS, S_w_DOTS, E_w_DOTS, F__letter_w_DOTS, S_w_BAMBOO, E_w_BAMBOO, F__letter_w_BAMBOO, S_w_HONOURS, E_w_HONOURS, F__letter_w_HONOURS, B_w_ALL⟩ := hK'
  obtain ⟨cl_w_ALL, A_w_ALL, q_w_ALL⟩ := B_w_ALL
  obtain ⟨v1, _, ⟨T1, L1, k1, n1⟩, -, X1, ⟨Lc1, hQ1, l1, y1, z1⟩, st1⟩ := Jvm.LawKit.callS X0 hx (y := (⟨"com/example/tenpai/tenpai/core/SuitOfPinLaw", "pick", "(I)C"⟩ : MethodName)) hown (mvT hZ (hw _ (ow 0 rfl))) (mvT hZ (hw _ (ow 1 rfl))) (mvT hZ (hw _ (ow 2 rfl))) (mvT hZ (hw _ (ow 3 rfl))) (by decide) (backOf (W := 0) (rm_pick l Z a0 hw [] (0 : Int32) h0 n0 w_ALL w_CHARACTERS w_DOTS w_BAMBOO w_HONOURS hK) hZ (hw _ (ow 3 rfl)) (hw _ (ow 2 rfl)) (by decide) (by decide)) (g := (mkF m 11 #[.val (.int p1), .val (.int p2), .unset, .unset, .unset] [(.int (0 : Int32))])) rfl (by rw [hml]; rfl) (argsL := [(.int (0 : Int32))]) (rest := []) (lenOf pd_0 rfl) rfl (Nat.le_of_eq rfl) (hb hby at_11) (fun _ _ => ⟨rfl, e0, (by decide : 0 + 0 ≤ _), (by decide : 0 + 0 ≤ _)⟩)
  dsimp only [Pt.U, Pt.locs, Pt.cells, Pt.slots] at X1 l1 y1 z1 st1 hQ1
  subst l1 y1 z1
  obtain ⟨hv1, Nq1, e1⟩ := hQ1
  obtain rfl : v1 = some (.int (109 : Int32)) := hv1.trans (congrArg some (congrArg Value.int (if_pos (by decide))))
  have N1 := Fr.app N0 Nq1
  obtain ⟨v2, _, ⟨T2, L2, k2, n2⟩, -, X2, ⟨Lc2, hQ2, l2, y2, z2⟩, st2⟩ := Jvm.LawKit.callS X1 hx (y := (⟨"com/example/tenpai/tenpai/core/Suit", "of", "(C)Lcom/example/tenpai/tenpai/core/Suit;"⟩ : MethodName)) hown (mvT hZ (hw _ (ow 4 rfl))) (mvT hZ (hw _ (ow 5 rfl))) (mvT hZ (hw _ (ow 6 rfl))) (mvT hZ (hw _ (ow 7 rfl))) (by decide) (backOf (W := 0) (rm_of l Z a0 hw [] (109 : Int32) h0 n0 w_ALL w_CHARACTERS w_DOTS w_BAMBOO w_HONOURS hK) hZ (hw _ (ow 7 rfl)) (hw _ (ow 6 rfl)) (by decide) (by decide)) (g := (mkF m 22 #[.val (.int p1), .val (.int p2), .val (.int (109 : Int32)), .unset, .unset] [(.int (109 : Int32))])) rfl (by rw [hml]; rfl) (argsL := [(.int (109 : Int32))]) (rest := []) (lenOf pd_1 rfl) rfl (Nat.le_of_eq rfl) (hb hby at_22) (fun _ _ => ⟨rfl, e1, (by decide : 0 + 0 ≤ _), (by decide : 0 + 0 ≤ _)⟩)
  dsimp only [Pt.U, Pt.locs, Pt.cells, Pt.slots] at X2 l2 y2 z2 st2 hQ2
  subst l2 y2 z2
  obtain ⟨hv2, Nq2, e2⟩ := hQ2
  obtain rfl : v2 = some (.ref w_CHARACTERS) := hv2.trans (congrArg some (if_pos (by decide)))
  have N2 := Fr.app N1 Nq2
  obtain ⟨v3, _, ⟨T3, L3, k3, n3⟩, -, X3, ⟨Lc3, hQ3, l3, y3, z3⟩, st3⟩ := Jvm.LawKit.callS X2 hx (y := (⟨"com/example/tenpai/tenpai/core/SuitOfPinLaw", "expected", "(C)Lcom/example/tenpai/tenpai/core/Suit;"⟩ : MethodName)) hown (mvT hZ (hw _ (ow 14 rfl))) (mvT hZ (hw _ (ow 15 rfl))) (mvT hZ (hw _ (ow 2 rfl))) (mvT hZ (hw _ (ow 16 rfl))) (by decide) (backOf (W := 0) (rm_expected l Z a0 hw [] (109 : Int32) h0 n0 w_ALL w_CHARACTERS w_DOTS w_BAMBOO w_HONOURS hK) hZ (hw _ (ow 16 rfl)) (hw _ (ow 2 rfl)) (by decide) (by decide)) (g := (mkF m 27 #[.val (.int p1), .val (.int p2), .val (.int (109 : Int32)), .val (.ref w_CHARACTERS), .unset] [(.int (109 : Int32))])) rfl (by rw [hml]; rfl) (argsL := [(.int (109 : Int32))]) (rest := []) (lenOf pd_1 rfl) rfl (Nat.le_of_eq rfl) (hb hby at_27) (fun _ _ => ⟨rfl, e2, (by decide : 0 + 0 ≤ _), (by decide : 0 + 0 ≤ _)⟩)
  dsimp only [Pt.U, Pt.locs, Pt.cells, Pt.slots] at X3 l3 y3 z3 st3 hQ3
  subst l3 y3 z3
  obtain ⟨hv3, Nq3, e3⟩ := hQ3
  obtain rfl : v3 = some (.ref w_CHARACTERS) := hv3.trans (congrArg some (if_pos (by decide)))
  have N3 := Fr.app N2 Nq3
  have pre4 : ∀ t, Steps p.tables e below (T3.setTop (mkF m 43 #[.val (.int p1), .val (.int p2), .val (.int (109 : Int32)), .val (.ref w_CHARACTERS), .val (.ref w_CHARACTERS)] [(.int (1 : Int32))])) t → Steps p.tables e below (s₁.setTop (entryFrame m #[(.int p1), (.int p2)] maxLocals)) t := fun t k => pre0 t (by
    show Steps p.tables e below (s₁.setTop (mkF m 0 #[.val (.int p1), .val (.int p2), .unset, .unset, .unset] [])) _
    refine XS.iloadN X0.here hx rfl (hb hby at_0) rfl ?_
    show Steps p.tables e below (s₁.setTop (mkF m 1 #[.val (.int p1), .val (.int p2), .unset, .unset, .unset] [(.int p2)])) _
    refine XS.iconst X0.here hx rfl (hb hby at_1) ?_
    show Steps p.tables e below (s₁.setTop (mkF m 2 #[.val (.int p1), .val (.int p2), .unset, .unset, .unset] [(.int (1 : Int32)), (.int p2)])) _
    refine XS.iand X0.here hx rfl (hb hby at_2) rfl ?_
    show Steps p.tables e below (s₁.setTop (mkF m 3 #[.val (.int p1), .val (.int p2), .unset, .unset, .unset] [(.int (p2 &&& (1 : Int32)))])) _
    rw [hj]
    show Steps p.tables e below (s₁.setTop (mkF m 3 #[.val (.int p1), .val (.int p2), .unset, .unset, .unset] [(.int (1 : Int32))])) _
    refine XS.ifNo X0.here hx rfl (hb hby at_3) rfl ((if0 _ _).trans (feq (by decide)).1) ?_
    show Steps p.tables e below (s₁.setTop (mkF m 6 #[.val (.int p1), .val (.int p2), .unset, .unset, .unset] [])) _
    refine XS.iloadN X0.here hx rfl (hb hby at_6) rfl ?_
    show Steps p.tables e below (s₁.setTop (mkF m 7 #[.val (.int p1), .val (.int p2), .unset, .unset, .unset] [(.int p2)])) _
    refine XS.iconst X0.here hx rfl (hb hby at_7) ?_
    show Steps p.tables e below (s₁.setTop (mkF m 8 #[.val (.int p1), .val (.int p2), .unset, .unset, .unset] [(.int (1 : Int32)), (.int p2)])) _
    refine XS.iushr X0.here hx rfl (hb hby at_8) rfl ?_
    show Steps p.tables e below (s₁.setTop (mkF m 9 #[.val (.int p1), .val (.int p2), .unset, .unset, .unset] [(.int ((p2.toUInt32 >>> ((1 : Int32) &&& 31).toUInt32).toInt32))])) _
    refine XS.iconst X0.here hx rfl (hb hby at_9) ?_
    show Steps p.tables e below (s₁.setTop (mkF m 10 #[.val (.int p1), .val (.int p2), .unset, .unset, .unset] [(.int (3 : Int32)), (.int ((p2.toUInt32 >>> ((1 : Int32) &&& 31).toUInt32).toInt32))])) _
    refine XS.iand X0.here hx rfl (hb hby at_10) rfl ?_
    show Steps p.tables e below (s₁.setTop (mkF m 11 #[.val (.int p1), .val (.int p2), .unset, .unset, .unset] [(.int (((p2.toUInt32 >>> ((1 : Int32) &&& 31).toUInt32).toInt32) &&& (3 : Int32)))])) _
    rw [hk]
    show Steps p.tables e below (s₁.setTop (mkF m 11 #[.val (.int p1), .val (.int p2), .unset, .unset, .unset] [(.int (0 : Int32))])) _
    refine st1 _ ?_
    show Steps p.tables e below (T1.setTop (mkF m 14 #[.val (.int p1), .val (.int p2), .unset, .unset, .unset] [(.int (109 : Int32))])) _
    refine XS.istoreN X1.here hx rfl (hb hby at_14) rfl (l' := #[.val (.int p1), .val (.int p2), .val (.int (109 : Int32)), .unset, .unset]) rfl ?_
    show Steps p.tables e below (T1.setTop (mkF m 15 #[.val (.int p1), .val (.int p2), .val (.int (109 : Int32)), .unset, .unset] [])) _
    refine XS.goto X1.here hx rfl (pc0 := 15) (pc' := 21) rfl (hb hby at_15) (by decide) (by decide) ?_
    show Steps p.tables e below (T1.setTop (mkF m 21 #[.val (.int p1), .val (.int p2), .val (.int (109 : Int32)), .unset, .unset] [])) _
    refine XS.iloadN X1.here hx rfl (hb hby at_21) rfl ?_
    show Steps p.tables e below (T1.setTop (mkF m 22 #[.val (.int p1), .val (.int p2), .val (.int (109 : Int32)), .unset, .unset] [(.int (109 : Int32))])) _
    refine st2 _ ?_
    show Steps p.tables e below (T2.setTop (mkF m 25 #[.val (.int p1), .val (.int p2), .val (.int (109 : Int32)), .unset, .unset] [(.ref w_CHARACTERS)])) _
    refine XS.astoreN X2.here hx rfl (hb hby at_25) rfl rfl (l' := #[.val (.int p1), .val (.int p2), .val (.int (109 : Int32)), .val (.ref w_CHARACTERS), .unset]) rfl ?_
    show Steps p.tables e below (T2.setTop (mkF m 26 #[.val (.int p1), .val (.int p2), .val (.int (109 : Int32)), .val (.ref w_CHARACTERS), .unset] [])) _
    refine XS.iloadN X2.here hx rfl (hb hby at_26) rfl ?_
    show Steps p.tables e below (T2.setTop (mkF m 27 #[.val (.int p1), .val (.int p2), .val (.int (109 : Int32)), .val (.ref w_CHARACTERS), .unset] [(.int (109 : Int32))])) _
    refine st3 _ ?_
    show Steps p.tables e below (T3.setTop (mkF m 30 #[.val (.int p1), .val (.int p2), .val (.int (109 : Int32)), .val (.ref w_CHARACTERS), .unset] [(.ref w_CHARACTERS)])) _
    refine XS.astore X3.here hx rfl (hb hby at_30) rfl rfl (l' := #[.val (.int p1), .val (.int p2), .val (.int (109 : Int32)), .val (.ref w_CHARACTERS), .val (.ref w_CHARACTERS)]) rfl ?_
    show Steps p.tables e below (T3.setTop (mkF m 32 #[.val (.int p1), .val (.int p2), .val (.int (109 : Int32)), .val (.ref w_CHARACTERS), .val (.ref w_CHARACTERS)] [])) _
    refine XS.aloadN X3.here hx rfl (hb hby at_32) rfl rfl ?_
    show Steps p.tables e below (T3.setTop (mkF m 33 #[.val (.int p1), .val (.int p2), .val (.int (109 : Int32)), .val (.ref w_CHARACTERS), .val (.ref w_CHARACTERS)] [(.ref w_CHARACTERS)])) _
    refine XS.aload X3.here hx rfl (hb hby at_33) rfl rfl ?_
    show Steps p.tables e below (T3.setTop (mkF m 35 #[.val (.int p1), .val (.int p2), .val (.int (109 : Int32)), .val (.ref w_CHARACTERS), .val (.ref w_CHARACTERS)] [(.ref w_CHARACTERS), (.ref w_CHARACTERS)])) _
    refine Jvm.RoadKit.acmp (g := (mkF m 35 #[.val (.int p1), .val (.int p2), .val (.int (109 : Int32)), .val (.ref w_CHARACTERS), .val (.ref w_CHARACTERS)] [(.ref w_CHARACTERS), (.ref w_CHARACTERS)])) X3 hx rfl rfl rfl (pc0 := 35) (pc' := 38) (same := true) rfl (hb hby at_35) rfl (decide_eq_true rfl) (by decide) (by decide) ?_
    show Steps p.tables e below (T3.setTop (mkF m 38 #[.val (.int p1), .val (.int p2), .val (.int (109 : Int32)), .val (.ref w_CHARACTERS), .val (.ref w_CHARACTERS)] [])) _
    refine XS.iconst X3.here hx rfl (hb hby at_38) ?_
    show Steps p.tables e below (T3.setTop (mkF m 39 #[.val (.int p1), .val (.int p2), .val (.int (109 : Int32)), .val (.ref w_CHARACTERS), .val (.ref w_CHARACTERS)] [(.int (1 : Int32))])) _
    refine XS.goto X3.here hx rfl (pc0 := 39) (pc' := 43) rfl (hb hby at_39) (by decide) (by decide) ?_
    exact k)
  obtain ⟨fs, hr, hrun, hended, hW, hsame⟩ := X3.leave (v := some (.int (1 : Int32))) (fun h => by rw [Bd.returns] at h; cases h)
  refine ⟨_, _, pre4 _ ?_, hrun, hended, _, _, rfl, ?_, ⟨_, rfl⟩, hW, hsame.mono (by decide) (by decide)⟩
  · show Steps p.tables e below (T3.setTop (mkF m 43 #[.val (.int p1), .val (.int p2), .val (.int (109 : Int32)), .val (.ref w_CHARACTERS), .val (.ref w_CHARACTERS)] [(.int (1 : Int32))])) _
    exact retN X3 hx (t := .boolean) Bd.returns (by simp) (hb hby at_43) hr
  · exact ⟨rfl, N3, e3⟩
theorem ef_law1_1 (m : MethodId) (x0 : Int32) (x1 : Int32) : entryFrame m #[(.int x0), (.int x1)] maxLocals = mkF m 0 #[.val (.int x0), .val (.int x1), .unset, .unset, .unset] [] := by first | (simp [entryFrame, mkF, argsToLocals, Value.category, maxLocals]; done) | rfl
set_option maxRecDepth 65536 in
set_option maxHeartbeats 40000000 in
theorem rm_law1_1 (l : Launch) (Z : State) (a0 : Array Value) (hw : ∀ d ∈ tables_1, d.before a0 Z = true) (ws : List Jvm.Cond) (p1 : Int32) (p2 : Int32) (h0 : Heap) (n0 : Nat) (w_ALL w_CHARACTERS w_DOTS w_BAMBOO w_HONOURS : Addr) (hK : own_K Z h0 w_ALL w_CHARACTERS w_DOTS w_BAMBOO w_HONOURS) (hj : (p2 &&& (1 : Int32)) = (1 : Int32)) (hk : (((p2.toUInt32 >>> ((1 : Int32) &&& 31).toUInt32).toInt32) &&& (3 : Int32)) = (1 : Int32)) :
    MetFree l x (head1 (Jvm.Cond.code x code maxLocals ret :: ws) room_1) (fun a U => a = #[(.int p1), (.int p2)] ∧ Z.Warmed39 U.vm ∧ U.heap = h0) (fun _ _ _ _ _ => True) (fun _ U o U' => ∃ v L, o = .returned v ∧ own_Q (some (.int (1 : Int32))) h0 n0 v U'.heap L ∧ FrameEnd U o U' L room_1.cells room_1.slots) := by
  refine MetFree.of_bodySF (plainFor_of_name pn_0) hisR ?_
  intro p e s m args below meth c s₁ Bd hml0 hP hK0
  obtain ⟨rfl, hZ, hh⟩ := hP
  have hx := Bd.exec
  have hby := Bd.bytes
  have hml : c.maxLocals = 5 := hml0
  have hown : s.vm.findClass "com/example/tenpai/tenpai/core/SuitOfPinLaw" = some m.cls := findClass_of_methodNamed Bd.named
  have hnm := (name_of_methodNamed Bd.named Bd.method).1
  have X0 : Stand p l e room_1 s m #[(.int p1), (.int p2)] below meth c s₁ [] 0 0 := Stand.of_body Bd
  have e0 : s₁.heap = h0 := by rw [← hh, Bd.state]; rfl
  have N0 := Fr.nil n0
  have pre0 : ∀ t, Steps p.tables e below (s₁.setTop (mkF m 0 #[.val (.int p1), .val (.int p2), .unset, .unset, .unset] [])) t → Steps p.tables e below (s₁.setTop (entryFrame m #[(.int p1), (.int p2)] maxLocals)) t := fun t k => castTop (ef_law1_1 m p1 p2) k
  have hK' := hK
  obtain ⟨S_w_ALL, S_w_CHARACTERS, E_w_CHARACTERS, F__letter_w_CHARACTERS, S_w_DOTS, E_w_DOTS, F__letter_w_DOTS, S_w_BAMBOO, E_w_BAMBOO, F__letter_w_BAMBOO, S_w_HONOURS, E_w_HONOURS, F__letter_w_HONOURS, B_w_ALL⟩ := hK'
  obtain ⟨cl_w_ALL, A_w_ALL, q_w_ALL⟩ := B_w_ALL
  obtain ⟨v1, _, ⟨T1, L1, k1, n1⟩, -, X1, ⟨Lc1, hQ1, l1, y1, z1⟩, st1⟩ := Jvm.LawKit.callS X0 hx (y := (⟨"com/example/tenpai/tenpai/core/SuitOfPinLaw", "pick", "(I)C"⟩ : MethodName)) hown (mvT hZ (hw _ (ow 0 rfl))) (mvT hZ (hw _ (ow 1 rfl))) (mvT hZ (hw _ (ow 2 rfl))) (mvT hZ (hw _ (ow 3 rfl))) (by decide) (backOf (W := 0) (rm_pick l Z a0 hw [] (1 : Int32) h0 n0 w_ALL w_CHARACTERS w_DOTS w_BAMBOO w_HONOURS hK) hZ (hw _ (ow 3 rfl)) (hw _ (ow 2 rfl)) (by decide) (by decide)) (g := (mkF m 11 #[.val (.int p1), .val (.int p2), .unset, .unset, .unset] [(.int (1 : Int32))])) rfl (by rw [hml]; rfl) (argsL := [(.int (1 : Int32))]) (rest := []) (lenOf pd_0 rfl) rfl (Nat.le_of_eq rfl) (hb hby at_11) (fun _ _ => ⟨rfl, e0, (by decide : 0 + 0 ≤ _), (by decide : 0 + 0 ≤ _)⟩)
  dsimp only [Pt.U, Pt.locs, Pt.cells, Pt.slots] at X1 l1 y1 z1 st1 hQ1
  subst l1 y1 z1
  obtain ⟨hv1, Nq1, e1⟩ := hQ1
  obtain rfl : v1 = some (.int (112 : Int32)) := hv1.trans (congrArg some (congrArg Value.int ((if_neg (by decide)).trans (if_pos (by decide)))))
  have N1 := Fr.app N0 Nq1
  obtain ⟨v2, _, ⟨T2, L2, k2, n2⟩, -, X2, ⟨Lc2, hQ2, l2, y2, z2⟩, st2⟩ := Jvm.LawKit.callS X1 hx (y := (⟨"com/example/tenpai/tenpai/core/Suit", "of", "(C)Lcom/example/tenpai/tenpai/core/Suit;"⟩ : MethodName)) hown (mvT hZ (hw _ (ow 4 rfl))) (mvT hZ (hw _ (ow 5 rfl))) (mvT hZ (hw _ (ow 6 rfl))) (mvT hZ (hw _ (ow 7 rfl))) (by decide) (backOf (W := 0) (rm_of l Z a0 hw [] (112 : Int32) h0 n0 w_ALL w_CHARACTERS w_DOTS w_BAMBOO w_HONOURS hK) hZ (hw _ (ow 7 rfl)) (hw _ (ow 6 rfl)) (by decide) (by decide)) (g := (mkF m 22 #[.val (.int p1), .val (.int p2), .val (.int (112 : Int32)), .unset, .unset] [(.int (112 : Int32))])) rfl (by rw [hml]; rfl) (argsL := [(.int (112 : Int32))]) (rest := []) (lenOf pd_1 rfl) rfl (Nat.le_of_eq rfl) (hb hby at_22) (fun _ _ => ⟨rfl, e1, (by decide : 0 + 0 ≤ _), (by decide : 0 + 0 ≤ _)⟩)
  dsimp only [Pt.U, Pt.locs, Pt.cells, Pt.slots] at X2 l2 y2 z2 st2 hQ2
  subst l2 y2 z2
  obtain ⟨hv2, Nq2, e2⟩ := hQ2
  obtain rfl : v2 = some (.ref w_DOTS) := hv2.trans (congrArg some ((if_neg (by decide)).trans (if_pos (by decide))))
  have N2 := Fr.app N1 Nq2
  obtain ⟨v3, _, ⟨T3, L3, k3, n3⟩, -, X3, ⟨Lc3, hQ3, l3, y3, z3⟩, st3⟩ := Jvm.LawKit.callS X2 hx (y := (⟨"com/example/tenpai/tenpai/core/SuitOfPinLaw", "expected", "(C)Lcom/example/tenpai/tenpai/core/Suit;"⟩ : MethodName)) hown (mvT hZ (hw _ (ow 14 rfl))) (mvT hZ (hw _ (ow 15 rfl))) (mvT hZ (hw _ (ow 2 rfl))) (mvT hZ (hw _ (ow 16 rfl))) (by decide) (backOf (W := 0) (rm_expected l Z a0 hw [] (112 : Int32) h0 n0 w_ALL w_CHARACTERS w_DOTS w_BAMBOO w_HONOURS hK) hZ (hw _ (ow 16 rfl)) (hw _ (ow 2 rfl)) (by decide) (by decide)) (g := (mkF m 27 #[.val (.int p1), .val (.int p2), .val (.int (112 : Int32)), .val (.ref w_DOTS), .unset] [(.int (112 : Int32))])) rfl (by rw [hml]; rfl) (argsL := [(.int (112 : Int32))]) (rest := []) (lenOf pd_1 rfl) rfl (Nat.le_of_eq rfl) (hb hby at_27) (fun _ _ => ⟨rfl, e2, (by decide : 0 + 0 ≤ _), (by decide : 0 + 0 ≤ _)⟩)
  dsimp only [Pt.U, Pt.locs, Pt.cells, Pt.slots] at X3 l3 y3 z3 st3 hQ3
  subst l3 y3 z3
  obtain ⟨hv3, Nq3, e3⟩ := hQ3
  obtain rfl : v3 = some (.ref w_DOTS) := hv3.trans (congrArg some ((if_neg (by decide)).trans (if_pos (by decide))))
  have N3 := Fr.app N2 Nq3
  have pre4 : ∀ t, Steps p.tables e below (T3.setTop (mkF m 43 #[.val (.int p1), .val (.int p2), .val (.int (112 : Int32)), .val (.ref w_DOTS), .val (.ref w_DOTS)] [(.int (1 : Int32))])) t → Steps p.tables e below (s₁.setTop (entryFrame m #[(.int p1), (.int p2)] maxLocals)) t := fun t k => pre0 t (by
    show Steps p.tables e below (s₁.setTop (mkF m 0 #[.val (.int p1), .val (.int p2), .unset, .unset, .unset] [])) _
    refine XS.iloadN X0.here hx rfl (hb hby at_0) rfl ?_
    show Steps p.tables e below (s₁.setTop (mkF m 1 #[.val (.int p1), .val (.int p2), .unset, .unset, .unset] [(.int p2)])) _
    refine XS.iconst X0.here hx rfl (hb hby at_1) ?_
    show Steps p.tables e below (s₁.setTop (mkF m 2 #[.val (.int p1), .val (.int p2), .unset, .unset, .unset] [(.int (1 : Int32)), (.int p2)])) _
    refine XS.iand X0.here hx rfl (hb hby at_2) rfl ?_
    show Steps p.tables e below (s₁.setTop (mkF m 3 #[.val (.int p1), .val (.int p2), .unset, .unset, .unset] [(.int (p2 &&& (1 : Int32)))])) _
    rw [hj]
    show Steps p.tables e below (s₁.setTop (mkF m 3 #[.val (.int p1), .val (.int p2), .unset, .unset, .unset] [(.int (1 : Int32))])) _
    refine XS.ifNo X0.here hx rfl (hb hby at_3) rfl ((if0 _ _).trans (feq (by decide)).1) ?_
    show Steps p.tables e below (s₁.setTop (mkF m 6 #[.val (.int p1), .val (.int p2), .unset, .unset, .unset] [])) _
    refine XS.iloadN X0.here hx rfl (hb hby at_6) rfl ?_
    show Steps p.tables e below (s₁.setTop (mkF m 7 #[.val (.int p1), .val (.int p2), .unset, .unset, .unset] [(.int p2)])) _
    refine XS.iconst X0.here hx rfl (hb hby at_7) ?_
    show Steps p.tables e below (s₁.setTop (mkF m 8 #[.val (.int p1), .val (.int p2), .unset, .unset, .unset] [(.int (1 : Int32)), (.int p2)])) _
    refine XS.iushr X0.here hx rfl (hb hby at_8) rfl ?_
    show Steps p.tables e below (s₁.setTop (mkF m 9 #[.val (.int p1), .val (.int p2), .unset, .unset, .unset] [(.int ((p2.toUInt32 >>> ((1 : Int32) &&& 31).toUInt32).toInt32))])) _
    refine XS.iconst X0.here hx rfl (hb hby at_9) ?_
    show Steps p.tables e below (s₁.setTop (mkF m 10 #[.val (.int p1), .val (.int p2), .unset, .unset, .unset] [(.int (3 : Int32)), (.int ((p2.toUInt32 >>> ((1 : Int32) &&& 31).toUInt32).toInt32))])) _
    refine XS.iand X0.here hx rfl (hb hby at_10) rfl ?_
    show Steps p.tables e below (s₁.setTop (mkF m 11 #[.val (.int p1), .val (.int p2), .unset, .unset, .unset] [(.int (((p2.toUInt32 >>> ((1 : Int32) &&& 31).toUInt32).toInt32) &&& (3 : Int32)))])) _
    rw [hk]
    show Steps p.tables e below (s₁.setTop (mkF m 11 #[.val (.int p1), .val (.int p2), .unset, .unset, .unset] [(.int (1 : Int32))])) _
    refine st1 _ ?_
    show Steps p.tables e below (T1.setTop (mkF m 14 #[.val (.int p1), .val (.int p2), .unset, .unset, .unset] [(.int (112 : Int32))])) _
    refine XS.istoreN X1.here hx rfl (hb hby at_14) rfl (l' := #[.val (.int p1), .val (.int p2), .val (.int (112 : Int32)), .unset, .unset]) rfl ?_
    show Steps p.tables e below (T1.setTop (mkF m 15 #[.val (.int p1), .val (.int p2), .val (.int (112 : Int32)), .unset, .unset] [])) _
    refine XS.goto X1.here hx rfl (pc0 := 15) (pc' := 21) rfl (hb hby at_15) (by decide) (by decide) ?_
    show Steps p.tables e below (T1.setTop (mkF m 21 #[.val (.int p1), .val (.int p2), .val (.int (112 : Int32)), .unset, .unset] [])) _
    refine XS.iloadN X1.here hx rfl (hb hby at_21) rfl ?_
    show Steps p.tables e below (T1.setTop (mkF m 22 #[.val (.int p1), .val (.int p2), .val (.int (112 : Int32)), .unset, .unset] [(.int (112 : Int32))])) _
    refine st2 _ ?_
    show Steps p.tables e below (T2.setTop (mkF m 25 #[.val (.int p1), .val (.int p2), .val (.int (112 : Int32)), .unset, .unset] [(.ref w_DOTS)])) _
    refine XS.astoreN X2.here hx rfl (hb hby at_25) rfl rfl (l' := #[.val (.int p1), .val (.int p2), .val (.int (112 : Int32)), .val (.ref w_DOTS), .unset]) rfl ?_
    show Steps p.tables e below (T2.setTop (mkF m 26 #[.val (.int p1), .val (.int p2), .val (.int (112 : Int32)), .val (.ref w_DOTS), .unset] [])) _
    refine XS.iloadN X2.here hx rfl (hb hby at_26) rfl ?_
    show Steps p.tables e below (T2.setTop (mkF m 27 #[.val (.int p1), .val (.int p2), .val (.int (112 : Int32)), .val (.ref w_DOTS), .unset] [(.int (112 : Int32))])) _
    refine st3 _ ?_
    show Steps p.tables e below (T3.setTop (mkF m 30 #[.val (.int p1), .val (.int p2), .val (.int (112 : Int32)), .val (.ref w_DOTS), .unset] [(.ref w_DOTS)])) _
    refine XS.astore X3.here hx rfl (hb hby at_30) rfl rfl (l' := #[.val (.int p1), .val (.int p2), .val (.int (112 : Int32)), .val (.ref w_DOTS), .val (.ref w_DOTS)]) rfl ?_
    show Steps p.tables e below (T3.setTop (mkF m 32 #[.val (.int p1), .val (.int p2), .val (.int (112 : Int32)), .val (.ref w_DOTS), .val (.ref w_DOTS)] [])) _
    refine XS.aloadN X3.here hx rfl (hb hby at_32) rfl rfl ?_
    show Steps p.tables e below (T3.setTop (mkF m 33 #[.val (.int p1), .val (.int p2), .val (.int (112 : Int32)), .val (.ref w_DOTS), .val (.ref w_DOTS)] [(.ref w_DOTS)])) _
    refine XS.aload X3.here hx rfl (hb hby at_33) rfl rfl ?_
    show Steps p.tables e below (T3.setTop (mkF m 35 #[.val (.int p1), .val (.int p2), .val (.int (112 : Int32)), .val (.ref w_DOTS), .val (.ref w_DOTS)] [(.ref w_DOTS), (.ref w_DOTS)])) _
    refine Jvm.RoadKit.acmp (g := (mkF m 35 #[.val (.int p1), .val (.int p2), .val (.int (112 : Int32)), .val (.ref w_DOTS), .val (.ref w_DOTS)] [(.ref w_DOTS), (.ref w_DOTS)])) X3 hx rfl rfl rfl (pc0 := 35) (pc' := 38) (same := true) rfl (hb hby at_35) rfl (decide_eq_true rfl) (by decide) (by decide) ?_
    show Steps p.tables e below (T3.setTop (mkF m 38 #[.val (.int p1), .val (.int p2), .val (.int (112 : Int32)), .val (.ref w_DOTS), .val (.ref w_DOTS)] [])) _
    refine XS.iconst X3.here hx rfl (hb hby at_38) ?_
    show Steps p.tables e below (T3.setTop (mkF m 39 #[.val (.int p1), .val (.int p2), .val (.int (112 : Int32)), .val (.ref w_DOTS), .val (.ref w_DOTS)] [(.int (1 : Int32))])) _
    refine XS.goto X3.here hx rfl (pc0 := 39) (pc' := 43) rfl (hb hby at_39) (by decide) (by decide) ?_
    exact k)
  obtain ⟨fs, hr, hrun, hended, hW, hsame⟩ := X3.leave (v := some (.int (1 : Int32))) (fun h => by rw [Bd.returns] at h; cases h)
  refine ⟨_, _, pre4 _ ?_, hrun, hended, _, _, rfl, ?_, ⟨_, rfl⟩, hW, hsame.mono (by decide) (by decide)⟩
  · show Steps p.tables e below (T3.setTop (mkF m 43 #[.val (.int p1), .val (.int p2), .val (.int (112 : Int32)), .val (.ref w_DOTS), .val (.ref w_DOTS)] [(.int (1 : Int32))])) _
    exact retN X3 hx (t := .boolean) Bd.returns (by simp) (hb hby at_43) hr
  · exact ⟨rfl, N3, e3⟩
theorem ef_law1_2 (m : MethodId) (x0 : Int32) (x1 : Int32) : entryFrame m #[(.int x0), (.int x1)] maxLocals = mkF m 0 #[.val (.int x0), .val (.int x1), .unset, .unset, .unset] [] := by first | (simp [entryFrame, mkF, argsToLocals, Value.category, maxLocals]; done) | rfl
set_option maxRecDepth 65536 in
set_option maxHeartbeats 40000000 in
theorem rm_law1_2 (l : Launch) (Z : State) (a0 : Array Value) (hw : ∀ d ∈ tables_1, d.before a0 Z = true) (ws : List Jvm.Cond) (p1 : Int32) (p2 : Int32) (h0 : Heap) (n0 : Nat) (w_ALL w_CHARACTERS w_DOTS w_BAMBOO w_HONOURS : Addr) (hK : own_K Z h0 w_ALL w_CHARACTERS w_DOTS w_BAMBOO w_HONOURS) (hj : (p2 &&& (1 : Int32)) = (1 : Int32)) (hk : (((p2.toUInt32 >>> ((1 : Int32) &&& 31).toUInt32).toInt32) &&& (3 : Int32)) = (2 : Int32)) :
    MetFree l x (head1 (Jvm.Cond.code x code maxLocals ret :: ws) room_1) (fun a U => a = #[(.int p1), (.int p2)] ∧ Z.Warmed39 U.vm ∧ U.heap = h0) (fun _ _ _ _ _ => True) (fun _ U o U' => ∃ v L, o = .returned v ∧ own_Q (some (.int (1 : Int32))) h0 n0 v U'.heap L ∧ FrameEnd U o U' L room_1.cells room_1.slots) := by
  refine MetFree.of_bodySF (plainFor_of_name pn_0) hisR ?_
  intro p e s m args below meth c s₁ Bd hml0 hP hK0
  obtain ⟨rfl, hZ, hh⟩ := hP
  have hx := Bd.exec
  have hby := Bd.bytes
  have hml : c.maxLocals = 5 := hml0
  have hown : s.vm.findClass "com/example/tenpai/tenpai/core/SuitOfPinLaw" = some m.cls := findClass_of_methodNamed Bd.named
  have hnm := (name_of_methodNamed Bd.named Bd.method).1
  have X0 : Stand p l e room_1 s m #[(.int p1), (.int p2)] below meth c s₁ [] 0 0 := Stand.of_body Bd
  have e0 : s₁.heap = h0 := by rw [← hh, Bd.state]; rfl
  have N0 := Fr.nil n0
  have pre0 : ∀ t, Steps p.tables e below (s₁.setTop (mkF m 0 #[.val (.int p1), .val (.int p2), .unset, .unset, .unset] [])) t → Steps p.tables e below (s₁.setTop (entryFrame m #[(.int p1), (.int p2)] maxLocals)) t := fun t k => castTop (ef_law1_2 m p1 p2) k
  have hK' := hK
  obtain ⟨S_w_ALL, S_w_CHARACTERS, E_w_CHARACTERS, F__letter_w_CHARACTERS, S_w_DOTS, E_w_DOTS, F__letter_w_DOTS, S_w_BAMBOO, E_w_BAMBOO, F__letter_w_BAMBOO, S_w_HONOURS, E_w_HONOURS, F__letter_w_HONOURS, B_w_ALL⟩ := hK'
  obtain ⟨cl_w_ALL, A_w_ALL, q_w_ALL⟩ := B_w_ALL
  obtain ⟨v1, _, ⟨T1, L1, k1, n1⟩, -, X1, ⟨Lc1, hQ1, l1, y1, z1⟩, st1⟩ := Jvm.LawKit.callS X0 hx (y := (⟨"com/example/tenpai/tenpai/core/SuitOfPinLaw", "pick", "(I)C"⟩ : MethodName)) hown (mvT hZ (hw _ (ow 0 rfl))) (mvT hZ (hw _ (ow 1 rfl))) (mvT hZ (hw _ (ow 2 rfl))) (mvT hZ (hw _ (ow 3 rfl))) (by decide) (backOf (W := 0) (rm_pick l Z a0 hw [] (2 : Int32) h0 n0 w_ALL w_CHARACTERS w_DOTS w_BAMBOO w_HONOURS hK) hZ (hw _ (ow 3 rfl)) (hw _ (ow 2 rfl)) (by decide) (by decide)) (g := (mkF m 11 #[.val (.int p1), .val (.int p2), .unset, .unset, .unset] [(.int (2 : Int32))])) rfl (by rw [hml]; rfl) (argsL := [(.int (2 : Int32))]) (rest := []) (lenOf pd_0 rfl) rfl (Nat.le_of_eq rfl) (hb hby at_11) (fun _ _ => ⟨rfl, e0, (by decide : 0 + 0 ≤ _), (by decide : 0 + 0 ≤ _)⟩)
  dsimp only [Pt.U, Pt.locs, Pt.cells, Pt.slots] at X1 l1 y1 z1 st1 hQ1
  subst l1 y1 z1
  obtain ⟨hv1, Nq1, e1⟩ := hQ1
  obtain rfl : v1 = some (.int (115 : Int32)) := hv1.trans (congrArg some (congrArg Value.int ((if_neg (by decide)).trans ((if_neg (by decide)).trans (if_pos (by decide))))))
  have N1 := Fr.app N0 Nq1
  obtain ⟨v2, _, ⟨T2, L2, k2, n2⟩, -, X2, ⟨Lc2, hQ2, l2, y2, z2⟩, st2⟩ := Jvm.LawKit.callS X1 hx (y := (⟨"com/example/tenpai/tenpai/core/Suit", "of", "(C)Lcom/example/tenpai/tenpai/core/Suit;"⟩ : MethodName)) hown (mvT hZ (hw _ (ow 4 rfl))) (mvT hZ (hw _ (ow 5 rfl))) (mvT hZ (hw _ (ow 6 rfl))) (mvT hZ (hw _ (ow 7 rfl))) (by decide) (backOf (W := 0) (rm_of l Z a0 hw [] (115 : Int32) h0 n0 w_ALL w_CHARACTERS w_DOTS w_BAMBOO w_HONOURS hK) hZ (hw _ (ow 7 rfl)) (hw _ (ow 6 rfl)) (by decide) (by decide)) (g := (mkF m 22 #[.val (.int p1), .val (.int p2), .val (.int (115 : Int32)), .unset, .unset] [(.int (115 : Int32))])) rfl (by rw [hml]; rfl) (argsL := [(.int (115 : Int32))]) (rest := []) (lenOf pd_1 rfl) rfl (Nat.le_of_eq rfl) (hb hby at_22) (fun _ _ => ⟨rfl, e1, (by decide : 0 + 0 ≤ _), (by decide : 0 + 0 ≤ _)⟩)
  dsimp only [Pt.U, Pt.locs, Pt.cells, Pt.slots] at X2 l2 y2 z2 st2 hQ2
  subst l2 y2 z2
  obtain ⟨hv2, Nq2, e2⟩ := hQ2
  obtain rfl : v2 = some (.ref w_BAMBOO) := hv2.trans (congrArg some ((if_neg (by decide)).trans ((if_neg (by decide)).trans (if_pos (by decide)))))
  have N2 := Fr.app N1 Nq2
  obtain ⟨v3, _, ⟨T3, L3, k3, n3⟩, -, X3, ⟨Lc3, hQ3, l3, y3, z3⟩, st3⟩ := Jvm.LawKit.callS X2 hx (y := (⟨"com/example/tenpai/tenpai/core/SuitOfPinLaw", "expected", "(C)Lcom/example/tenpai/tenpai/core/Suit;"⟩ : MethodName)) hown (mvT hZ (hw _ (ow 14 rfl))) (mvT hZ (hw _ (ow 15 rfl))) (mvT hZ (hw _ (ow 2 rfl))) (mvT hZ (hw _ (ow 16 rfl))) (by decide) (backOf (W := 0) (rm_expected l Z a0 hw [] (115 : Int32) h0 n0 w_ALL w_CHARACTERS w_DOTS w_BAMBOO w_HONOURS hK) hZ (hw _ (ow 16 rfl)) (hw _ (ow 2 rfl)) (by decide) (by decide)) (g := (mkF m 27 #[.val (.int p1), .val (.int p2), .val (.int (115 : Int32)), .val (.ref w_BAMBOO), .unset] [(.int (115 : Int32))])) rfl (by rw [hml]; rfl) (argsL := [(.int (115 : Int32))]) (rest := []) (lenOf pd_1 rfl) rfl (Nat.le_of_eq rfl) (hb hby at_27) (fun _ _ => ⟨rfl, e2, (by decide : 0 + 0 ≤ _), (by decide : 0 + 0 ≤ _)⟩)
  dsimp only [Pt.U, Pt.locs, Pt.cells, Pt.slots] at X3 l3 y3 z3 st3 hQ3
  subst l3 y3 z3
  obtain ⟨hv3, Nq3, e3⟩ := hQ3
  obtain rfl : v3 = some (.ref w_BAMBOO) := hv3.trans (congrArg some ((if_neg (by decide)).trans ((if_neg (by decide)).trans (if_pos (by decide)))))
  have N3 := Fr.app N2 Nq3
  have pre4 : ∀ t, Steps p.tables e below (T3.setTop (mkF m 43 #[.val (.int p1), .val (.int p2), .val (.int (115 : Int32)), .val (.ref w_BAMBOO), .val (.ref w_BAMBOO)] [(.int (1 : Int32))])) t → Steps p.tables e below (s₁.setTop (entryFrame m #[(.int p1), (.int p2)] maxLocals)) t := fun t k => pre0 t (by
    show Steps p.tables e below (s₁.setTop (mkF m 0 #[.val (.int p1), .val (.int p2), .unset, .unset, .unset] [])) _
    refine XS.iloadN X0.here hx rfl (hb hby at_0) rfl ?_
    show Steps p.tables e below (s₁.setTop (mkF m 1 #[.val (.int p1), .val (.int p2), .unset, .unset, .unset] [(.int p2)])) _
    refine XS.iconst X0.here hx rfl (hb hby at_1) ?_
    show Steps p.tables e below (s₁.setTop (mkF m 2 #[.val (.int p1), .val (.int p2), .unset, .unset, .unset] [(.int (1 : Int32)), (.int p2)])) _
    refine XS.iand X0.here hx rfl (hb hby at_2) rfl ?_
    show Steps p.tables e below (s₁.setTop (mkF m 3 #[.val (.int p1), .val (.int p2), .unset, .unset, .unset] [(.int (p2 &&& (1 : Int32)))])) _
    rw [hj]
    show Steps p.tables e below (s₁.setTop (mkF m 3 #[.val (.int p1), .val (.int p2), .unset, .unset, .unset] [(.int (1 : Int32))])) _
    refine XS.ifNo X0.here hx rfl (hb hby at_3) rfl ((if0 _ _).trans (feq (by decide)).1) ?_
    show Steps p.tables e below (s₁.setTop (mkF m 6 #[.val (.int p1), .val (.int p2), .unset, .unset, .unset] [])) _
    refine XS.iloadN X0.here hx rfl (hb hby at_6) rfl ?_
    show Steps p.tables e below (s₁.setTop (mkF m 7 #[.val (.int p1), .val (.int p2), .unset, .unset, .unset] [(.int p2)])) _
    refine XS.iconst X0.here hx rfl (hb hby at_7) ?_
    show Steps p.tables e below (s₁.setTop (mkF m 8 #[.val (.int p1), .val (.int p2), .unset, .unset, .unset] [(.int (1 : Int32)), (.int p2)])) _
    refine XS.iushr X0.here hx rfl (hb hby at_8) rfl ?_
    show Steps p.tables e below (s₁.setTop (mkF m 9 #[.val (.int p1), .val (.int p2), .unset, .unset, .unset] [(.int ((p2.toUInt32 >>> ((1 : Int32) &&& 31).toUInt32).toInt32))])) _
    refine XS.iconst X0.here hx rfl (hb hby at_9) ?_
    show Steps p.tables e below (s₁.setTop (mkF m 10 #[.val (.int p1), .val (.int p2), .unset, .unset, .unset] [(.int (3 : Int32)), (.int ((p2.toUInt32 >>> ((1 : Int32) &&& 31).toUInt32).toInt32))])) _
    refine XS.iand X0.here hx rfl (hb hby at_10) rfl ?_
    show Steps p.tables e below (s₁.setTop (mkF m 11 #[.val (.int p1), .val (.int p2), .unset, .unset, .unset] [(.int (((p2.toUInt32 >>> ((1 : Int32) &&& 31).toUInt32).toInt32) &&& (3 : Int32)))])) _
    rw [hk]
    show Steps p.tables e below (s₁.setTop (mkF m 11 #[.val (.int p1), .val (.int p2), .unset, .unset, .unset] [(.int (2 : Int32))])) _
    refine st1 _ ?_
    show Steps p.tables e below (T1.setTop (mkF m 14 #[.val (.int p1), .val (.int p2), .unset, .unset, .unset] [(.int (115 : Int32))])) _
    refine XS.istoreN X1.here hx rfl (hb hby at_14) rfl (l' := #[.val (.int p1), .val (.int p2), .val (.int (115 : Int32)), .unset, .unset]) rfl ?_
    show Steps p.tables e below (T1.setTop (mkF m 15 #[.val (.int p1), .val (.int p2), .val (.int (115 : Int32)), .unset, .unset] [])) _
    refine XS.goto X1.here hx rfl (pc0 := 15) (pc' := 21) rfl (hb hby at_15) (by decide) (by decide) ?_
    show Steps p.tables e below (T1.setTop (mkF m 21 #[.val (.int p1), .val (.int p2), .val (.int (115 : Int32)), .unset, .unset] [])) _
    refine XS.iloadN X1.here hx rfl (hb hby at_21) rfl ?_
    show Steps p.tables e below (T1.setTop (mkF m 22 #[.val (.int p1), .val (.int p2), .val (.int (115 : Int32)), .unset, .unset] [(.int (115 : Int32))])) _
    refine st2 _ ?_
    show Steps p.tables e below (T2.setTop (mkF m 25 #[.val (.int p1), .val (.int p2), .val (.int (115 : Int32)), .unset, .unset] [(.ref w_BAMBOO)])) _
    refine XS.astoreN X2.here hx rfl (hb hby at_25) rfl rfl (l' := #[.val (.int p1), .val (.int p2), .val (.int (115 : Int32)), .val (.ref w_BAMBOO), .unset]) rfl ?_
    show Steps p.tables e below (T2.setTop (mkF m 26 #[.val (.int p1), .val (.int p2), .val (.int (115 : Int32)), .val (.ref w_BAMBOO), .unset] [])) _
    refine XS.iloadN X2.here hx rfl (hb hby at_26) rfl ?_
    show Steps p.tables e below (T2.setTop (mkF m 27 #[.val (.int p1), .val (.int p2), .val (.int (115 : Int32)), .val (.ref w_BAMBOO), .unset] [(.int (115 : Int32))])) _
    refine st3 _ ?_
    show Steps p.tables e below (T3.setTop (mkF m 30 #[.val (.int p1), .val (.int p2), .val (.int (115 : Int32)), .val (.ref w_BAMBOO), .unset] [(.ref w_BAMBOO)])) _
    refine XS.astore X3.here hx rfl (hb hby at_30) rfl rfl (l' := #[.val (.int p1), .val (.int p2), .val (.int (115 : Int32)), .val (.ref w_BAMBOO), .val (.ref w_BAMBOO)]) rfl ?_
    show Steps p.tables e below (T3.setTop (mkF m 32 #[.val (.int p1), .val (.int p2), .val (.int (115 : Int32)), .val (.ref w_BAMBOO), .val (.ref w_BAMBOO)] [])) _
    refine XS.aloadN X3.here hx rfl (hb hby at_32) rfl rfl ?_
    show Steps p.tables e below (T3.setTop (mkF m 33 #[.val (.int p1), .val (.int p2), .val (.int (115 : Int32)), .val (.ref w_BAMBOO), .val (.ref w_BAMBOO)] [(.ref w_BAMBOO)])) _
    refine XS.aload X3.here hx rfl (hb hby at_33) rfl rfl ?_
    show Steps p.tables e below (T3.setTop (mkF m 35 #[.val (.int p1), .val (.int p2), .val (.int (115 : Int32)), .val (.ref w_BAMBOO), .val (.ref w_BAMBOO)] [(.ref w_BAMBOO), (.ref w_BAMBOO)])) _
    refine Jvm.RoadKit.acmp (g := (mkF m 35 #[.val (.int p1), .val (.int p2), .val (.int (115 : Int32)), .val (.ref w_BAMBOO), .val (.ref w_BAMBOO)] [(.ref w_BAMBOO), (.ref w_BAMBOO)])) X3 hx rfl rfl rfl (pc0 := 35) (pc' := 38) (same := true) rfl (hb hby at_35) rfl (decide_eq_true rfl) (by decide) (by decide) ?_
    show Steps p.tables e below (T3.setTop (mkF m 38 #[.val (.int p1), .val (.int p2), .val (.int (115 : Int32)), .val (.ref w_BAMBOO), .val (.ref w_BAMBOO)] [])) _
    refine XS.iconst X3.here hx rfl (hb hby at_38) ?_
    show Steps p.tables e below (T3.setTop (mkF m 39 #[.val (.int p1), .val (.int p2), .val (.int (115 : Int32)), .val (.ref w_BAMBOO), .val (.ref w_BAMBOO)] [(.int (1 : Int32))])) _
    refine XS.goto X3.here hx rfl (pc0 := 39) (pc' := 43) rfl (hb hby at_39) (by decide) (by decide) ?_
    exact k)
  obtain ⟨fs, hr, hrun, hended, hW, hsame⟩ := X3.leave (v := some (.int (1 : Int32))) (fun h => by rw [Bd.returns] at h; cases h)
  refine ⟨_, _, pre4 _ ?_, hrun, hended, _, _, rfl, ?_, ⟨_, rfl⟩, hW, hsame.mono (by decide) (by decide)⟩
  · show Steps p.tables e below (T3.setTop (mkF m 43 #[.val (.int p1), .val (.int p2), .val (.int (115 : Int32)), .val (.ref w_BAMBOO), .val (.ref w_BAMBOO)] [(.int (1 : Int32))])) _
    exact retN X3 hx (t := .boolean) Bd.returns (by simp) (hb hby at_43) hr
  · exact ⟨rfl, N3, e3⟩
theorem ef_law1_3 (m : MethodId) (x0 : Int32) (x1 : Int32) : entryFrame m #[(.int x0), (.int x1)] maxLocals = mkF m 0 #[.val (.int x0), .val (.int x1), .unset, .unset, .unset] [] := by first | (simp [entryFrame, mkF, argsToLocals, Value.category, maxLocals]; done) | rfl
set_option maxRecDepth 65536 in
set_option maxHeartbeats 40000000 in
theorem rm_law1_3 (l : Launch) (Z : State) (a0 : Array Value) (hw : ∀ d ∈ tables_1, d.before a0 Z = true) (ws : List Jvm.Cond) (p1 : Int32) (p2 : Int32) (h0 : Heap) (n0 : Nat) (w_ALL w_CHARACTERS w_DOTS w_BAMBOO w_HONOURS : Addr) (hK : own_K Z h0 w_ALL w_CHARACTERS w_DOTS w_BAMBOO w_HONOURS) (hj : (p2 &&& (1 : Int32)) = (1 : Int32)) (hk : (((p2.toUInt32 >>> ((1 : Int32) &&& 31).toUInt32).toInt32) &&& (3 : Int32)) = (3 : Int32)) :
    MetFree l x (head1 (Jvm.Cond.code x code maxLocals ret :: ws) room_1) (fun a U => a = #[(.int p1), (.int p2)] ∧ Z.Warmed39 U.vm ∧ U.heap = h0) (fun _ _ _ _ _ => True) (fun _ U o U' => ∃ v L, o = .returned v ∧ own_Q (some (.int (1 : Int32))) h0 n0 v U'.heap L ∧ FrameEnd U o U' L room_1.cells room_1.slots) := by
  refine MetFree.of_bodySF (plainFor_of_name pn_0) hisR ?_
  intro p e s m args below meth c s₁ Bd hml0 hP hK0
  obtain ⟨rfl, hZ, hh⟩ := hP
  have hx := Bd.exec
  have hby := Bd.bytes
  have hml : c.maxLocals = 5 := hml0
  have hown : s.vm.findClass "com/example/tenpai/tenpai/core/SuitOfPinLaw" = some m.cls := findClass_of_methodNamed Bd.named
  have hnm := (name_of_methodNamed Bd.named Bd.method).1
  have X0 : Stand p l e room_1 s m #[(.int p1), (.int p2)] below meth c s₁ [] 0 0 := Stand.of_body Bd
  have e0 : s₁.heap = h0 := by rw [← hh, Bd.state]; rfl
  have N0 := Fr.nil n0
  have pre0 : ∀ t, Steps p.tables e below (s₁.setTop (mkF m 0 #[.val (.int p1), .val (.int p2), .unset, .unset, .unset] [])) t → Steps p.tables e below (s₁.setTop (entryFrame m #[(.int p1), (.int p2)] maxLocals)) t := fun t k => castTop (ef_law1_3 m p1 p2) k
  have hK' := hK
  obtain ⟨S_w_ALL, S_w_CHARACTERS, E_w_CHARACTERS, F__letter_w_CHARACTERS, S_w_DOTS, E_w_DOTS, F__letter_w_DOTS, S_w_BAMBOO, E_w_BAMBOO, F__letter_w_BAMBOO, S_w_HONOURS, E_w_HONOURS, F__letter_w_HONOURS, B_w_ALL⟩ := hK'
  obtain ⟨cl_w_ALL, A_w_ALL, q_w_ALL⟩ := B_w_ALL
  obtain ⟨v1, _, ⟨T1, L1, k1, n1⟩, -, X1, ⟨Lc1, hQ1, l1, y1, z1⟩, st1⟩ := Jvm.LawKit.callS X0 hx (y := (⟨"com/example/tenpai/tenpai/core/SuitOfPinLaw", "pick", "(I)C"⟩ : MethodName)) hown (mvT hZ (hw _ (ow 0 rfl))) (mvT hZ (hw _ (ow 1 rfl))) (mvT hZ (hw _ (ow 2 rfl))) (mvT hZ (hw _ (ow 3 rfl))) (by decide) (backOf (W := 0) (rm_pick l Z a0 hw [] (3 : Int32) h0 n0 w_ALL w_CHARACTERS w_DOTS w_BAMBOO w_HONOURS hK) hZ (hw _ (ow 3 rfl)) (hw _ (ow 2 rfl)) (by decide) (by decide)) (g := (mkF m 11 #[.val (.int p1), .val (.int p2), .unset, .unset, .unset] [(.int (3 : Int32))])) rfl (by rw [hml]; rfl) (argsL := [(.int (3 : Int32))]) (rest := []) (lenOf pd_0 rfl) rfl (Nat.le_of_eq rfl) (hb hby at_11) (fun _ _ => ⟨rfl, e0, (by decide : 0 + 0 ≤ _), (by decide : 0 + 0 ≤ _)⟩)
  dsimp only [Pt.U, Pt.locs, Pt.cells, Pt.slots] at X1 l1 y1 z1 st1 hQ1
  subst l1 y1 z1
  obtain ⟨hv1, Nq1, e1⟩ := hQ1
  obtain rfl : v1 = some (.int (122 : Int32)) := hv1.trans (congrArg some (congrArg Value.int ((if_neg (by decide)).trans ((if_neg (by decide)).trans (if_neg (by decide))))))
  have N1 := Fr.app N0 Nq1
  obtain ⟨v2, _, ⟨T2, L2, k2, n2⟩, -, X2, ⟨Lc2, hQ2, l2, y2, z2⟩, st2⟩ := Jvm.LawKit.callS X1 hx (y := (⟨"com/example/tenpai/tenpai/core/Suit", "of", "(C)Lcom/example/tenpai/tenpai/core/Suit;"⟩ : MethodName)) hown (mvT hZ (hw _ (ow 4 rfl))) (mvT hZ (hw _ (ow 5 rfl))) (mvT hZ (hw _ (ow 6 rfl))) (mvT hZ (hw _ (ow 7 rfl))) (by decide) (backOf (W := 0) (rm_of l Z a0 hw [] (122 : Int32) h0 n0 w_ALL w_CHARACTERS w_DOTS w_BAMBOO w_HONOURS hK) hZ (hw _ (ow 7 rfl)) (hw _ (ow 6 rfl)) (by decide) (by decide)) (g := (mkF m 22 #[.val (.int p1), .val (.int p2), .val (.int (122 : Int32)), .unset, .unset] [(.int (122 : Int32))])) rfl (by rw [hml]; rfl) (argsL := [(.int (122 : Int32))]) (rest := []) (lenOf pd_1 rfl) rfl (Nat.le_of_eq rfl) (hb hby at_22) (fun _ _ => ⟨rfl, e1, (by decide : 0 + 0 ≤ _), (by decide : 0 + 0 ≤ _)⟩)
  dsimp only [Pt.U, Pt.locs, Pt.cells, Pt.slots] at X2 l2 y2 z2 st2 hQ2
  subst l2 y2 z2
  obtain ⟨hv2, Nq2, e2⟩ := hQ2
  obtain rfl : v2 = some (.ref w_HONOURS) := hv2.trans (congrArg some ((if_neg (by decide)).trans ((if_neg (by decide)).trans ((if_neg (by decide)).trans (if_pos (by decide))))))
  have N2 := Fr.app N1 Nq2
  obtain ⟨v3, _, ⟨T3, L3, k3, n3⟩, -, X3, ⟨Lc3, hQ3, l3, y3, z3⟩, st3⟩ := Jvm.LawKit.callS X2 hx (y := (⟨"com/example/tenpai/tenpai/core/SuitOfPinLaw", "expected", "(C)Lcom/example/tenpai/tenpai/core/Suit;"⟩ : MethodName)) hown (mvT hZ (hw _ (ow 14 rfl))) (mvT hZ (hw _ (ow 15 rfl))) (mvT hZ (hw _ (ow 2 rfl))) (mvT hZ (hw _ (ow 16 rfl))) (by decide) (backOf (W := 0) (rm_expected l Z a0 hw [] (122 : Int32) h0 n0 w_ALL w_CHARACTERS w_DOTS w_BAMBOO w_HONOURS hK) hZ (hw _ (ow 16 rfl)) (hw _ (ow 2 rfl)) (by decide) (by decide)) (g := (mkF m 27 #[.val (.int p1), .val (.int p2), .val (.int (122 : Int32)), .val (.ref w_HONOURS), .unset] [(.int (122 : Int32))])) rfl (by rw [hml]; rfl) (argsL := [(.int (122 : Int32))]) (rest := []) (lenOf pd_1 rfl) rfl (Nat.le_of_eq rfl) (hb hby at_27) (fun _ _ => ⟨rfl, e2, (by decide : 0 + 0 ≤ _), (by decide : 0 + 0 ≤ _)⟩)
  dsimp only [Pt.U, Pt.locs, Pt.cells, Pt.slots] at X3 l3 y3 z3 st3 hQ3
  subst l3 y3 z3
  obtain ⟨hv3, Nq3, e3⟩ := hQ3
  obtain rfl : v3 = some (.ref w_HONOURS) := hv3.trans (congrArg some ((if_neg (by decide)).trans ((if_neg (by decide)).trans ((if_neg (by decide)).trans (if_pos (by decide))))))
  have N3 := Fr.app N2 Nq3
  have pre4 : ∀ t, Steps p.tables e below (T3.setTop (mkF m 43 #[.val (.int p1), .val (.int p2), .val (.int (122 : Int32)), .val (.ref w_HONOURS), .val (.ref w_HONOURS)] [(.int (1 : Int32))])) t → Steps p.tables e below (s₁.setTop (entryFrame m #[(.int p1), (.int p2)] maxLocals)) t := fun t k => pre0 t (by
    show Steps p.tables e below (s₁.setTop (mkF m 0 #[.val (.int p1), .val (.int p2), .unset, .unset, .unset] [])) _
    refine XS.iloadN X0.here hx rfl (hb hby at_0) rfl ?_
    show Steps p.tables e below (s₁.setTop (mkF m 1 #[.val (.int p1), .val (.int p2), .unset, .unset, .unset] [(.int p2)])) _
    refine XS.iconst X0.here hx rfl (hb hby at_1) ?_
    show Steps p.tables e below (s₁.setTop (mkF m 2 #[.val (.int p1), .val (.int p2), .unset, .unset, .unset] [(.int (1 : Int32)), (.int p2)])) _
    refine XS.iand X0.here hx rfl (hb hby at_2) rfl ?_
    show Steps p.tables e below (s₁.setTop (mkF m 3 #[.val (.int p1), .val (.int p2), .unset, .unset, .unset] [(.int (p2 &&& (1 : Int32)))])) _
    rw [hj]
    show Steps p.tables e below (s₁.setTop (mkF m 3 #[.val (.int p1), .val (.int p2), .unset, .unset, .unset] [(.int (1 : Int32))])) _
    refine XS.ifNo X0.here hx rfl (hb hby at_3) rfl ((if0 _ _).trans (feq (by decide)).1) ?_
    show Steps p.tables e below (s₁.setTop (mkF m 6 #[.val (.int p1), .val (.int p2), .unset, .unset, .unset] [])) _
    refine XS.iloadN X0.here hx rfl (hb hby at_6) rfl ?_
    show Steps p.tables e below (s₁.setTop (mkF m 7 #[.val (.int p1), .val (.int p2), .unset, .unset, .unset] [(.int p2)])) _
    refine XS.iconst X0.here hx rfl (hb hby at_7) ?_
    show Steps p.tables e below (s₁.setTop (mkF m 8 #[.val (.int p1), .val (.int p2), .unset, .unset, .unset] [(.int (1 : Int32)), (.int p2)])) _
    refine XS.iushr X0.here hx rfl (hb hby at_8) rfl ?_
    show Steps p.tables e below (s₁.setTop (mkF m 9 #[.val (.int p1), .val (.int p2), .unset, .unset, .unset] [(.int ((p2.toUInt32 >>> ((1 : Int32) &&& 31).toUInt32).toInt32))])) _
    refine XS.iconst X0.here hx rfl (hb hby at_9) ?_
    show Steps p.tables e below (s₁.setTop (mkF m 10 #[.val (.int p1), .val (.int p2), .unset, .unset, .unset] [(.int (3 : Int32)), (.int ((p2.toUInt32 >>> ((1 : Int32) &&& 31).toUInt32).toInt32))])) _
    refine XS.iand X0.here hx rfl (hb hby at_10) rfl ?_
    show Steps p.tables e below (s₁.setTop (mkF m 11 #[.val (.int p1), .val (.int p2), .unset, .unset, .unset] [(.int (((p2.toUInt32 >>> ((1 : Int32) &&& 31).toUInt32).toInt32) &&& (3 : Int32)))])) _
    rw [hk]
    show Steps p.tables e below (s₁.setTop (mkF m 11 #[.val (.int p1), .val (.int p2), .unset, .unset, .unset] [(.int (3 : Int32))])) _
    refine st1 _ ?_
    show Steps p.tables e below (T1.setTop (mkF m 14 #[.val (.int p1), .val (.int p2), .unset, .unset, .unset] [(.int (122 : Int32))])) _
    refine XS.istoreN X1.here hx rfl (hb hby at_14) rfl (l' := #[.val (.int p1), .val (.int p2), .val (.int (122 : Int32)), .unset, .unset]) rfl ?_
    show Steps p.tables e below (T1.setTop (mkF m 15 #[.val (.int p1), .val (.int p2), .val (.int (122 : Int32)), .unset, .unset] [])) _
    refine XS.goto X1.here hx rfl (pc0 := 15) (pc' := 21) rfl (hb hby at_15) (by decide) (by decide) ?_
    show Steps p.tables e below (T1.setTop (mkF m 21 #[.val (.int p1), .val (.int p2), .val (.int (122 : Int32)), .unset, .unset] [])) _
    refine XS.iloadN X1.here hx rfl (hb hby at_21) rfl ?_
    show Steps p.tables e below (T1.setTop (mkF m 22 #[.val (.int p1), .val (.int p2), .val (.int (122 : Int32)), .unset, .unset] [(.int (122 : Int32))])) _
    refine st2 _ ?_
    show Steps p.tables e below (T2.setTop (mkF m 25 #[.val (.int p1), .val (.int p2), .val (.int (122 : Int32)), .unset, .unset] [(.ref w_HONOURS)])) _
    refine XS.astoreN X2.here hx rfl (hb hby at_25) rfl rfl (l' := #[.val (.int p1), .val (.int p2), .val (.int (122 : Int32)), .val (.ref w_HONOURS), .unset]) rfl ?_
    show Steps p.tables e below (T2.setTop (mkF m 26 #[.val (.int p1), .val (.int p2), .val (.int (122 : Int32)), .val (.ref w_HONOURS), .unset] [])) _
    refine XS.iloadN X2.here hx rfl (hb hby at_26) rfl ?_
    show Steps p.tables e below (T2.setTop (mkF m 27 #[.val (.int p1), .val (.int p2), .val (.int (122 : Int32)), .val (.ref w_HONOURS), .unset] [(.int (122 : Int32))])) _
    refine st3 _ ?_
    show Steps p.tables e below (T3.setTop (mkF m 30 #[.val (.int p1), .val (.int p2), .val (.int (122 : Int32)), .val (.ref w_HONOURS), .unset] [(.ref w_HONOURS)])) _
    refine XS.astore X3.here hx rfl (hb hby at_30) rfl rfl (l' := #[.val (.int p1), .val (.int p2), .val (.int (122 : Int32)), .val (.ref w_HONOURS), .val (.ref w_HONOURS)]) rfl ?_
    show Steps p.tables e below (T3.setTop (mkF m 32 #[.val (.int p1), .val (.int p2), .val (.int (122 : Int32)), .val (.ref w_HONOURS), .val (.ref w_HONOURS)] [])) _
    refine XS.aloadN X3.here hx rfl (hb hby at_32) rfl rfl ?_
    show Steps p.tables e below (T3.setTop (mkF m 33 #[.val (.int p1), .val (.int p2), .val (.int (122 : Int32)), .val (.ref w_HONOURS), .val (.ref w_HONOURS)] [(.ref w_HONOURS)])) _
    refine XS.aload X3.here hx rfl (hb hby at_33) rfl rfl ?_
    show Steps p.tables e below (T3.setTop (mkF m 35 #[.val (.int p1), .val (.int p2), .val (.int (122 : Int32)), .val (.ref w_HONOURS), .val (.ref w_HONOURS)] [(.ref w_HONOURS), (.ref w_HONOURS)])) _
    refine Jvm.RoadKit.acmp (g := (mkF m 35 #[.val (.int p1), .val (.int p2), .val (.int (122 : Int32)), .val (.ref w_HONOURS), .val (.ref w_HONOURS)] [(.ref w_HONOURS), (.ref w_HONOURS)])) X3 hx rfl rfl rfl (pc0 := 35) (pc' := 38) (same := true) rfl (hb hby at_35) rfl (decide_eq_true rfl) (by decide) (by decide) ?_
    show Steps p.tables e below (T3.setTop (mkF m 38 #[.val (.int p1), .val (.int p2), .val (.int (122 : Int32)), .val (.ref w_HONOURS), .val (.ref w_HONOURS)] [])) _
    refine XS.iconst X3.here hx rfl (hb hby at_38) ?_
    show Steps p.tables e below (T3.setTop (mkF m 39 #[.val (.int p1), .val (.int p2), .val (.int (122 : Int32)), .val (.ref w_HONOURS), .val (.ref w_HONOURS)] [(.int (1 : Int32))])) _
    refine XS.goto X3.here hx rfl (pc0 := 39) (pc' := 43) rfl (hb hby at_39) (by decide) (by decide) ?_
    exact k)
  obtain ⟨fs, hr, hrun, hended, hW, hsame⟩ := X3.leave (v := some (.int (1 : Int32))) (fun h => by rw [Bd.returns] at h; cases h)
  refine ⟨_, _, pre4 _ ?_, hrun, hended, _, _, rfl, ?_, ⟨_, rfl⟩, hW, hsame.mono (by decide) (by decide)⟩
  · show Steps p.tables e below (T3.setTop (mkF m 43 #[.val (.int p1), .val (.int p2), .val (.int (122 : Int32)), .val (.ref w_HONOURS), .val (.ref w_HONOURS)] [(.int (1 : Int32))])) _
    exact retN X3 hx (t := .boolean) Bd.returns (by simp) (hb hby at_43) hr
  · exact ⟨rfl, N3, e3⟩
theorem ef_law0_0 (m : MethodId) (x0 : Int32) (x1 : Int32) : entryFrame m #[(.int x0), (.int x1)] maxLocals = mkF m 0 #[.val (.int x0), .val (.int x1), .unset, .unset, .unset] [] := by first | (simp [entryFrame, mkF, argsToLocals, Value.category, maxLocals]; done) | rfl
set_option maxRecDepth 65536 in
set_option maxHeartbeats 40000000 in
theorem rm_law0_0 (l : Launch) (Z : State) (a0 : Array Value) (hw : ∀ d ∈ tables_1, d.before a0 Z = true) (ws : List Jvm.Cond) (p1 : Int32) (p2 : Int32) (h0 : Heap) (n0 : Nat) (w_ALL w_CHARACTERS w_DOTS w_BAMBOO w_HONOURS : Addr) (hK : own_K Z h0 w_ALL w_CHARACTERS w_DOTS w_BAMBOO w_HONOURS) (hj : (p2 &&& (1 : Int32)) = (0 : Int32)) (hk : (p1.toUInt32.toUInt16.toUInt32.toInt32) = (109 : Int32)) :
    MetFree l x (head1 (Jvm.Cond.code x code maxLocals ret :: ws) room_1) (fun a U => a = #[(.int p1), (.int p2)] ∧ Z.Warmed39 U.vm ∧ U.heap = h0) (fun _ _ _ _ _ => True) (fun _ U o U' => ∃ v L, o = .returned v ∧ own_Q (some (.int (1 : Int32))) h0 n0 v U'.heap L ∧ FrameEnd U o U' L room_1.cells room_1.slots) := by
  refine MetFree.of_bodySF (plainFor_of_name pn_0) hisR ?_
  intro p e s m args below meth c s₁ Bd hml0 hP hK0
  obtain ⟨rfl, hZ, hh⟩ := hP
  have hx := Bd.exec
  have hby := Bd.bytes
  have hml : c.maxLocals = 5 := hml0
  have hown : s.vm.findClass "com/example/tenpai/tenpai/core/SuitOfPinLaw" = some m.cls := findClass_of_methodNamed Bd.named
  have hnm := (name_of_methodNamed Bd.named Bd.method).1
  have X0 : Stand p l e room_1 s m #[(.int p1), (.int p2)] below meth c s₁ [] 0 0 := Stand.of_body Bd
  have e0 : s₁.heap = h0 := by rw [← hh, Bd.state]; rfl
  have N0 := Fr.nil n0
  have pre0 : ∀ t, Steps p.tables e below (s₁.setTop (mkF m 0 #[.val (.int p1), .val (.int p2), .unset, .unset, .unset] [])) t → Steps p.tables e below (s₁.setTop (entryFrame m #[(.int p1), (.int p2)] maxLocals)) t := fun t k => castTop (ef_law0_0 m p1 p2) k
  have hK' := hK
  obtain ⟨S_w_ALL, S_w_CHARACTERS, E_w_CHARACTERS, F__letter_w_CHARACTERS, S_w_DOTS, E_w_DOTS, F__letter_w_DOTS, S_w_BAMBOO, E_w_BAMBOO, F__letter_w_BAMBOO, S_w_HONOURS, E_w_HONOURS, F__letter_w_HONOURS, B_w_ALL⟩ := hK'
  obtain ⟨cl_w_ALL, A_w_ALL, q_w_ALL⟩ := B_w_ALL
  obtain ⟨v1, _, ⟨T1, L1, k1, n1⟩, -, X1, ⟨Lc1, hQ1, l1, y1, z1⟩, st1⟩ := Jvm.LawKit.callS X0 hx (y := (⟨"com/example/tenpai/tenpai/core/Suit", "of", "(C)Lcom/example/tenpai/tenpai/core/Suit;"⟩ : MethodName)) hown (mvT hZ (hw _ (ow 4 rfl))) (mvT hZ (hw _ (ow 5 rfl))) (mvT hZ (hw _ (ow 6 rfl))) (mvT hZ (hw _ (ow 7 rfl))) (by decide) (backOf (W := 0) (rm_of l Z a0 hw [] (109 : Int32) h0 n0 w_ALL w_CHARACTERS w_DOTS w_BAMBOO w_HONOURS hK) hZ (hw _ (ow 7 rfl)) (hw _ (ow 6 rfl)) (by decide) (by decide)) (g := (mkF m 22 #[.val (.int p1), .val (.int p2), .val (.int (109 : Int32)), .unset, .unset] [(.int (109 : Int32))])) rfl (by rw [hml]; rfl) (argsL := [(.int (109 : Int32))]) (rest := []) (lenOf pd_1 rfl) rfl (Nat.le_of_eq rfl) (hb hby at_22) (fun _ _ => ⟨rfl, e0, (by decide : 0 + 0 ≤ _), (by decide : 0 + 0 ≤ _)⟩)
  dsimp only [Pt.U, Pt.locs, Pt.cells, Pt.slots] at X1 l1 y1 z1 st1 hQ1
  subst l1 y1 z1
  obtain ⟨hv1, Nq1, e1⟩ := hQ1
  obtain rfl : v1 = some (.ref w_CHARACTERS) := hv1.trans (congrArg some (if_pos (by decide)))
  have N1 := Fr.app N0 Nq1
  obtain ⟨v2, _, ⟨T2, L2, k2, n2⟩, -, X2, ⟨Lc2, hQ2, l2, y2, z2⟩, st2⟩ := Jvm.LawKit.callS X1 hx (y := (⟨"com/example/tenpai/tenpai/core/SuitOfPinLaw", "expected", "(C)Lcom/example/tenpai/tenpai/core/Suit;"⟩ : MethodName)) hown (mvT hZ (hw _ (ow 14 rfl))) (mvT hZ (hw _ (ow 15 rfl))) (mvT hZ (hw _ (ow 2 rfl))) (mvT hZ (hw _ (ow 16 rfl))) (by decide) (backOf (W := 0) (rm_expected l Z a0 hw [] (109 : Int32) h0 n0 w_ALL w_CHARACTERS w_DOTS w_BAMBOO w_HONOURS hK) hZ (hw _ (ow 16 rfl)) (hw _ (ow 2 rfl)) (by decide) (by decide)) (g := (mkF m 27 #[.val (.int p1), .val (.int p2), .val (.int (109 : Int32)), .val (.ref w_CHARACTERS), .unset] [(.int (109 : Int32))])) rfl (by rw [hml]; rfl) (argsL := [(.int (109 : Int32))]) (rest := []) (lenOf pd_1 rfl) rfl (Nat.le_of_eq rfl) (hb hby at_27) (fun _ _ => ⟨rfl, e1, (by decide : 0 + 0 ≤ _), (by decide : 0 + 0 ≤ _)⟩)
  dsimp only [Pt.U, Pt.locs, Pt.cells, Pt.slots] at X2 l2 y2 z2 st2 hQ2
  subst l2 y2 z2
  obtain ⟨hv2, Nq2, e2⟩ := hQ2
  obtain rfl : v2 = some (.ref w_CHARACTERS) := hv2.trans (congrArg some (if_pos (by decide)))
  have N2 := Fr.app N1 Nq2
  have pre3 : ∀ t, Steps p.tables e below (T2.setTop (mkF m 43 #[.val (.int p1), .val (.int p2), .val (.int (109 : Int32)), .val (.ref w_CHARACTERS), .val (.ref w_CHARACTERS)] [(.int (1 : Int32))])) t → Steps p.tables e below (s₁.setTop (entryFrame m #[(.int p1), (.int p2)] maxLocals)) t := fun t k => pre0 t (by
    show Steps p.tables e below (s₁.setTop (mkF m 0 #[.val (.int p1), .val (.int p2), .unset, .unset, .unset] [])) _
    refine XS.iloadN X0.here hx rfl (hb hby at_0) rfl ?_
    show Steps p.tables e below (s₁.setTop (mkF m 1 #[.val (.int p1), .val (.int p2), .unset, .unset, .unset] [(.int p2)])) _
    refine XS.iconst X0.here hx rfl (hb hby at_1) ?_
    show Steps p.tables e below (s₁.setTop (mkF m 2 #[.val (.int p1), .val (.int p2), .unset, .unset, .unset] [(.int (1 : Int32)), (.int p2)])) _
    refine XS.iand X0.here hx rfl (hb hby at_2) rfl ?_
    show Steps p.tables e below (s₁.setTop (mkF m 3 #[.val (.int p1), .val (.int p2), .unset, .unset, .unset] [(.int (p2 &&& (1 : Int32)))])) _
    rw [hj]
    show Steps p.tables e below (s₁.setTop (mkF m 3 #[.val (.int p1), .val (.int p2), .unset, .unset, .unset] [(.int (0 : Int32))])) _
    refine XS.ifYes X0.here hx rfl (pc0 := 3) (pc' := 18) rfl (hb hby at_3) rfl ((if0 _ _).trans (teq (by decide)).1) (by decide) (by decide) ?_
    show Steps p.tables e below (s₁.setTop (mkF m 18 #[.val (.int p1), .val (.int p2), .unset, .unset, .unset] [])) _
    refine XS.iloadN X0.here hx rfl (hb hby at_18) rfl ?_
    show Steps p.tables e below (s₁.setTop (mkF m 19 #[.val (.int p1), .val (.int p2), .unset, .unset, .unset] [(.int p1)])) _
    refine XS.i2c X0.here hx rfl (hb hby at_19) rfl ?_
    show Steps p.tables e below (s₁.setTop (mkF m 20 #[.val (.int p1), .val (.int p2), .unset, .unset, .unset] [(.int (p1.toUInt32.toUInt16.toUInt32.toInt32))])) _
    rw [hk]
    show Steps p.tables e below (s₁.setTop (mkF m 20 #[.val (.int p1), .val (.int p2), .unset, .unset, .unset] [(.int (109 : Int32))])) _
    refine XS.istoreN X0.here hx rfl (hb hby at_20) rfl (l' := #[.val (.int p1), .val (.int p2), .val (.int (109 : Int32)), .unset, .unset]) rfl ?_
    show Steps p.tables e below (s₁.setTop (mkF m 21 #[.val (.int p1), .val (.int p2), .val (.int (109 : Int32)), .unset, .unset] [])) _
    refine XS.iloadN X0.here hx rfl (hb hby at_21) rfl ?_
    show Steps p.tables e below (s₁.setTop (mkF m 22 #[.val (.int p1), .val (.int p2), .val (.int (109 : Int32)), .unset, .unset] [(.int (109 : Int32))])) _
    refine st1 _ ?_
    show Steps p.tables e below (T1.setTop (mkF m 25 #[.val (.int p1), .val (.int p2), .val (.int (109 : Int32)), .unset, .unset] [(.ref w_CHARACTERS)])) _
    refine XS.astoreN X1.here hx rfl (hb hby at_25) rfl rfl (l' := #[.val (.int p1), .val (.int p2), .val (.int (109 : Int32)), .val (.ref w_CHARACTERS), .unset]) rfl ?_
    show Steps p.tables e below (T1.setTop (mkF m 26 #[.val (.int p1), .val (.int p2), .val (.int (109 : Int32)), .val (.ref w_CHARACTERS), .unset] [])) _
    refine XS.iloadN X1.here hx rfl (hb hby at_26) rfl ?_
    show Steps p.tables e below (T1.setTop (mkF m 27 #[.val (.int p1), .val (.int p2), .val (.int (109 : Int32)), .val (.ref w_CHARACTERS), .unset] [(.int (109 : Int32))])) _
    refine st2 _ ?_
    show Steps p.tables e below (T2.setTop (mkF m 30 #[.val (.int p1), .val (.int p2), .val (.int (109 : Int32)), .val (.ref w_CHARACTERS), .unset] [(.ref w_CHARACTERS)])) _
    refine XS.astore X2.here hx rfl (hb hby at_30) rfl rfl (l' := #[.val (.int p1), .val (.int p2), .val (.int (109 : Int32)), .val (.ref w_CHARACTERS), .val (.ref w_CHARACTERS)]) rfl ?_
    show Steps p.tables e below (T2.setTop (mkF m 32 #[.val (.int p1), .val (.int p2), .val (.int (109 : Int32)), .val (.ref w_CHARACTERS), .val (.ref w_CHARACTERS)] [])) _
    refine XS.aloadN X2.here hx rfl (hb hby at_32) rfl rfl ?_
    show Steps p.tables e below (T2.setTop (mkF m 33 #[.val (.int p1), .val (.int p2), .val (.int (109 : Int32)), .val (.ref w_CHARACTERS), .val (.ref w_CHARACTERS)] [(.ref w_CHARACTERS)])) _
    refine XS.aload X2.here hx rfl (hb hby at_33) rfl rfl ?_
    show Steps p.tables e below (T2.setTop (mkF m 35 #[.val (.int p1), .val (.int p2), .val (.int (109 : Int32)), .val (.ref w_CHARACTERS), .val (.ref w_CHARACTERS)] [(.ref w_CHARACTERS), (.ref w_CHARACTERS)])) _
    refine Jvm.RoadKit.acmp (g := (mkF m 35 #[.val (.int p1), .val (.int p2), .val (.int (109 : Int32)), .val (.ref w_CHARACTERS), .val (.ref w_CHARACTERS)] [(.ref w_CHARACTERS), (.ref w_CHARACTERS)])) X2 hx rfl rfl rfl (pc0 := 35) (pc' := 38) (same := true) rfl (hb hby at_35) rfl (decide_eq_true rfl) (by decide) (by decide) ?_
    show Steps p.tables e below (T2.setTop (mkF m 38 #[.val (.int p1), .val (.int p2), .val (.int (109 : Int32)), .val (.ref w_CHARACTERS), .val (.ref w_CHARACTERS)] [])) _
    refine XS.iconst X2.here hx rfl (hb hby at_38) ?_
    show Steps p.tables e below (T2.setTop (mkF m 39 #[.val (.int p1), .val (.int p2), .val (.int (109 : Int32)), .val (.ref w_CHARACTERS), .val (.ref w_CHARACTERS)] [(.int (1 : Int32))])) _
    refine XS.goto X2.here hx rfl (pc0 := 39) (pc' := 43) rfl (hb hby at_39) (by decide) (by decide) ?_
    exact k)
  obtain ⟨fs, hr, hrun, hended, hW, hsame⟩ := X2.leave (v := some (.int (1 : Int32))) (fun h => by rw [Bd.returns] at h; cases h)
  refine ⟨_, _, pre3 _ ?_, hrun, hended, _, _, rfl, ?_, ⟨_, rfl⟩, hW, hsame.mono (by decide) (by decide)⟩
  · show Steps p.tables e below (T2.setTop (mkF m 43 #[.val (.int p1), .val (.int p2), .val (.int (109 : Int32)), .val (.ref w_CHARACTERS), .val (.ref w_CHARACTERS)] [(.int (1 : Int32))])) _
    exact retN X2 hx (t := .boolean) Bd.returns (by simp) (hb hby at_43) hr
  · exact ⟨rfl, N2, e2⟩
theorem ef_law0_1 (m : MethodId) (x0 : Int32) (x1 : Int32) : entryFrame m #[(.int x0), (.int x1)] maxLocals = mkF m 0 #[.val (.int x0), .val (.int x1), .unset, .unset, .unset] [] := by first | (simp [entryFrame, mkF, argsToLocals, Value.category, maxLocals]; done) | rfl
set_option maxRecDepth 65536 in
set_option maxHeartbeats 40000000 in
theorem rm_law0_1 (l : Launch) (Z : State) (a0 : Array Value) (hw : ∀ d ∈ tables_1, d.before a0 Z = true) (ws : List Jvm.Cond) (p1 : Int32) (p2 : Int32) (h0 : Heap) (n0 : Nat) (w_ALL w_CHARACTERS w_DOTS w_BAMBOO w_HONOURS : Addr) (hK : own_K Z h0 w_ALL w_CHARACTERS w_DOTS w_BAMBOO w_HONOURS) (hj : (p2 &&& (1 : Int32)) = (0 : Int32)) (hk : (p1.toUInt32.toUInt16.toUInt32.toInt32) = (112 : Int32)) :
    MetFree l x (head1 (Jvm.Cond.code x code maxLocals ret :: ws) room_1) (fun a U => a = #[(.int p1), (.int p2)] ∧ Z.Warmed39 U.vm ∧ U.heap = h0) (fun _ _ _ _ _ => True) (fun _ U o U' => ∃ v L, o = .returned v ∧ own_Q (some (.int (1 : Int32))) h0 n0 v U'.heap L ∧ FrameEnd U o U' L room_1.cells room_1.slots) := by
  refine MetFree.of_bodySF (plainFor_of_name pn_0) hisR ?_
  intro p e s m args below meth c s₁ Bd hml0 hP hK0
  obtain ⟨rfl, hZ, hh⟩ := hP
  have hx := Bd.exec
  have hby := Bd.bytes
  have hml : c.maxLocals = 5 := hml0
  have hown : s.vm.findClass "com/example/tenpai/tenpai/core/SuitOfPinLaw" = some m.cls := findClass_of_methodNamed Bd.named
  have hnm := (name_of_methodNamed Bd.named Bd.method).1
  have X0 : Stand p l e room_1 s m #[(.int p1), (.int p2)] below meth c s₁ [] 0 0 := Stand.of_body Bd
  have e0 : s₁.heap = h0 := by rw [← hh, Bd.state]; rfl
  have N0 := Fr.nil n0
  have pre0 : ∀ t, Steps p.tables e below (s₁.setTop (mkF m 0 #[.val (.int p1), .val (.int p2), .unset, .unset, .unset] [])) t → Steps p.tables e below (s₁.setTop (entryFrame m #[(.int p1), (.int p2)] maxLocals)) t := fun t k => castTop (ef_law0_1 m p1 p2) k
  have hK' := hK
  obtain ⟨S_w_ALL, S_w_CHARACTERS, E_w_CHARACTERS, F__letter_w_CHARACTERS, S_w_DOTS, E_w_DOTS, F__letter_w_DOTS, S_w_BAMBOO, E_w_BAMBOO, F__letter_w_BAMBOO, S_w_HONOURS, E_w_HONOURS, F__letter_w_HONOURS, B_w_ALL⟩ := hK'
  obtain ⟨cl_w_ALL, A_w_ALL, q_w_ALL⟩ := B_w_ALL
  obtain ⟨v1, _, ⟨T1, L1, k1, n1⟩, -, X1, ⟨Lc1, hQ1, l1, y1, z1⟩, st1⟩ := Jvm.LawKit.callS X0 hx (y := (⟨"com/example/tenpai/tenpai/core/Suit", "of", "(C)Lcom/example/tenpai/tenpai/core/Suit;"⟩ : MethodName)) hown (mvT hZ (hw _ (ow 4 rfl))) (mvT hZ (hw _ (ow 5 rfl))) (mvT hZ (hw _ (ow 6 rfl))) (mvT hZ (hw _ (ow 7 rfl))) (by decide) (backOf (W := 0) (rm_of l Z a0 hw [] (112 : Int32) h0 n0 w_ALL w_CHARACTERS w_DOTS w_BAMBOO w_HONOURS hK) hZ (hw _ (ow 7 rfl)) (hw _ (ow 6 rfl)) (by decide) (by decide)) (g := (mkF m 22 #[.val (.int p1), .val (.int p2), .val (.int (112 : Int32)), .unset, .unset] [(.int (112 : Int32))])) rfl (by rw [hml]; rfl) (argsL := [(.int (112 : Int32))]) (rest := []) (lenOf pd_1 rfl) rfl (Nat.le_of_eq rfl) (hb hby at_22) (fun _ _ => ⟨rfl, e0, (by decide : 0 + 0 ≤ _), (by decide : 0 + 0 ≤ _)⟩)
  dsimp only [Pt.U, Pt.locs, Pt.cells, Pt.slots] at X1 l1 y1 z1 st1 hQ1
  subst l1 y1 z1
  obtain ⟨hv1, Nq1, e1⟩ := hQ1
  obtain rfl : v1 = some (.ref w_DOTS) := hv1.trans (congrArg some ((if_neg (by decide)).trans (if_pos (by decide))))
  have N1 := Fr.app N0 Nq1
  obtain ⟨v2, _, ⟨T2, L2, k2, n2⟩, -, X2, ⟨Lc2, hQ2, l2, y2, z2⟩, st2⟩ := Jvm.LawKit.callS X1 hx (y := (⟨"com/example/tenpai/tenpai/core/SuitOfPinLaw", "expected", "(C)Lcom/example/tenpai/tenpai/core/Suit;"⟩ : MethodName)) hown (mvT hZ (hw _ (ow 14 rfl))) (mvT hZ (hw _ (ow 15 rfl))) (mvT hZ (hw _ (ow 2 rfl))) (mvT hZ (hw _ (ow 16 rfl))) (by decide) (backOf (W := 0) (rm_expected l Z a0 hw [] (112 : Int32) h0 n0 w_ALL w_CHARACTERS w_DOTS w_BAMBOO w_HONOURS hK) hZ (hw _ (ow 16 rfl)) (hw _ (ow 2 rfl)) (by decide) (by decide)) (g := (mkF m 27 #[.val (.int p1), .val (.int p2), .val (.int (112 : Int32)), .val (.ref w_DOTS), .unset] [(.int (112 : Int32))])) rfl (by rw [hml]; rfl) (argsL := [(.int (112 : Int32))]) (rest := []) (lenOf pd_1 rfl) rfl (Nat.le_of_eq rfl) (hb hby at_27) (fun _ _ => ⟨rfl, e1, (by decide : 0 + 0 ≤ _), (by decide : 0 + 0 ≤ _)⟩)
  dsimp only [Pt.U, Pt.locs, Pt.cells, Pt.slots] at X2 l2 y2 z2 st2 hQ2
  subst l2 y2 z2
  obtain ⟨hv2, Nq2, e2⟩ := hQ2
  obtain rfl : v2 = some (.ref w_DOTS) := hv2.trans (congrArg some ((if_neg (by decide)).trans (if_pos (by decide))))
  have N2 := Fr.app N1 Nq2
  have pre3 : ∀ t, Steps p.tables e below (T2.setTop (mkF m 43 #[.val (.int p1), .val (.int p2), .val (.int (112 : Int32)), .val (.ref w_DOTS), .val (.ref w_DOTS)] [(.int (1 : Int32))])) t → Steps p.tables e below (s₁.setTop (entryFrame m #[(.int p1), (.int p2)] maxLocals)) t := fun t k => pre0 t (by
    show Steps p.tables e below (s₁.setTop (mkF m 0 #[.val (.int p1), .val (.int p2), .unset, .unset, .unset] [])) _
    refine XS.iloadN X0.here hx rfl (hb hby at_0) rfl ?_
    show Steps p.tables e below (s₁.setTop (mkF m 1 #[.val (.int p1), .val (.int p2), .unset, .unset, .unset] [(.int p2)])) _
    refine XS.iconst X0.here hx rfl (hb hby at_1) ?_
    show Steps p.tables e below (s₁.setTop (mkF m 2 #[.val (.int p1), .val (.int p2), .unset, .unset, .unset] [(.int (1 : Int32)), (.int p2)])) _
    refine XS.iand X0.here hx rfl (hb hby at_2) rfl ?_
    show Steps p.tables e below (s₁.setTop (mkF m 3 #[.val (.int p1), .val (.int p2), .unset, .unset, .unset] [(.int (p2 &&& (1 : Int32)))])) _
    rw [hj]
    show Steps p.tables e below (s₁.setTop (mkF m 3 #[.val (.int p1), .val (.int p2), .unset, .unset, .unset] [(.int (0 : Int32))])) _
    refine XS.ifYes X0.here hx rfl (pc0 := 3) (pc' := 18) rfl (hb hby at_3) rfl ((if0 _ _).trans (teq (by decide)).1) (by decide) (by decide) ?_
    show Steps p.tables e below (s₁.setTop (mkF m 18 #[.val (.int p1), .val (.int p2), .unset, .unset, .unset] [])) _
    refine XS.iloadN X0.here hx rfl (hb hby at_18) rfl ?_
    show Steps p.tables e below (s₁.setTop (mkF m 19 #[.val (.int p1), .val (.int p2), .unset, .unset, .unset] [(.int p1)])) _
    refine XS.i2c X0.here hx rfl (hb hby at_19) rfl ?_
    show Steps p.tables e below (s₁.setTop (mkF m 20 #[.val (.int p1), .val (.int p2), .unset, .unset, .unset] [(.int (p1.toUInt32.toUInt16.toUInt32.toInt32))])) _
    rw [hk]
    show Steps p.tables e below (s₁.setTop (mkF m 20 #[.val (.int p1), .val (.int p2), .unset, .unset, .unset] [(.int (112 : Int32))])) _
    refine XS.istoreN X0.here hx rfl (hb hby at_20) rfl (l' := #[.val (.int p1), .val (.int p2), .val (.int (112 : Int32)), .unset, .unset]) rfl ?_
    show Steps p.tables e below (s₁.setTop (mkF m 21 #[.val (.int p1), .val (.int p2), .val (.int (112 : Int32)), .unset, .unset] [])) _
    refine XS.iloadN X0.here hx rfl (hb hby at_21) rfl ?_
    show Steps p.tables e below (s₁.setTop (mkF m 22 #[.val (.int p1), .val (.int p2), .val (.int (112 : Int32)), .unset, .unset] [(.int (112 : Int32))])) _
    refine st1 _ ?_
    show Steps p.tables e below (T1.setTop (mkF m 25 #[.val (.int p1), .val (.int p2), .val (.int (112 : Int32)), .unset, .unset] [(.ref w_DOTS)])) _
    refine XS.astoreN X1.here hx rfl (hb hby at_25) rfl rfl (l' := #[.val (.int p1), .val (.int p2), .val (.int (112 : Int32)), .val (.ref w_DOTS), .unset]) rfl ?_
    show Steps p.tables e below (T1.setTop (mkF m 26 #[.val (.int p1), .val (.int p2), .val (.int (112 : Int32)), .val (.ref w_DOTS), .unset] [])) _
    refine XS.iloadN X1.here hx rfl (hb hby at_26) rfl ?_
    show Steps p.tables e below (T1.setTop (mkF m 27 #[.val (.int p1), .val (.int p2), .val (.int (112 : Int32)), .val (.ref w_DOTS), .unset] [(.int (112 : Int32))])) _
    refine st2 _ ?_
    show Steps p.tables e below (T2.setTop (mkF m 30 #[.val (.int p1), .val (.int p2), .val (.int (112 : Int32)), .val (.ref w_DOTS), .unset] [(.ref w_DOTS)])) _
    refine XS.astore X2.here hx rfl (hb hby at_30) rfl rfl (l' := #[.val (.int p1), .val (.int p2), .val (.int (112 : Int32)), .val (.ref w_DOTS), .val (.ref w_DOTS)]) rfl ?_
    show Steps p.tables e below (T2.setTop (mkF m 32 #[.val (.int p1), .val (.int p2), .val (.int (112 : Int32)), .val (.ref w_DOTS), .val (.ref w_DOTS)] [])) _
    refine XS.aloadN X2.here hx rfl (hb hby at_32) rfl rfl ?_
    show Steps p.tables e below (T2.setTop (mkF m 33 #[.val (.int p1), .val (.int p2), .val (.int (112 : Int32)), .val (.ref w_DOTS), .val (.ref w_DOTS)] [(.ref w_DOTS)])) _
    refine XS.aload X2.here hx rfl (hb hby at_33) rfl rfl ?_
    show Steps p.tables e below (T2.setTop (mkF m 35 #[.val (.int p1), .val (.int p2), .val (.int (112 : Int32)), .val (.ref w_DOTS), .val (.ref w_DOTS)] [(.ref w_DOTS), (.ref w_DOTS)])) _
    refine Jvm.RoadKit.acmp (g := (mkF m 35 #[.val (.int p1), .val (.int p2), .val (.int (112 : Int32)), .val (.ref w_DOTS), .val (.ref w_DOTS)] [(.ref w_DOTS), (.ref w_DOTS)])) X2 hx rfl rfl rfl (pc0 := 35) (pc' := 38) (same := true) rfl (hb hby at_35) rfl (decide_eq_true rfl) (by decide) (by decide) ?_
    show Steps p.tables e below (T2.setTop (mkF m 38 #[.val (.int p1), .val (.int p2), .val (.int (112 : Int32)), .val (.ref w_DOTS), .val (.ref w_DOTS)] [])) _
    refine XS.iconst X2.here hx rfl (hb hby at_38) ?_
    show Steps p.tables e below (T2.setTop (mkF m 39 #[.val (.int p1), .val (.int p2), .val (.int (112 : Int32)), .val (.ref w_DOTS), .val (.ref w_DOTS)] [(.int (1 : Int32))])) _
    refine XS.goto X2.here hx rfl (pc0 := 39) (pc' := 43) rfl (hb hby at_39) (by decide) (by decide) ?_
    exact k)
  obtain ⟨fs, hr, hrun, hended, hW, hsame⟩ := X2.leave (v := some (.int (1 : Int32))) (fun h => by rw [Bd.returns] at h; cases h)
  refine ⟨_, _, pre3 _ ?_, hrun, hended, _, _, rfl, ?_, ⟨_, rfl⟩, hW, hsame.mono (by decide) (by decide)⟩
  · show Steps p.tables e below (T2.setTop (mkF m 43 #[.val (.int p1), .val (.int p2), .val (.int (112 : Int32)), .val (.ref w_DOTS), .val (.ref w_DOTS)] [(.int (1 : Int32))])) _
    exact retN X2 hx (t := .boolean) Bd.returns (by simp) (hb hby at_43) hr
  · exact ⟨rfl, N2, e2⟩
theorem ef_law0_2 (m : MethodId) (x0 : Int32) (x1 : Int32) : entryFrame m #[(.int x0), (.int x1)] maxLocals = mkF m 0 #[.val (.int x0), .val (.int x1), .unset, .unset, .unset] [] := by first | (simp [entryFrame, mkF, argsToLocals, Value.category, maxLocals]; done) | rfl
set_option maxRecDepth 65536 in
set_option maxHeartbeats 40000000 in
theorem rm_law0_2 (l : Launch) (Z : State) (a0 : Array Value) (hw : ∀ d ∈ tables_1, d.before a0 Z = true) (ws : List Jvm.Cond) (p1 : Int32) (p2 : Int32) (h0 : Heap) (n0 : Nat) (w_ALL w_CHARACTERS w_DOTS w_BAMBOO w_HONOURS : Addr) (hK : own_K Z h0 w_ALL w_CHARACTERS w_DOTS w_BAMBOO w_HONOURS) (hj : (p2 &&& (1 : Int32)) = (0 : Int32)) (hk : (p1.toUInt32.toUInt16.toUInt32.toInt32) = (115 : Int32)) :
    MetFree l x (head1 (Jvm.Cond.code x code maxLocals ret :: ws) room_1) (fun a U => a = #[(.int p1), (.int p2)] ∧ Z.Warmed39 U.vm ∧ U.heap = h0) (fun _ _ _ _ _ => True) (fun _ U o U' => ∃ v L, o = .returned v ∧ own_Q (some (.int (1 : Int32))) h0 n0 v U'.heap L ∧ FrameEnd U o U' L room_1.cells room_1.slots) := by
  refine MetFree.of_bodySF (plainFor_of_name pn_0) hisR ?_
  intro p e s m args below meth c s₁ Bd hml0 hP hK0
  obtain ⟨rfl, hZ, hh⟩ := hP
  have hx := Bd.exec
  have hby := Bd.bytes
  have hml : c.maxLocals = 5 := hml0
  have hown : s.vm.findClass "com/example/tenpai/tenpai/core/SuitOfPinLaw" = some m.cls := findClass_of_methodNamed Bd.named
  have hnm := (name_of_methodNamed Bd.named Bd.method).1
  have X0 : Stand p l e room_1 s m #[(.int p1), (.int p2)] below meth c s₁ [] 0 0 := Stand.of_body Bd
  have e0 : s₁.heap = h0 := by rw [← hh, Bd.state]; rfl
  have N0 := Fr.nil n0
  have pre0 : ∀ t, Steps p.tables e below (s₁.setTop (mkF m 0 #[.val (.int p1), .val (.int p2), .unset, .unset, .unset] [])) t → Steps p.tables e below (s₁.setTop (entryFrame m #[(.int p1), (.int p2)] maxLocals)) t := fun t k => castTop (ef_law0_2 m p1 p2) k
  have hK' := hK
  obtain ⟨S_w_ALL, S_w_CHARACTERS, E_w_CHARACTERS, F__letter_w_CHARACTERS, S_w_DOTS, E_w_DOTS, F__letter_w_DOTS, S_w_BAMBOO, E_w_BAMBOO, F__letter_w_BAMBOO, S_w_HONOURS, E_w_HONOURS, F__letter_w_HONOURS, B_w_ALL⟩ := hK'
  obtain ⟨cl_w_ALL, A_w_ALL, q_w_ALL⟩ := B_w_ALL
  obtain ⟨v1, _, ⟨T1, L1, k1, n1⟩, -, X1, ⟨Lc1, hQ1, l1, y1, z1⟩, st1⟩ := Jvm.LawKit.callS X0 hx (y := (⟨"com/example/tenpai/tenpai/core/Suit", "of", "(C)Lcom/example/tenpai/tenpai/core/Suit;"⟩ : MethodName)) hown (mvT hZ (hw _ (ow 4 rfl))) (mvT hZ (hw _ (ow 5 rfl))) (mvT hZ (hw _ (ow 6 rfl))) (mvT hZ (hw _ (ow 7 rfl))) (by decide) (backOf (W := 0) (rm_of l Z a0 hw [] (115 : Int32) h0 n0 w_ALL w_CHARACTERS w_DOTS w_BAMBOO w_HONOURS hK) hZ (hw _ (ow 7 rfl)) (hw _ (ow 6 rfl)) (by decide) (by decide)) (g := (mkF m 22 #[.val (.int p1), .val (.int p2), .val (.int (115 : Int32)), .unset, .unset] [(.int (115 : Int32))])) rfl (by rw [hml]; rfl) (argsL := [(.int (115 : Int32))]) (rest := []) (lenOf pd_1 rfl) rfl (Nat.le_of_eq rfl) (hb hby at_22) (fun _ _ => ⟨rfl, e0, (by decide : 0 + 0 ≤ _), (by decide : 0 + 0 ≤ _)⟩)
  dsimp only [Pt.U, Pt.locs, Pt.cells, Pt.slots] at X1 l1 y1 z1 st1 hQ1
  subst l1 y1 z1
  obtain ⟨hv1, Nq1, e1⟩ := hQ1
  obtain rfl : v1 = some (.ref w_BAMBOO) := hv1.trans (congrArg some ((if_neg (by decide)).trans ((if_neg (by decide)).trans (if_pos (by decide)))))
  have N1 := Fr.app N0 Nq1
  obtain ⟨v2, _, ⟨T2, L2, k2, n2⟩, -, X2, ⟨Lc2, hQ2, l2, y2, z2⟩, st2⟩ := Jvm.LawKit.callS X1 hx (y := (⟨"com/example/tenpai/tenpai/core/SuitOfPinLaw", "expected", "(C)Lcom/example/tenpai/tenpai/core/Suit;"⟩ : MethodName)) hown (mvT hZ (hw _ (ow 14 rfl))) (mvT hZ (hw _ (ow 15 rfl))) (mvT hZ (hw _ (ow 2 rfl))) (mvT hZ (hw _ (ow 16 rfl))) (by decide) (backOf (W := 0) (rm_expected l Z a0 hw [] (115 : Int32) h0 n0 w_ALL w_CHARACTERS w_DOTS w_BAMBOO w_HONOURS hK) hZ (hw _ (ow 16 rfl)) (hw _ (ow 2 rfl)) (by decide) (by decide)) (g := (mkF m 27 #[.val (.int p1), .val (.int p2), .val (.int (115 : Int32)), .val (.ref w_BAMBOO), .unset] [(.int (115 : Int32))])) rfl (by rw [hml]; rfl) (argsL := [(.int (115 : Int32))]) (rest := []) (lenOf pd_1 rfl) rfl (Nat.le_of_eq rfl) (hb hby at_27) (fun _ _ => ⟨rfl, e1, (by decide : 0 + 0 ≤ _), (by decide : 0 + 0 ≤ _)⟩)
  dsimp only [Pt.U, Pt.locs, Pt.cells, Pt.slots] at X2 l2 y2 z2 st2 hQ2
  subst l2 y2 z2
  obtain ⟨hv2, Nq2, e2⟩ := hQ2
  obtain rfl : v2 = some (.ref w_BAMBOO) := hv2.trans (congrArg some ((if_neg (by decide)).trans ((if_neg (by decide)).trans (if_pos (by decide)))))
  have N2 := Fr.app N1 Nq2
  have pre3 : ∀ t, Steps p.tables e below (T2.setTop (mkF m 43 #[.val (.int p1), .val (.int p2), .val (.int (115 : Int32)), .val (.ref w_BAMBOO), .val (.ref w_BAMBOO)] [(.int (1 : Int32))])) t → Steps p.tables e below (s₁.setTop (entryFrame m #[(.int p1), (.int p2)] maxLocals)) t := fun t k => pre0 t (by
    show Steps p.tables e below (s₁.setTop (mkF m 0 #[.val (.int p1), .val (.int p2), .unset, .unset, .unset] [])) _
    refine XS.iloadN X0.here hx rfl (hb hby at_0) rfl ?_
    show Steps p.tables e below (s₁.setTop (mkF m 1 #[.val (.int p1), .val (.int p2), .unset, .unset, .unset] [(.int p2)])) _
    refine XS.iconst X0.here hx rfl (hb hby at_1) ?_
    show Steps p.tables e below (s₁.setTop (mkF m 2 #[.val (.int p1), .val (.int p2), .unset, .unset, .unset] [(.int (1 : Int32)), (.int p2)])) _
    refine XS.iand X0.here hx rfl (hb hby at_2) rfl ?_
    show Steps p.tables e below (s₁.setTop (mkF m 3 #[.val (.int p1), .val (.int p2), .unset, .unset, .unset] [(.int (p2 &&& (1 : Int32)))])) _
    rw [hj]
    show Steps p.tables e below (s₁.setTop (mkF m 3 #[.val (.int p1), .val (.int p2), .unset, .unset, .unset] [(.int (0 : Int32))])) _
    refine XS.ifYes X0.here hx rfl (pc0 := 3) (pc' := 18) rfl (hb hby at_3) rfl ((if0 _ _).trans (teq (by decide)).1) (by decide) (by decide) ?_
    show Steps p.tables e below (s₁.setTop (mkF m 18 #[.val (.int p1), .val (.int p2), .unset, .unset, .unset] [])) _
    refine XS.iloadN X0.here hx rfl (hb hby at_18) rfl ?_
    show Steps p.tables e below (s₁.setTop (mkF m 19 #[.val (.int p1), .val (.int p2), .unset, .unset, .unset] [(.int p1)])) _
    refine XS.i2c X0.here hx rfl (hb hby at_19) rfl ?_
    show Steps p.tables e below (s₁.setTop (mkF m 20 #[.val (.int p1), .val (.int p2), .unset, .unset, .unset] [(.int (p1.toUInt32.toUInt16.toUInt32.toInt32))])) _
    rw [hk]
    show Steps p.tables e below (s₁.setTop (mkF m 20 #[.val (.int p1), .val (.int p2), .unset, .unset, .unset] [(.int (115 : Int32))])) _
    refine XS.istoreN X0.here hx rfl (hb hby at_20) rfl (l' := #[.val (.int p1), .val (.int p2), .val (.int (115 : Int32)), .unset, .unset]) rfl ?_
    show Steps p.tables e below (s₁.setTop (mkF m 21 #[.val (.int p1), .val (.int p2), .val (.int (115 : Int32)), .unset, .unset] [])) _
    refine XS.iloadN X0.here hx rfl (hb hby at_21) rfl ?_
    show Steps p.tables e below (s₁.setTop (mkF m 22 #[.val (.int p1), .val (.int p2), .val (.int (115 : Int32)), .unset, .unset] [(.int (115 : Int32))])) _
    refine st1 _ ?_
    show Steps p.tables e below (T1.setTop (mkF m 25 #[.val (.int p1), .val (.int p2), .val (.int (115 : Int32)), .unset, .unset] [(.ref w_BAMBOO)])) _
    refine XS.astoreN X1.here hx rfl (hb hby at_25) rfl rfl (l' := #[.val (.int p1), .val (.int p2), .val (.int (115 : Int32)), .val (.ref w_BAMBOO), .unset]) rfl ?_
    show Steps p.tables e below (T1.setTop (mkF m 26 #[.val (.int p1), .val (.int p2), .val (.int (115 : Int32)), .val (.ref w_BAMBOO), .unset] [])) _
    refine XS.iloadN X1.here hx rfl (hb hby at_26) rfl ?_
    show Steps p.tables e below (T1.setTop (mkF m 27 #[.val (.int p1), .val (.int p2), .val (.int (115 : Int32)), .val (.ref w_BAMBOO), .unset] [(.int (115 : Int32))])) _
    refine st2 _ ?_
    show Steps p.tables e below (T2.setTop (mkF m 30 #[.val (.int p1), .val (.int p2), .val (.int (115 : Int32)), .val (.ref w_BAMBOO), .unset] [(.ref w_BAMBOO)])) _
    refine XS.astore X2.here hx rfl (hb hby at_30) rfl rfl (l' := #[.val (.int p1), .val (.int p2), .val (.int (115 : Int32)), .val (.ref w_BAMBOO), .val (.ref w_BAMBOO)]) rfl ?_
    show Steps p.tables e below (T2.setTop (mkF m 32 #[.val (.int p1), .val (.int p2), .val (.int (115 : Int32)), .val (.ref w_BAMBOO), .val (.ref w_BAMBOO)] [])) _
    refine XS.aloadN X2.here hx rfl (hb hby at_32) rfl rfl ?_
    show Steps p.tables e below (T2.setTop (mkF m 33 #[.val (.int p1), .val (.int p2), .val (.int (115 : Int32)), .val (.ref w_BAMBOO), .val (.ref w_BAMBOO)] [(.ref w_BAMBOO)])) _
    refine XS.aload X2.here hx rfl (hb hby at_33) rfl rfl ?_
    show Steps p.tables e below (T2.setTop (mkF m 35 #[.val (.int p1), .val (.int p2), .val (.int (115 : Int32)), .val (.ref w_BAMBOO), .val (.ref w_BAMBOO)] [(.ref w_BAMBOO), (.ref w_BAMBOO)])) _
    refine Jvm.RoadKit.acmp (g := (mkF m 35 #[.val (.int p1), .val (.int p2), .val (.int (115 : Int32)), .val (.ref w_BAMBOO), .val (.ref w_BAMBOO)] [(.ref w_BAMBOO), (.ref w_BAMBOO)])) X2 hx rfl rfl rfl (pc0 := 35) (pc' := 38) (same := true) rfl (hb hby at_35) rfl (decide_eq_true rfl) (by decide) (by decide) ?_
    show Steps p.tables e below (T2.setTop (mkF m 38 #[.val (.int p1), .val (.int p2), .val (.int (115 : Int32)), .val (.ref w_BAMBOO), .val (.ref w_BAMBOO)] [])) _
    refine XS.iconst X2.here hx rfl (hb hby at_38) ?_
    show Steps p.tables e below (T2.setTop (mkF m 39 #[.val (.int p1), .val (.int p2), .val (.int (115 : Int32)), .val (.ref w_BAMBOO), .val (.ref w_BAMBOO)] [(.int (1 : Int32))])) _
    refine XS.goto X2.here hx rfl (pc0 := 39) (pc' := 43) rfl (hb hby at_39) (by decide) (by decide) ?_
    exact k)
  obtain ⟨fs, hr, hrun, hended, hW, hsame⟩ := X2.leave (v := some (.int (1 : Int32))) (fun h => by rw [Bd.returns] at h; cases h)
  refine ⟨_, _, pre3 _ ?_, hrun, hended, _, _, rfl, ?_, ⟨_, rfl⟩, hW, hsame.mono (by decide) (by decide)⟩
  · show Steps p.tables e below (T2.setTop (mkF m 43 #[.val (.int p1), .val (.int p2), .val (.int (115 : Int32)), .val (.ref w_BAMBOO), .val (.ref w_BAMBOO)] [(.int (1 : Int32))])) _
    exact retN X2 hx (t := .boolean) Bd.returns (by simp) (hb hby at_43) hr
  · exact ⟨rfl, N2, e2⟩
theorem ef_law0_3 (m : MethodId) (x0 : Int32) (x1 : Int32) : entryFrame m #[(.int x0), (.int x1)] maxLocals = mkF m 0 #[.val (.int x0), .val (.int x1), .unset, .unset, .unset] [] := by first | (simp [entryFrame, mkF, argsToLocals, Value.category, maxLocals]; done) | rfl
set_option maxRecDepth 65536 in
set_option maxHeartbeats 40000000 in
theorem rm_law0_3 (l : Launch) (Z : State) (a0 : Array Value) (hw : ∀ d ∈ tables_1, d.before a0 Z = true) (ws : List Jvm.Cond) (p1 : Int32) (p2 : Int32) (h0 : Heap) (n0 : Nat) (w_ALL w_CHARACTERS w_DOTS w_BAMBOO w_HONOURS : Addr) (hK : own_K Z h0 w_ALL w_CHARACTERS w_DOTS w_BAMBOO w_HONOURS) (hj : (p2 &&& (1 : Int32)) = (0 : Int32)) (hk : (p1.toUInt32.toUInt16.toUInt32.toInt32) = (122 : Int32)) :
    MetFree l x (head1 (Jvm.Cond.code x code maxLocals ret :: ws) room_1) (fun a U => a = #[(.int p1), (.int p2)] ∧ Z.Warmed39 U.vm ∧ U.heap = h0) (fun _ _ _ _ _ => True) (fun _ U o U' => ∃ v L, o = .returned v ∧ own_Q (some (.int (1 : Int32))) h0 n0 v U'.heap L ∧ FrameEnd U o U' L room_1.cells room_1.slots) := by
  refine MetFree.of_bodySF (plainFor_of_name pn_0) hisR ?_
  intro p e s m args below meth c s₁ Bd hml0 hP hK0
  obtain ⟨rfl, hZ, hh⟩ := hP
  have hx := Bd.exec
  have hby := Bd.bytes
  have hml : c.maxLocals = 5 := hml0
  have hown : s.vm.findClass "com/example/tenpai/tenpai/core/SuitOfPinLaw" = some m.cls := findClass_of_methodNamed Bd.named
  have hnm := (name_of_methodNamed Bd.named Bd.method).1
  have X0 : Stand p l e room_1 s m #[(.int p1), (.int p2)] below meth c s₁ [] 0 0 := Stand.of_body Bd
  have e0 : s₁.heap = h0 := by rw [← hh, Bd.state]; rfl
  have N0 := Fr.nil n0
  have pre0 : ∀ t, Steps p.tables e below (s₁.setTop (mkF m 0 #[.val (.int p1), .val (.int p2), .unset, .unset, .unset] [])) t → Steps p.tables e below (s₁.setTop (entryFrame m #[(.int p1), (.int p2)] maxLocals)) t := fun t k => castTop (ef_law0_3 m p1 p2) k
  have hK' := hK
  obtain ⟨S_w_ALL, S_w_CHARACTERS, E_w_CHARACTERS, F__letter_w_CHARACTERS, S_w_DOTS, E_w_DOTS, F__letter_w_DOTS, S_w_BAMBOO, E_w_BAMBOO, F__letter_w_BAMBOO, S_w_HONOURS, E_w_HONOURS, F__letter_w_HONOURS, B_w_ALL⟩ := hK'
  obtain ⟨cl_w_ALL, A_w_ALL, q_w_ALL⟩ := B_w_ALL
  obtain ⟨v1, _, ⟨T1, L1, k1, n1⟩, -, X1, ⟨Lc1, hQ1, l1, y1, z1⟩, st1⟩ := Jvm.LawKit.callS X0 hx (y := (⟨"com/example/tenpai/tenpai/core/Suit", "of", "(C)Lcom/example/tenpai/tenpai/core/Suit;"⟩ : MethodName)) hown (mvT hZ (hw _ (ow 4 rfl))) (mvT hZ (hw _ (ow 5 rfl))) (mvT hZ (hw _ (ow 6 rfl))) (mvT hZ (hw _ (ow 7 rfl))) (by decide) (backOf (W := 0) (rm_of l Z a0 hw [] (122 : Int32) h0 n0 w_ALL w_CHARACTERS w_DOTS w_BAMBOO w_HONOURS hK) hZ (hw _ (ow 7 rfl)) (hw _ (ow 6 rfl)) (by decide) (by decide)) (g := (mkF m 22 #[.val (.int p1), .val (.int p2), .val (.int (122 : Int32)), .unset, .unset] [(.int (122 : Int32))])) rfl (by rw [hml]; rfl) (argsL := [(.int (122 : Int32))]) (rest := []) (lenOf pd_1 rfl) rfl (Nat.le_of_eq rfl) (hb hby at_22) (fun _ _ => ⟨rfl, e0, (by decide : 0 + 0 ≤ _), (by decide : 0 + 0 ≤ _)⟩)
  dsimp only [Pt.U, Pt.locs, Pt.cells, Pt.slots] at X1 l1 y1 z1 st1 hQ1
  subst l1 y1 z1
  obtain ⟨hv1, Nq1, e1⟩ := hQ1
  obtain rfl : v1 = some (.ref w_HONOURS) := hv1.trans (congrArg some ((if_neg (by decide)).trans ((if_neg (by decide)).trans ((if_neg (by decide)).trans (if_pos (by decide))))))
  have N1 := Fr.app N0 Nq1
  obtain ⟨v2, _, ⟨T2, L2, k2, n2⟩, -, X2, ⟨Lc2, hQ2, l2, y2, z2⟩, st2⟩ := Jvm.LawKit.callS X1 hx (y := (⟨"com/example/tenpai/tenpai/core/SuitOfPinLaw", "expected", "(C)Lcom/example/tenpai/tenpai/core/Suit;"⟩ : MethodName)) hown (mvT hZ (hw _ (ow 14 rfl))) (mvT hZ (hw _ (ow 15 rfl))) (mvT hZ (hw _ (ow 2 rfl))) (mvT hZ (hw _ (ow 16 rfl))) (by decide) (backOf (W := 0) (rm_expected l Z a0 hw [] (122 : Int32) h0 n0 w_ALL w_CHARACTERS w_DOTS w_BAMBOO w_HONOURS hK) hZ (hw _ (ow 16 rfl)) (hw _ (ow 2 rfl)) (by decide) (by decide)) (g := (mkF m 27 #[.val (.int p1), .val (.int p2), .val (.int (122 : Int32)), .val (.ref w_HONOURS), .unset] [(.int (122 : Int32))])) rfl (by rw [hml]; rfl) (argsL := [(.int (122 : Int32))]) (rest := []) (lenOf pd_1 rfl) rfl (Nat.le_of_eq rfl) (hb hby at_27) (fun _ _ => ⟨rfl, e1, (by decide : 0 + 0 ≤ _), (by decide : 0 + 0 ≤ _)⟩)
  dsimp only [Pt.U, Pt.locs, Pt.cells, Pt.slots] at X2 l2 y2 z2 st2 hQ2
  subst l2 y2 z2
  obtain ⟨hv2, Nq2, e2⟩ := hQ2
  obtain rfl : v2 = some (.ref w_HONOURS) := hv2.trans (congrArg some ((if_neg (by decide)).trans ((if_neg (by decide)).trans ((if_neg (by decide)).trans (if_pos (by decide))))))
  have N2 := Fr.app N1 Nq2
  have pre3 : ∀ t, Steps p.tables e below (T2.setTop (mkF m 43 #[.val (.int p1), .val (.int p2), .val (.int (122 : Int32)), .val (.ref w_HONOURS), .val (.ref w_HONOURS)] [(.int (1 : Int32))])) t → Steps p.tables e below (s₁.setTop (entryFrame m #[(.int p1), (.int p2)] maxLocals)) t := fun t k => pre0 t (by
    show Steps p.tables e below (s₁.setTop (mkF m 0 #[.val (.int p1), .val (.int p2), .unset, .unset, .unset] [])) _
    refine XS.iloadN X0.here hx rfl (hb hby at_0) rfl ?_
    show Steps p.tables e below (s₁.setTop (mkF m 1 #[.val (.int p1), .val (.int p2), .unset, .unset, .unset] [(.int p2)])) _
    refine XS.iconst X0.here hx rfl (hb hby at_1) ?_
    show Steps p.tables e below (s₁.setTop (mkF m 2 #[.val (.int p1), .val (.int p2), .unset, .unset, .unset] [(.int (1 : Int32)), (.int p2)])) _
    refine XS.iand X0.here hx rfl (hb hby at_2) rfl ?_
    show Steps p.tables e below (s₁.setTop (mkF m 3 #[.val (.int p1), .val (.int p2), .unset, .unset, .unset] [(.int (p2 &&& (1 : Int32)))])) _
    rw [hj]
    show Steps p.tables e below (s₁.setTop (mkF m 3 #[.val (.int p1), .val (.int p2), .unset, .unset, .unset] [(.int (0 : Int32))])) _
    refine XS.ifYes X0.here hx rfl (pc0 := 3) (pc' := 18) rfl (hb hby at_3) rfl ((if0 _ _).trans (teq (by decide)).1) (by decide) (by decide) ?_
    show Steps p.tables e below (s₁.setTop (mkF m 18 #[.val (.int p1), .val (.int p2), .unset, .unset, .unset] [])) _
    refine XS.iloadN X0.here hx rfl (hb hby at_18) rfl ?_
    show Steps p.tables e below (s₁.setTop (mkF m 19 #[.val (.int p1), .val (.int p2), .unset, .unset, .unset] [(.int p1)])) _
    refine XS.i2c X0.here hx rfl (hb hby at_19) rfl ?_
    show Steps p.tables e below (s₁.setTop (mkF m 20 #[.val (.int p1), .val (.int p2), .unset, .unset, .unset] [(.int (p1.toUInt32.toUInt16.toUInt32.toInt32))])) _
    rw [hk]
    show Steps p.tables e below (s₁.setTop (mkF m 20 #[.val (.int p1), .val (.int p2), .unset, .unset, .unset] [(.int (122 : Int32))])) _
    refine XS.istoreN X0.here hx rfl (hb hby at_20) rfl (l' := #[.val (.int p1), .val (.int p2), .val (.int (122 : Int32)), .unset, .unset]) rfl ?_
    show Steps p.tables e below (s₁.setTop (mkF m 21 #[.val (.int p1), .val (.int p2), .val (.int (122 : Int32)), .unset, .unset] [])) _
    refine XS.iloadN X0.here hx rfl (hb hby at_21) rfl ?_
    show Steps p.tables e below (s₁.setTop (mkF m 22 #[.val (.int p1), .val (.int p2), .val (.int (122 : Int32)), .unset, .unset] [(.int (122 : Int32))])) _
    refine st1 _ ?_
    show Steps p.tables e below (T1.setTop (mkF m 25 #[.val (.int p1), .val (.int p2), .val (.int (122 : Int32)), .unset, .unset] [(.ref w_HONOURS)])) _
    refine XS.astoreN X1.here hx rfl (hb hby at_25) rfl rfl (l' := #[.val (.int p1), .val (.int p2), .val (.int (122 : Int32)), .val (.ref w_HONOURS), .unset]) rfl ?_
    show Steps p.tables e below (T1.setTop (mkF m 26 #[.val (.int p1), .val (.int p2), .val (.int (122 : Int32)), .val (.ref w_HONOURS), .unset] [])) _
    refine XS.iloadN X1.here hx rfl (hb hby at_26) rfl ?_
    show Steps p.tables e below (T1.setTop (mkF m 27 #[.val (.int p1), .val (.int p2), .val (.int (122 : Int32)), .val (.ref w_HONOURS), .unset] [(.int (122 : Int32))])) _
    refine st2 _ ?_
    show Steps p.tables e below (T2.setTop (mkF m 30 #[.val (.int p1), .val (.int p2), .val (.int (122 : Int32)), .val (.ref w_HONOURS), .unset] [(.ref w_HONOURS)])) _
    refine XS.astore X2.here hx rfl (hb hby at_30) rfl rfl (l' := #[.val (.int p1), .val (.int p2), .val (.int (122 : Int32)), .val (.ref w_HONOURS), .val (.ref w_HONOURS)]) rfl ?_
    show Steps p.tables e below (T2.setTop (mkF m 32 #[.val (.int p1), .val (.int p2), .val (.int (122 : Int32)), .val (.ref w_HONOURS), .val (.ref w_HONOURS)] [])) _
    refine XS.aloadN X2.here hx rfl (hb hby at_32) rfl rfl ?_
    show Steps p.tables e below (T2.setTop (mkF m 33 #[.val (.int p1), .val (.int p2), .val (.int (122 : Int32)), .val (.ref w_HONOURS), .val (.ref w_HONOURS)] [(.ref w_HONOURS)])) _
    refine XS.aload X2.here hx rfl (hb hby at_33) rfl rfl ?_
    show Steps p.tables e below (T2.setTop (mkF m 35 #[.val (.int p1), .val (.int p2), .val (.int (122 : Int32)), .val (.ref w_HONOURS), .val (.ref w_HONOURS)] [(.ref w_HONOURS), (.ref w_HONOURS)])) _
    refine Jvm.RoadKit.acmp (g := (mkF m 35 #[.val (.int p1), .val (.int p2), .val (.int (122 : Int32)), .val (.ref w_HONOURS), .val (.ref w_HONOURS)] [(.ref w_HONOURS), (.ref w_HONOURS)])) X2 hx rfl rfl rfl (pc0 := 35) (pc' := 38) (same := true) rfl (hb hby at_35) rfl (decide_eq_true rfl) (by decide) (by decide) ?_
    show Steps p.tables e below (T2.setTop (mkF m 38 #[.val (.int p1), .val (.int p2), .val (.int (122 : Int32)), .val (.ref w_HONOURS), .val (.ref w_HONOURS)] [])) _
    refine XS.iconst X2.here hx rfl (hb hby at_38) ?_
    show Steps p.tables e below (T2.setTop (mkF m 39 #[.val (.int p1), .val (.int p2), .val (.int (122 : Int32)), .val (.ref w_HONOURS), .val (.ref w_HONOURS)] [(.int (1 : Int32))])) _
    refine XS.goto X2.here hx rfl (pc0 := 39) (pc' := 43) rfl (hb hby at_39) (by decide) (by decide) ?_
    exact k)
  obtain ⟨fs, hr, hrun, hended, hW, hsame⟩ := X2.leave (v := some (.int (1 : Int32))) (fun h => by rw [Bd.returns] at h; cases h)
  refine ⟨_, _, pre3 _ ?_, hrun, hended, _, _, rfl, ?_, ⟨_, rfl⟩, hW, hsame.mono (by decide) (by decide)⟩
  · show Steps p.tables e below (T2.setTop (mkF m 43 #[.val (.int p1), .val (.int p2), .val (.int (122 : Int32)), .val (.ref w_HONOURS), .val (.ref w_HONOURS)] [(.int (1 : Int32))])) _
    exact retN X2 hx (t := .boolean) Bd.returns (by simp) (hb hby at_43) hr
  · exact ⟨rfl, N2, e2⟩
theorem ef_law0_n (m : MethodId) (x0 : Int32) (x1 : Int32) : entryFrame m #[(.int x0), (.int x1)] maxLocals = mkF m 0 #[.val (.int x0), .val (.int x1), .unset, .unset, .unset] [] := by first | (simp [entryFrame, mkF, argsToLocals, Value.category, maxLocals]; done) | rfl
set_option maxRecDepth 65536 in
set_option maxHeartbeats 40000000 in
theorem rm_law0_n (l : Launch) (Z : State) (a0 : Array Value) (hw : ∀ d ∈ tables_1, d.before a0 Z = true) (ws : List Jvm.Cond) (p1 : Int32) (p2 : Int32) (h0 : Heap) (n0 : Nat) (w_ALL w_CHARACTERS w_DOTS w_BAMBOO w_HONOURS : Addr) (hK : own_K Z h0 w_ALL w_CHARACTERS w_DOTS w_BAMBOO w_HONOURS) (z : Int32) (hj : (p2 &&& (1 : Int32)) = (0 : Int32)) (hk : (p1.toUInt32.toUInt16.toUInt32.toInt32) = z) (hl0 : ¬ z = (109 : Int32)) (hl1 : ¬ z = (112 : Int32)) (hl2 : ¬ z = (115 : Int32)) (hl3 : ¬ z = (122 : Int32)) :
    MetFree l x (head1 (Jvm.Cond.code x code maxLocals ret :: ws) room_1) (fun a U => a = #[(.int p1), (.int p2)] ∧ Z.Warmed39 U.vm ∧ U.heap = h0) (fun _ _ _ _ _ => True) (fun _ U o U' => ∃ v L, o = .returned v ∧ own_Q (some (.int (1 : Int32))) h0 n0 v U'.heap L ∧ FrameEnd U o U' L room_1.cells room_1.slots) := by
  refine MetFree.of_bodySF (plainFor_of_name pn_0) hisR ?_
  intro p e s m args below meth c s₁ Bd hml0 hP hK0
  obtain ⟨rfl, hZ, hh⟩ := hP
  have hx := Bd.exec
  have hby := Bd.bytes
  have hml : c.maxLocals = 5 := hml0
  have hown : s.vm.findClass "com/example/tenpai/tenpai/core/SuitOfPinLaw" = some m.cls := findClass_of_methodNamed Bd.named
  have hnm := (name_of_methodNamed Bd.named Bd.method).1
  have X0 : Stand p l e room_1 s m #[(.int p1), (.int p2)] below meth c s₁ [] 0 0 := Stand.of_body Bd
  have e0 : s₁.heap = h0 := by rw [← hh, Bd.state]; rfl
  have N0 := Fr.nil n0
  have pre0 : ∀ t, Steps p.tables e below (s₁.setTop (mkF m 0 #[.val (.int p1), .val (.int p2), .unset, .unset, .unset] [])) t → Steps p.tables e below (s₁.setTop (entryFrame m #[(.int p1), (.int p2)] maxLocals)) t := fun t k => castTop (ef_law0_n m p1 p2) k
  have hK' := hK
  obtain ⟨S_w_ALL, S_w_CHARACTERS, E_w_CHARACTERS, F__letter_w_CHARACTERS, S_w_DOTS, E_w_DOTS, F__letter_w_DOTS, S_w_BAMBOO, E_w_BAMBOO, F__letter_w_BAMBOO, S_w_HONOURS, E_w_HONOURS, F__letter_w_HONOURS, B_w_ALL⟩ := hK'
  obtain ⟨cl_w_ALL, A_w_ALL, q_w_ALL⟩ := B_w_ALL
  obtain ⟨v1, _, ⟨T1, L1, k1, n1⟩, -, X1, ⟨Lc1, hQ1, l1, y1, z1⟩, st1⟩ := Jvm.LawKit.callS X0 hx (y := (⟨"com/example/tenpai/tenpai/core/Suit", "of", "(C)Lcom/example/tenpai/tenpai/core/Suit;"⟩ : MethodName)) hown (mvT hZ (hw _ (ow 4 rfl))) (mvT hZ (hw _ (ow 5 rfl))) (mvT hZ (hw _ (ow 6 rfl))) (mvT hZ (hw _ (ow 7 rfl))) (by decide) (backOf (W := 0) (rm_of l Z a0 hw [] z h0 n0 w_ALL w_CHARACTERS w_DOTS w_BAMBOO w_HONOURS hK) hZ (hw _ (ow 7 rfl)) (hw _ (ow 6 rfl)) (by decide) (by decide)) (g := (mkF m 22 #[.val (.int p1), .val (.int p2), .val (.int z), .unset, .unset] [(.int z)])) rfl (by rw [hml]; rfl) (argsL := [(.int z)]) (rest := []) (lenOf pd_1 rfl) rfl (Nat.le_of_eq rfl) (hb hby at_22) (fun _ _ => ⟨rfl, e0, (by decide : 0 + 0 ≤ _), (by decide : 0 + 0 ≤ _)⟩)
  dsimp only [Pt.U, Pt.locs, Pt.cells, Pt.slots] at X1 l1 y1 z1 st1 hQ1
  subst l1 y1 z1
  obtain ⟨hv1, Nq1, e1⟩ := hQ1
  obtain rfl : v1 = some .null := hv1.trans (congrArg some ((if_neg (Ne.symm hl0)).trans ((if_neg (Ne.symm hl1)).trans ((if_neg (Ne.symm hl2)).trans (if_neg (Ne.symm hl3))))))
  have N1 := Fr.app N0 Nq1
  obtain ⟨v2, _, ⟨T2, L2, k2, n2⟩, -, X2, ⟨Lc2, hQ2, l2, y2, z2⟩, st2⟩ := Jvm.LawKit.callS X1 hx (y := (⟨"com/example/tenpai/tenpai/core/SuitOfPinLaw", "expected", "(C)Lcom/example/tenpai/tenpai/core/Suit;"⟩ : MethodName)) hown (mvT hZ (hw _ (ow 14 rfl))) (mvT hZ (hw _ (ow 15 rfl))) (mvT hZ (hw _ (ow 2 rfl))) (mvT hZ (hw _ (ow 16 rfl))) (by decide) (backOf (W := 0) (rm_expected l Z a0 hw [] z h0 n0 w_ALL w_CHARACTERS w_DOTS w_BAMBOO w_HONOURS hK) hZ (hw _ (ow 16 rfl)) (hw _ (ow 2 rfl)) (by decide) (by decide)) (g := (mkF m 27 #[.val (.int p1), .val (.int p2), .val (.int z), .val .null, .unset] [(.int z)])) rfl (by rw [hml]; rfl) (argsL := [(.int z)]) (rest := []) (lenOf pd_1 rfl) rfl (Nat.le_of_eq rfl) (hb hby at_27) (fun _ _ => ⟨rfl, e1, (by decide : 0 + 0 ≤ _), (by decide : 0 + 0 ≤ _)⟩)
  dsimp only [Pt.U, Pt.locs, Pt.cells, Pt.slots] at X2 l2 y2 z2 st2 hQ2
  subst l2 y2 z2
  obtain ⟨hv2, Nq2, e2⟩ := hQ2
  obtain rfl : v2 = some .null := hv2.trans (congrArg some ((if_neg hl0).trans ((if_neg hl1).trans ((if_neg hl2).trans (if_neg hl3)))))
  have N2 := Fr.app N1 Nq2
  have pre3 : ∀ t, Steps p.tables e below (T2.setTop (mkF m 43 #[.val (.int p1), .val (.int p2), .val (.int z), .val .null, .val .null] [(.int (1 : Int32))])) t → Steps p.tables e below (s₁.setTop (entryFrame m #[(.int p1), (.int p2)] maxLocals)) t := fun t k => pre0 t (by
    show Steps p.tables e below (s₁.setTop (mkF m 0 #[.val (.int p1), .val (.int p2), .unset, .unset, .unset] [])) _
    refine XS.iloadN X0.here hx rfl (hb hby at_0) rfl ?_
    show Steps p.tables e below (s₁.setTop (mkF m 1 #[.val (.int p1), .val (.int p2), .unset, .unset, .unset] [(.int p2)])) _
    refine XS.iconst X0.here hx rfl (hb hby at_1) ?_
    show Steps p.tables e below (s₁.setTop (mkF m 2 #[.val (.int p1), .val (.int p2), .unset, .unset, .unset] [(.int (1 : Int32)), (.int p2)])) _
    refine XS.iand X0.here hx rfl (hb hby at_2) rfl ?_
    show Steps p.tables e below (s₁.setTop (mkF m 3 #[.val (.int p1), .val (.int p2), .unset, .unset, .unset] [(.int (p2 &&& (1 : Int32)))])) _
    rw [hj]
    show Steps p.tables e below (s₁.setTop (mkF m 3 #[.val (.int p1), .val (.int p2), .unset, .unset, .unset] [(.int (0 : Int32))])) _
    refine XS.ifYes X0.here hx rfl (pc0 := 3) (pc' := 18) rfl (hb hby at_3) rfl ((if0 _ _).trans (teq (by decide)).1) (by decide) (by decide) ?_
    show Steps p.tables e below (s₁.setTop (mkF m 18 #[.val (.int p1), .val (.int p2), .unset, .unset, .unset] [])) _
    refine XS.iloadN X0.here hx rfl (hb hby at_18) rfl ?_
    show Steps p.tables e below (s₁.setTop (mkF m 19 #[.val (.int p1), .val (.int p2), .unset, .unset, .unset] [(.int p1)])) _
    refine XS.i2c X0.here hx rfl (hb hby at_19) rfl ?_
    show Steps p.tables e below (s₁.setTop (mkF m 20 #[.val (.int p1), .val (.int p2), .unset, .unset, .unset] [(.int (p1.toUInt32.toUInt16.toUInt32.toInt32))])) _
    rw [hk]
    show Steps p.tables e below (s₁.setTop (mkF m 20 #[.val (.int p1), .val (.int p2), .unset, .unset, .unset] [(.int z)])) _
    refine XS.istoreN X0.here hx rfl (hb hby at_20) rfl (l' := #[.val (.int p1), .val (.int p2), .val (.int z), .unset, .unset]) rfl ?_
    show Steps p.tables e below (s₁.setTop (mkF m 21 #[.val (.int p1), .val (.int p2), .val (.int z), .unset, .unset] [])) _
    refine XS.iloadN X0.here hx rfl (hb hby at_21) rfl ?_
    show Steps p.tables e below (s₁.setTop (mkF m 22 #[.val (.int p1), .val (.int p2), .val (.int z), .unset, .unset] [(.int z)])) _
    refine st1 _ ?_
    show Steps p.tables e below (T1.setTop (mkF m 25 #[.val (.int p1), .val (.int p2), .val (.int z), .unset, .unset] [.null])) _
    refine XS.astoreN X1.here hx rfl (hb hby at_25) rfl rfl (l' := #[.val (.int p1), .val (.int p2), .val (.int z), .val .null, .unset]) rfl ?_
    show Steps p.tables e below (T1.setTop (mkF m 26 #[.val (.int p1), .val (.int p2), .val (.int z), .val .null, .unset] [])) _
    refine XS.iloadN X1.here hx rfl (hb hby at_26) rfl ?_
    show Steps p.tables e below (T1.setTop (mkF m 27 #[.val (.int p1), .val (.int p2), .val (.int z), .val .null, .unset] [(.int z)])) _
    refine st2 _ ?_
    show Steps p.tables e below (T2.setTop (mkF m 30 #[.val (.int p1), .val (.int p2), .val (.int z), .val .null, .unset] [.null])) _
    refine XS.astore X2.here hx rfl (hb hby at_30) rfl rfl (l' := #[.val (.int p1), .val (.int p2), .val (.int z), .val .null, .val .null]) rfl ?_
    show Steps p.tables e below (T2.setTop (mkF m 32 #[.val (.int p1), .val (.int p2), .val (.int z), .val .null, .val .null] [])) _
    refine XS.aloadN X2.here hx rfl (hb hby at_32) rfl rfl ?_
    show Steps p.tables e below (T2.setTop (mkF m 33 #[.val (.int p1), .val (.int p2), .val (.int z), .val .null, .val .null] [.null])) _
    refine XS.aload X2.here hx rfl (hb hby at_33) rfl rfl ?_
    show Steps p.tables e below (T2.setTop (mkF m 35 #[.val (.int p1), .val (.int p2), .val (.int z), .val .null, .val .null] [.null, .null])) _
    refine Jvm.RoadKit.acmp (g := (mkF m 35 #[.val (.int p1), .val (.int p2), .val (.int z), .val .null, .val .null] [.null, .null])) X2 hx rfl rfl rfl (pc0 := 35) (pc' := 38) (same := true) rfl (hb hby at_35) rfl (decide_eq_true rfl) (by decide) (by decide) ?_
    show Steps p.tables e below (T2.setTop (mkF m 38 #[.val (.int p1), .val (.int p2), .val (.int z), .val .null, .val .null] [])) _
    refine XS.iconst X2.here hx rfl (hb hby at_38) ?_
    show Steps p.tables e below (T2.setTop (mkF m 39 #[.val (.int p1), .val (.int p2), .val (.int z), .val .null, .val .null] [(.int (1 : Int32))])) _
    refine XS.goto X2.here hx rfl (pc0 := 39) (pc' := 43) rfl (hb hby at_39) (by decide) (by decide) ?_
    exact k)
  obtain ⟨fs, hr, hrun, hended, hW, hsame⟩ := X2.leave (v := some (.int (1 : Int32))) (fun h => by rw [Bd.returns] at h; cases h)
  refine ⟨_, _, pre3 _ ?_, hrun, hended, _, _, rfl, ?_, ⟨_, rfl⟩, hW, hsame.mono (by decide) (by decide)⟩
  · show Steps p.tables e below (T2.setTop (mkF m 43 #[.val (.int p1), .val (.int p2), .val (.int z), .val .null, .val .null] [(.int (1 : Int32))])) _
    exact retN X2 hx (t := .boolean) Bd.returns (by simp) (hb hby at_43) hr
  · exact ⟨rfl, N2, e2⟩
theorem own_cases (y : Int32) (h0 : 0 ≤ y.toInt) (h1 : y.toInt < 4) : y = (0 : Int32) ∨ y = (1 : Int32) ∨ y = (2 : Int32) ∨ y = (3 : Int32) := by
  have q : y.toInt = 0 ∨ y.toInt = 1 ∨ y.toInt = 2 ∨ y.toInt = 3 := by omega
  rcases q with q | q | q | q
  · exact Or.inl (Int32.toInt_inj.mp q)
  · exact Or.inr (Or.inl (Int32.toInt_inj.mp q))
  · exact Or.inr (Or.inr (Or.inl (Int32.toInt_inj.mp q)))
  · exact Or.inr (Or.inr (Or.inr (Int32.toInt_inj.mp q)))
theorem own_cases2 (y : Int32) (h0 : 0 ≤ y.toInt) (h1 : y.toInt < 2) : y = (0 : Int32) ∨ y = (1 : Int32) := by
  have q : y.toInt = 0 ∨ y.toInt = 1 := by omega
  rcases q with q | q
  · exact Or.inl (Int32.toInt_inj.mp q)
  · exact Or.inr (Int32.toInt_inj.mp q)
theorem rm_law (l : Launch) (Z : State) (a0 : Array Value) (hw : ∀ d ∈ tables_1, d.before a0 Z = true) (ws : List Jvm.Cond) (p1 : Int32) (p2 : Int32) (h0 : Heap) (n0 : Nat) (w_ALL w_CHARACTERS w_DOTS w_BAMBOO w_HONOURS : Addr) (hK : own_K Z h0 w_ALL w_CHARACTERS w_DOTS w_BAMBOO w_HONOURS) :
    MetFree l x (head1 (Jvm.Cond.code x code maxLocals ret :: ws) room_1) (fun a U => a = #[(.int p1), (.int p2)] ∧ Z.Warmed39 U.vm ∧ U.heap = h0) (fun _ _ _ _ _ => True) (fun _ U o U' => ∃ v L, o = .returned v ∧ own_Q (some (.int (1 : Int32))) h0 n0 v U'.heap L ∧ FrameEnd U o U' L room_1.cells room_1.slots) := by
  have q := c_mask p2 1 1 (by decide) (by decide)
  have q2 := c_mask ((p2.toUInt32 >>> ((1 : Int32) &&& 31).toUInt32).toInt32) 3 2 (by decide) (by decide)
  rcases own_cases2 (p2 &&& (1 : Int32)) (by omega) (by omega) with hj | hj
  · by_cases hl0 : (p1.toUInt32.toUInt16.toUInt32.toInt32) = (109 : Int32)
    · exact rm_law0_0 l Z a0 hw ws p1 p2 h0 n0 w_ALL w_CHARACTERS w_DOTS w_BAMBOO w_HONOURS hK hj hl0
    by_cases hl1 : (p1.toUInt32.toUInt16.toUInt32.toInt32) = (112 : Int32)
    · exact rm_law0_1 l Z a0 hw ws p1 p2 h0 n0 w_ALL w_CHARACTERS w_DOTS w_BAMBOO w_HONOURS hK hj hl1
    by_cases hl2 : (p1.toUInt32.toUInt16.toUInt32.toInt32) = (115 : Int32)
    · exact rm_law0_2 l Z a0 hw ws p1 p2 h0 n0 w_ALL w_CHARACTERS w_DOTS w_BAMBOO w_HONOURS hK hj hl2
    by_cases hl3 : (p1.toUInt32.toUInt16.toUInt32.toInt32) = (122 : Int32)
    · exact rm_law0_3 l Z a0 hw ws p1 p2 h0 n0 w_ALL w_CHARACTERS w_DOTS w_BAMBOO w_HONOURS hK hj hl3
    exact rm_law0_n l Z a0 hw ws p1 p2 h0 n0 w_ALL w_CHARACTERS w_DOTS w_BAMBOO w_HONOURS hK _ hj rfl hl0 hl1 hl2 hl3
  · rcases own_cases (((p2.toUInt32 >>> ((1 : Int32) &&& 31).toUInt32).toInt32) &&& (3 : Int32)) (by omega) (by omega) with hk | hk | hk | hk
    · exact rm_law1_0 l Z a0 hw ws p1 p2 h0 n0 w_ALL w_CHARACTERS w_DOTS w_BAMBOO w_HONOURS hK hj hk
    · exact rm_law1_1 l Z a0 hw ws p1 p2 h0 n0 w_ALL w_CHARACTERS w_DOTS w_BAMBOO w_HONOURS hK hj hk
    · exact rm_law1_2 l Z a0 hw ws p1 p2 h0 n0 w_ALL w_CHARACTERS w_DOTS w_BAMBOO w_HONOURS hK hj hk
    · exact rm_law1_3 l Z a0 hw ws p1 p2 h0 n0 w_ALL w_CHARACTERS w_DOTS w_BAMBOO w_HONOURS hK hj hk
set_option maxRecDepth 65536 in
set_option maxHeartbeats 40000000 in
theorem comes_1 {Post : Tables → Env → Array Value → State → Outcome → State → Prop} (hpost : ∀ tb e args s v u, (limb_1_1.after args s (.returned v) u = true ∧ limb_1_2.after args s (.returned v) u = true ∧ True) → FrameEnd s (.returned v) u (Jvm.fieldLocs frame_1_writes args s ++ Jvm.arrayLocs frame_1_arrays args s ++ Jvm.staticLocs frame_1_statics s) 0 0 → Post tb e args s (.returned v) u) :
    ArmFor flags0 classFile x code maxLocals ret World_1 tables_1 room_1 Calls_1 rest_1 Pre_1 Post := by
  intro l hfl _ _ p e ha hc hk s m args below hf hA hF happ hP
  obtain ⟨hcalls, hrest, hpre⟩ := hP
  obtain ⟨-, -, -, hnamed, -, -, -, hat⟩ := (Spec.applies_iff hf).mp happ
  obtain ⟨hg, hn⟩ := and_e (Cond.before_iff.mp (show (Jvm.Cond.and given_1 narrow_1).before args s = true from hpre))
  obtain ⟨g0, hg⟩ := and_e hg
  obtain ⟨g1, hg⟩ := and_e hg
  obtain ⟨w0, w1, rfl⟩ : ∃ w0 w1 : Value, args = #[w0, w1] := by
    have hs : args.size = 2 := by simpa [Cond.value, given_1] using g0
    obtain ⟨L⟩ := args
    match L, hs with
    | [w0, w1], _ => exact ⟨w0, w1, rfl⟩
  have hw := fun d (hd : d ∈ tables_1) => atoms_spec (ws := Jvm.Cond.code x code maxLocals ret :: tables_1) hat d (List.mem_cons_of_mem _ hd)
  have hfit : Fit s := fun {y c} hc i hi => by
    obtain ⟨ha, rfl⟩ := Array.getElem?_eq_some_iff.mp hc
    have q := List.all_eq_true.mp ((Array.all_eq_true_iff_forall_mem.mp hF) _ (Array.getElem_mem ha)) i (List.mem_range.mpr hi)
    simpa [Array.getElem?_eq_getElem hi] using q
  obtain ⟨i0, ei0⟩ := is_v g1
  obtain rfl : w0 = (.int i0) := Option.some.inj ei0
  obtain ⟨i1, ei1⟩ := is_v hg
  obtain rfl : w1 = (.int i1) := Option.some.inj ei1
  obtain ⟨c0, hn⟩ := and_e hn
  obtain ⟨w_ALL, v_w_ALL⟩ := arr_v c0
  have S_w_ALL := Sta.start v_w_ALL (Or.inr ⟨(hw _ (ow 6 rfl)), (hw _ (ow 9 rfl))⟩)
  obtain ⟨cl_w_ALL, A_w_ALL⟩ := Arr.start v_w_ALL c0
  obtain ⟨c1, hn⟩ := and_e hn
  have n_w_ALL := own_len (own_eqI c1) v_w_ALL A_w_ALL.1
  obtain ⟨c2, hn⟩ := and_e hn
  obtain ⟨w_CHARACTERS, v_w_CHARACTERS⟩ := exa_v c2
  have S_w_CHARACTERS := Sta.start v_w_CHARACTERS (Or.inr ⟨(hw _ (ow 6 rfl)), (hw _ (ow 10 rfl))⟩)
  have E_w_CHARACTERS := Exa.start v_w_CHARACTERS c2
  obtain ⟨c3, hn⟩ := and_e hn
  have a0_w_ALL := (elem_in (own_eqR c3 v_w_CHARACTERS) v_w_ALL rfl A_w_ALL.1).2
  obtain ⟨c4, hn⟩ := and_e hn
  have F__letter_w_CHARACTERS := Fld.start ((fld_at v_w_CHARACTERS).symm.trans (own_eqI c4))
  obtain ⟨c5, hn⟩ := and_e hn
  obtain ⟨w_DOTS, v_w_DOTS⟩ := exa_v c5
  have S_w_DOTS := Sta.start v_w_DOTS (Or.inr ⟨(hw _ (ow 6 rfl)), (hw _ (ow 13 rfl))⟩)
  have E_w_DOTS := Exa.start v_w_DOTS c5
  obtain ⟨c6, hn⟩ := and_e hn
  have a1_w_ALL := (elem_in (own_eqR c6 v_w_DOTS) v_w_ALL rfl A_w_ALL.1).2
  obtain ⟨c7, hn⟩ := and_e hn
  have F__letter_w_DOTS := Fld.start ((fld_at v_w_DOTS).symm.trans (own_eqI c7))
  obtain ⟨c8, hn⟩ := and_e hn
  obtain ⟨w_BAMBOO, v_w_BAMBOO⟩ := exa_v c8
  have S_w_BAMBOO := Sta.start v_w_BAMBOO (Or.inr ⟨(hw _ (ow 6 rfl)), (hw _ (ow 19 rfl))⟩)
  have E_w_BAMBOO := Exa.start v_w_BAMBOO c8
  obtain ⟨c9, hn⟩ := and_e hn
  have a2_w_ALL := (elem_in (own_eqR c9 v_w_BAMBOO) v_w_ALL rfl A_w_ALL.1).2
  obtain ⟨c10, hn⟩ := and_e hn
  have F__letter_w_BAMBOO := Fld.start ((fld_at v_w_BAMBOO).symm.trans (own_eqI c10))
  obtain ⟨c11, hn⟩ := and_e hn
  obtain ⟨w_HONOURS, v_w_HONOURS⟩ := exa_v c11
  have S_w_HONOURS := Sta.start v_w_HONOURS (Or.inr ⟨(hw _ (ow 6 rfl)), (hw _ (ow 20 rfl))⟩)
  have E_w_HONOURS := Exa.start v_w_HONOURS c11
  obtain ⟨c12, hn⟩ := and_e hn
  have a3_w_ALL := (elem_in (own_eqR c12 v_w_HONOURS) v_w_ALL rfl A_w_ALL.1).2
  have F__letter_w_HONOURS := Fld.start ((fld_at v_w_HONOURS).symm.trans (own_eqI hn))
  have B_w_ALL : own_Arr s s.heap w_ALL (.object "com/example/tenpai/tenpai/core/Suit") [(.ref w_CHARACTERS), (.ref w_DOTS), (.ref w_BAMBOO), (.ref w_HONOURS)] := ⟨cl_w_ALL, A_w_ALL, own_ext_w_ALL n_w_ALL a0_w_ALL a1_w_ALL a2_w_ALL a3_w_ALL⟩
  have hK : own_K s s.heap w_ALL w_CHARACTERS w_DOTS w_BAMBOO w_HONOURS := ⟨S_w_ALL, S_w_CHARACTERS, E_w_CHARACTERS, F__letter_w_CHARACTERS, S_w_DOTS, E_w_DOTS, F__letter_w_DOTS, S_w_BAMBOO, E_w_BAMBOO, F__letter_w_BAMBOO, S_w_HONOURS, E_w_HONOURS, F__letter_w_HONOURS, B_w_ALL⟩
  obtain ⟨n, o, h1, h2, h3, _, L, rfl, ⟨rfl, N, -⟩, hq⟩ := rm_law l s _ hw tables_1 i0 i1 s.heap s.heap.size w_ALL w_CHARACTERS w_DOTS w_BAMBOO w_HONOURS hK p e ha hc hk s m _ below hf ((Spec.applies_iff_loose hf).mp happ).1 ⟨rfl, State.Warmed39.refl s, rfl⟩ trivial
  refine ⟨n, _, h1, h2, h3, hpost _ _ _ _ _ _ ⟨Cond.after_iff.mpr rfl, Cond.after_iff.mpr (eq_i res_at (Term.int_eval (1)) rfl), trivial⟩ ⟨hq.1, hq.2.1, (hq.2.2.sift fun y hy => Or.inr (N y hy)).mono (by decide) (by decide)⟩⟩
theorem main_1_1 : Claimed_1_1 := comes_1 fun _ _ _ _ _ _ h hF => ⟨h.1, hF⟩
theorem main_1_2 : Claimed_1_2 := comes_1 fun _ _ _ _ _ _ h hF => ⟨h.2.1, hF⟩
end Jvm.Pilot.@@N@@
namespace Jvm.Pilot.@@N@@
open Jvm Jvm.ClassFile Sem Op Lib Jvm.Free Jvm.Stand Jvm.Pilot.@@N@@.Jvm.D
/-! MADE BY PROGRAM (witnessworld.py) out of the Statement's table words and the real class files: 13 classes; the members and pool entries that the words name. The judged class is class 1, her method 3. -/
namespace start1
open Jvm.ClassFile
def u (s : String) : CpInfo := .utf8 (stringToUtf16 s)
/-- a pool by its gaps: so many unusable entries, then the entry; so many at the end -/
def gap : Nat → List CpInfo → List CpInfo
  | 0, r => r
  | n + 1, r => .unusable :: gap n r
def poolList (es : List (Nat × CpInfo)) (last : Nat) : List CpInfo := es.foldr (fun e r => gap e.1 (e.2 :: r)) (gap last [])
def pool (es : List (Nat × CpInfo)) (last : Nat) : Array CpInfo := ⟨poolList es last⟩
def fileOf (pool : Array CpInfo) (this : Nat) (attrs : Array Attribute := #[]) (ms : Array MethodInfo := #[]) (fl : Nat := 33) (sup : Nat := 0) (ifs : Array Nat := #[]) (fds : Array FieldInfo := #[]) : ClassFile where
  minorVersion := 0
  majorVersion := 65
  constantPool := pool
  accessFlags := fl
  thisClass := this
  superClass := sup
  interfaces := ifs
  fields := fds
  methods := ms
  attributes := attrs
def plain (name : String) (sup : Option ClassId) : Class where
  name := name
  kind := .ordinary
  loader := none
  accessFlags := 33
  super := sup
  interfaces := #[]
  cf := none
  fields := #[]
  methods := #[]
  instanceTypes := #[]
  staticTypes := #[]
  resolved := #[]
  callSites := []
  init := .initialized
  statics := none
  mirror := none

def pool0 : Array CpInfo := pool [(5, u "<init>"), (0, u "()V"), (1, .class_ 10), (1, u "java/lang/Object")] 113

def k0m0 : Method := { name := "<init>", desc := "()V", sig := { parameters := [], returnType := none }, accessFlags := 1, code := none }
/-- java/lang/Object -/
def k0 : Class := { plain "java/lang/Object" none with
  accessFlags := 33
  interfaces := #[]
  cf := some (fileOf pool0 8 #[] #[{ accessFlags := 1, nameIndex := 5, descriptorIndex := 6, attributes := #[] }] 33 0 #[] #[])
  fields := #[]
  methods := #[k0m0]
  instanceTypes := #[]
  staticTypes := #[]
  resolved := Array.replicate 124 none
  statics := none }

def pool1 : Array CpInfo := pool [(2, .class_ 4), (1, u "java/lang/Object"), (0, u "<init>"), (0, u "()V"), (0, .fieldref 8 9), (0, .class_ 10), (0, .nameAndType 11 12), (0, u "com/example/tenpai/tenpai/core/Suit"), (0, u "CHARACTERS"), (0, u "Lcom/example/tenpai/tenpai/core/Suit;"), (0, .fieldref 8 14), (0, .nameAndType 15 12), (0, u "DOTS"), (0, .fieldref 8 17), (0, .nameAndType 18 12), (0, u "BAMBOO"), (0, .fieldref 8 20), (0, .nameAndType 21 12), (0, u "HONOURS"), (0, .methodref 23 24), (0, .class_ 25), (0, .nameAndType 26 27), (0, u "com/example/tenpai/tenpai/core/SuitOfPinLaw"), (0, u "pick"), (0, u "(I)C"), (0, .methodref 8 29), (0, .nameAndType 30 31), (0, u "of"), (0, u "(C)Lcom/example/tenpai/tenpai/core/Suit;"), (0, .methodref 23 33), (0, .nameAndType 34 31), (0, u "expected"), (3, u "law"), (0, u "(II)Z")] 2

def k1m0 : Method := { name := "<init>", desc := "()V", sig := { parameters := [], returnType := none }, accessFlags := 1, code := none }
def k1c1 : Code := { maxStack := 2, maxLocals := 1, code := method_2_code, exceptionTable := #[], attributes := #[] }
def k1m1 : Method := { name := "pick", desc := "(I)C", sig := { parameters := [.int], returnType := some .char }, accessFlags := 10, code := some k1c1 }
def k1c2 : Code := { maxStack := 2, maxLocals := 1, code := method_3_code, exceptionTable := #[], attributes := #[] }
def k1m2 : Method := { name := "expected", desc := "(C)Lcom/example/tenpai/tenpai/core/Suit;", sig := { parameters := [.char], returnType := some (.object "com/example/tenpai/tenpai/core/Suit") }, accessFlags := 10, code := some k1c2 }
def k1c3 : Code := { maxStack := 2, maxLocals := 5, code := code, exceptionTable := #[], attributes := #[] }
def k1m3 : Method := { name := "law", desc := "(II)Z", sig := { parameters := [.int, .int], returnType := some .boolean }, accessFlags := 9, code := some k1c3 }
/-- com/example/tenpai/tenpai/core/SuitOfPinLaw -/
def k1 : Class := { plain "com/example/tenpai/tenpai/core/SuitOfPinLaw" (some 0) with
  accessFlags := 49
  interfaces := #[]
  cf := some (fileOf pool1 23 #[] #[{ accessFlags := 1, nameIndex := 5, descriptorIndex := 6, attributes := #[] }, { accessFlags := 10, nameIndex := 26, descriptorIndex := 27, attributes := #[] }, { accessFlags := 10, nameIndex := 34, descriptorIndex := 31, attributes := #[] }, { accessFlags := 9, nameIndex := 38, descriptorIndex := 39, attributes := #[] }] 49 2 #[] #[])
  fields := #[]
  methods := #[k1m0, k1m1, k1m2, k1m3]
  instanceTypes := #[]
  staticTypes := #[]
  resolved := Array.replicate 42 none
  statics := none }

def pool2 : Array CpInfo := pool [(1, .class_ 2), (0, u "java/lang/constant/Constable"), (0, .class_ 4), (0, u "java/lang/Object")] 6

/-- java/lang/constant/Constable -/
def k2 : Class := { plain "java/lang/constant/Constable" (some 0) with
  accessFlags := 1537
  interfaces := #[]
  cf := some (fileOf pool2 1 #[] #[] 1537 3 #[] #[])
  fields := #[]
  methods := #[]
  instanceTypes := #[]
  staticTypes := #[]
  resolved := Array.replicate 11 none
  statics := none }

def pool3 : Array CpInfo := pool [(1, .class_ 2), (0, u "java/lang/Comparable"), (0, .class_ 4), (0, u "java/lang/Object")] 7

/-- java/lang/Comparable -/
def k3 : Class := { plain "java/lang/Comparable" (some 0) with
  accessFlags := 1537
  interfaces := #[]
  cf := some (fileOf pool3 1 #[] #[] 1537 3 #[] #[])
  fields := #[]
  methods := #[]
  instanceTypes := #[]
  staticTypes := #[]
  resolved := Array.replicate 12 none
  statics := none }

def pool4 : Array CpInfo := pool [(1, .class_ 2), (0, u "java/io/Serializable"), (0, .class_ 4), (0, u "java/lang/Object")] 2

/-- java/io/Serializable -/
def k4 : Class := { plain "java/io/Serializable" (some 0) with
  accessFlags := 1537
  interfaces := #[]
  cf := some (fileOf pool4 1 #[] #[] 1537 3 #[] #[])
  fields := #[]
  methods := #[]
  instanceTypes := #[]
  staticTypes := #[]
  resolved := Array.replicate 7 none
  statics := none }

def pool5 : Array CpInfo := pool [(2, .class_ 4), (1, u "java/lang/Enum"), (0, u "name"), (0, u "Ljava/lang/String;"), (2, u "ordinal"), (0, u "I"), (1, .class_ 14), (1, u "java/lang/Object"), (4, u "hash"), (86, .class_ 108), (1, u "java/lang/Enum$EnumDesc"), (2, .class_ 112), (0, u "java/lang/constant/Constable"), (0, .class_ 114), (0, u "java/lang/Comparable"), (0, .class_ 116), (0, u "java/io/Serializable")] 87

/-- java/lang/Enum -/
def k5 : Class := { plain "java/lang/Enum" (some 0) with
  accessFlags := 1057
  interfaces := #[2, 3, 4]
  cf := some (fileOf pool5 2 #[.nestMembers #[106]] #[] 1057 12 #[111, 113, 115] #[{ accessFlags := 18, nameIndex := 5, descriptorIndex := 6, attributes := #[] }, { accessFlags := 18, nameIndex := 9, descriptorIndex := 10, attributes := #[] }, { accessFlags := 2, nameIndex := 19, descriptorIndex := 10, attributes := #[] }])
  fields := #[{ name := "name", type := (.object "java/lang/String"), accessFlags := 18, slot := 0, constantValue := 0 }, { name := "ordinal", type := .int, accessFlags := 18, slot := 1, constantValue := 0 }, { name := "hash", type := .int, accessFlags := 2, slot := 2, constantValue := 0 }]
  methods := #[]
  instanceTypes := #[(.object "java/lang/String"), .int, .int]
  staticTypes := #[]
  resolved := Array.replicate 204 none
  statics := none }

def pool6 : Array CpInfo := pool [(1, .class_ 2), (0, u "com/example/tenpai/tenpai/core/Suit"), (2, u "CHARACTERS"), (0, u "Lcom/example/tenpai/tenpai/core/Suit;"), (2, u "DOTS"), (2, u "BAMBOO"), (2, u "HONOURS"), (2, u "$VALUES"), (0, u "[Lcom/example/tenpai/tenpai/core/Suit;"), (6, .class_ 28), (1, u "java/lang/Enum"), (6, .fieldref 1 36), (0, .nameAndType 37 38), (0, u "_letter"), (0, u "C"), (2, u "_size"), (0, u "I"), (2, u "_runs"), (0, u "Z"), (0, .fieldref 1 48), (0, .nameAndType 49 19), (0, u "ALL"), (18, u "KINDS"), (8, u "of"), (0, u "(C)Lcom/example/tenpai/tenpai/core/Suit;")] 15

def k6c0 : Code := { maxStack := 2, maxLocals := 5, code := prog_25_method_4_code, exceptionTable := #[], attributes := #[] }
def k6m0 : Method := { name := "of", desc := "(C)Lcom/example/tenpai/tenpai/core/Suit;", sig := { parameters := [.char], returnType := some (.object "com/example/tenpai/tenpai/core/Suit") }, accessFlags := 8, code := some k6c0 }
/-- com/example/tenpai/tenpai/core/Suit -/
def k6 : Class := { plain "com/example/tenpai/tenpai/core/Suit" (some 5) with
  accessFlags := 16432
  interfaces := #[]
  cf := some (fileOf pool6 1 #[] #[{ accessFlags := 8, nameIndex := 77, descriptorIndex := 78, attributes := #[] }] 16432 26 #[] #[{ accessFlags := 16409, nameIndex := 5, descriptorIndex := 6, attributes := #[] }, { accessFlags := 16409, nameIndex := 9, descriptorIndex := 6, attributes := #[] }, { accessFlags := 16409, nameIndex := 12, descriptorIndex := 6, attributes := #[] }, { accessFlags := 16409, nameIndex := 15, descriptorIndex := 6, attributes := #[] }, { accessFlags := 24, nameIndex := 68, descriptorIndex := 42, attributes := #[] }, { accessFlags := 26, nameIndex := 49, descriptorIndex := 19, attributes := #[] }, { accessFlags := 18, nameIndex := 37, descriptorIndex := 38, attributes := #[] }, { accessFlags := 18, nameIndex := 41, descriptorIndex := 42, attributes := #[] }, { accessFlags := 18, nameIndex := 45, descriptorIndex := 46, attributes := #[] }, { accessFlags := 4122, nameIndex := 18, descriptorIndex := 19, attributes := #[] }])
  fields := #[{ name := "CHARACTERS", type := (.object "com/example/tenpai/tenpai/core/Suit"), accessFlags := 16409, slot := 0, constantValue := 0 }, { name := "DOTS", type := (.object "com/example/tenpai/tenpai/core/Suit"), accessFlags := 16409, slot := 1, constantValue := 0 }, { name := "BAMBOO", type := (.object "com/example/tenpai/tenpai/core/Suit"), accessFlags := 16409, slot := 2, constantValue := 0 }, { name := "HONOURS", type := (.object "com/example/tenpai/tenpai/core/Suit"), accessFlags := 16409, slot := 3, constantValue := 0 }, { name := "KINDS", type := .int, accessFlags := 24, slot := 4, constantValue := 0 }, { name := "ALL", type := (.array (.object "com/example/tenpai/tenpai/core/Suit")), accessFlags := 26, slot := 5, constantValue := 0 }, { name := "_letter", type := .char, accessFlags := 18, slot := 3, constantValue := 0 }, { name := "_size", type := .int, accessFlags := 18, slot := 4, constantValue := 0 }, { name := "_runs", type := .boolean, accessFlags := 18, slot := 5, constantValue := 0 }, { name := "$VALUES", type := (.array (.object "com/example/tenpai/tenpai/core/Suit")), accessFlags := 4122, slot := 6, constantValue := 0 }]
  methods := #[k6m0]
  instanceTypes := #[(.object "java/lang/String"), .int, .int, .char, .int, .boolean]
  staticTypes := #[(.object "com/example/tenpai/tenpai/core/Suit"), (.object "com/example/tenpai/tenpai/core/Suit"), (.object "com/example/tenpai/tenpai/core/Suit"), (.object "com/example/tenpai/tenpai/core/Suit"), .int, (.array (.object "com/example/tenpai/tenpai/core/Suit")), (.array (.object "com/example/tenpai/tenpai/core/Suit"))]
  resolved := Array.replicate 94 none
  statics := some 0 }

def pool7 : Array CpInfo := pool [(1, u "java/lang/Cloneable"), (0, .class_ 1), (0, u "java/lang/Object"), (0, .class_ 3)] 3

/-- java/lang/Cloneable -/
def k7 : Class := { plain "java/lang/Cloneable" (some 0) with
  accessFlags := 1537
  interfaces := #[]
  cf := some (fileOf pool7 2 #[] #[] 1537 4 #[] #[])
  fields := #[]
  methods := #[]
  instanceTypes := #[]
  staticTypes := #[]
  resolved := Array.replicate 8 none
  statics := none }

/-- the primitive byte -/
def k8 : Class := { plain "byte" none with kind := .primitive 'B', accessFlags := 0x411 }
/-- [B -/
def k9 : Class := { plain "[B" (some 0) with kind := .array 8 .byte, interfaces := #[7, 4], accessFlags := 1041 }

/-- the primitive int -/
def k10 : Class := { plain "int" none with kind := .primitive 'I', accessFlags := 0x411 }
/-- [I -/
def k11 : Class := { plain "[I" (some 0) with kind := .array 10 .int, interfaces := #[7, 4], accessFlags := 1041 }

/-- [Lcom/example/tenpai/tenpai/core/Suit; -/
def k12 : Class := { plain "[Lcom/example/tenpai/tenpai/core/Suit;" (some 0) with kind := .array 6 (.object "com/example/tenpai/tenpai/core/Suit"), interfaces := #[7, 4], accessFlags := 1041 }

def heap : Heap := #[{ cls := 6, slots := #[.ref 2, .ref 3, .ref 4, .ref 5, .int 0, .ref 1, .null], vm := .statics 6 },
  { cls := 12, slots := #[.ref 2, .ref 3, .ref 4, .ref 5], vm := .none },
  { cls := 6, slots := #[.null, .int 0, .int 0, .int 109, .int 0, .int 0], vm := .none },
  { cls := 6, slots := #[.null, .int 0, .int 0, .int 112, .int 0, .int 0], vm := .none },
  { cls := 6, slots := #[.null, .int 0, .int 0, .int 115, .int 0, .int 0], vm := .none },
  { cls := 6, slots := #[.null, .int 0, .int 0, .int 122, .int 0, .int 0], vm := .none }]
def classes : Array Class := #[k0, k1, k2, k3, k4, k5, k6, k7, k8, k9, k10, k11, k12]
def interned : List (Array UInt16 × Addr) := []
def slotsUsed : Nat := 35
def theMethod : MethodId := ⟨1, 3⟩
def args0 : Array Value := #[.int 5, .int 4]
def aboutOver (below : List Frame) : State where
  vm := { classes := classes, interned := interned.toArray }
  heap := heap
  slotsUsed := slotsUsed
  threads := #[{ frames := .invoking theMethod args0 :: below }]
def below0 : List Frame := [.native { method := ⟨0, 0⟩, args := #[] }]
def about1 : State := aboutOver below0
def p0 : Program := .bare "" "" ""
def e0 : Env := launch0.env 0 0 0
theorem w_frames : about1.frames = Frame.invoking theMethod args0 :: below0 := rfl
set_option maxRecDepth 65536 in
theorem w_args : argsFit about1.vm theMethod args0 = true := by decide +kernel
set_option maxRecDepth 65536 in
theorem w_heap : heapFits about1 = true := by decide +kernel
set_option maxRecDepth 65536 in
theorem w_runnable : about1.curStatus? = some .runnable := by decide +kernel
set_option maxRecDepth 65536 in
theorem w_alone : about1.alone = true := by decide +kernel
set_option maxRecDepth 65536 in
theorem w_named : about1.methodNamed? x = some theMethod := by decide +kernel
set_option maxRecDepth 65536 in
theorem w_hears : about1.hears theMethod below0 = true := by decide +kernel
set_option maxRecDepth 65536 in
theorem w_ripe : about1.ripe theMethod args0 below0 = true := by decide +kernel
theorem w_running : about1.status = .running := rfl
set_option maxRecDepth 65536 in
theorem w_room : about1.hasRoom e0.platform room_1 = true :=
  launch0.hasRoom_least _ room_1 (by decide +kernel) (by decide +kernel) (by decide +kernel) (by decide +kernel) (by decide +kernel) (by decide +kernel)
theorem allAtoms_all (ts : List Jvm.Cond) (a : Array Jvm.Value) (st : Jvm.State) : (allAtoms ts).before a st = ts.all (fun c => c.before a st) := by
  induction ts with
  | nil => rfl
  | cons c t ih =>
    show (Jvm.Cond.and c (allAtoms t)).before a st = _
    rw [Jvm.Cond.before_and, ih, List.all_cons]
def words1 : List Jvm.Cond := Jvm.Cond.code x code maxLocals ret :: tables_1
/-- a 'code' word, met by the world's own term for the bytes: nothing is compared byte by byte -/
theorem code_word {y : MethodName} {bytes : ByteArray} {mx : Nat} {rt : Option FieldType} {a : Array Value} {s : State} {m : MethodId} {meth : Method} {c : Code} (h1 : s.methodNamed? y = some m) (h2 : s.vm.method? m = some meth) (h3 : meth.code = some c) (h4 : c.code = bytes)
    (h5 : (c.maxLocals == mx && c.exceptionTable.isEmpty && decide (c.maxStack ≤ mostOperands) && decide (meth.sig.returnType = rt) && !meth.locks && decide (parseMethodDescriptor y.desc = some meth.sig)) = true) : (Jvm.Cond.code y bytes mx rt).before a s = true := by
  simp only [Bool.and_eq_true, beq_iff_eq, Bool.not_eq_true', decide_eq_true_eq] at h5
  obtain ⟨⟨⟨⟨⟨g1, g2⟩, g3⟩, g4⟩, g5⟩, g6⟩ := h5
  simp [Cond.before, Cond.holds, Cond.value, h1, h2, h3, h4, g1, g2, g3, g4, g5, g6]
def isCode : Jvm.Cond → Bool
  | .code _ _ _ _ => true
  | _ => false
theorem all_split {L : List Jvm.Cond} {P : Jvm.Cond → Bool} (h1 : L.all (fun c => isCode c || P c) = true) (h2 : ∀ c ∈ L.filter isCode, P c = true) : L.all P = true := by
  refine List.all_eq_true.mpr fun c hc => ?_
  have h := List.all_eq_true.mp h1 c hc
  rcases Bool.eq_false_or_eq_true (isCode c) with hi | hi
  · exact h2 c (List.mem_filter.mpr ⟨hc, hi⟩)
  · simpa [hi] using h
set_option maxRecDepth 65536 in
theorem w_c0 : (Jvm.Cond.code x code maxLocals ret).before args0 about1 = true := code_word (m := ⟨1, 3⟩) (meth := k1m3) (c := k1c3) (by decide +kernel) rfl rfl rfl (by decide +kernel)
set_option maxRecDepth 65536 in
theorem w_c1 : (Jvm.Cond.code ({ cls := "com/example/tenpai/tenpai/core/SuitOfPinLaw", name := "pick", desc := "(I)C" } : Jvm.MethodName) method_2_code (1 : Nat) (Option.some Jvm.ClassFile.FieldType.char)).before args0 about1 = true := code_word (m := ⟨1, 1⟩) (meth := k1m1) (c := k1c1) (by decide +kernel) rfl rfl rfl (by decide +kernel)
set_option maxRecDepth 65536 in
theorem w_c2 : (Jvm.Cond.code ({ cls := "com/example/tenpai/tenpai/core/Suit", name := "of", desc := "(C)Lcom/example/tenpai/tenpai/core/Suit;" } : Jvm.MethodName) prog_25_method_4_code (5 : Nat) (Option.some (Jvm.ClassFile.FieldType.object "com/example/tenpai/tenpai/core/Suit"))).before args0 about1 = true := code_word (m := ⟨6, 0⟩) (meth := k6m0) (c := k6c0) (by decide +kernel) rfl rfl rfl (by decide +kernel)
set_option maxRecDepth 65536 in
theorem w_c3 : (Jvm.Cond.code ({ cls := "com/example/tenpai/tenpai/core/SuitOfPinLaw", name := "expected", desc := "(C)Lcom/example/tenpai/tenpai/core/Suit;" } : Jvm.MethodName) method_3_code (1 : Nat) (Option.some (Jvm.ClassFile.FieldType.object "com/example/tenpai/tenpai/core/Suit"))).before args0 about1 = true := code_word (m := ⟨1, 2⟩) (meth := k1m2) (c := k1c2) (by decide +kernel) rfl rfl rfl (by decide +kernel)
def codes1 : List Jvm.Cond := [Jvm.Cond.code x code maxLocals ret, Jvm.Cond.code ({ cls := "com/example/tenpai/tenpai/core/SuitOfPinLaw", name := "pick", desc := "(I)C" } : Jvm.MethodName) method_2_code (1 : Nat) (Option.some Jvm.ClassFile.FieldType.char), Jvm.Cond.code ({ cls := "com/example/tenpai/tenpai/core/Suit", name := "of", desc := "(C)Lcom/example/tenpai/tenpai/core/Suit;" } : Jvm.MethodName) prog_25_method_4_code (5 : Nat) (Option.some (Jvm.ClassFile.FieldType.object "com/example/tenpai/tenpai/core/Suit")), Jvm.Cond.code ({ cls := "com/example/tenpai/tenpai/core/SuitOfPinLaw", name := "expected", desc := "(C)Lcom/example/tenpai/tenpai/core/Suit;" } : Jvm.MethodName) method_3_code (1 : Nat) (Option.some (Jvm.ClassFile.FieldType.object "com/example/tenpai/tenpai/core/Suit"))]
set_option maxRecDepth 65536 in
theorem codes_eq : words1.filter isCode = codes1 := rfl
theorem w_codes : ∀ c ∈ words1.filter isCode, c.before args0 about1 = true := by
  rw [codes_eq]
  intro c hc
  simp only [codes1, List.mem_cons, List.not_mem_nil, or_false] at hc
  rcases hc with rfl | rfl | rfl | rfl
  · exact w_c0
  · exact w_c1
  · exact w_c2
  · exact w_c3
set_option maxRecDepth 65536 in
theorem w_t1 : words1.all (fun c => isCode c || c.before args0 about1) = true := by decide +kernel
theorem w_tables : (allAtoms (Jvm.Cond.code x code maxLocals ret :: tables_1)).before args0 about1 = true := by
  rw [allAtoms_all]
  show words1.all (fun c => c.before args0 about1) = true
  refine all_split ?_ w_codes
  rw [w_t1]
set_option maxRecDepth 65536 in
theorem w_case : (Jvm.Cond.and given_1 narrow_1).before args0 about1 = true := by decide +kernel
theorem w_applies : (headSpec (Jvm.Cond.code x code maxLocals ret :: tables_1) room_1).applies x e0.platform about1 = true :=
  (Spec.applies_iff w_frames).mpr ⟨w_running, w_runnable, w_alone, w_named, w_hears, w_ripe, w_room, w_tables⟩
theorem atStart : AtStart classFile x code maxLocals ret World_1 tables_1 room_1 Calls_1 rest_1 Pre_1 launch0 p0 e0 about1 theMethod args0 below0 :=
  ⟨lists_1, trivial, launch0.admits_env _ _ _, launch0.least_env, fairChoices_fair.cas, fairChoices_fair.clock, w_frames, w_args, w_heap, w_applies, trivial, trivial, w_case⟩
end start1
theorem witness_1 : WitnessClaimed_1 := ⟨start1.p0, start1.e0, start1.about1, start1.theMethod, start1.args0, start1.below0, start1.atStart⟩
end Jvm.Pilot.@@N@@
