import JvmDerived
import JvmDerived.Pilot.@@N@@Statement
import JvmDerived.Pilot.@@N@@Code
set_option linter.unusedVariables false
set_option linter.unusedSimpArgs false
namespace Jvm.RoadKit
open Sem ClassFile Op Lib Jvm.Stand Jvm.Free Jvm.LawKit
section New
variable {p : Program} {l : Launch} {e : Env} {R : Room} {s : State} {m : MethodId} {args : Array Value} {below : List Frame} {meth : Method} {c : Code} {T : State} {locs : List Loc} {cells slots : Nat}
theorem retI (X : Stand p l e R s m args below meth c T locs cells slots) (hx : p.tables.exec = Jvm.exec) {pc : Nat} {Ls : Array Slot} {z : Int32} {rest : List Value} (hret : meth.sig.returnType = some .int) (hd : decode c.code pc = .ok (.ireturn, 1)) {fs : List Frame}
    (hl : ∀ (f : JFrame) (acts : List Action), f.method = m → f.locked = none → f.entered = [] → (doReturn e (T.setTop f) acts (some (.int z))).1 = T.setFrames fs) : Steps p.tables e below (T.setTop (mkF m pc Ls (.int z :: rest))) (T.setFrames fs) :=
  retOut X hx hret rfl (Or.inl ⟨rfl, Or.inl rfl, z, rfl⟩) hd hl
end New
end Jvm.RoadKit
namespace Jvm.Pilot.@@N@@
open Jvm Jvm.ClassFile Sem Op Lib Jvm.Free Jvm.Stand Jvm.LawKit Jvm.RoadKit Bundle Jvm.Pilot.@@N@@.Jvm.D
theorem ow {d : Jvm.Cond} (i : Nat) (h : tables_1[i]? = some d) : d ∈ tables_1 := List.mem_of_getElem? h
/-- what a body that only reads leaves: its answer, nothing written, the heap as it was -/
def own_Q (r : Option Value) (h0 : Heap) (n0 : Nat) (v : Option Value) (h : Heap) (L : List Loc) : Prop := v = r ∧ Fr n0 L ∧ h = h0
section OwnWords
variable {args : Array Value} {first s : State} {o : Option Outcome} {idx : List Nat} {a b : Term}
theorem own_eqI {k : Int32} (h : (Jvm.Cond.eq a (.int k)).value args first o s idx = some true) : a.eval args first o idx s = some (.int k) := by
  obtain ⟨x, y, hx, hy, k1, -⟩ := cmp_v (r := true) (Or.inl h)
  have hy' : y = .int k := (Option.some.inj hy).symm
  subst hy'
  cases x <;> simp [Kin, Value.isRef] at k1
  simp [Jvm.Cond.value, hx, Term.eval] at h
  rw [hx, h]
theorem own_eqR {y : Addr} (h : (Jvm.Cond.eq a b).value args first o s idx = some true) (hb : b.eval args first o idx s = some (.ref y)) : a.eval args first o idx s = some (.ref y) := by
  obtain ⟨x, z, hx, hy, k1, -⟩ := cmp_v (r := true) (Or.inl h)
  cases hb.symm.trans hy
  cases x <;> simp [Kin, Value.isRef] at k1
  · simp [Jvm.Cond.value, hx, hb] at h
  · simp [Jvm.Cond.value, hx, hb] at h
    rw [hx, h]
theorem own_len {y : Addr} {c : Cell} {n : Int32} (h : (Term.length a).eval args first o idx s = some (.int n)) (ht : a.eval args first o idx s = some (.ref y)) (hc : s.heap[y]? = some c) : (c.slots.size : Int) = n.toInt := by
  simp only [Term.eval, Option.bind_eq_bind, ht, Option.bind_some] at h
  obtain ⟨cell, hcell, h⟩ := Option.bind_eq_some_iff.mp h
  cases hc.symm.trans (State.arrayAt?_spec hcell).1
  by_cases hn : c.slots.size < 2147483648
  · rw [if_pos hn] at h; cases h; exact (len_toInt hn).symm
  · rw [if_neg hn] at h; cases h
end OwnWords
/-- an array that stands in the heap, with all that lies in it -/
def own_Arr (Z : State) (h : Heap) (a : Addr) (ty : FieldType) (vs : List Value) : Prop := ∃ c : Cell, Arr Z h a c ty ∧ c.slots = vs.toArray
/-- what a law leaves that makes arrays of its own -/
def own_QH (r : Option Value) (n0 : Nat) (v : Option Value) (h : Heap) (L : List Loc) : Prop := v = r ∧ Fr n0 L ∧ True
/-- the same of an array whose class is known -/
def own_ArrK (Z : State) (h : Heap) (a : Addr) (k : ClassId) (ty : FieldType) (vs : List Value) : Prop := ∃ c : Cell, Arr Z h a c ty ∧ c.cls = k ∧ c.slots = vs.toArray
section OwnArr
variable {Z : State} {h0 h h' : Heap} {a b : Addr} {k : ClassId} {ty : FieldType} {vs : List Value} {v : Value} {sl : Nat} {c : Cell}
theorem own_Arr.ext (F : own_Arr Z h a ty vs) (E : Ext h h') : own_Arr Z h' a ty vs := by obtain ⟨c, A, r⟩ := F; exact ⟨c, A.ext E, r⟩
theorem own_ArrK.lt (F : own_ArrK Z h a k ty vs) : a < h.size := by obtain ⟨c, A, -⟩ := F; exact A.lt
theorem own_ArrK.ext (F : own_ArrK Z h a k ty vs) (E : Ext h h') : own_ArrK Z h' a k ty vs := by obtain ⟨c, A, r⟩ := F; exact ⟨c, A.ext E, r⟩
theorem own_ArrK.other (F : own_ArrK Z h b k ty vs) (W : Wr h h' a sl v) (q : b ≠ a) : own_ArrK Z h' b k ty vs := by obtain ⟨c, A, r⟩ := F; exact ⟨c, A.other W q, r⟩
theorem own_set (W : Wr h h' a sl v) (A : Arr Z h a c ty) (q : c.cls = k) (e : c.slots = vs.toArray) : own_ArrK Z h' a k ty (vs.set sl v) := ⟨_, A.same W, q, by simp [Cell.setSlot, e]⟩
theorem own_inb {j : Int32} (n : Nat) (e : c.slots = vs.toArray) (hl : vs.length = n) (h0 : ¬ j < 0) (h1 : j.toNatClampNeg < n) : ¬ (j < 0 ∨ c.slots.size ≤ j.toNatClampNeg) := by
  rw [e]
  rintro (h | h)
  · exact h0 h
  · simp at h; omega
theorem own_get {j : Int32} (e : c.slots = vs.toArray) (hj : ¬ j < 0) (q : vs[j.toNatClampNeg]? = some v) : (¬ (j < 0 ∨ c.slots.size ≤ j.toNatClampNeg)) ∧ c.slots[j.toNatClampNeg]? = some v := by
  have hl := (List.getElem?_eq_some_iff.mp q).1
  rw [e]
  refine ⟨?_, by simpa using q⟩
  rintro (h | h)
  · exact hj h
  · simp at h; omega
theorem own_ext_trans {h'' : Heap} (E : Ext h h') (E' : Ext h' h'') : Ext h h'' := ⟨Nat.le_trans E.1 E'.1, fun x y q => E'.2 x y (E.2 x y q)⟩
theorem own_ext_wr (E : Ext h0 h) (W : Wr h h' a sl v) (q : h0.size ≤ a) : Ext h0 h' := by
  refine ⟨Nat.le_trans E.1 (Nat.le_of_eq W.size.symm), fun x y hx => ?_⟩
  have hlt := (Array.getElem?_eq_some_iff.mp hx).1
  obtain ⟨c', e1, -, -, -, e5, -⟩ := wr_at W (E.2 x y hx)
  rw [← e5 (Nat.ne_of_lt (Nat.lt_of_lt_of_le hlt q))]; exact e1
theorem own_ext_keep (E : Ext h0 h) (K : Keep h h' [a]) (q : h0.size ≤ a) : Ext h0 h' := ⟨Nat.le_trans E.1 K.1, fun x y hx => K.2.1 x y (E.2 x y hx) (ninS (Nat.ne_of_lt (Nat.lt_of_lt_of_le (Array.getElem?_eq_some_iff.mp hx).1 q)) nin0)⟩
end OwnArr
theorem own_ext_w_ALL {S : Array Value} {v0 v1 v2 v3 : Value} (hn : (S.size : Int) = 4) (h0 : S[0]? = some v0) (h1 : S[1]? = some v1) (h2 : S[2]? = some v2) (h3 : S[3]? = some v3) : S = #[v0, v1, v2, v3] := by
  refine Array.ext_getElem? fun i => ?_
  match i with
  | 0 => exact h0
  | 1 => exact h1
  | 2 => exact h2
  | 3 => exact h3
  | k + 4 => rw [Array.getElem?_eq_none (by omega), Array.getElem?_eq_none (by simp)]
def own_K (Z : State) (h : Heap) (w_CHARACTERS w_ALL w_BAMBOO w_DOTS w_HONOURS : Addr) : Prop := Sta Z h "com/example/tenpai/tenpai/core/Suit" "CHARACTERS" "Lcom/example/tenpai/tenpai/core/Suit;" (.ref w_CHARACTERS) ∧ Exa Z h w_CHARACTERS "com/example/tenpai/tenpai/core/Suit" ∧ Fld Z h w_CHARACTERS "java/lang/Enum" "ordinal" "I" (.int (0 : Int32)) ∧ Sta Z h "com/example/tenpai/tenpai/core/Suit" "ALL" "[Lcom/example/tenpai/tenpai/core/Suit;" (.ref w_ALL) ∧ Sta Z h "com/example/tenpai/tenpai/core/Suit" "BAMBOO" "Lcom/example/tenpai/tenpai/core/Suit;" (.ref w_BAMBOO) ∧ Exa Z h w_BAMBOO "com/example/tenpai/tenpai/core/Suit" ∧ Fld Z h w_BAMBOO "java/lang/Enum" "ordinal" "I" (.int (2 : Int32)) ∧ Sta Z h "com/example/tenpai/tenpai/core/Suit" "DOTS" "Lcom/example/tenpai/tenpai/core/Suit;" (.ref w_DOTS) ∧ Exa Z h w_DOTS "com/example/tenpai/tenpai/core/Suit" ∧ Fld Z h w_DOTS "java/lang/Enum" "ordinal" "I" (.int (1 : Int32)) ∧ Sta Z h "com/example/tenpai/tenpai/core/Suit" "HONOURS" "Lcom/example/tenpai/tenpai/core/Suit;" (.ref w_HONOURS) ∧ Exa Z h w_HONOURS "com/example/tenpai/tenpai/core/Suit" ∧ Fld Z h w_HONOURS "java/lang/Enum" "ordinal" "I" (.int (3 : Int32)) ∧ own_Arr Z h w_ALL (.object "com/example/tenpai/tenpai/core/Suit") [(.ref w_CHARACTERS), (.ref w_DOTS), (.ref w_BAMBOO), (.ref w_HONOURS)]
theorem d_jdk_37_method_2_0 : decode jdk_37_method_2_code 0 = .ok (.aload_n 0, 1) := by decide +kernel
theorem d_jdk_37_method_2_1 : decode jdk_37_method_2_code 1 = .ok (.getfield 7, 3) := by decide +kernel
theorem d_jdk_37_method_2_4 : decode jdk_37_method_2_code 4 = .ok (.ireturn, 1) := by decide +kernel
theorem pn_0 : plainName "java/lang/Enum" = true := by first | (simp [plainName, overriddenIn]; done) | decide +kernel
theorem ef_ordinal (m : MethodId) (x0 : Addr) : entryFrame m #[(.ref x0)] 1 = mkF m 0 #[.val (.ref x0)] [] := by first | (simp [entryFrame, mkF, argsToLocals, Value.category]; done) | rfl
set_option maxRecDepth 65536 in
set_option maxHeartbeats 40000000 in
theorem rm_ordinal (l : Launch) (Z : State) (a0 : Array Value) (hw : ∀ d ∈ tables_1, d.before a0 Z = true) (ws : List Jvm.Cond) (a1 : Addr) (f_ordinal : Int32) (h0 : Heap) (n0 : Nat) (w_CHARACTERS w_ALL w_BAMBOO w_DOTS w_HONOURS : Addr) (hK : own_K Z h0 w_CHARACTERS w_ALL w_BAMBOO w_DOTS w_HONOURS) (F_ordinal : Fld Z h0 a1 "java/lang/Enum" "ordinal" "I" (.int f_ordinal)) :
    MetFree l (⟨"java/lang/Enum", "ordinal", "()I"⟩ : MethodName) (head1 (Jvm.Cond.code (⟨"java/lang/Enum", "ordinal", "()I"⟩ : MethodName) jdk_37_method_2_code 1 (some .int) :: ws) ({ frames := 0, cells := 0, slots := 0, locals := 0 } : Room)) (fun a U => a = #[(.ref a1)] ∧ Z.Warmed39 U.vm ∧ U.heap = h0) (fun _ _ _ _ _ => True) (fun _ U o U' => ∃ v L, o = .returned v ∧ own_Q (some (.int f_ordinal)) h0 n0 v U'.heap L ∧ FrameEnd U o U' L ({ frames := 0, cells := 0, slots := 0, locals := 0 } : Room).cells ({ frames := 0, cells := 0, slots := 0, locals := 0 } : Room).slots) := by
  refine MetFree.of_bodySF (plainFor_of_name pn_0) hisR ?_
  intro p e s m args below meth c s₁ Bd hml0 hP hK0
  obtain ⟨rfl, hZ, hh⟩ := hP
  have hx := Bd.exec
  have hby := Bd.bytes
  have hml : c.maxLocals = 1 := hml0
  have hown : s.vm.findClass "java/lang/Enum" = some m.cls := findClass_of_methodNamed Bd.named
  have hnm := (name_of_methodNamed Bd.named Bd.method).1
  have X0 : Stand p l e ({ frames := 0, cells := 0, slots := 0, locals := 0 } : Room) s m #[(.ref a1)] below meth c s₁ [] 0 0 := Stand.of_body Bd
  have e0 : s₁.heap = h0 := by rw [← hh, Bd.state]; rfl
  have N0 := Fr.nil n0
  have pre0 : ∀ t, Steps p.tables e below (s₁.setTop (mkF m 0 #[.val (.ref a1)] [])) t → Steps p.tables e below (s₁.setTop (entryFrame m #[(.ref a1)] 1)) t := fun t k => castTop (ef_ordinal m a1) k
  have hK' := hK
  obtain ⟨S_w_CHARACTERS, E_w_CHARACTERS, F_ordinal_w_CHARACTERS, S_w_ALL, S_w_BAMBOO, E_w_BAMBOO, F_ordinal_w_BAMBOO, S_w_DOTS, E_w_DOTS, F_ordinal_w_DOTS, S_w_HONOURS, E_w_HONOURS, F_ordinal_w_HONOURS, B_w_ALL⟩ := hK'
  obtain ⟨cl_w_ALL, A_w_ALL, q_w_ALL⟩ := B_w_ALL
  obtain ⟨T1, X1, e1, st1⟩ := getF X0 hx hZ hown (host := "") (Or.inl (hw _ (ow 16 rfl))) Via.refl e0 F_ordinal (g := (mkF m 1 #[.val (.ref a1)] [(.ref a1)])) rfl rfl (hb hby d_jdk_37_method_2_1)
  have pre2 : ∀ t, Steps p.tables e below (T1.setTop (mkF m 4 #[.val (.ref a1)] [(.int f_ordinal)])) t → Steps p.tables e below (s₁.setTop (entryFrame m #[(.ref a1)] 1)) t := fun t k => pre0 t (by
    show Steps p.tables e below (s₁.setTop (mkF m 0 #[.val (.ref a1)] [])) _
    refine XS.aloadN X0.here hx rfl (hb hby d_jdk_37_method_2_0) rfl rfl ?_
    show Steps p.tables e below (s₁.setTop (mkF m 1 #[.val (.ref a1)] [(.ref a1)])) _
    refine st1 _ ?_
    exact k)
  obtain ⟨fs, hr, hrun, hended, hW, hsame⟩ := X1.leave (v := some (.int f_ordinal)) (fun h => by rw [Bd.returns] at h; cases h)
  refine ⟨_, _, pre2 _ ?_, hrun, hended, _, _, rfl, ?_, ⟨_, rfl⟩, hW, hsame.mono (by decide) (by decide)⟩
  · show Steps p.tables e below (T1.setTop (mkF m 4 #[.val (.ref a1)] [(.int f_ordinal)])) _
    exact retI X1 hx Bd.returns (hb hby d_jdk_37_method_2_4) hr
  · exact ⟨rfl, N0, e1⟩
theorem d_prog_25_method_9_0 : decode prog_25_method_9_code 0 = .ok (.aload_n 0, 1) := by decide +kernel
theorem d_prog_25_method_9_1 : decode prog_25_method_9_code 1 = .ok (.invokevirtual 50, 3) := by decide +kernel
theorem pd_0 : parseMethodDescriptor "()I" = some ⟨[], some .int⟩ := by decide +kernel
theorem d_prog_25_method_9_4 : decode prog_25_method_9_code 4 = .ok (.bipush 9, 2) := by decide +kernel
theorem d_prog_25_method_9_6 : decode prog_25_method_9_code 6 = .ok (.imul, 1) := by decide +kernel
theorem d_prog_25_method_9_7 : decode prog_25_method_9_code 7 = .ok (.iload_n 1, 1) := by decide +kernel
theorem d_prog_25_method_9_8 : decode prog_25_method_9_code 8 = .ok (.iadd, 1) := by decide +kernel
theorem d_prog_25_method_9_9 : decode prog_25_method_9_code 9 = .ok (.iconst 1, 1) := by decide +kernel
theorem d_prog_25_method_9_10 : decode prog_25_method_9_code 10 = .ok (.isub, 1) := by decide +kernel
theorem d_prog_25_method_9_11 : decode prog_25_method_9_code 11 = .ok (.ireturn, 1) := by decide +kernel
theorem pn_1 : plainName "com/example/tenpai/tenpai/core/Suit" = true := by first | (simp [plainName, overriddenIn]; done) | decide +kernel
theorem ef_kind (m : MethodId) (x0 : Addr) (x1 : Int32) : entryFrame m #[(.ref x0), (.int x1)] 2 = mkF m 0 #[.val (.ref x0), .val (.int x1)] [] := by first | (simp [entryFrame, mkF, argsToLocals, Value.category]; done) | rfl
set_option maxRecDepth 65536 in
set_option maxHeartbeats 40000000 in
theorem rm_kind (l : Launch) (Z : State) (a0 : Array Value) (hw : ∀ d ∈ tables_1, d.before a0 Z = true) (ws : List Jvm.Cond) (a1 : Addr) (p1 : Int32) (f_ordinal : Int32) (h0 : Heap) (n0 : Nat) (w_CHARACTERS w_ALL w_BAMBOO w_DOTS w_HONOURS : Addr) (hK : own_K Z h0 w_CHARACTERS w_ALL w_BAMBOO w_DOTS w_HONOURS) (F_ordinal : Fld Z h0 a1 "java/lang/Enum" "ordinal" "I" (.int f_ordinal)) (E_a1 : Exa Z h0 a1 "com/example/tenpai/tenpai/core/Suit") :
    MetFree l (⟨"com/example/tenpai/tenpai/core/Suit", "kind", "(I)I"⟩ : MethodName) (head1 (Jvm.Cond.code (⟨"com/example/tenpai/tenpai/core/Suit", "kind", "(I)I"⟩ : MethodName) prog_25_method_9_code 2 (some .int) :: ws) ({ frames := 1, cells := 0, slots := 0, locals := 12 } : Room)) (fun a U => a = #[(.ref a1), (.int p1)] ∧ Z.Warmed39 U.vm ∧ U.heap = h0) (fun _ _ _ _ _ => True) (fun _ U o U' => ∃ v L, o = .returned v ∧ own_Q (some (.int (((f_ordinal * (9 : Int32)) + p1) - (1 : Int32)))) h0 n0 v U'.heap L ∧ FrameEnd U o U' L ({ frames := 1, cells := 0, slots := 0, locals := 12 } : Room).cells ({ frames := 1, cells := 0, slots := 0, locals := 12 } : Room).slots) := by
  refine MetFree.of_bodySF (plainFor_of_name pn_1) hisR ?_
  intro p e s m args below meth c s₁ Bd hml0 hP hK0
  obtain ⟨rfl, hZ, hh⟩ := hP
  have hx := Bd.exec
  have hby := Bd.bytes
  have hml : c.maxLocals = 2 := hml0
  have hown : s.vm.findClass "com/example/tenpai/tenpai/core/Suit" = some m.cls := findClass_of_methodNamed Bd.named
  have hnm := (name_of_methodNamed Bd.named Bd.method).1
  have X0 : Stand p l e ({ frames := 1, cells := 0, slots := 0, locals := 12 } : Room) s m #[(.ref a1), (.int p1)] below meth c s₁ [] 0 0 := Stand.of_body Bd
  have e0 : s₁.heap = h0 := by rw [← hh, Bd.state]; rfl
  have N0 := Fr.nil n0
  have pre0 : ∀ t, Steps p.tables e below (s₁.setTop (mkF m 0 #[.val (.ref a1), .val (.int p1)] [])) t → Steps p.tables e below (s₁.setTop (entryFrame m #[(.ref a1), (.int p1)] 2)) t := fun t k => castTop (ef_kind m a1 p1) k
  have hK' := hK
  obtain ⟨S_w_CHARACTERS, E_w_CHARACTERS, F_ordinal_w_CHARACTERS, S_w_ALL, S_w_BAMBOO, E_w_BAMBOO, F_ordinal_w_BAMBOO, S_w_DOTS, E_w_DOTS, F_ordinal_w_DOTS, S_w_HONOURS, E_w_HONOURS, F_ordinal_w_HONOURS, B_w_ALL⟩ := hK'
  obtain ⟨cl_w_ALL, A_w_ALL, q_w_ALL⟩ := B_w_ALL
  obtain ⟨cq1, kq1, q1a, q1b, q1c⟩ := isOf hZ e0 E_a1
  obtain ⟨v1, _, ⟨T1, L1, k1, n1⟩, -, X1, ⟨Lc1, hQ1, l1, y1, z1⟩, st1⟩ := X0.virtualBackUp hx (x := (⟨"com/example/tenpai/tenpai/core/Suit", "ordinal", "()I"⟩ : MethodName)) (y := (⟨"java/lang/Enum", "ordinal", "()I"⟩ : MethodName)) (owner := "java/lang/Enum") hown (mvT hZ (hw _ (ow 9 rfl))) (mvT hZ (hw _ (ow 10 rfl))) (mvT hZ (hw _ (ow 11 rfl))) (by decide) (mvT hZ (hw _ (ow 13 rfl))) (mvT hZ (hw _ (ow 12 rfl))) (backOf (W := 0) (rm_ordinal l Z a0 hw [] a1 f_ordinal h0 n0 w_CHARACTERS w_ALL w_BAMBOO w_DOTS w_HONOURS hK F_ordinal) hZ (hw _ (ow 15 rfl)) (hw _ (ow 14 rfl)) (by decide) (by decide)) q1a q1c (g := (mkF m 1 #[.val (.ref a1), .val (.int p1)] [(.ref a1)])) rfl (by rw [hml]; rfl) (Steps.refl _) (argsL := []) (rest := []) (lenOf pd_0 rfl) rfl (Nat.le_of_eq rfl) (hb hby d_prog_25_method_9_1) (fun _ _ => ⟨rfl, e0, (by decide : 0 + 0 ≤ _), (by decide : 0 + 0 ≤ _)⟩)
  dsimp only [Pt.U, Pt.locs, Pt.cells, Pt.slots] at X1 l1 y1 z1 st1 hQ1
  subst l1 y1 z1
  obtain ⟨hv1, Nq1, e1⟩ := hQ1
  obtain rfl : v1 = some (.int f_ordinal) := hv1
  have N1 := Fr.app N0 Nq1
  have pre2 : ∀ t, Steps p.tables e below (T1.setTop (mkF m 11 #[.val (.ref a1), .val (.int p1)] [(.int (((f_ordinal * (9 : Int32)) + p1) - (1 : Int32)))])) t → Steps p.tables e below (s₁.setTop (entryFrame m #[(.ref a1), (.int p1)] 2)) t := fun t k => pre0 t (by
    show Steps p.tables e below (s₁.setTop (mkF m 0 #[.val (.ref a1), .val (.int p1)] [])) _
    refine XS.aloadN X0.here hx rfl (hb hby d_prog_25_method_9_0) rfl rfl ?_
    show Steps p.tables e below (s₁.setTop (mkF m 1 #[.val (.ref a1), .val (.int p1)] [(.ref a1)])) _
    refine st1.trans ?_
    show Steps p.tables e below (T1.setTop (mkF m 4 #[.val (.ref a1), .val (.int p1)] [(.int f_ordinal)])) _
    refine XS.bipush X1.here hx rfl (hb hby d_prog_25_method_9_4) ?_
    show Steps p.tables e below (T1.setTop (mkF m 6 #[.val (.ref a1), .val (.int p1)] [(.int (9 : Int32)), (.int f_ordinal)])) _
    refine XS.imul X1.here hx rfl (hb hby d_prog_25_method_9_6) rfl ?_
    show Steps p.tables e below (T1.setTop (mkF m 7 #[.val (.ref a1), .val (.int p1)] [(.int (f_ordinal * (9 : Int32)))])) _
    refine XS.iloadN X1.here hx rfl (hb hby d_prog_25_method_9_7) rfl ?_
    show Steps p.tables e below (T1.setTop (mkF m 8 #[.val (.ref a1), .val (.int p1)] [(.int p1), (.int (f_ordinal * (9 : Int32)))])) _
    refine XS.iadd X1.here hx rfl (hb hby d_prog_25_method_9_8) rfl ?_
    show Steps p.tables e below (T1.setTop (mkF m 9 #[.val (.ref a1), .val (.int p1)] [(.int ((f_ordinal * (9 : Int32)) + p1))])) _
    refine XS.iconst X1.here hx rfl (hb hby d_prog_25_method_9_9) ?_
    show Steps p.tables e below (T1.setTop (mkF m 10 #[.val (.ref a1), .val (.int p1)] [(.int (1 : Int32)), (.int ((f_ordinal * (9 : Int32)) + p1))])) _
    refine XS.isub X1.here hx rfl (hb hby d_prog_25_method_9_10) rfl ?_
    exact k)
  obtain ⟨fs, hr, hrun, hended, hW, hsame⟩ := X1.leave (v := some (.int (((f_ordinal * (9 : Int32)) + p1) - (1 : Int32)))) (fun h => by rw [Bd.returns] at h; cases h)
  refine ⟨_, _, pre2 _ ?_, hrun, hended, _, _, rfl, ?_, ⟨_, rfl⟩, hW, hsame.mono (by decide) (by decide)⟩
  · show Steps p.tables e below (T1.setTop (mkF m 11 #[.val (.ref a1), .val (.int p1)] [(.int (((f_ordinal * (9 : Int32)) + p1) - (1 : Int32)))])) _
    exact retI X1 hx Bd.returns (hb hby d_prog_25_method_9_11) hr
  · exact ⟨rfl, N1, e1⟩
theorem d_prog_25_method_5_0 : decode prog_25_method_5_code 0 = .ok (.getstatic 47, 3) := by decide +kernel
theorem d_prog_25_method_5_3 : decode prog_25_method_5_code 3 = .ok (.iload_n 0, 1) := by decide +kernel
theorem d_prog_25_method_5_4 : decode prog_25_method_5_code 4 = .ok (.bipush 9, 2) := by decide +kernel
theorem d_prog_25_method_5_6 : decode prog_25_method_5_code 6 = .ok (.idiv, 1) := by decide +kernel
theorem d_prog_25_method_5_7 : decode prog_25_method_5_code 7 = .ok (.aaload, 1) := by decide +kernel
theorem d_prog_25_method_5_8 : decode prog_25_method_5_code 8 = .ok (.areturn, 1) := by decide +kernel
theorem ef_ofKind0 (m : MethodId) (x0 : Int32) : entryFrame m #[(.int x0)] 1 = mkF m 0 #[.val (.int x0)] [] := by first | (simp [entryFrame, mkF, argsToLocals, Value.category]; done) | rfl
set_option maxRecDepth 65536 in
set_option maxHeartbeats 40000000 in
theorem rm_ofKind0 (l : Launch) (Z : State) (a0 : Array Value) (hw : ∀ d ∈ tables_1, d.before a0 Z = true) (ws : List Jvm.Cond) (p0 : Int32) (h0 : Heap) (n0 : Nat) (w_CHARACTERS w_ALL w_BAMBOO w_DOTS w_HONOURS : Addr) (hK : own_K Z h0 w_CHARACTERS w_ALL w_BAMBOO w_DOTS w_HONOURS) (hq : p0 / (9 : Int32) = (0 : Int32)) :
    MetFree l (⟨"com/example/tenpai/tenpai/core/Suit", "ofKind", "(I)Lcom/example/tenpai/tenpai/core/Suit;"⟩ : MethodName) (head1 (Jvm.Cond.code (⟨"com/example/tenpai/tenpai/core/Suit", "ofKind", "(I)Lcom/example/tenpai/tenpai/core/Suit;"⟩ : MethodName) prog_25_method_5_code 1 (some (.object "com/example/tenpai/tenpai/core/Suit")) :: ws) ({ frames := 0, cells := 0, slots := 0, locals := 0 } : Room)) (fun a U => a = #[(.int p0)] ∧ Z.Warmed39 U.vm ∧ U.heap = h0) (fun _ _ _ _ _ => True) (fun _ U o U' => ∃ v L, o = .returned v ∧ own_Q (some (.ref w_CHARACTERS)) h0 n0 v U'.heap L ∧ FrameEnd U o U' L ({ frames := 0, cells := 0, slots := 0, locals := 0 } : Room).cells ({ frames := 0, cells := 0, slots := 0, locals := 0 } : Room).slots) := by
  refine MetFree.of_bodySF (plainFor_of_name pn_1) hisR ?_
  intro p e s m args below meth c s₁ Bd hml0 hP hK0
  obtain ⟨rfl, hZ, hh⟩ := hP
  have hx := Bd.exec
  have hby := Bd.bytes
  have hml : c.maxLocals = 1 := hml0
  have hown : s.vm.findClass "com/example/tenpai/tenpai/core/Suit" = some m.cls := findClass_of_methodNamed Bd.named
  have hnm := (name_of_methodNamed Bd.named Bd.method).1
  have X0 : Stand p l e ({ frames := 0, cells := 0, slots := 0, locals := 0 } : Room) s m #[(.int p0)] below meth c s₁ [] 0 0 := Stand.of_body Bd
  have e0 : s₁.heap = h0 := by rw [← hh, Bd.state]; rfl
  have N0 := Fr.nil n0
  have pre0 : ∀ t, Steps p.tables e below (s₁.setTop (mkF m 0 #[.val (.int p0)] [])) t → Steps p.tables e below (s₁.setTop (entryFrame m #[(.int p0)] 1)) t := fun t k => castTop (ef_ofKind0 m p0) k
  have hK' := hK
  obtain ⟨S_w_CHARACTERS, E_w_CHARACTERS, F_ordinal_w_CHARACTERS, S_w_ALL, S_w_BAMBOO, E_w_BAMBOO, F_ordinal_w_BAMBOO, S_w_DOTS, E_w_DOTS, F_ordinal_w_DOTS, S_w_HONOURS, E_w_HONOURS, F_ordinal_w_HONOURS, B_w_ALL⟩ := hK'
  obtain ⟨cl_w_ALL, A_w_ALL, q_w_ALL⟩ := B_w_ALL
  obtain ⟨T1, X1, e1, st1⟩ := getS2 X0 hx hZ hown (host := "") (Or.inl (hw _ (ow 21 rfl))) Via.refl e0 S_w_ALL (g := (mkF m 0 #[.val (.int p0)] [])) rfl (hb hby d_prog_25_method_5_0)
  have pre2 : ∀ t, Steps p.tables e below (T1.setTop (mkF m 8 #[.val (.int p0)] [(.ref w_CHARACTERS)])) t → Steps p.tables e below (s₁.setTop (entryFrame m #[(.int p0)] 1)) t := fun t k => pre0 t (by
    show Steps p.tables e below (s₁.setTop (mkF m 0 #[.val (.int p0)] [])) _
    refine st1 _ ?_
    show Steps p.tables e below (T1.setTop (mkF m 3 #[.val (.int p0)] [(.ref w_ALL)])) _
    refine XS.iloadN X1.here hx rfl (hb hby d_prog_25_method_5_3) rfl ?_
    show Steps p.tables e below (T1.setTop (mkF m 4 #[.val (.int p0)] [(.int p0), (.ref w_ALL)])) _
    refine XS.bipush X1.here hx rfl (hb hby d_prog_25_method_5_4) ?_
    show Steps p.tables e below (T1.setTop (mkF m 6 #[.val (.int p0)] [(.int (9 : Int32)), (.int p0), (.ref w_ALL)])) _
    refine XS.idiv X1.here hx rfl (hb hby d_prog_25_method_5_6) rfl (by decide) ?_
    show Steps p.tables e below (T1.setTop (mkF m 7 #[.val (.int p0)] [(.int (p0 / (9 : Int32))), (.ref w_ALL)])) _
    rw [hq]
    show Steps p.tables e below (T1.setTop (mkF m 7 #[.val (.int p0)] [(.int (0 : Int32)), (.ref w_ALL)])) _
    refine X1.aaload hx (j := (0 : Int32)) (v := (.ref w_CHARACTERS)) (by rw [e1]; exact A_w_ALL.1) (State.isArrayOf_alike hZ.alike A_w_ALL.2.1) rfl A_w_ALL.2.2 (own_get (v := (.ref w_CHARACTERS)) q_w_ALL (by decide) rfl).1 (own_get q_w_ALL (by decide) rfl).2 (g := (mkF m 7 #[.val (.int p0)] [(.int (0 : Int32)), (.ref w_ALL)])) rfl rfl (hb hby d_prog_25_method_5_7) _ ?_
    exact k)
  obtain ⟨fs, hr, hrun, hended, hW, hsame⟩ := X1.leave (v := some (.ref w_CHARACTERS)) (fun h => by rw [Bd.returns] at h; cases h)
  refine ⟨_, _, pre2 _ ?_, hrun, hended, _, _, rfl, ?_, ⟨_, rfl⟩, hW, hsame.mono (by decide) (by decide)⟩
  · show Steps p.tables e below (T1.setTop (mkF m 8 #[.val (.int p0)] [(.ref w_CHARACTERS)])) _
    exact retOut X1 hx Bd.returns rfl (Or.inr (Or.inr (Or.inr (Or.inr ⟨rfl, rfl, rfl⟩)))) (hb hby d_prog_25_method_5_8) hr
  · exact ⟨rfl, N0, e1⟩
theorem pd_1 : parseMethodDescriptor "(I)I" = some ⟨[.int], some .int⟩ := by decide +kernel
theorem pd_2 : parseMethodDescriptor "(I)Lcom/example/tenpai/tenpai/core/Suit;" = some ⟨[.int], some (.object "com/example/tenpai/tenpai/core/Suit")⟩ := by decide +kernel
theorem pn_2 : plainName "com/example/tenpai/tenpai/core/SuitKindPinLaw" = true := by first | (simp [plainName, overriddenIn]; done) | decide +kernel
theorem ef_law0 (m : MethodId) (x0 : Int32) (x1 : Int32) : entryFrame m #[(.int x0), (.int x1)] maxLocals = mkF m 0 #[.val (.int x0), .val (.int x1), .unset, .unset, .unset, .unset, .unset, .unset] [] := by first | (simp [entryFrame, mkF, argsToLocals, Value.category, maxLocals]; done) | rfl
set_option maxRecDepth 65536 in
set_option maxHeartbeats 40000000 in
theorem rm_law0 (l : Launch) (Z : State) (a0 : Array Value) (hw : ∀ d ∈ tables_1, d.before a0 Z = true) (ws : List Jvm.Cond) (p1 : Int32) (p2 : Int32) (h0 : Heap) (n0 : Nat) (w_CHARACTERS w_ALL w_BAMBOO w_DOTS w_HONOURS : Addr) (hK : own_K Z h0 w_CHARACTERS w_ALL w_BAMBOO w_DOTS w_HONOURS) (z kk : Int32) (hk : (p1 &&& (3 : Int32)) = (0 : Int32)) (hz : ((1 : Int32) + ((p2 &&& (2147483647 : Int32)) % (9 : Int32))) = z) (hkk : ((((0 : Int32) * (9 : Int32)) + z) - (1 : Int32)) = kk) (hbb : (((0 : Int32) + z) - (1 : Int32)) = kk) (hl : ¬ (kk < (0 : Int32))) (hu : kk < (34 : Int32)) (hq : kk / (9 : Int32) = (0 : Int32)) :
    MetFree l x (head1 (Jvm.Cond.code x code maxLocals ret :: ws) room_1) (fun a U => a = #[(.int p1), (.int p2)] ∧ Z.Warmed39 U.vm ∧ U.heap = h0) (fun _ _ _ _ _ => True) (fun _ U o U' => ∃ v L, o = .returned v ∧ own_Q (some (.int (1 : Int32))) h0 n0 v U'.heap L ∧ FrameEnd U o U' L room_1.cells room_1.slots) := by
  refine MetFree.of_bodySF (plainFor_of_name pn_2) hisR ?_
  intro p e s m args below meth c s₁ Bd hml0 hP hK0
  obtain ⟨rfl, hZ, hh⟩ := hP
  have hx := Bd.exec
  have hby := Bd.bytes
  have hml : c.maxLocals = 8 := hml0
  have hown : s.vm.findClass "com/example/tenpai/tenpai/core/SuitKindPinLaw" = some m.cls := findClass_of_methodNamed Bd.named
  have hnm := (name_of_methodNamed Bd.named Bd.method).1
  have X0 : Stand p l e room_1 s m #[(.int p1), (.int p2)] below meth c s₁ [] 0 0 := Stand.of_body Bd
  have e0 : s₁.heap = h0 := by rw [← hh, Bd.state]; rfl
  have N0 := Fr.nil n0
  have pre0 : ∀ t, Steps p.tables e below (s₁.setTop (mkF m 0 #[.val (.int p1), .val (.int p2), .unset, .unset, .unset, .unset, .unset, .unset] [])) t → Steps p.tables e below (s₁.setTop (entryFrame m #[(.int p1), (.int p2)] maxLocals)) t := fun t k => castTop (ef_law0 m p1 p2) k
  have hK' := hK
  obtain ⟨S_w_CHARACTERS, E_w_CHARACTERS, F_ordinal_w_CHARACTERS, S_w_ALL, S_w_BAMBOO, E_w_BAMBOO, F_ordinal_w_BAMBOO, S_w_DOTS, E_w_DOTS, F_ordinal_w_DOTS, S_w_HONOURS, E_w_HONOURS, F_ordinal_w_HONOURS, B_w_ALL⟩ := hK'
  obtain ⟨cl_w_ALL, A_w_ALL, q_w_ALL⟩ := B_w_ALL
  obtain ⟨T1, X1, e1, st1⟩ := getS2 X0 hx hZ hown (host := "") (Or.inl (hw _ (ow 0 rfl))) Via.refl e0 S_w_CHARACTERS (g := (mkF m 8 #[.val (.int p1), .val (.int p2), .val (.int (0 : Int32)), .unset, .unset, .unset, .unset, .unset] [])) rfl (hb hby at_8)
  obtain ⟨cq2, kq2, q2a, q2b, q2c⟩ := isOf hZ e1 E_w_CHARACTERS
  obtain ⟨v2, _, ⟨T2, L2, k2, n2⟩, -, X2, ⟨Lc2, hQ2, l2, y2, z2⟩, st2⟩ := X1.virtualBack hx (y := (⟨"com/example/tenpai/tenpai/core/Suit", "kind", "(I)I"⟩ : MethodName)) (z := (⟨"com/example/tenpai/tenpai/core/Suit", "kind", "(I)I"⟩ : MethodName)) hown (mvT hZ (hw _ (ow 4 rfl))) (mvT hZ (hw _ (ow 5 rfl))) (notFace_of_selects (args := #[]) (mvT hZ (hw _ (ow 7 rfl)))) (mvT hZ (hw _ (ow 7 rfl))) (mvT hZ (hw _ (ow 6 rfl))) (by decide) (backOf (W := 0) (rm_kind l Z a0 hw [] w_CHARACTERS z (0 : Int32) h0 n0 w_CHARACTERS w_ALL w_BAMBOO w_DOTS w_HONOURS hK F_ordinal_w_CHARACTERS E_w_CHARACTERS) hZ (hw _ (ow 8 rfl)) (hw _ (ow 1 rfl)) (by decide) (by decide)) q2a q2c (g := (mkF m 88 #[.val (.int p1), .val (.int p2), .val (.int (0 : Int32)), .val (.ref w_CHARACTERS), .val (.int (0 : Int32)), .val (.int (9 : Int32)), .val (.int z), .unset] [(.int z), (.ref w_CHARACTERS)])) rfl (by rw [hml]; rfl) (Steps.refl _) (argsL := [(.int z)]) (rest := []) (lenOf pd_1 rfl) rfl (Nat.le_of_eq rfl) (hb hby at_88) (fun _ _ => ⟨rfl, e1, (by decide : 0 + 0 ≤ _), (by decide : 0 + 0 ≤ _)⟩)
  dsimp only [Pt.U, Pt.locs, Pt.cells, Pt.slots] at X2 l2 y2 z2 st2 hQ2
  subst l2 y2 z2
  obtain ⟨hv2, Nq2, e2⟩ := hQ2
  obtain rfl : v2 = some (.int kk) := hv2.trans (congrArg some (congrArg Value.int hkk))
  have N2 := Fr.app N0 Nq2
  obtain ⟨v3, _, ⟨T3, L3, k3, n3⟩, -, X3, ⟨Lc3, hQ3, l3, y3, z3⟩, st3⟩ := Jvm.LawKit.callS X2 hx (y := (⟨"com/example/tenpai/tenpai/core/Suit", "ofKind", "(I)Lcom/example/tenpai/tenpai/core/Suit;"⟩ : MethodName)) hown (mvT hZ (hw _ (ow 18 rfl))) (mvT hZ (hw _ (ow 19 rfl))) (mvT hZ (hw _ (ow 1 rfl))) (mvT hZ (hw _ (ow 20 rfl))) (by decide) (backOf (W := 0) (rm_ofKind0 l Z a0 hw [] kk h0 n0 w_CHARACTERS w_ALL w_BAMBOO w_DOTS w_HONOURS hK hq) hZ (hw _ (ow 20 rfl)) (hw _ (ow 1 rfl)) (by decide) (by decide)) (g := (mkF m 123 #[.val (.int p1), .val (.int p2), .val (.int (0 : Int32)), .val (.ref w_CHARACTERS), .val (.int (0 : Int32)), .val (.int (9 : Int32)), .val (.int z), .val (.int kk)] [(.int kk)])) rfl (by rw [hml]; rfl) (argsL := [(.int kk)]) (rest := []) (lenOf pd_2 rfl) rfl (Nat.le_of_eq rfl) (hb hby at_123) (fun _ _ => ⟨rfl, e2, (by decide : 0 + 0 ≤ _), (by decide : 0 + 0 ≤ _)⟩)
  dsimp only [Pt.U, Pt.locs, Pt.cells, Pt.slots] at X3 l3 y3 z3 st3 hQ3
  subst l3 y3 z3
  obtain ⟨hv3, Nq3, e3⟩ := hQ3
  obtain rfl : v3 = some (.ref w_CHARACTERS) := hv3
  have N3 := Fr.app N2 Nq3
  have pre4 : ∀ t, Steps p.tables e below (T3.setTop (mkF m 135 #[.val (.int p1), .val (.int p2), .val (.int (0 : Int32)), .val (.ref w_CHARACTERS), .val (.int (0 : Int32)), .val (.int (9 : Int32)), .val (.int z), .val (.int kk)] [(.int (1 : Int32))])) t → Steps p.tables e below (s₁.setTop (entryFrame m #[(.int p1), (.int p2)] maxLocals)) t := fun t k => pre0 t (by
    show Steps p.tables e below (s₁.setTop (mkF m 0 #[.val (.int p1), .val (.int p2), .unset, .unset, .unset, .unset, .unset, .unset] [])) _
    refine XS.iloadN X0.here hx rfl (hb hby at_0) rfl ?_
    show Steps p.tables e below (s₁.setTop (mkF m 1 #[.val (.int p1), .val (.int p2), .unset, .unset, .unset, .unset, .unset, .unset] [(.int p1)])) _
    refine XS.iconst X0.here hx rfl (hb hby at_1) ?_
    show Steps p.tables e below (s₁.setTop (mkF m 2 #[.val (.int p1), .val (.int p2), .unset, .unset, .unset, .unset, .unset, .unset] [(.int (3 : Int32)), (.int p1)])) _
    refine XS.iand X0.here hx rfl (hb hby at_2) rfl ?_
    show Steps p.tables e below (s₁.setTop (mkF m 3 #[.val (.int p1), .val (.int p2), .unset, .unset, .unset, .unset, .unset, .unset] [(.int (p1 &&& (3 : Int32)))])) _
    rw [hk]
    show Steps p.tables e below (s₁.setTop (mkF m 3 #[.val (.int p1), .val (.int p2), .unset, .unset, .unset, .unset, .unset, .unset] [(.int (0 : Int32))])) _
    refine XS.istoreN X0.here hx rfl (hb hby at_3) rfl (l' := #[.val (.int p1), .val (.int p2), .val (.int (0 : Int32)), .unset, .unset, .unset, .unset, .unset]) rfl ?_
    show Steps p.tables e below (s₁.setTop (mkF m 4 #[.val (.int p1), .val (.int p2), .val (.int (0 : Int32)), .unset, .unset, .unset, .unset, .unset] [])) _
    refine XS.iloadN X0.here hx rfl (hb hby at_4) rfl ?_
    show Steps p.tables e below (s₁.setTop (mkF m 5 #[.val (.int p1), .val (.int p2), .val (.int (0 : Int32)), .unset, .unset, .unset, .unset, .unset] [(.int (0 : Int32))])) _
    refine XS.ifNo X0.here hx rfl (hb hby at_5) rfl ((if0 _ _).trans (teq (by decide)).2) ?_
    show Steps p.tables e below (s₁.setTop (mkF m 8 #[.val (.int p1), .val (.int p2), .val (.int (0 : Int32)), .unset, .unset, .unset, .unset, .unset] [])) _
    refine st1 _ ?_
    show Steps p.tables e below (T1.setTop (mkF m 11 #[.val (.int p1), .val (.int p2), .val (.int (0 : Int32)), .unset, .unset, .unset, .unset, .unset] [(.ref w_CHARACTERS)])) _
    refine XS.astoreN X1.here hx rfl (hb hby at_11) rfl rfl (l' := #[.val (.int p1), .val (.int p2), .val (.int (0 : Int32)), .val (.ref w_CHARACTERS), .unset, .unset, .unset, .unset]) rfl ?_
    show Steps p.tables e below (T1.setTop (mkF m 12 #[.val (.int p1), .val (.int p2), .val (.int (0 : Int32)), .val (.ref w_CHARACTERS), .unset, .unset, .unset, .unset] [])) _
    refine XS.iconst X1.here hx rfl (hb hby at_12) ?_
    show Steps p.tables e below (T1.setTop (mkF m 13 #[.val (.int p1), .val (.int p2), .val (.int (0 : Int32)), .val (.ref w_CHARACTERS), .unset, .unset, .unset, .unset] [(.int (0 : Int32))])) _
    refine XS.istore X1.here hx rfl (hb hby at_13) rfl (l' := #[.val (.int p1), .val (.int p2), .val (.int (0 : Int32)), .val (.ref w_CHARACTERS), .val (.int (0 : Int32)), .unset, .unset, .unset]) rfl ?_
    show Steps p.tables e below (T1.setTop (mkF m 15 #[.val (.int p1), .val (.int p2), .val (.int (0 : Int32)), .val (.ref w_CHARACTERS), .val (.int (0 : Int32)), .unset, .unset, .unset] [])) _
    refine XS.bipush X1.here hx rfl (hb hby at_15) ?_
    show Steps p.tables e below (T1.setTop (mkF m 17 #[.val (.int p1), .val (.int p2), .val (.int (0 : Int32)), .val (.ref w_CHARACTERS), .val (.int (0 : Int32)), .unset, .unset, .unset] [(.int (9 : Int32))])) _
    refine XS.istore X1.here hx rfl (hb hby at_17) rfl (l' := #[.val (.int p1), .val (.int p2), .val (.int (0 : Int32)), .val (.ref w_CHARACTERS), .val (.int (0 : Int32)), .val (.int (9 : Int32)), .unset, .unset]) rfl ?_
    show Steps p.tables e below (T1.setTop (mkF m 19 #[.val (.int p1), .val (.int p2), .val (.int (0 : Int32)), .val (.ref w_CHARACTERS), .val (.int (0 : Int32)), .val (.int (9 : Int32)), .unset, .unset] [])) _
    refine XS.goto X1.here hx rfl (pc0 := 19) (pc' := 74) rfl (hb hby at_19) (by decide) (by decide) ?_
    show Steps p.tables e below (T1.setTop (mkF m 74 #[.val (.int p1), .val (.int p2), .val (.int (0 : Int32)), .val (.ref w_CHARACTERS), .val (.int (0 : Int32)), .val (.int (9 : Int32)), .unset, .unset] [])) _
    refine XS.iconst X1.here hx rfl (hb hby at_74) ?_
    show Steps p.tables e below (T1.setTop (mkF m 75 #[.val (.int p1), .val (.int p2), .val (.int (0 : Int32)), .val (.ref w_CHARACTERS), .val (.int (0 : Int32)), .val (.int (9 : Int32)), .unset, .unset] [(.int (1 : Int32))])) _
    refine XS.iloadN X1.here hx rfl (hb hby at_75) rfl ?_
    show Steps p.tables e below (T1.setTop (mkF m 76 #[.val (.int p1), .val (.int p2), .val (.int (0 : Int32)), .val (.ref w_CHARACTERS), .val (.int (0 : Int32)), .val (.int (9 : Int32)), .unset, .unset] [(.int p2), (.int (1 : Int32))])) _
    refine X1.ldcInt hx hown (mvT hZ (hw _ (ow 3 rfl))) (g := (mkF m 76 #[.val (.int p1), .val (.int p2), .val (.int (0 : Int32)), .val (.ref w_CHARACTERS), .val (.int (0 : Int32)), .val (.int (9 : Int32)), .unset, .unset] [(.int p2), (.int (1 : Int32))])) rfl (hb hby at_76) _ ?_
    show Steps p.tables e below (T1.setTop (mkF m 78 #[.val (.int p1), .val (.int p2), .val (.int (0 : Int32)), .val (.ref w_CHARACTERS), .val (.int (0 : Int32)), .val (.int (9 : Int32)), .unset, .unset] [(.int (2147483647 : Int32)), (.int p2), (.int (1 : Int32))])) _
    refine XS.iand X1.here hx rfl (hb hby at_78) rfl ?_
    show Steps p.tables e below (T1.setTop (mkF m 79 #[.val (.int p1), .val (.int p2), .val (.int (0 : Int32)), .val (.ref w_CHARACTERS), .val (.int (0 : Int32)), .val (.int (9 : Int32)), .unset, .unset] [(.int (p2 &&& (2147483647 : Int32))), (.int (1 : Int32))])) _
    refine XS.iload X1.here hx rfl (hb hby at_79) rfl ?_
    show Steps p.tables e below (T1.setTop (mkF m 81 #[.val (.int p1), .val (.int p2), .val (.int (0 : Int32)), .val (.ref w_CHARACTERS), .val (.int (0 : Int32)), .val (.int (9 : Int32)), .unset, .unset] [(.int (9 : Int32)), (.int (p2 &&& (2147483647 : Int32))), (.int (1 : Int32))])) _
    refine iremM X1 hx rfl (hb hby at_81) rfl (by decide) ?_
    show Steps p.tables e below (T1.setTop (mkF m 82 #[.val (.int p1), .val (.int p2), .val (.int (0 : Int32)), .val (.ref w_CHARACTERS), .val (.int (0 : Int32)), .val (.int (9 : Int32)), .unset, .unset] [(.int ((p2 &&& (2147483647 : Int32)) % (9 : Int32))), (.int (1 : Int32))])) _
    refine XS.iadd X1.here hx rfl (hb hby at_82) rfl ?_
    show Steps p.tables e below (T1.setTop (mkF m 83 #[.val (.int p1), .val (.int p2), .val (.int (0 : Int32)), .val (.ref w_CHARACTERS), .val (.int (0 : Int32)), .val (.int (9 : Int32)), .unset, .unset] [(.int ((1 : Int32) + ((p2 &&& (2147483647 : Int32)) % (9 : Int32))))])) _
    rw [hz]
    show Steps p.tables e below (T1.setTop (mkF m 83 #[.val (.int p1), .val (.int p2), .val (.int (0 : Int32)), .val (.ref w_CHARACTERS), .val (.int (0 : Int32)), .val (.int (9 : Int32)), .unset, .unset] [(.int z)])) _
    refine XS.istore X1.here hx rfl (hb hby at_83) rfl (l' := #[.val (.int p1), .val (.int p2), .val (.int (0 : Int32)), .val (.ref w_CHARACTERS), .val (.int (0 : Int32)), .val (.int (9 : Int32)), .val (.int z), .unset]) rfl ?_
    show Steps p.tables e below (T1.setTop (mkF m 85 #[.val (.int p1), .val (.int p2), .val (.int (0 : Int32)), .val (.ref w_CHARACTERS), .val (.int (0 : Int32)), .val (.int (9 : Int32)), .val (.int z), .unset] [])) _
    refine XS.aloadN X1.here hx rfl (hb hby at_85) rfl rfl ?_
    show Steps p.tables e below (T1.setTop (mkF m 86 #[.val (.int p1), .val (.int p2), .val (.int (0 : Int32)), .val (.ref w_CHARACTERS), .val (.int (0 : Int32)), .val (.int (9 : Int32)), .val (.int z), .unset] [(.ref w_CHARACTERS)])) _
    refine XS.iload X1.here hx rfl (hb hby at_86) rfl ?_
    show Steps p.tables e below (T1.setTop (mkF m 88 #[.val (.int p1), .val (.int p2), .val (.int (0 : Int32)), .val (.ref w_CHARACTERS), .val (.int (0 : Int32)), .val (.int (9 : Int32)), .val (.int z), .unset] [(.int z), (.ref w_CHARACTERS)])) _
    refine st2.trans ?_
    show Steps p.tables e below (T2.setTop (mkF m 91 #[.val (.int p1), .val (.int p2), .val (.int (0 : Int32)), .val (.ref w_CHARACTERS), .val (.int (0 : Int32)), .val (.int (9 : Int32)), .val (.int z), .unset] [(.int kk)])) _
    refine XS.istore X2.here hx rfl (hb hby at_91) rfl (l' := #[.val (.int p1), .val (.int p2), .val (.int (0 : Int32)), .val (.ref w_CHARACTERS), .val (.int (0 : Int32)), .val (.int (9 : Int32)), .val (.int z), .val (.int kk)]) rfl ?_
    show Steps p.tables e below (T2.setTop (mkF m 93 #[.val (.int p1), .val (.int p2), .val (.int (0 : Int32)), .val (.ref w_CHARACTERS), .val (.int (0 : Int32)), .val (.int (9 : Int32)), .val (.int z), .val (.int kk)] [])) _
    refine XS.iload X2.here hx rfl (hb hby at_93) rfl ?_
    show Steps p.tables e below (T2.setTop (mkF m 95 #[.val (.int p1), .val (.int p2), .val (.int (0 : Int32)), .val (.ref w_CHARACTERS), .val (.int (0 : Int32)), .val (.int (9 : Int32)), .val (.int z), .val (.int kk)] [(.int kk)])) _
    refine XS.iload X2.here hx rfl (hb hby at_95) rfl ?_
    show Steps p.tables e below (T2.setTop (mkF m 97 #[.val (.int p1), .val (.int p2), .val (.int (0 : Int32)), .val (.ref w_CHARACTERS), .val (.int (0 : Int32)), .val (.int (9 : Int32)), .val (.int z), .val (.int kk)] [(.int (0 : Int32)), (.int kk)])) _
    refine XS.iload X2.here hx rfl (hb hby at_97) rfl ?_
    show Steps p.tables e below (T2.setTop (mkF m 99 #[.val (.int p1), .val (.int p2), .val (.int (0 : Int32)), .val (.ref w_CHARACTERS), .val (.int (0 : Int32)), .val (.int (9 : Int32)), .val (.int z), .val (.int kk)] [(.int z), (.int (0 : Int32)), (.int kk)])) _
    refine XS.iadd X2.here hx rfl (hb hby at_99) rfl ?_
    show Steps p.tables e below (T2.setTop (mkF m 100 #[.val (.int p1), .val (.int p2), .val (.int (0 : Int32)), .val (.ref w_CHARACTERS), .val (.int (0 : Int32)), .val (.int (9 : Int32)), .val (.int z), .val (.int kk)] [(.int ((0 : Int32) + z)), (.int kk)])) _
    refine XS.iconst X2.here hx rfl (hb hby at_100) ?_
    show Steps p.tables e below (T2.setTop (mkF m 101 #[.val (.int p1), .val (.int p2), .val (.int (0 : Int32)), .val (.ref w_CHARACTERS), .val (.int (0 : Int32)), .val (.int (9 : Int32)), .val (.int z), .val (.int kk)] [(.int (1 : Int32)), (.int ((0 : Int32) + z)), (.int kk)])) _
    refine XS.isub X2.here hx rfl (hb hby at_101) rfl ?_
    show Steps p.tables e below (T2.setTop (mkF m 102 #[.val (.int p1), .val (.int p2), .val (.int (0 : Int32)), .val (.ref w_CHARACTERS), .val (.int (0 : Int32)), .val (.int (9 : Int32)), .val (.int z), .val (.int kk)] [(.int (((0 : Int32) + z) - (1 : Int32))), (.int kk)])) _
    rw [hbb]
    show Steps p.tables e below (T2.setTop (mkF m 102 #[.val (.int p1), .val (.int p2), .val (.int (0 : Int32)), .val (.ref w_CHARACTERS), .val (.int (0 : Int32)), .val (.int (9 : Int32)), .val (.int z), .val (.int kk)] [(.int kk), (.int kk)])) _
    refine XS.icmpYes X2.here hx rfl (pc0 := 102) (pc' := 107) rfl (hb hby at_102) rfl (teq rfl).1 (by decide) (by decide) ?_
    show Steps p.tables e below (T2.setTop (mkF m 107 #[.val (.int p1), .val (.int p2), .val (.int (0 : Int32)), .val (.ref w_CHARACTERS), .val (.int (0 : Int32)), .val (.int (9 : Int32)), .val (.int z), .val (.int kk)] [])) _
    refine XS.iload X2.here hx rfl (hb hby at_107) rfl ?_
    show Steps p.tables e below (T2.setTop (mkF m 109 #[.val (.int p1), .val (.int p2), .val (.int (0 : Int32)), .val (.ref w_CHARACTERS), .val (.int (0 : Int32)), .val (.int (9 : Int32)), .val (.int z), .val (.int kk)] [(.int kk)])) _
    refine XS.ifNo X2.here hx rfl (hb hby at_109) rfl ((if0 _ _).trans (flt hl).1) ?_
    show Steps p.tables e below (T2.setTop (mkF m 112 #[.val (.int p1), .val (.int p2), .val (.int (0 : Int32)), .val (.ref w_CHARACTERS), .val (.int (0 : Int32)), .val (.int (9 : Int32)), .val (.int z), .val (.int kk)] [])) _
    refine XS.iload X2.here hx rfl (hb hby at_112) rfl ?_
    show Steps p.tables e below (T2.setTop (mkF m 114 #[.val (.int p1), .val (.int p2), .val (.int (0 : Int32)), .val (.ref w_CHARACTERS), .val (.int (0 : Int32)), .val (.int (9 : Int32)), .val (.int z), .val (.int kk)] [(.int kk)])) _
    refine XS.bipush X2.here hx rfl (hb hby at_114) ?_
    show Steps p.tables e below (T2.setTop (mkF m 116 #[.val (.int p1), .val (.int p2), .val (.int (0 : Int32)), .val (.ref w_CHARACTERS), .val (.int (0 : Int32)), .val (.int (9 : Int32)), .val (.int z), .val (.int kk)] [(.int (34 : Int32)), (.int kk)])) _
    refine XS.icmpYes X2.here hx rfl (pc0 := 116) (pc' := 121) rfl (hb hby at_116) rfl (tlt hu).1 (by decide) (by decide) ?_
    show Steps p.tables e below (T2.setTop (mkF m 121 #[.val (.int p1), .val (.int p2), .val (.int (0 : Int32)), .val (.ref w_CHARACTERS), .val (.int (0 : Int32)), .val (.int (9 : Int32)), .val (.int z), .val (.int kk)] [])) _
    refine XS.iload X2.here hx rfl (hb hby at_121) rfl ?_
    show Steps p.tables e below (T2.setTop (mkF m 123 #[.val (.int p1), .val (.int p2), .val (.int (0 : Int32)), .val (.ref w_CHARACTERS), .val (.int (0 : Int32)), .val (.int (9 : Int32)), .val (.int z), .val (.int kk)] [(.int kk)])) _
    refine st3 _ ?_
    show Steps p.tables e below (T3.setTop (mkF m 126 #[.val (.int p1), .val (.int p2), .val (.int (0 : Int32)), .val (.ref w_CHARACTERS), .val (.int (0 : Int32)), .val (.int (9 : Int32)), .val (.int z), .val (.int kk)] [(.ref w_CHARACTERS)])) _
    refine XS.aloadN X3.here hx rfl (hb hby at_126) rfl rfl ?_
    show Steps p.tables e below (T3.setTop (mkF m 127 #[.val (.int p1), .val (.int p2), .val (.int (0 : Int32)), .val (.ref w_CHARACTERS), .val (.int (0 : Int32)), .val (.int (9 : Int32)), .val (.int z), .val (.int kk)] [(.ref w_CHARACTERS), (.ref w_CHARACTERS)])) _
    refine Jvm.RoadKit.acmp (g := (mkF m 127 #[.val (.int p1), .val (.int p2), .val (.int (0 : Int32)), .val (.ref w_CHARACTERS), .val (.int (0 : Int32)), .val (.int (9 : Int32)), .val (.int z), .val (.int kk)] [(.ref w_CHARACTERS), (.ref w_CHARACTERS)])) X3 hx rfl rfl rfl (pc0 := 127) (pc' := 130) (same := true) rfl (hb hby at_127) rfl (decide_eq_true rfl) (by decide) (by decide) ?_
    show Steps p.tables e below (T3.setTop (mkF m 130 #[.val (.int p1), .val (.int p2), .val (.int (0 : Int32)), .val (.ref w_CHARACTERS), .val (.int (0 : Int32)), .val (.int (9 : Int32)), .val (.int z), .val (.int kk)] [])) _
    refine XS.iconst X3.here hx rfl (hb hby at_130) ?_
    show Steps p.tables e below (T3.setTop (mkF m 131 #[.val (.int p1), .val (.int p2), .val (.int (0 : Int32)), .val (.ref w_CHARACTERS), .val (.int (0 : Int32)), .val (.int (9 : Int32)), .val (.int z), .val (.int kk)] [(.int (1 : Int32))])) _
    refine XS.goto X3.here hx rfl (pc0 := 131) (pc' := 135) rfl (hb hby at_131) (by decide) (by decide) ?_
    exact k)
  obtain ⟨fs, hr, hrun, hended, hW, hsame⟩ := X3.leave (v := some (.int (1 : Int32))) (fun h => by rw [Bd.returns] at h; cases h)
  refine ⟨_, _, pre4 _ ?_, hrun, hended, _, _, rfl, ?_, ⟨_, rfl⟩, hW, hsame.mono (by decide) (by decide)⟩
  · show Steps p.tables e below (T3.setTop (mkF m 135 #[.val (.int p1), .val (.int p2), .val (.int (0 : Int32)), .val (.ref w_CHARACTERS), .val (.int (0 : Int32)), .val (.int (9 : Int32)), .val (.int z), .val (.int kk)] [(.int (1 : Int32))])) _
    exact retN X3 hx (t := .boolean) Bd.returns (by simp) (hb hby at_135) hr
  · exact ⟨rfl, N3, e3⟩
theorem own_n0 (p2 : Int32) : let z := ((1 : Int32) + ((p2 &&& (2147483647 : Int32)) % (9 : Int32))); let kk := (((0 : Int32) * (9 : Int32)) + z) - (1 : Int32); ((0 : Int32) + z) - (1 : Int32) = kk ∧ ¬ (kk < (0 : Int32)) ∧ kk < (34 : Int32) ∧ kk / (9 : Int32) = (0 : Int32) := by
  intro z kk
  have q0 := c_mask p2 2147483647 31 (by decide) (by decide)
  have q1 := (c_irem (p2 &&& 2147483647) 9 9 (by decide)).1 (by omega)
  have e1 : (1 : Int32).toInt = 1 := by decide
  have a1 := c_iadd 1 ((p2 &&& 2147483647) % 9)
  have r1 := rng32 (1 + ((p2 &&& 2147483647) % 9))
  have hz : z.toInt = 1 + ((p2 &&& 2147483647) % 9 : Int32).toInt := by show (1 + ((p2 &&& 2147483647) % 9) : Int32).toInt = _; omega
  have b : ((0 : Int32) * (9 : Int32)) = (0 : Int32) := by decide
  have eb : (0 : Int32).toInt = 0 := by decide
  have a2 := c_iadd (0) z
  have r2 := rng32 ((0) + z)
  have s1 := c_isub ((0) + z) 1
  have r3 := rng32 ((0) + z - 1)
  have hk : kk = (0 : Int32) + z - 1 := by show ((0 : Int32) * (9 : Int32)) + z - 1 = _; rw [b]
  have hki : kk.toInt = 0 + z.toInt - 1 := by rw [hk]; omega
  have d := (c_idiv kk 9 9 (by decide) (by decide)).1 (by omega)
  have e0 : (0 : Int32).toInt = 0 := by decide
  have e34 : (34 : Int32).toInt = 34 := by decide
  have ek : (0 : Int32).toInt = 0 := by decide
  refine ⟨hk.symm, ?_, ?_, ?_⟩
  · rw [Int32.lt_iff_toInt_lt]; omega
  · rw [Int32.lt_iff_toInt_lt]; omega
  · rw [← Int32.toInt_inj]; omega
theorem ef_ofKind1 (m : MethodId) (x0 : Int32) : entryFrame m #[(.int x0)] 1 = mkF m 0 #[.val (.int x0)] [] := by first | (simp [entryFrame, mkF, argsToLocals, Value.category]; done) | rfl
set_option maxRecDepth 65536 in
set_option maxHeartbeats 40000000 in
theorem rm_ofKind1 (l : Launch) (Z : State) (a0 : Array Value) (hw : ∀ d ∈ tables_1, d.before a0 Z = true) (ws : List Jvm.Cond) (p0 : Int32) (h0 : Heap) (n0 : Nat) (w_CHARACTERS w_ALL w_BAMBOO w_DOTS w_HONOURS : Addr) (hK : own_K Z h0 w_CHARACTERS w_ALL w_BAMBOO w_DOTS w_HONOURS) (hq : p0 / (9 : Int32) = (1 : Int32)) :
    MetFree l (⟨"com/example/tenpai/tenpai/core/Suit", "ofKind", "(I)Lcom/example/tenpai/tenpai/core/Suit;"⟩ : MethodName) (head1 (Jvm.Cond.code (⟨"com/example/tenpai/tenpai/core/Suit", "ofKind", "(I)Lcom/example/tenpai/tenpai/core/Suit;"⟩ : MethodName) prog_25_method_5_code 1 (some (.object "com/example/tenpai/tenpai/core/Suit")) :: ws) ({ frames := 0, cells := 0, slots := 0, locals := 0 } : Room)) (fun a U => a = #[(.int p0)] ∧ Z.Warmed39 U.vm ∧ U.heap = h0) (fun _ _ _ _ _ => True) (fun _ U o U' => ∃ v L, o = .returned v ∧ own_Q (some (.ref w_DOTS)) h0 n0 v U'.heap L ∧ FrameEnd U o U' L ({ frames := 0, cells := 0, slots := 0, locals := 0 } : Room).cells ({ frames := 0, cells := 0, slots := 0, locals := 0 } : Room).slots) := by
  refine MetFree.of_bodySF (plainFor_of_name pn_1) hisR ?_
  intro p e s m args below meth c s₁ Bd hml0 hP hK0
  obtain ⟨rfl, hZ, hh⟩ := hP
  have hx := Bd.exec
  have hby := Bd.bytes
  have hml : c.maxLocals = 1 := hml0
  have hown : s.vm.findClass "com/example/tenpai/tenpai/core/Suit" = some m.cls := findClass_of_methodNamed Bd.named
  have hnm := (name_of_methodNamed Bd.named Bd.method).1
  have X0 : Stand p l e ({ frames := 0, cells := 0, slots := 0, locals := 0 } : Room) s m #[(.int p0)] below meth c s₁ [] 0 0 := Stand.of_body Bd
  have e0 : s₁.heap = h0 := by rw [← hh, Bd.state]; rfl
  have N0 := Fr.nil n0
  have pre0 : ∀ t, Steps p.tables e below (s₁.setTop (mkF m 0 #[.val (.int p0)] [])) t → Steps p.tables e below (s₁.setTop (entryFrame m #[(.int p0)] 1)) t := fun t k => castTop (ef_ofKind1 m p0) k
  have hK' := hK
  obtain ⟨S_w_CHARACTERS, E_w_CHARACTERS, F_ordinal_w_CHARACTERS, S_w_ALL, S_w_BAMBOO, E_w_BAMBOO, F_ordinal_w_BAMBOO, S_w_DOTS, E_w_DOTS, F_ordinal_w_DOTS, S_w_HONOURS, E_w_HONOURS, F_ordinal_w_HONOURS, B_w_ALL⟩ := hK'
  obtain ⟨cl_w_ALL, A_w_ALL, q_w_ALL⟩ := B_w_ALL
  obtain ⟨T1, X1, e1, st1⟩ := getS2 X0 hx hZ hown (host := "") (Or.inl (hw _ (ow 21 rfl))) Via.refl e0 S_w_ALL (g := (mkF m 0 #[.val (.int p0)] [])) rfl (hb hby d_prog_25_method_5_0)
  have pre2 : ∀ t, Steps p.tables e below (T1.setTop (mkF m 8 #[.val (.int p0)] [(.ref w_DOTS)])) t → Steps p.tables e below (s₁.setTop (entryFrame m #[(.int p0)] 1)) t := fun t k => pre0 t (by
    show Steps p.tables e below (s₁.setTop (mkF m 0 #[.val (.int p0)] [])) _
    refine st1 _ ?_
    show Steps p.tables e below (T1.setTop (mkF m 3 #[.val (.int p0)] [(.ref w_ALL)])) _
    refine XS.iloadN X1.here hx rfl (hb hby d_prog_25_method_5_3) rfl ?_
    show Steps p.tables e below (T1.setTop (mkF m 4 #[.val (.int p0)] [(.int p0), (.ref w_ALL)])) _
    refine XS.bipush X1.here hx rfl (hb hby d_prog_25_method_5_4) ?_
    show Steps p.tables e below (T1.setTop (mkF m 6 #[.val (.int p0)] [(.int (9 : Int32)), (.int p0), (.ref w_ALL)])) _
    refine XS.idiv X1.here hx rfl (hb hby d_prog_25_method_5_6) rfl (by decide) ?_
    show Steps p.tables e below (T1.setTop (mkF m 7 #[.val (.int p0)] [(.int (p0 / (9 : Int32))), (.ref w_ALL)])) _
    rw [hq]
    show Steps p.tables e below (T1.setTop (mkF m 7 #[.val (.int p0)] [(.int (1 : Int32)), (.ref w_ALL)])) _
    refine X1.aaload hx (j := (1 : Int32)) (v := (.ref w_DOTS)) (by rw [e1]; exact A_w_ALL.1) (State.isArrayOf_alike hZ.alike A_w_ALL.2.1) rfl A_w_ALL.2.2 (own_get (v := (.ref w_DOTS)) q_w_ALL (by decide) rfl).1 (own_get q_w_ALL (by decide) rfl).2 (g := (mkF m 7 #[.val (.int p0)] [(.int (1 : Int32)), (.ref w_ALL)])) rfl rfl (hb hby d_prog_25_method_5_7) _ ?_
    exact k)
  obtain ⟨fs, hr, hrun, hended, hW, hsame⟩ := X1.leave (v := some (.ref w_DOTS)) (fun h => by rw [Bd.returns] at h; cases h)
  refine ⟨_, _, pre2 _ ?_, hrun, hended, _, _, rfl, ?_, ⟨_, rfl⟩, hW, hsame.mono (by decide) (by decide)⟩
  · show Steps p.tables e below (T1.setTop (mkF m 8 #[.val (.int p0)] [(.ref w_DOTS)])) _
    exact retOut X1 hx Bd.returns rfl (Or.inr (Or.inr (Or.inr (Or.inr ⟨rfl, rfl, rfl⟩)))) (hb hby d_prog_25_method_5_8) hr
  · exact ⟨rfl, N0, e1⟩
theorem ef_law1 (m : MethodId) (x0 : Int32) (x1 : Int32) : entryFrame m #[(.int x0), (.int x1)] maxLocals = mkF m 0 #[.val (.int x0), .val (.int x1), .unset, .unset, .unset, .unset, .unset, .unset] [] := by first | (simp [entryFrame, mkF, argsToLocals, Value.category, maxLocals]; done) | rfl
set_option maxRecDepth 65536 in
set_option maxHeartbeats 40000000 in
theorem rm_law1 (l : Launch) (Z : State) (a0 : Array Value) (hw : ∀ d ∈ tables_1, d.before a0 Z = true) (ws : List Jvm.Cond) (p1 : Int32) (p2 : Int32) (h0 : Heap) (n0 : Nat) (w_CHARACTERS w_ALL w_BAMBOO w_DOTS w_HONOURS : Addr) (hK : own_K Z h0 w_CHARACTERS w_ALL w_BAMBOO w_DOTS w_HONOURS) (z kk : Int32) (hk : (p1 &&& (3 : Int32)) = (1 : Int32)) (hz : ((1 : Int32) + ((p2 &&& (2147483647 : Int32)) % (9 : Int32))) = z) (hkk : ((((1 : Int32) * (9 : Int32)) + z) - (1 : Int32)) = kk) (hbb : (((9 : Int32) + z) - (1 : Int32)) = kk) (hl : ¬ (kk < (0 : Int32))) (hu : kk < (34 : Int32)) (hq : kk / (9 : Int32) = (1 : Int32)) :
    MetFree l x (head1 (Jvm.Cond.code x code maxLocals ret :: ws) room_1) (fun a U => a = #[(.int p1), (.int p2)] ∧ Z.Warmed39 U.vm ∧ U.heap = h0) (fun _ _ _ _ _ => True) (fun _ U o U' => ∃ v L, o = .returned v ∧ own_Q (some (.int (1 : Int32))) h0 n0 v U'.heap L ∧ FrameEnd U o U' L room_1.cells room_1.slots) := by
  refine MetFree.of_bodySF (plainFor_of_name pn_2) hisR ?_
  intro p e s m args below meth c s₁ Bd hml0 hP hK0
  obtain ⟨rfl, hZ, hh⟩ := hP
  have hx := Bd.exec
  have hby := Bd.bytes
  have hml : c.maxLocals = 8 := hml0
  have hown : s.vm.findClass "com/example/tenpai/tenpai/core/SuitKindPinLaw" = some m.cls := findClass_of_methodNamed Bd.named
  have hnm := (name_of_methodNamed Bd.named Bd.method).1
  have X0 : Stand p l e room_1 s m #[(.int p1), (.int p2)] below meth c s₁ [] 0 0 := Stand.of_body Bd
  have e0 : s₁.heap = h0 := by rw [← hh, Bd.state]; rfl
  have N0 := Fr.nil n0
  have pre0 : ∀ t, Steps p.tables e below (s₁.setTop (mkF m 0 #[.val (.int p1), .val (.int p2), .unset, .unset, .unset, .unset, .unset, .unset] [])) t → Steps p.tables e below (s₁.setTop (entryFrame m #[(.int p1), (.int p2)] maxLocals)) t := fun t k => castTop (ef_law1 m p1 p2) k
  have hK' := hK
  obtain ⟨S_w_CHARACTERS, E_w_CHARACTERS, F_ordinal_w_CHARACTERS, S_w_ALL, S_w_BAMBOO, E_w_BAMBOO, F_ordinal_w_BAMBOO, S_w_DOTS, E_w_DOTS, F_ordinal_w_DOTS, S_w_HONOURS, E_w_HONOURS, F_ordinal_w_HONOURS, B_w_ALL⟩ := hK'
  obtain ⟨cl_w_ALL, A_w_ALL, q_w_ALL⟩ := B_w_ALL
  obtain ⟨T1, X1, e1, st1⟩ := getS2 X0 hx hZ hown (host := "") (Or.inl (hw _ (ow 25 rfl))) Via.refl e0 S_w_DOTS (g := (mkF m 27 #[.val (.int p1), .val (.int p2), .val (.int (1 : Int32)), .unset, .unset, .unset, .unset, .unset] [])) rfl (hb hby at_27)
  obtain ⟨cq2, kq2, q2a, q2b, q2c⟩ := isOf hZ e1 E_w_DOTS
  obtain ⟨v2, _, ⟨T2, L2, k2, n2⟩, -, X2, ⟨Lc2, hQ2, l2, y2, z2⟩, st2⟩ := X1.virtualBack hx (y := (⟨"com/example/tenpai/tenpai/core/Suit", "kind", "(I)I"⟩ : MethodName)) (z := (⟨"com/example/tenpai/tenpai/core/Suit", "kind", "(I)I"⟩ : MethodName)) hown (mvT hZ (hw _ (ow 4 rfl))) (mvT hZ (hw _ (ow 5 rfl))) (notFace_of_selects (args := #[]) (mvT hZ (hw _ (ow 7 rfl)))) (mvT hZ (hw _ (ow 7 rfl))) (mvT hZ (hw _ (ow 6 rfl))) (by decide) (backOf (W := 0) (rm_kind l Z a0 hw [] w_DOTS z (1 : Int32) h0 n0 w_CHARACTERS w_ALL w_BAMBOO w_DOTS w_HONOURS hK F_ordinal_w_DOTS E_w_DOTS) hZ (hw _ (ow 8 rfl)) (hw _ (ow 1 rfl)) (by decide) (by decide)) q2a q2c (g := (mkF m 88 #[.val (.int p1), .val (.int p2), .val (.int (1 : Int32)), .val (.ref w_DOTS), .val (.int (9 : Int32)), .val (.int (9 : Int32)), .val (.int z), .unset] [(.int z), (.ref w_DOTS)])) rfl (by rw [hml]; rfl) (Steps.refl _) (argsL := [(.int z)]) (rest := []) (lenOf pd_1 rfl) rfl (Nat.le_of_eq rfl) (hb hby at_88) (fun _ _ => ⟨rfl, e1, (by decide : 0 + 0 ≤ _), (by decide : 0 + 0 ≤ _)⟩)
  dsimp only [Pt.U, Pt.locs, Pt.cells, Pt.slots] at X2 l2 y2 z2 st2 hQ2
  subst l2 y2 z2
  obtain ⟨hv2, Nq2, e2⟩ := hQ2
  obtain rfl : v2 = some (.int kk) := hv2.trans (congrArg some (congrArg Value.int hkk))
  have N2 := Fr.app N0 Nq2
  obtain ⟨v3, _, ⟨T3, L3, k3, n3⟩, -, X3, ⟨Lc3, hQ3, l3, y3, z3⟩, st3⟩ := Jvm.LawKit.callS X2 hx (y := (⟨"com/example/tenpai/tenpai/core/Suit", "ofKind", "(I)Lcom/example/tenpai/tenpai/core/Suit;"⟩ : MethodName)) hown (mvT hZ (hw _ (ow 18 rfl))) (mvT hZ (hw _ (ow 19 rfl))) (mvT hZ (hw _ (ow 1 rfl))) (mvT hZ (hw _ (ow 20 rfl))) (by decide) (backOf (W := 0) (rm_ofKind1 l Z a0 hw [] kk h0 n0 w_CHARACTERS w_ALL w_BAMBOO w_DOTS w_HONOURS hK hq) hZ (hw _ (ow 20 rfl)) (hw _ (ow 1 rfl)) (by decide) (by decide)) (g := (mkF m 123 #[.val (.int p1), .val (.int p2), .val (.int (1 : Int32)), .val (.ref w_DOTS), .val (.int (9 : Int32)), .val (.int (9 : Int32)), .val (.int z), .val (.int kk)] [(.int kk)])) rfl (by rw [hml]; rfl) (argsL := [(.int kk)]) (rest := []) (lenOf pd_2 rfl) rfl (Nat.le_of_eq rfl) (hb hby at_123) (fun _ _ => ⟨rfl, e2, (by decide : 0 + 0 ≤ _), (by decide : 0 + 0 ≤ _)⟩)
  dsimp only [Pt.U, Pt.locs, Pt.cells, Pt.slots] at X3 l3 y3 z3 st3 hQ3
  subst l3 y3 z3
  obtain ⟨hv3, Nq3, e3⟩ := hQ3
  obtain rfl : v3 = some (.ref w_DOTS) := hv3
  have N3 := Fr.app N2 Nq3
  have pre4 : ∀ t, Steps p.tables e below (T3.setTop (mkF m 135 #[.val (.int p1), .val (.int p2), .val (.int (1 : Int32)), .val (.ref w_DOTS), .val (.int (9 : Int32)), .val (.int (9 : Int32)), .val (.int z), .val (.int kk)] [(.int (1 : Int32))])) t → Steps p.tables e below (s₁.setTop (entryFrame m #[(.int p1), (.int p2)] maxLocals)) t := fun t k => pre0 t (by
    show Steps p.tables e below (s₁.setTop (mkF m 0 #[.val (.int p1), .val (.int p2), .unset, .unset, .unset, .unset, .unset, .unset] [])) _
    refine XS.iloadN X0.here hx rfl (hb hby at_0) rfl ?_
    show Steps p.tables e below (s₁.setTop (mkF m 1 #[.val (.int p1), .val (.int p2), .unset, .unset, .unset, .unset, .unset, .unset] [(.int p1)])) _
    refine XS.iconst X0.here hx rfl (hb hby at_1) ?_
    show Steps p.tables e below (s₁.setTop (mkF m 2 #[.val (.int p1), .val (.int p2), .unset, .unset, .unset, .unset, .unset, .unset] [(.int (3 : Int32)), (.int p1)])) _
    refine XS.iand X0.here hx rfl (hb hby at_2) rfl ?_
    show Steps p.tables e below (s₁.setTop (mkF m 3 #[.val (.int p1), .val (.int p2), .unset, .unset, .unset, .unset, .unset, .unset] [(.int (p1 &&& (3 : Int32)))])) _
    rw [hk]
    show Steps p.tables e below (s₁.setTop (mkF m 3 #[.val (.int p1), .val (.int p2), .unset, .unset, .unset, .unset, .unset, .unset] [(.int (1 : Int32))])) _
    refine XS.istoreN X0.here hx rfl (hb hby at_3) rfl (l' := #[.val (.int p1), .val (.int p2), .val (.int (1 : Int32)), .unset, .unset, .unset, .unset, .unset]) rfl ?_
    show Steps p.tables e below (s₁.setTop (mkF m 4 #[.val (.int p1), .val (.int p2), .val (.int (1 : Int32)), .unset, .unset, .unset, .unset, .unset] [])) _
    refine XS.iloadN X0.here hx rfl (hb hby at_4) rfl ?_
    show Steps p.tables e below (s₁.setTop (mkF m 5 #[.val (.int p1), .val (.int p2), .val (.int (1 : Int32)), .unset, .unset, .unset, .unset, .unset] [(.int (1 : Int32))])) _
    refine XS.ifYes X0.here hx rfl (pc0 := 5) (pc' := 22) rfl (hb hby at_5) rfl ((if0 _ _).trans (feq (by decide)).2) (by decide) (by decide) ?_
    show Steps p.tables e below (s₁.setTop (mkF m 22 #[.val (.int p1), .val (.int p2), .val (.int (1 : Int32)), .unset, .unset, .unset, .unset, .unset] [])) _
    refine XS.iloadN X0.here hx rfl (hb hby at_22) rfl ?_
    show Steps p.tables e below (s₁.setTop (mkF m 23 #[.val (.int p1), .val (.int p2), .val (.int (1 : Int32)), .unset, .unset, .unset, .unset, .unset] [(.int (1 : Int32))])) _
    refine XS.iconst X0.here hx rfl (hb hby at_23) ?_
    show Steps p.tables e below (s₁.setTop (mkF m 24 #[.val (.int p1), .val (.int p2), .val (.int (1 : Int32)), .unset, .unset, .unset, .unset, .unset] [(.int (1 : Int32)), (.int (1 : Int32))])) _
    refine XS.icmpNo X0.here hx rfl (hb hby at_24) rfl (teq (by decide)).2 ?_
    show Steps p.tables e below (s₁.setTop (mkF m 27 #[.val (.int p1), .val (.int p2), .val (.int (1 : Int32)), .unset, .unset, .unset, .unset, .unset] [])) _
    refine st1 _ ?_
    show Steps p.tables e below (T1.setTop (mkF m 30 #[.val (.int p1), .val (.int p2), .val (.int (1 : Int32)), .unset, .unset, .unset, .unset, .unset] [(.ref w_DOTS)])) _
    refine XS.astoreN X1.here hx rfl (hb hby at_30) rfl rfl (l' := #[.val (.int p1), .val (.int p2), .val (.int (1 : Int32)), .val (.ref w_DOTS), .unset, .unset, .unset, .unset]) rfl ?_
    show Steps p.tables e below (T1.setTop (mkF m 31 #[.val (.int p1), .val (.int p2), .val (.int (1 : Int32)), .val (.ref w_DOTS), .unset, .unset, .unset, .unset] [])) _
    refine XS.bipush X1.here hx rfl (hb hby at_31) ?_
    show Steps p.tables e below (T1.setTop (mkF m 33 #[.val (.int p1), .val (.int p2), .val (.int (1 : Int32)), .val (.ref w_DOTS), .unset, .unset, .unset, .unset] [(.int (9 : Int32))])) _
    refine XS.istore X1.here hx rfl (hb hby at_33) rfl (l' := #[.val (.int p1), .val (.int p2), .val (.int (1 : Int32)), .val (.ref w_DOTS), .val (.int (9 : Int32)), .unset, .unset, .unset]) rfl ?_
    show Steps p.tables e below (T1.setTop (mkF m 35 #[.val (.int p1), .val (.int p2), .val (.int (1 : Int32)), .val (.ref w_DOTS), .val (.int (9 : Int32)), .unset, .unset, .unset] [])) _
    refine XS.bipush X1.here hx rfl (hb hby at_35) ?_
    show Steps p.tables e below (T1.setTop (mkF m 37 #[.val (.int p1), .val (.int p2), .val (.int (1 : Int32)), .val (.ref w_DOTS), .val (.int (9 : Int32)), .unset, .unset, .unset] [(.int (9 : Int32))])) _
    refine XS.istore X1.here hx rfl (hb hby at_37) rfl (l' := #[.val (.int p1), .val (.int p2), .val (.int (1 : Int32)), .val (.ref w_DOTS), .val (.int (9 : Int32)), .val (.int (9 : Int32)), .unset, .unset]) rfl ?_
    show Steps p.tables e below (T1.setTop (mkF m 39 #[.val (.int p1), .val (.int p2), .val (.int (1 : Int32)), .val (.ref w_DOTS), .val (.int (9 : Int32)), .val (.int (9 : Int32)), .unset, .unset] [])) _
    refine XS.goto X1.here hx rfl (pc0 := 39) (pc' := 74) rfl (hb hby at_39) (by decide) (by decide) ?_
    show Steps p.tables e below (T1.setTop (mkF m 74 #[.val (.int p1), .val (.int p2), .val (.int (1 : Int32)), .val (.ref w_DOTS), .val (.int (9 : Int32)), .val (.int (9 : Int32)), .unset, .unset] [])) _
    refine XS.iconst X1.here hx rfl (hb hby at_74) ?_
    show Steps p.tables e below (T1.setTop (mkF m 75 #[.val (.int p1), .val (.int p2), .val (.int (1 : Int32)), .val (.ref w_DOTS), .val (.int (9 : Int32)), .val (.int (9 : Int32)), .unset, .unset] [(.int (1 : Int32))])) _
    refine XS.iloadN X1.here hx rfl (hb hby at_75) rfl ?_
    show Steps p.tables e below (T1.setTop (mkF m 76 #[.val (.int p1), .val (.int p2), .val (.int (1 : Int32)), .val (.ref w_DOTS), .val (.int (9 : Int32)), .val (.int (9 : Int32)), .unset, .unset] [(.int p2), (.int (1 : Int32))])) _
    refine X1.ldcInt hx hown (mvT hZ (hw _ (ow 3 rfl))) (g := (mkF m 76 #[.val (.int p1), .val (.int p2), .val (.int (1 : Int32)), .val (.ref w_DOTS), .val (.int (9 : Int32)), .val (.int (9 : Int32)), .unset, .unset] [(.int p2), (.int (1 : Int32))])) rfl (hb hby at_76) _ ?_
    show Steps p.tables e below (T1.setTop (mkF m 78 #[.val (.int p1), .val (.int p2), .val (.int (1 : Int32)), .val (.ref w_DOTS), .val (.int (9 : Int32)), .val (.int (9 : Int32)), .unset, .unset] [(.int (2147483647 : Int32)), (.int p2), (.int (1 : Int32))])) _
    refine XS.iand X1.here hx rfl (hb hby at_78) rfl ?_
    show Steps p.tables e below (T1.setTop (mkF m 79 #[.val (.int p1), .val (.int p2), .val (.int (1 : Int32)), .val (.ref w_DOTS), .val (.int (9 : Int32)), .val (.int (9 : Int32)), .unset, .unset] [(.int (p2 &&& (2147483647 : Int32))), (.int (1 : Int32))])) _
    refine XS.iload X1.here hx rfl (hb hby at_79) rfl ?_
    show Steps p.tables e below (T1.setTop (mkF m 81 #[.val (.int p1), .val (.int p2), .val (.int (1 : Int32)), .val (.ref w_DOTS), .val (.int (9 : Int32)), .val (.int (9 : Int32)), .unset, .unset] [(.int (9 : Int32)), (.int (p2 &&& (2147483647 : Int32))), (.int (1 : Int32))])) _
    refine iremM X1 hx rfl (hb hby at_81) rfl (by decide) ?_
    show Steps p.tables e below (T1.setTop (mkF m 82 #[.val (.int p1), .val (.int p2), .val (.int (1 : Int32)), .val (.ref w_DOTS), .val (.int (9 : Int32)), .val (.int (9 : Int32)), .unset, .unset] [(.int ((p2 &&& (2147483647 : Int32)) % (9 : Int32))), (.int (1 : Int32))])) _
    refine XS.iadd X1.here hx rfl (hb hby at_82) rfl ?_
    show Steps p.tables e below (T1.setTop (mkF m 83 #[.val (.int p1), .val (.int p2), .val (.int (1 : Int32)), .val (.ref w_DOTS), .val (.int (9 : Int32)), .val (.int (9 : Int32)), .unset, .unset] [(.int ((1 : Int32) + ((p2 &&& (2147483647 : Int32)) % (9 : Int32))))])) _
    rw [hz]
    show Steps p.tables e below (T1.setTop (mkF m 83 #[.val (.int p1), .val (.int p2), .val (.int (1 : Int32)), .val (.ref w_DOTS), .val (.int (9 : Int32)), .val (.int (9 : Int32)), .unset, .unset] [(.int z)])) _
    refine XS.istore X1.here hx rfl (hb hby at_83) rfl (l' := #[.val (.int p1), .val (.int p2), .val (.int (1 : Int32)), .val (.ref w_DOTS), .val (.int (9 : Int32)), .val (.int (9 : Int32)), .val (.int z), .unset]) rfl ?_
    show Steps p.tables e below (T1.setTop (mkF m 85 #[.val (.int p1), .val (.int p2), .val (.int (1 : Int32)), .val (.ref w_DOTS), .val (.int (9 : Int32)), .val (.int (9 : Int32)), .val (.int z), .unset] [])) _
    refine XS.aloadN X1.here hx rfl (hb hby at_85) rfl rfl ?_
    show Steps p.tables e below (T1.setTop (mkF m 86 #[.val (.int p1), .val (.int p2), .val (.int (1 : Int32)), .val (.ref w_DOTS), .val (.int (9 : Int32)), .val (.int (9 : Int32)), .val (.int z), .unset] [(.ref w_DOTS)])) _
    refine XS.iload X1.here hx rfl (hb hby at_86) rfl ?_
    show Steps p.tables e below (T1.setTop (mkF m 88 #[.val (.int p1), .val (.int p2), .val (.int (1 : Int32)), .val (.ref w_DOTS), .val (.int (9 : Int32)), .val (.int (9 : Int32)), .val (.int z), .unset] [(.int z), (.ref w_DOTS)])) _
    refine st2.trans ?_
    show Steps p.tables e below (T2.setTop (mkF m 91 #[.val (.int p1), .val (.int p2), .val (.int (1 : Int32)), .val (.ref w_DOTS), .val (.int (9 : Int32)), .val (.int (9 : Int32)), .val (.int z), .unset] [(.int kk)])) _
    refine XS.istore X2.here hx rfl (hb hby at_91) rfl (l' := #[.val (.int p1), .val (.int p2), .val (.int (1 : Int32)), .val (.ref w_DOTS), .val (.int (9 : Int32)), .val (.int (9 : Int32)), .val (.int z), .val (.int kk)]) rfl ?_
    show Steps p.tables e below (T2.setTop (mkF m 93 #[.val (.int p1), .val (.int p2), .val (.int (1 : Int32)), .val (.ref w_DOTS), .val (.int (9 : Int32)), .val (.int (9 : Int32)), .val (.int z), .val (.int kk)] [])) _
    refine XS.iload X2.here hx rfl (hb hby at_93) rfl ?_
    show Steps p.tables e below (T2.setTop (mkF m 95 #[.val (.int p1), .val (.int p2), .val (.int (1 : Int32)), .val (.ref w_DOTS), .val (.int (9 : Int32)), .val (.int (9 : Int32)), .val (.int z), .val (.int kk)] [(.int kk)])) _
    refine XS.iload X2.here hx rfl (hb hby at_95) rfl ?_
    show Steps p.tables e below (T2.setTop (mkF m 97 #[.val (.int p1), .val (.int p2), .val (.int (1 : Int32)), .val (.ref w_DOTS), .val (.int (9 : Int32)), .val (.int (9 : Int32)), .val (.int z), .val (.int kk)] [(.int (9 : Int32)), (.int kk)])) _
    refine XS.iload X2.here hx rfl (hb hby at_97) rfl ?_
    show Steps p.tables e below (T2.setTop (mkF m 99 #[.val (.int p1), .val (.int p2), .val (.int (1 : Int32)), .val (.ref w_DOTS), .val (.int (9 : Int32)), .val (.int (9 : Int32)), .val (.int z), .val (.int kk)] [(.int z), (.int (9 : Int32)), (.int kk)])) _
    refine XS.iadd X2.here hx rfl (hb hby at_99) rfl ?_
    show Steps p.tables e below (T2.setTop (mkF m 100 #[.val (.int p1), .val (.int p2), .val (.int (1 : Int32)), .val (.ref w_DOTS), .val (.int (9 : Int32)), .val (.int (9 : Int32)), .val (.int z), .val (.int kk)] [(.int ((9 : Int32) + z)), (.int kk)])) _
    refine XS.iconst X2.here hx rfl (hb hby at_100) ?_
    show Steps p.tables e below (T2.setTop (mkF m 101 #[.val (.int p1), .val (.int p2), .val (.int (1 : Int32)), .val (.ref w_DOTS), .val (.int (9 : Int32)), .val (.int (9 : Int32)), .val (.int z), .val (.int kk)] [(.int (1 : Int32)), (.int ((9 : Int32) + z)), (.int kk)])) _
    refine XS.isub X2.here hx rfl (hb hby at_101) rfl ?_
    show Steps p.tables e below (T2.setTop (mkF m 102 #[.val (.int p1), .val (.int p2), .val (.int (1 : Int32)), .val (.ref w_DOTS), .val (.int (9 : Int32)), .val (.int (9 : Int32)), .val (.int z), .val (.int kk)] [(.int (((9 : Int32) + z) - (1 : Int32))), (.int kk)])) _
    rw [hbb]
    show Steps p.tables e below (T2.setTop (mkF m 102 #[.val (.int p1), .val (.int p2), .val (.int (1 : Int32)), .val (.ref w_DOTS), .val (.int (9 : Int32)), .val (.int (9 : Int32)), .val (.int z), .val (.int kk)] [(.int kk), (.int kk)])) _
    refine XS.icmpYes X2.here hx rfl (pc0 := 102) (pc' := 107) rfl (hb hby at_102) rfl (teq rfl).1 (by decide) (by decide) ?_
    show Steps p.tables e below (T2.setTop (mkF m 107 #[.val (.int p1), .val (.int p2), .val (.int (1 : Int32)), .val (.ref w_DOTS), .val (.int (9 : Int32)), .val (.int (9 : Int32)), .val (.int z), .val (.int kk)] [])) _
    refine XS.iload X2.here hx rfl (hb hby at_107) rfl ?_
    show Steps p.tables e below (T2.setTop (mkF m 109 #[.val (.int p1), .val (.int p2), .val (.int (1 : Int32)), .val (.ref w_DOTS), .val (.int (9 : Int32)), .val (.int (9 : Int32)), .val (.int z), .val (.int kk)] [(.int kk)])) _
    refine XS.ifNo X2.here hx rfl (hb hby at_109) rfl ((if0 _ _).trans (flt hl).1) ?_
    show Steps p.tables e below (T2.setTop (mkF m 112 #[.val (.int p1), .val (.int p2), .val (.int (1 : Int32)), .val (.ref w_DOTS), .val (.int (9 : Int32)), .val (.int (9 : Int32)), .val (.int z), .val (.int kk)] [])) _
    refine XS.iload X2.here hx rfl (hb hby at_112) rfl ?_
    show Steps p.tables e below (T2.setTop (mkF m 114 #[.val (.int p1), .val (.int p2), .val (.int (1 : Int32)), .val (.ref w_DOTS), .val (.int (9 : Int32)), .val (.int (9 : Int32)), .val (.int z), .val (.int kk)] [(.int kk)])) _
    refine XS.bipush X2.here hx rfl (hb hby at_114) ?_
    show Steps p.tables e below (T2.setTop (mkF m 116 #[.val (.int p1), .val (.int p2), .val (.int (1 : Int32)), .val (.ref w_DOTS), .val (.int (9 : Int32)), .val (.int (9 : Int32)), .val (.int z), .val (.int kk)] [(.int (34 : Int32)), (.int kk)])) _
    refine XS.icmpYes X2.here hx rfl (pc0 := 116) (pc' := 121) rfl (hb hby at_116) rfl (tlt hu).1 (by decide) (by decide) ?_
    show Steps p.tables e below (T2.setTop (mkF m 121 #[.val (.int p1), .val (.int p2), .val (.int (1 : Int32)), .val (.ref w_DOTS), .val (.int (9 : Int32)), .val (.int (9 : Int32)), .val (.int z), .val (.int kk)] [])) _
    refine XS.iload X2.here hx rfl (hb hby at_121) rfl ?_
    show Steps p.tables e below (T2.setTop (mkF m 123 #[.val (.int p1), .val (.int p2), .val (.int (1 : Int32)), .val (.ref w_DOTS), .val (.int (9 : Int32)), .val (.int (9 : Int32)), .val (.int z), .val (.int kk)] [(.int kk)])) _
    refine st3 _ ?_
    show Steps p.tables e below (T3.setTop (mkF m 126 #[.val (.int p1), .val (.int p2), .val (.int (1 : Int32)), .val (.ref w_DOTS), .val (.int (9 : Int32)), .val (.int (9 : Int32)), .val (.int z), .val (.int kk)] [(.ref w_DOTS)])) _
    refine XS.aloadN X3.here hx rfl (hb hby at_126) rfl rfl ?_
    show Steps p.tables e below (T3.setTop (mkF m 127 #[.val (.int p1), .val (.int p2), .val (.int (1 : Int32)), .val (.ref w_DOTS), .val (.int (9 : Int32)), .val (.int (9 : Int32)), .val (.int z), .val (.int kk)] [(.ref w_DOTS), (.ref w_DOTS)])) _
    refine Jvm.RoadKit.acmp (g := (mkF m 127 #[.val (.int p1), .val (.int p2), .val (.int (1 : Int32)), .val (.ref w_DOTS), .val (.int (9 : Int32)), .val (.int (9 : Int32)), .val (.int z), .val (.int kk)] [(.ref w_DOTS), (.ref w_DOTS)])) X3 hx rfl rfl rfl (pc0 := 127) (pc' := 130) (same := true) rfl (hb hby at_127) rfl (decide_eq_true rfl) (by decide) (by decide) ?_
    show Steps p.tables e below (T3.setTop (mkF m 130 #[.val (.int p1), .val (.int p2), .val (.int (1 : Int32)), .val (.ref w_DOTS), .val (.int (9 : Int32)), .val (.int (9 : Int32)), .val (.int z), .val (.int kk)] [])) _
    refine XS.iconst X3.here hx rfl (hb hby at_130) ?_
    show Steps p.tables e below (T3.setTop (mkF m 131 #[.val (.int p1), .val (.int p2), .val (.int (1 : Int32)), .val (.ref w_DOTS), .val (.int (9 : Int32)), .val (.int (9 : Int32)), .val (.int z), .val (.int kk)] [(.int (1 : Int32))])) _
    refine XS.goto X3.here hx rfl (pc0 := 131) (pc' := 135) rfl (hb hby at_131) (by decide) (by decide) ?_
    exact k)
  obtain ⟨fs, hr, hrun, hended, hW, hsame⟩ := X3.leave (v := some (.int (1 : Int32))) (fun h => by rw [Bd.returns] at h; cases h)
  refine ⟨_, _, pre4 _ ?_, hrun, hended, _, _, rfl, ?_, ⟨_, rfl⟩, hW, hsame.mono (by decide) (by decide)⟩
  · show Steps p.tables e below (T3.setTop (mkF m 135 #[.val (.int p1), .val (.int p2), .val (.int (1 : Int32)), .val (.ref w_DOTS), .val (.int (9 : Int32)), .val (.int (9 : Int32)), .val (.int z), .val (.int kk)] [(.int (1 : Int32))])) _
    exact retN X3 hx (t := .boolean) Bd.returns (by simp) (hb hby at_135) hr
  · exact ⟨rfl, N3, e3⟩
theorem own_n1 (p2 : Int32) : let z := ((1 : Int32) + ((p2 &&& (2147483647 : Int32)) % (9 : Int32))); let kk := (((1 : Int32) * (9 : Int32)) + z) - (1 : Int32); ((9 : Int32) + z) - (1 : Int32) = kk ∧ ¬ (kk < (0 : Int32)) ∧ kk < (34 : Int32) ∧ kk / (9 : Int32) = (1 : Int32) := by
  intro z kk
  have q0 := c_mask p2 2147483647 31 (by decide) (by decide)
  have q1 := (c_irem (p2 &&& 2147483647) 9 9 (by decide)).1 (by omega)
  have e1 : (1 : Int32).toInt = 1 := by decide
  have a1 := c_iadd 1 ((p2 &&& 2147483647) % 9)
  have r1 := rng32 (1 + ((p2 &&& 2147483647) % 9))
  have hz : z.toInt = 1 + ((p2 &&& 2147483647) % 9 : Int32).toInt := by show (1 + ((p2 &&& 2147483647) % 9) : Int32).toInt = _; omega
  have b : ((1 : Int32) * (9 : Int32)) = (9 : Int32) := by decide
  have eb : (9 : Int32).toInt = 9 := by decide
  have a2 := c_iadd (9) z
  have r2 := rng32 ((9) + z)
  have s1 := c_isub ((9) + z) 1
  have r3 := rng32 ((9) + z - 1)
  have hk : kk = (9 : Int32) + z - 1 := by show ((1 : Int32) * (9 : Int32)) + z - 1 = _; rw [b]
  have hki : kk.toInt = 9 + z.toInt - 1 := by rw [hk]; omega
  have d := (c_idiv kk 9 9 (by decide) (by decide)).1 (by omega)
  have e0 : (0 : Int32).toInt = 0 := by decide
  have e34 : (34 : Int32).toInt = 34 := by decide
  have ek : (1 : Int32).toInt = 1 := by decide
  refine ⟨hk.symm, ?_, ?_, ?_⟩
  · rw [Int32.lt_iff_toInt_lt]; omega
  · rw [Int32.lt_iff_toInt_lt]; omega
  · rw [← Int32.toInt_inj]; omega
theorem ef_ofKind2 (m : MethodId) (x0 : Int32) : entryFrame m #[(.int x0)] 1 = mkF m 0 #[.val (.int x0)] [] := by first | (simp [entryFrame, mkF, argsToLocals, Value.category]; done) | rfl
set_option maxRecDepth 65536 in
set_option maxHeartbeats 40000000 in
theorem rm_ofKind2 (l : Launch) (Z : State) (a0 : Array Value) (hw : ∀ d ∈ tables_1, d.before a0 Z = true) (ws : List Jvm.Cond) (p0 : Int32) (h0 : Heap) (n0 : Nat) (w_CHARACTERS w_ALL w_BAMBOO w_DOTS w_HONOURS : Addr) (hK : own_K Z h0 w_CHARACTERS w_ALL w_BAMBOO w_DOTS w_HONOURS) (hq : p0 / (9 : Int32) = (2 : Int32)) :
    MetFree l (⟨"com/example/tenpai/tenpai/core/Suit", "ofKind", "(I)Lcom/example/tenpai/tenpai/core/Suit;"⟩ : MethodName) (head1 (Jvm.Cond.code (⟨"com/example/tenpai/tenpai/core/Suit", "ofKind", "(I)Lcom/example/tenpai/tenpai/core/Suit;"⟩ : MethodName) prog_25_method_5_code 1 (some (.object "com/example/tenpai/tenpai/core/Suit")) :: ws) ({ frames := 0, cells := 0, slots := 0, locals := 0 } : Room)) (fun a U => a = #[(.int p0)] ∧ Z.Warmed39 U.vm ∧ U.heap = h0) (fun _ _ _ _ _ => True) (fun _ U o U' => ∃ v L, o = .returned v ∧ own_Q (some (.ref w_BAMBOO)) h0 n0 v U'.heap L ∧ FrameEnd U o U' L ({ frames := 0, cells := 0, slots := 0, locals := 0 } : Room).cells ({ frames := 0, cells := 0, slots := 0, locals := 0 } : Room).slots) := by
  refine MetFree.of_bodySF (plainFor_of_name pn_1) hisR ?_
  intro p e s m args below meth c s₁ Bd hml0 hP hK0
  obtain ⟨rfl, hZ, hh⟩ := hP
  have hx := Bd.exec
  have hby := Bd.bytes
  have hml : c.maxLocals = 1 := hml0
  have hown : s.vm.findClass "com/example/tenpai/tenpai/core/Suit" = some m.cls := findClass_of_methodNamed Bd.named
  have hnm := (name_of_methodNamed Bd.named Bd.method).1
  have X0 : Stand p l e ({ frames := 0, cells := 0, slots := 0, locals := 0 } : Room) s m #[(.int p0)] below meth c s₁ [] 0 0 := Stand.of_body Bd
  have e0 : s₁.heap = h0 := by rw [← hh, Bd.state]; rfl
  have N0 := Fr.nil n0
  have pre0 : ∀ t, Steps p.tables e below (s₁.setTop (mkF m 0 #[.val (.int p0)] [])) t → Steps p.tables e below (s₁.setTop (entryFrame m #[(.int p0)] 1)) t := fun t k => castTop (ef_ofKind2 m p0) k
  have hK' := hK
  obtain ⟨S_w_CHARACTERS, E_w_CHARACTERS, F_ordinal_w_CHARACTERS, S_w_ALL, S_w_BAMBOO, E_w_BAMBOO, F_ordinal_w_BAMBOO, S_w_DOTS, E_w_DOTS, F_ordinal_w_DOTS, S_w_HONOURS, E_w_HONOURS, F_ordinal_w_HONOURS, B_w_ALL⟩ := hK'
  obtain ⟨cl_w_ALL, A_w_ALL, q_w_ALL⟩ := B_w_ALL
  obtain ⟨T1, X1, e1, st1⟩ := getS2 X0 hx hZ hown (host := "") (Or.inl (hw _ (ow 21 rfl))) Via.refl e0 S_w_ALL (g := (mkF m 0 #[.val (.int p0)] [])) rfl (hb hby d_prog_25_method_5_0)
  have pre2 : ∀ t, Steps p.tables e below (T1.setTop (mkF m 8 #[.val (.int p0)] [(.ref w_BAMBOO)])) t → Steps p.tables e below (s₁.setTop (entryFrame m #[(.int p0)] 1)) t := fun t k => pre0 t (by
    show Steps p.tables e below (s₁.setTop (mkF m 0 #[.val (.int p0)] [])) _
    refine st1 _ ?_
    show Steps p.tables e below (T1.setTop (mkF m 3 #[.val (.int p0)] [(.ref w_ALL)])) _
    refine XS.iloadN X1.here hx rfl (hb hby d_prog_25_method_5_3) rfl ?_
    show Steps p.tables e below (T1.setTop (mkF m 4 #[.val (.int p0)] [(.int p0), (.ref w_ALL)])) _
    refine XS.bipush X1.here hx rfl (hb hby d_prog_25_method_5_4) ?_
    show Steps p.tables e below (T1.setTop (mkF m 6 #[.val (.int p0)] [(.int (9 : Int32)), (.int p0), (.ref w_ALL)])) _
    refine XS.idiv X1.here hx rfl (hb hby d_prog_25_method_5_6) rfl (by decide) ?_
    show Steps p.tables e below (T1.setTop (mkF m 7 #[.val (.int p0)] [(.int (p0 / (9 : Int32))), (.ref w_ALL)])) _
    rw [hq]
    show Steps p.tables e below (T1.setTop (mkF m 7 #[.val (.int p0)] [(.int (2 : Int32)), (.ref w_ALL)])) _
    refine X1.aaload hx (j := (2 : Int32)) (v := (.ref w_BAMBOO)) (by rw [e1]; exact A_w_ALL.1) (State.isArrayOf_alike hZ.alike A_w_ALL.2.1) rfl A_w_ALL.2.2 (own_get (v := (.ref w_BAMBOO)) q_w_ALL (by decide) rfl).1 (own_get q_w_ALL (by decide) rfl).2 (g := (mkF m 7 #[.val (.int p0)] [(.int (2 : Int32)), (.ref w_ALL)])) rfl rfl (hb hby d_prog_25_method_5_7) _ ?_
    exact k)
  obtain ⟨fs, hr, hrun, hended, hW, hsame⟩ := X1.leave (v := some (.ref w_BAMBOO)) (fun h => by rw [Bd.returns] at h; cases h)
  refine ⟨_, _, pre2 _ ?_, hrun, hended, _, _, rfl, ?_, ⟨_, rfl⟩, hW, hsame.mono (by decide) (by decide)⟩
  · show Steps p.tables e below (T1.setTop (mkF m 8 #[.val (.int p0)] [(.ref w_BAMBOO)])) _
    exact retOut X1 hx Bd.returns rfl (Or.inr (Or.inr (Or.inr (Or.inr ⟨rfl, rfl, rfl⟩)))) (hb hby d_prog_25_method_5_8) hr
  · exact ⟨rfl, N0, e1⟩
theorem ef_law2 (m : MethodId) (x0 : Int32) (x1 : Int32) : entryFrame m #[(.int x0), (.int x1)] maxLocals = mkF m 0 #[.val (.int x0), .val (.int x1), .unset, .unset, .unset, .unset, .unset, .unset] [] := by first | (simp [entryFrame, mkF, argsToLocals, Value.category, maxLocals]; done) | rfl
set_option maxRecDepth 65536 in
set_option maxHeartbeats 40000000 in
theorem rm_law2 (l : Launch) (Z : State) (a0 : Array Value) (hw : ∀ d ∈ tables_1, d.before a0 Z = true) (ws : List Jvm.Cond) (p1 : Int32) (p2 : Int32) (h0 : Heap) (n0 : Nat) (w_CHARACTERS w_ALL w_BAMBOO w_DOTS w_HONOURS : Addr) (hK : own_K Z h0 w_CHARACTERS w_ALL w_BAMBOO w_DOTS w_HONOURS) (z kk : Int32) (hk : (p1 &&& (3 : Int32)) = (2 : Int32)) (hz : ((1 : Int32) + ((p2 &&& (2147483647 : Int32)) % (9 : Int32))) = z) (hkk : ((((2 : Int32) * (9 : Int32)) + z) - (1 : Int32)) = kk) (hbb : (((18 : Int32) + z) - (1 : Int32)) = kk) (hl : ¬ (kk < (0 : Int32))) (hu : kk < (34 : Int32)) (hq : kk / (9 : Int32) = (2 : Int32)) :
    MetFree l x (head1 (Jvm.Cond.code x code maxLocals ret :: ws) room_1) (fun a U => a = #[(.int p1), (.int p2)] ∧ Z.Warmed39 U.vm ∧ U.heap = h0) (fun _ _ _ _ _ => True) (fun _ U o U' => ∃ v L, o = .returned v ∧ own_Q (some (.int (1 : Int32))) h0 n0 v U'.heap L ∧ FrameEnd U o U' L room_1.cells room_1.slots) := by
  refine MetFree.of_bodySF (plainFor_of_name pn_2) hisR ?_
  intro p e s m args below meth c s₁ Bd hml0 hP hK0
  obtain ⟨rfl, hZ, hh⟩ := hP
  have hx := Bd.exec
  have hby := Bd.bytes
  have hml : c.maxLocals = 8 := hml0
  have hown : s.vm.findClass "com/example/tenpai/tenpai/core/SuitKindPinLaw" = some m.cls := findClass_of_methodNamed Bd.named
  have hnm := (name_of_methodNamed Bd.named Bd.method).1
  have X0 : Stand p l e room_1 s m #[(.int p1), (.int p2)] below meth c s₁ [] 0 0 := Stand.of_body Bd
  have e0 : s₁.heap = h0 := by rw [← hh, Bd.state]; rfl
  have N0 := Fr.nil n0
  have pre0 : ∀ t, Steps p.tables e below (s₁.setTop (mkF m 0 #[.val (.int p1), .val (.int p2), .unset, .unset, .unset, .unset, .unset, .unset] [])) t → Steps p.tables e below (s₁.setTop (entryFrame m #[(.int p1), (.int p2)] maxLocals)) t := fun t k => castTop (ef_law2 m p1 p2) k
  have hK' := hK
  obtain ⟨S_w_CHARACTERS, E_w_CHARACTERS, F_ordinal_w_CHARACTERS, S_w_ALL, S_w_BAMBOO, E_w_BAMBOO, F_ordinal_w_BAMBOO, S_w_DOTS, E_w_DOTS, F_ordinal_w_DOTS, S_w_HONOURS, E_w_HONOURS, F_ordinal_w_HONOURS, B_w_ALL⟩ := hK'
  obtain ⟨cl_w_ALL, A_w_ALL, q_w_ALL⟩ := B_w_ALL
  obtain ⟨T1, X1, e1, st1⟩ := getS2 X0 hx hZ hown (host := "") (Or.inl (hw _ (ow 23 rfl))) Via.refl e0 S_w_BAMBOO (g := (mkF m 47 #[.val (.int p1), .val (.int p2), .val (.int (2 : Int32)), .unset, .unset, .unset, .unset, .unset] [])) rfl (hb hby at_47)
  obtain ⟨cq2, kq2, q2a, q2b, q2c⟩ := isOf hZ e1 E_w_BAMBOO
  obtain ⟨v2, _, ⟨T2, L2, k2, n2⟩, -, X2, ⟨Lc2, hQ2, l2, y2, z2⟩, st2⟩ := X1.virtualBack hx (y := (⟨"com/example/tenpai/tenpai/core/Suit", "kind", "(I)I"⟩ : MethodName)) (z := (⟨"com/example/tenpai/tenpai/core/Suit", "kind", "(I)I"⟩ : MethodName)) hown (mvT hZ (hw _ (ow 4 rfl))) (mvT hZ (hw _ (ow 5 rfl))) (notFace_of_selects (args := #[]) (mvT hZ (hw _ (ow 7 rfl)))) (mvT hZ (hw _ (ow 7 rfl))) (mvT hZ (hw _ (ow 6 rfl))) (by decide) (backOf (W := 0) (rm_kind l Z a0 hw [] w_BAMBOO z (2 : Int32) h0 n0 w_CHARACTERS w_ALL w_BAMBOO w_DOTS w_HONOURS hK F_ordinal_w_BAMBOO E_w_BAMBOO) hZ (hw _ (ow 8 rfl)) (hw _ (ow 1 rfl)) (by decide) (by decide)) q2a q2c (g := (mkF m 88 #[.val (.int p1), .val (.int p2), .val (.int (2 : Int32)), .val (.ref w_BAMBOO), .val (.int (18 : Int32)), .val (.int (9 : Int32)), .val (.int z), .unset] [(.int z), (.ref w_BAMBOO)])) rfl (by rw [hml]; rfl) (Steps.refl _) (argsL := [(.int z)]) (rest := []) (lenOf pd_1 rfl) rfl (Nat.le_of_eq rfl) (hb hby at_88) (fun _ _ => ⟨rfl, e1, (by decide : 0 + 0 ≤ _), (by decide : 0 + 0 ≤ _)⟩)
  dsimp only [Pt.U, Pt.locs, Pt.cells, Pt.slots] at X2 l2 y2 z2 st2 hQ2
  subst l2 y2 z2
  obtain ⟨hv2, Nq2, e2⟩ := hQ2
  obtain rfl : v2 = some (.int kk) := hv2.trans (congrArg some (congrArg Value.int hkk))
  have N2 := Fr.app N0 Nq2
  obtain ⟨v3, _, ⟨T3, L3, k3, n3⟩, -, X3, ⟨Lc3, hQ3, l3, y3, z3⟩, st3⟩ := Jvm.LawKit.callS X2 hx (y := (⟨"com/example/tenpai/tenpai/core/Suit", "ofKind", "(I)Lcom/example/tenpai/tenpai/core/Suit;"⟩ : MethodName)) hown (mvT hZ (hw _ (ow 18 rfl))) (mvT hZ (hw _ (ow 19 rfl))) (mvT hZ (hw _ (ow 1 rfl))) (mvT hZ (hw _ (ow 20 rfl))) (by decide) (backOf (W := 0) (rm_ofKind2 l Z a0 hw [] kk h0 n0 w_CHARACTERS w_ALL w_BAMBOO w_DOTS w_HONOURS hK hq) hZ (hw _ (ow 20 rfl)) (hw _ (ow 1 rfl)) (by decide) (by decide)) (g := (mkF m 123 #[.val (.int p1), .val (.int p2), .val (.int (2 : Int32)), .val (.ref w_BAMBOO), .val (.int (18 : Int32)), .val (.int (9 : Int32)), .val (.int z), .val (.int kk)] [(.int kk)])) rfl (by rw [hml]; rfl) (argsL := [(.int kk)]) (rest := []) (lenOf pd_2 rfl) rfl (Nat.le_of_eq rfl) (hb hby at_123) (fun _ _ => ⟨rfl, e2, (by decide : 0 + 0 ≤ _), (by decide : 0 + 0 ≤ _)⟩)
  dsimp only [Pt.U, Pt.locs, Pt.cells, Pt.slots] at X3 l3 y3 z3 st3 hQ3
  subst l3 y3 z3
  obtain ⟨hv3, Nq3, e3⟩ := hQ3
  obtain rfl : v3 = some (.ref w_BAMBOO) := hv3
  have N3 := Fr.app N2 Nq3
  have pre4 : ∀ t, Steps p.tables e below (T3.setTop (mkF m 135 #[.val (.int p1), .val (.int p2), .val (.int (2 : Int32)), .val (.ref w_BAMBOO), .val (.int (18 : Int32)), .val (.int (9 : Int32)), .val (.int z), .val (.int kk)] [(.int (1 : Int32))])) t → Steps p.tables e below (s₁.setTop (entryFrame m #[(.int p1), (.int p2)] maxLocals)) t := fun t k => pre0 t (by
    show Steps p.tables e below (s₁.setTop (mkF m 0 #[.val (.int p1), .val (.int p2), .unset, .unset, .unset, .unset, .unset, .unset] [])) _
    refine XS.iloadN X0.here hx rfl (hb hby at_0) rfl ?_
    show Steps p.tables e below (s₁.setTop (mkF m 1 #[.val (.int p1), .val (.int p2), .unset, .unset, .unset, .unset, .unset, .unset] [(.int p1)])) _
    refine XS.iconst X0.here hx rfl (hb hby at_1) ?_
    show Steps p.tables e below (s₁.setTop (mkF m 2 #[.val (.int p1), .val (.int p2), .unset, .unset, .unset, .unset, .unset, .unset] [(.int (3 : Int32)), (.int p1)])) _
    refine XS.iand X0.here hx rfl (hb hby at_2) rfl ?_
    show Steps p.tables e below (s₁.setTop (mkF m 3 #[.val (.int p1), .val (.int p2), .unset, .unset, .unset, .unset, .unset, .unset] [(.int (p1 &&& (3 : Int32)))])) _
    rw [hk]
    show Steps p.tables e below (s₁.setTop (mkF m 3 #[.val (.int p1), .val (.int p2), .unset, .unset, .unset, .unset, .unset, .unset] [(.int (2 : Int32))])) _
    refine XS.istoreN X0.here hx rfl (hb hby at_3) rfl (l' := #[.val (.int p1), .val (.int p2), .val (.int (2 : Int32)), .unset, .unset, .unset, .unset, .unset]) rfl ?_
    show Steps p.tables e below (s₁.setTop (mkF m 4 #[.val (.int p1), .val (.int p2), .val (.int (2 : Int32)), .unset, .unset, .unset, .unset, .unset] [])) _
    refine XS.iloadN X0.here hx rfl (hb hby at_4) rfl ?_
    show Steps p.tables e below (s₁.setTop (mkF m 5 #[.val (.int p1), .val (.int p2), .val (.int (2 : Int32)), .unset, .unset, .unset, .unset, .unset] [(.int (2 : Int32))])) _
    refine XS.ifYes X0.here hx rfl (pc0 := 5) (pc' := 22) rfl (hb hby at_5) rfl ((if0 _ _).trans (feq (by decide)).2) (by decide) (by decide) ?_
    show Steps p.tables e below (s₁.setTop (mkF m 22 #[.val (.int p1), .val (.int p2), .val (.int (2 : Int32)), .unset, .unset, .unset, .unset, .unset] [])) _
    refine XS.iloadN X0.here hx rfl (hb hby at_22) rfl ?_
    show Steps p.tables e below (s₁.setTop (mkF m 23 #[.val (.int p1), .val (.int p2), .val (.int (2 : Int32)), .unset, .unset, .unset, .unset, .unset] [(.int (2 : Int32))])) _
    refine XS.iconst X0.here hx rfl (hb hby at_23) ?_
    show Steps p.tables e below (s₁.setTop (mkF m 24 #[.val (.int p1), .val (.int p2), .val (.int (2 : Int32)), .unset, .unset, .unset, .unset, .unset] [(.int (1 : Int32)), (.int (2 : Int32))])) _
    refine XS.icmpYes X0.here hx rfl (pc0 := 24) (pc' := 42) rfl (hb hby at_24) rfl (feq (by decide)).2 (by decide) (by decide) ?_
    show Steps p.tables e below (s₁.setTop (mkF m 42 #[.val (.int p1), .val (.int p2), .val (.int (2 : Int32)), .unset, .unset, .unset, .unset, .unset] [])) _
    refine XS.iloadN X0.here hx rfl (hb hby at_42) rfl ?_
    show Steps p.tables e below (s₁.setTop (mkF m 43 #[.val (.int p1), .val (.int p2), .val (.int (2 : Int32)), .unset, .unset, .unset, .unset, .unset] [(.int (2 : Int32))])) _
    refine XS.iconst X0.here hx rfl (hb hby at_43) ?_
    show Steps p.tables e below (s₁.setTop (mkF m 44 #[.val (.int p1), .val (.int p2), .val (.int (2 : Int32)), .unset, .unset, .unset, .unset, .unset] [(.int (2 : Int32)), (.int (2 : Int32))])) _
    refine XS.icmpNo X0.here hx rfl (hb hby at_44) rfl (teq (by decide)).2 ?_
    show Steps p.tables e below (s₁.setTop (mkF m 47 #[.val (.int p1), .val (.int p2), .val (.int (2 : Int32)), .unset, .unset, .unset, .unset, .unset] [])) _
    refine st1 _ ?_
    show Steps p.tables e below (T1.setTop (mkF m 50 #[.val (.int p1), .val (.int p2), .val (.int (2 : Int32)), .unset, .unset, .unset, .unset, .unset] [(.ref w_BAMBOO)])) _
    refine XS.astoreN X1.here hx rfl (hb hby at_50) rfl rfl (l' := #[.val (.int p1), .val (.int p2), .val (.int (2 : Int32)), .val (.ref w_BAMBOO), .unset, .unset, .unset, .unset]) rfl ?_
    show Steps p.tables e below (T1.setTop (mkF m 51 #[.val (.int p1), .val (.int p2), .val (.int (2 : Int32)), .val (.ref w_BAMBOO), .unset, .unset, .unset, .unset] [])) _
    refine XS.bipush X1.here hx rfl (hb hby at_51) ?_
    show Steps p.tables e below (T1.setTop (mkF m 53 #[.val (.int p1), .val (.int p2), .val (.int (2 : Int32)), .val (.ref w_BAMBOO), .unset, .unset, .unset, .unset] [(.int (18 : Int32))])) _
    refine XS.istore X1.here hx rfl (hb hby at_53) rfl (l' := #[.val (.int p1), .val (.int p2), .val (.int (2 : Int32)), .val (.ref w_BAMBOO), .val (.int (18 : Int32)), .unset, .unset, .unset]) rfl ?_
    show Steps p.tables e below (T1.setTop (mkF m 55 #[.val (.int p1), .val (.int p2), .val (.int (2 : Int32)), .val (.ref w_BAMBOO), .val (.int (18 : Int32)), .unset, .unset, .unset] [])) _
    refine XS.bipush X1.here hx rfl (hb hby at_55) ?_
    show Steps p.tables e below (T1.setTop (mkF m 57 #[.val (.int p1), .val (.int p2), .val (.int (2 : Int32)), .val (.ref w_BAMBOO), .val (.int (18 : Int32)), .unset, .unset, .unset] [(.int (9 : Int32))])) _
    refine XS.istore X1.here hx rfl (hb hby at_57) rfl (l' := #[.val (.int p1), .val (.int p2), .val (.int (2 : Int32)), .val (.ref w_BAMBOO), .val (.int (18 : Int32)), .val (.int (9 : Int32)), .unset, .unset]) rfl ?_
    show Steps p.tables e below (T1.setTop (mkF m 59 #[.val (.int p1), .val (.int p2), .val (.int (2 : Int32)), .val (.ref w_BAMBOO), .val (.int (18 : Int32)), .val (.int (9 : Int32)), .unset, .unset] [])) _
    refine XS.goto X1.here hx rfl (pc0 := 59) (pc' := 74) rfl (hb hby at_59) (by decide) (by decide) ?_
    show Steps p.tables e below (T1.setTop (mkF m 74 #[.val (.int p1), .val (.int p2), .val (.int (2 : Int32)), .val (.ref w_BAMBOO), .val (.int (18 : Int32)), .val (.int (9 : Int32)), .unset, .unset] [])) _
    refine XS.iconst X1.here hx rfl (hb hby at_74) ?_
    show Steps p.tables e below (T1.setTop (mkF m 75 #[.val (.int p1), .val (.int p2), .val (.int (2 : Int32)), .val (.ref w_BAMBOO), .val (.int (18 : Int32)), .val (.int (9 : Int32)), .unset, .unset] [(.int (1 : Int32))])) _
    refine XS.iloadN X1.here hx rfl (hb hby at_75) rfl ?_
    show Steps p.tables e below (T1.setTop (mkF m 76 #[.val (.int p1), .val (.int p2), .val (.int (2 : Int32)), .val (.ref w_BAMBOO), .val (.int (18 : Int32)), .val (.int (9 : Int32)), .unset, .unset] [(.int p2), (.int (1 : Int32))])) _
    refine X1.ldcInt hx hown (mvT hZ (hw _ (ow 3 rfl))) (g := (mkF m 76 #[.val (.int p1), .val (.int p2), .val (.int (2 : Int32)), .val (.ref w_BAMBOO), .val (.int (18 : Int32)), .val (.int (9 : Int32)), .unset, .unset] [(.int p2), (.int (1 : Int32))])) rfl (hb hby at_76) _ ?_
    show Steps p.tables e below (T1.setTop (mkF m 78 #[.val (.int p1), .val (.int p2), .val (.int (2 : Int32)), .val (.ref w_BAMBOO), .val (.int (18 : Int32)), .val (.int (9 : Int32)), .unset, .unset] [(.int (2147483647 : Int32)), (.int p2), (.int (1 : Int32))])) _
    refine XS.iand X1.here hx rfl (hb hby at_78) rfl ?_
    show Steps p.tables e below (T1.setTop (mkF m 79 #[.val (.int p1), .val (.int p2), .val (.int (2 : Int32)), .val (.ref w_BAMBOO), .val (.int (18 : Int32)), .val (.int (9 : Int32)), .unset, .unset] [(.int (p2 &&& (2147483647 : Int32))), (.int (1 : Int32))])) _
    refine XS.iload X1.here hx rfl (hb hby at_79) rfl ?_
    show Steps p.tables e below (T1.setTop (mkF m 81 #[.val (.int p1), .val (.int p2), .val (.int (2 : Int32)), .val (.ref w_BAMBOO), .val (.int (18 : Int32)), .val (.int (9 : Int32)), .unset, .unset] [(.int (9 : Int32)), (.int (p2 &&& (2147483647 : Int32))), (.int (1 : Int32))])) _
    refine iremM X1 hx rfl (hb hby at_81) rfl (by decide) ?_
    show Steps p.tables e below (T1.setTop (mkF m 82 #[.val (.int p1), .val (.int p2), .val (.int (2 : Int32)), .val (.ref w_BAMBOO), .val (.int (18 : Int32)), .val (.int (9 : Int32)), .unset, .unset] [(.int ((p2 &&& (2147483647 : Int32)) % (9 : Int32))), (.int (1 : Int32))])) _
    refine XS.iadd X1.here hx rfl (hb hby at_82) rfl ?_
    show Steps p.tables e below (T1.setTop (mkF m 83 #[.val (.int p1), .val (.int p2), .val (.int (2 : Int32)), .val (.ref w_BAMBOO), .val (.int (18 : Int32)), .val (.int (9 : Int32)), .unset, .unset] [(.int ((1 : Int32) + ((p2 &&& (2147483647 : Int32)) % (9 : Int32))))])) _
    rw [hz]
    show Steps p.tables e below (T1.setTop (mkF m 83 #[.val (.int p1), .val (.int p2), .val (.int (2 : Int32)), .val (.ref w_BAMBOO), .val (.int (18 : Int32)), .val (.int (9 : Int32)), .unset, .unset] [(.int z)])) _
    refine XS.istore X1.here hx rfl (hb hby at_83) rfl (l' := #[.val (.int p1), .val (.int p2), .val (.int (2 : Int32)), .val (.ref w_BAMBOO), .val (.int (18 : Int32)), .val (.int (9 : Int32)), .val (.int z), .unset]) rfl ?_
    show Steps p.tables e below (T1.setTop (mkF m 85 #[.val (.int p1), .val (.int p2), .val (.int (2 : Int32)), .val (.ref w_BAMBOO), .val (.int (18 : Int32)), .val (.int (9 : Int32)), .val (.int z), .unset] [])) _
    refine XS.aloadN X1.here hx rfl (hb hby at_85) rfl rfl ?_
    show Steps p.tables e below (T1.setTop (mkF m 86 #[.val (.int p1), .val (.int p2), .val (.int (2 : Int32)), .val (.ref w_BAMBOO), .val (.int (18 : Int32)), .val (.int (9 : Int32)), .val (.int z), .unset] [(.ref w_BAMBOO)])) _
    refine XS.iload X1.here hx rfl (hb hby at_86) rfl ?_
    show Steps p.tables e below (T1.setTop (mkF m 88 #[.val (.int p1), .val (.int p2), .val (.int (2 : Int32)), .val (.ref w_BAMBOO), .val (.int (18 : Int32)), .val (.int (9 : Int32)), .val (.int z), .unset] [(.int z), (.ref w_BAMBOO)])) _
    refine st2.trans ?_
    show Steps p.tables e below (T2.setTop (mkF m 91 #[.val (.int p1), .val (.int p2), .val (.int (2 : Int32)), .val (.ref w_BAMBOO), .val (.int (18 : Int32)), .val (.int (9 : Int32)), .val (.int z), .unset] [(.int kk)])) _
    refine XS.istore X2.here hx rfl (hb hby at_91) rfl (l' := #[.val (.int p1), .val (.int p2), .val (.int (2 : Int32)), .val (.ref w_BAMBOO), .val (.int (18 : Int32)), .val (.int (9 : Int32)), .val (.int z), .val (.int kk)]) rfl ?_
    show Steps p.tables e below (T2.setTop (mkF m 93 #[.val (.int p1), .val (.int p2), .val (.int (2 : Int32)), .val (.ref w_BAMBOO), .val (.int (18 : Int32)), .val (.int (9 : Int32)), .val (.int z), .val (.int kk)] [])) _
    refine XS.iload X2.here hx rfl (hb hby at_93) rfl ?_
    show Steps p.tables e below (T2.setTop (mkF m 95 #[.val (.int p1), .val (.int p2), .val (.int (2 : Int32)), .val (.ref w_BAMBOO), .val (.int (18 : Int32)), .val (.int (9 : Int32)), .val (.int z), .val (.int kk)] [(.int kk)])) _
    refine XS.iload X2.here hx rfl (hb hby at_95) rfl ?_
    show Steps p.tables e below (T2.setTop (mkF m 97 #[.val (.int p1), .val (.int p2), .val (.int (2 : Int32)), .val (.ref w_BAMBOO), .val (.int (18 : Int32)), .val (.int (9 : Int32)), .val (.int z), .val (.int kk)] [(.int (18 : Int32)), (.int kk)])) _
    refine XS.iload X2.here hx rfl (hb hby at_97) rfl ?_
    show Steps p.tables e below (T2.setTop (mkF m 99 #[.val (.int p1), .val (.int p2), .val (.int (2 : Int32)), .val (.ref w_BAMBOO), .val (.int (18 : Int32)), .val (.int (9 : Int32)), .val (.int z), .val (.int kk)] [(.int z), (.int (18 : Int32)), (.int kk)])) _
    refine XS.iadd X2.here hx rfl (hb hby at_99) rfl ?_
    show Steps p.tables e below (T2.setTop (mkF m 100 #[.val (.int p1), .val (.int p2), .val (.int (2 : Int32)), .val (.ref w_BAMBOO), .val (.int (18 : Int32)), .val (.int (9 : Int32)), .val (.int z), .val (.int kk)] [(.int ((18 : Int32) + z)), (.int kk)])) _
    refine XS.iconst X2.here hx rfl (hb hby at_100) ?_
    show Steps p.tables e below (T2.setTop (mkF m 101 #[.val (.int p1), .val (.int p2), .val (.int (2 : Int32)), .val (.ref w_BAMBOO), .val (.int (18 : Int32)), .val (.int (9 : Int32)), .val (.int z), .val (.int kk)] [(.int (1 : Int32)), (.int ((18 : Int32) + z)), (.int kk)])) _
    refine XS.isub X2.here hx rfl (hb hby at_101) rfl ?_
    show Steps p.tables e below (T2.setTop (mkF m 102 #[.val (.int p1), .val (.int p2), .val (.int (2 : Int32)), .val (.ref w_BAMBOO), .val (.int (18 : Int32)), .val (.int (9 : Int32)), .val (.int z), .val (.int kk)] [(.int (((18 : Int32) + z) - (1 : Int32))), (.int kk)])) _
    rw [hbb]
    show Steps p.tables e below (T2.setTop (mkF m 102 #[.val (.int p1), .val (.int p2), .val (.int (2 : Int32)), .val (.ref w_BAMBOO), .val (.int (18 : Int32)), .val (.int (9 : Int32)), .val (.int z), .val (.int kk)] [(.int kk), (.int kk)])) _
    refine XS.icmpYes X2.here hx rfl (pc0 := 102) (pc' := 107) rfl (hb hby at_102) rfl (teq rfl).1 (by decide) (by decide) ?_
    show Steps p.tables e below (T2.setTop (mkF m 107 #[.val (.int p1), .val (.int p2), .val (.int (2 : Int32)), .val (.ref w_BAMBOO), .val (.int (18 : Int32)), .val (.int (9 : Int32)), .val (.int z), .val (.int kk)] [])) _
    refine XS.iload X2.here hx rfl (hb hby at_107) rfl ?_
    show Steps p.tables e below (T2.setTop (mkF m 109 #[.val (.int p1), .val (.int p2), .val (.int (2 : Int32)), .val (.ref w_BAMBOO), .val (.int (18 : Int32)), .val (.int (9 : Int32)), .val (.int z), .val (.int kk)] [(.int kk)])) _
    refine XS.ifNo X2.here hx rfl (hb hby at_109) rfl ((if0 _ _).trans (flt hl).1) ?_
    show Steps p.tables e below (T2.setTop (mkF m 112 #[.val (.int p1), .val (.int p2), .val (.int (2 : Int32)), .val (.ref w_BAMBOO), .val (.int (18 : Int32)), .val (.int (9 : Int32)), .val (.int z), .val (.int kk)] [])) _
    refine XS.iload X2.here hx rfl (hb hby at_112) rfl ?_
    show Steps p.tables e below (T2.setTop (mkF m 114 #[.val (.int p1), .val (.int p2), .val (.int (2 : Int32)), .val (.ref w_BAMBOO), .val (.int (18 : Int32)), .val (.int (9 : Int32)), .val (.int z), .val (.int kk)] [(.int kk)])) _
    refine XS.bipush X2.here hx rfl (hb hby at_114) ?_
    show Steps p.tables e below (T2.setTop (mkF m 116 #[.val (.int p1), .val (.int p2), .val (.int (2 : Int32)), .val (.ref w_BAMBOO), .val (.int (18 : Int32)), .val (.int (9 : Int32)), .val (.int z), .val (.int kk)] [(.int (34 : Int32)), (.int kk)])) _
    refine XS.icmpYes X2.here hx rfl (pc0 := 116) (pc' := 121) rfl (hb hby at_116) rfl (tlt hu).1 (by decide) (by decide) ?_
    show Steps p.tables e below (T2.setTop (mkF m 121 #[.val (.int p1), .val (.int p2), .val (.int (2 : Int32)), .val (.ref w_BAMBOO), .val (.int (18 : Int32)), .val (.int (9 : Int32)), .val (.int z), .val (.int kk)] [])) _
    refine XS.iload X2.here hx rfl (hb hby at_121) rfl ?_
    show Steps p.tables e below (T2.setTop (mkF m 123 #[.val (.int p1), .val (.int p2), .val (.int (2 : Int32)), .val (.ref w_BAMBOO), .val (.int (18 : Int32)), .val (.int (9 : Int32)), .val (.int z), .val (.int kk)] [(.int kk)])) _
    refine st3 _ ?_
    show Steps p.tables e below (T3.setTop (mkF m 126 #[.val (.int p1), .val (.int p2), .val (.int (2 : Int32)), .val (.ref w_BAMBOO), .val (.int (18 : Int32)), .val (.int (9 : Int32)), .val (.int z), .val (.int kk)] [(.ref w_BAMBOO)])) _
    refine XS.aloadN X3.here hx rfl (hb hby at_126) rfl rfl ?_
    show Steps p.tables e below (T3.setTop (mkF m 127 #[.val (.int p1), .val (.int p2), .val (.int (2 : Int32)), .val (.ref w_BAMBOO), .val (.int (18 : Int32)), .val (.int (9 : Int32)), .val (.int z), .val (.int kk)] [(.ref w_BAMBOO), (.ref w_BAMBOO)])) _
    refine Jvm.RoadKit.acmp (g := (mkF m 127 #[.val (.int p1), .val (.int p2), .val (.int (2 : Int32)), .val (.ref w_BAMBOO), .val (.int (18 : Int32)), .val (.int (9 : Int32)), .val (.int z), .val (.int kk)] [(.ref w_BAMBOO), (.ref w_BAMBOO)])) X3 hx rfl rfl rfl (pc0 := 127) (pc' := 130) (same := true) rfl (hb hby at_127) rfl (decide_eq_true rfl) (by decide) (by decide) ?_
    show Steps p.tables e below (T3.setTop (mkF m 130 #[.val (.int p1), .val (.int p2), .val (.int (2 : Int32)), .val (.ref w_BAMBOO), .val (.int (18 : Int32)), .val (.int (9 : Int32)), .val (.int z), .val (.int kk)] [])) _
    refine XS.iconst X3.here hx rfl (hb hby at_130) ?_
    show Steps p.tables e below (T3.setTop (mkF m 131 #[.val (.int p1), .val (.int p2), .val (.int (2 : Int32)), .val (.ref w_BAMBOO), .val (.int (18 : Int32)), .val (.int (9 : Int32)), .val (.int z), .val (.int kk)] [(.int (1 : Int32))])) _
    refine XS.goto X3.here hx rfl (pc0 := 131) (pc' := 135) rfl (hb hby at_131) (by decide) (by decide) ?_
    exact k)
  obtain ⟨fs, hr, hrun, hended, hW, hsame⟩ := X3.leave (v := some (.int (1 : Int32))) (fun h => by rw [Bd.returns] at h; cases h)
  refine ⟨_, _, pre4 _ ?_, hrun, hended, _, _, rfl, ?_, ⟨_, rfl⟩, hW, hsame.mono (by decide) (by decide)⟩
  · show Steps p.tables e below (T3.setTop (mkF m 135 #[.val (.int p1), .val (.int p2), .val (.int (2 : Int32)), .val (.ref w_BAMBOO), .val (.int (18 : Int32)), .val (.int (9 : Int32)), .val (.int z), .val (.int kk)] [(.int (1 : Int32))])) _
    exact retN X3 hx (t := .boolean) Bd.returns (by simp) (hb hby at_135) hr
  · exact ⟨rfl, N3, e3⟩
theorem own_n2 (p2 : Int32) : let z := ((1 : Int32) + ((p2 &&& (2147483647 : Int32)) % (9 : Int32))); let kk := (((2 : Int32) * (9 : Int32)) + z) - (1 : Int32); ((18 : Int32) + z) - (1 : Int32) = kk ∧ ¬ (kk < (0 : Int32)) ∧ kk < (34 : Int32) ∧ kk / (9 : Int32) = (2 : Int32) := by
  intro z kk
  have q0 := c_mask p2 2147483647 31 (by decide) (by decide)
  have q1 := (c_irem (p2 &&& 2147483647) 9 9 (by decide)).1 (by omega)
  have e1 : (1 : Int32).toInt = 1 := by decide
  have a1 := c_iadd 1 ((p2 &&& 2147483647) % 9)
  have r1 := rng32 (1 + ((p2 &&& 2147483647) % 9))
  have hz : z.toInt = 1 + ((p2 &&& 2147483647) % 9 : Int32).toInt := by show (1 + ((p2 &&& 2147483647) % 9) : Int32).toInt = _; omega
  have b : ((2 : Int32) * (9 : Int32)) = (18 : Int32) := by decide
  have eb : (18 : Int32).toInt = 18 := by decide
  have a2 := c_iadd (18) z
  have r2 := rng32 ((18) + z)
  have s1 := c_isub ((18) + z) 1
  have r3 := rng32 ((18) + z - 1)
  have hk : kk = (18 : Int32) + z - 1 := by show ((2 : Int32) * (9 : Int32)) + z - 1 = _; rw [b]
  have hki : kk.toInt = 18 + z.toInt - 1 := by rw [hk]; omega
  have d := (c_idiv kk 9 9 (by decide) (by decide)).1 (by omega)
  have e0 : (0 : Int32).toInt = 0 := by decide
  have e34 : (34 : Int32).toInt = 34 := by decide
  have ek : (2 : Int32).toInt = 2 := by decide
  refine ⟨hk.symm, ?_, ?_, ?_⟩
  · rw [Int32.lt_iff_toInt_lt]; omega
  · rw [Int32.lt_iff_toInt_lt]; omega
  · rw [← Int32.toInt_inj]; omega
theorem ef_ofKind3 (m : MethodId) (x0 : Int32) : entryFrame m #[(.int x0)] 1 = mkF m 0 #[.val (.int x0)] [] := by first | (simp [entryFrame, mkF, argsToLocals, Value.category]; done) | rfl
set_option maxRecDepth 65536 in
set_option maxHeartbeats 40000000 in
theorem rm_ofKind3 (l : Launch) (Z : State) (a0 : Array Value) (hw : ∀ d ∈ tables_1, d.before a0 Z = true) (ws : List Jvm.Cond) (p0 : Int32) (h0 : Heap) (n0 : Nat) (w_CHARACTERS w_ALL w_BAMBOO w_DOTS w_HONOURS : Addr) (hK : own_K Z h0 w_CHARACTERS w_ALL w_BAMBOO w_DOTS w_HONOURS) (hq : p0 / (9 : Int32) = (3 : Int32)) :
    MetFree l (⟨"com/example/tenpai/tenpai/core/Suit", "ofKind", "(I)Lcom/example/tenpai/tenpai/core/Suit;"⟩ : MethodName) (head1 (Jvm.Cond.code (⟨"com/example/tenpai/tenpai/core/Suit", "ofKind", "(I)Lcom/example/tenpai/tenpai/core/Suit;"⟩ : MethodName) prog_25_method_5_code 1 (some (.object "com/example/tenpai/tenpai/core/Suit")) :: ws) ({ frames := 0, cells := 0, slots := 0, locals := 0 } : Room)) (fun a U => a = #[(.int p0)] ∧ Z.Warmed39 U.vm ∧ U.heap = h0) (fun _ _ _ _ _ => True) (fun _ U o U' => ∃ v L, o = .returned v ∧ own_Q (some (.ref w_HONOURS)) h0 n0 v U'.heap L ∧ FrameEnd U o U' L ({ frames := 0, cells := 0, slots := 0, locals := 0 } : Room).cells ({ frames := 0, cells := 0, slots := 0, locals := 0 } : Room).slots) := by
  refine MetFree.of_bodySF (plainFor_of_name pn_1) hisR ?_
  intro p e s m args below meth c s₁ Bd hml0 hP hK0
  obtain ⟨rfl, hZ, hh⟩ := hP
  have hx := Bd.exec
  have hby := Bd.bytes
  have hml : c.maxLocals = 1 := hml0
  have hown : s.vm.findClass "com/example/tenpai/tenpai/core/Suit" = some m.cls := findClass_of_methodNamed Bd.named
  have hnm := (name_of_methodNamed Bd.named Bd.method).1
  have X0 : Stand p l e ({ frames := 0, cells := 0, slots := 0, locals := 0 } : Room) s m #[(.int p0)] below meth c s₁ [] 0 0 := Stand.of_body Bd
  have e0 : s₁.heap = h0 := by rw [← hh, Bd.state]; rfl
  have N0 := Fr.nil n0
  have pre0 : ∀ t, Steps p.tables e below (s₁.setTop (mkF m 0 #[.val (.int p0)] [])) t → Steps p.tables e below (s₁.setTop (entryFrame m #[(.int p0)] 1)) t := fun t k => castTop (ef_ofKind3 m p0) k
  have hK' := hK
  obtain ⟨S_w_CHARACTERS, E_w_CHARACTERS, F_ordinal_w_CHARACTERS, S_w_ALL, S_w_BAMBOO, E_w_BAMBOO, F_ordinal_w_BAMBOO, S_w_DOTS, E_w_DOTS, F_ordinal_w_DOTS, S_w_HONOURS, E_w_HONOURS, F_ordinal_w_HONOURS, B_w_ALL⟩ := hK'
  obtain ⟨cl_w_ALL, A_w_ALL, q_w_ALL⟩ := B_w_ALL
  obtain ⟨T1, X1, e1, st1⟩ := getS2 X0 hx hZ hown (host := "") (Or.inl (hw _ (ow 21 rfl))) Via.refl e0 S_w_ALL (g := (mkF m 0 #[.val (.int p0)] [])) rfl (hb hby d_prog_25_method_5_0)
  have pre2 : ∀ t, Steps p.tables e below (T1.setTop (mkF m 8 #[.val (.int p0)] [(.ref w_HONOURS)])) t → Steps p.tables e below (s₁.setTop (entryFrame m #[(.int p0)] 1)) t := fun t k => pre0 t (by
    show Steps p.tables e below (s₁.setTop (mkF m 0 #[.val (.int p0)] [])) _
    refine st1 _ ?_
    show Steps p.tables e below (T1.setTop (mkF m 3 #[.val (.int p0)] [(.ref w_ALL)])) _
    refine XS.iloadN X1.here hx rfl (hb hby d_prog_25_method_5_3) rfl ?_
    show Steps p.tables e below (T1.setTop (mkF m 4 #[.val (.int p0)] [(.int p0), (.ref w_ALL)])) _
    refine XS.bipush X1.here hx rfl (hb hby d_prog_25_method_5_4) ?_
    show Steps p.tables e below (T1.setTop (mkF m 6 #[.val (.int p0)] [(.int (9 : Int32)), (.int p0), (.ref w_ALL)])) _
    refine XS.idiv X1.here hx rfl (hb hby d_prog_25_method_5_6) rfl (by decide) ?_
    show Steps p.tables e below (T1.setTop (mkF m 7 #[.val (.int p0)] [(.int (p0 / (9 : Int32))), (.ref w_ALL)])) _
    rw [hq]
    show Steps p.tables e below (T1.setTop (mkF m 7 #[.val (.int p0)] [(.int (3 : Int32)), (.ref w_ALL)])) _
    refine X1.aaload hx (j := (3 : Int32)) (v := (.ref w_HONOURS)) (by rw [e1]; exact A_w_ALL.1) (State.isArrayOf_alike hZ.alike A_w_ALL.2.1) rfl A_w_ALL.2.2 (own_get (v := (.ref w_HONOURS)) q_w_ALL (by decide) rfl).1 (own_get q_w_ALL (by decide) rfl).2 (g := (mkF m 7 #[.val (.int p0)] [(.int (3 : Int32)), (.ref w_ALL)])) rfl rfl (hb hby d_prog_25_method_5_7) _ ?_
    exact k)
  obtain ⟨fs, hr, hrun, hended, hW, hsame⟩ := X1.leave (v := some (.ref w_HONOURS)) (fun h => by rw [Bd.returns] at h; cases h)
  refine ⟨_, _, pre2 _ ?_, hrun, hended, _, _, rfl, ?_, ⟨_, rfl⟩, hW, hsame.mono (by decide) (by decide)⟩
  · show Steps p.tables e below (T1.setTop (mkF m 8 #[.val (.int p0)] [(.ref w_HONOURS)])) _
    exact retOut X1 hx Bd.returns rfl (Or.inr (Or.inr (Or.inr (Or.inr ⟨rfl, rfl, rfl⟩)))) (hb hby d_prog_25_method_5_8) hr
  · exact ⟨rfl, N0, e1⟩
theorem ef_law3 (m : MethodId) (x0 : Int32) (x1 : Int32) : entryFrame m #[(.int x0), (.int x1)] maxLocals = mkF m 0 #[.val (.int x0), .val (.int x1), .unset, .unset, .unset, .unset, .unset, .unset] [] := by first | (simp [entryFrame, mkF, argsToLocals, Value.category, maxLocals]; done) | rfl
set_option maxRecDepth 65536 in
set_option maxHeartbeats 40000000 in
theorem rm_law3 (l : Launch) (Z : State) (a0 : Array Value) (hw : ∀ d ∈ tables_1, d.before a0 Z = true) (ws : List Jvm.Cond) (p1 : Int32) (p2 : Int32) (h0 : Heap) (n0 : Nat) (w_CHARACTERS w_ALL w_BAMBOO w_DOTS w_HONOURS : Addr) (hK : own_K Z h0 w_CHARACTERS w_ALL w_BAMBOO w_DOTS w_HONOURS) (z kk : Int32) (hk : (p1 &&& (3 : Int32)) = (3 : Int32)) (hz : ((1 : Int32) + ((p2 &&& (2147483647 : Int32)) % (7 : Int32))) = z) (hkk : ((((3 : Int32) * (9 : Int32)) + z) - (1 : Int32)) = kk) (hbb : (((27 : Int32) + z) - (1 : Int32)) = kk) (hl : ¬ (kk < (0 : Int32))) (hu : kk < (34 : Int32)) (hq : kk / (9 : Int32) = (3 : Int32)) :
    MetFree l x (head1 (Jvm.Cond.code x code maxLocals ret :: ws) room_1) (fun a U => a = #[(.int p1), (.int p2)] ∧ Z.Warmed39 U.vm ∧ U.heap = h0) (fun _ _ _ _ _ => True) (fun _ U o U' => ∃ v L, o = .returned v ∧ own_Q (some (.int (1 : Int32))) h0 n0 v U'.heap L ∧ FrameEnd U o U' L room_1.cells room_1.slots) := by
  refine MetFree.of_bodySF (plainFor_of_name pn_2) hisR ?_
  intro p e s m args below meth c s₁ Bd hml0 hP hK0
  obtain ⟨rfl, hZ, hh⟩ := hP
  have hx := Bd.exec
  have hby := Bd.bytes
  have hml : c.maxLocals = 8 := hml0
  have hown : s.vm.findClass "com/example/tenpai/tenpai/core/SuitKindPinLaw" = some m.cls := findClass_of_methodNamed Bd.named
  have hnm := (name_of_methodNamed Bd.named Bd.method).1
  have X0 : Stand p l e room_1 s m #[(.int p1), (.int p2)] below meth c s₁ [] 0 0 := Stand.of_body Bd
  have e0 : s₁.heap = h0 := by rw [← hh, Bd.state]; rfl
  have N0 := Fr.nil n0
  have pre0 : ∀ t, Steps p.tables e below (s₁.setTop (mkF m 0 #[.val (.int p1), .val (.int p2), .unset, .unset, .unset, .unset, .unset, .unset] [])) t → Steps p.tables e below (s₁.setTop (entryFrame m #[(.int p1), (.int p2)] maxLocals)) t := fun t k => castTop (ef_law3 m p1 p2) k
  have hK' := hK
  obtain ⟨S_w_CHARACTERS, E_w_CHARACTERS, F_ordinal_w_CHARACTERS, S_w_ALL, S_w_BAMBOO, E_w_BAMBOO, F_ordinal_w_BAMBOO, S_w_DOTS, E_w_DOTS, F_ordinal_w_DOTS, S_w_HONOURS, E_w_HONOURS, F_ordinal_w_HONOURS, B_w_ALL⟩ := hK'
  obtain ⟨cl_w_ALL, A_w_ALL, q_w_ALL⟩ := B_w_ALL
  obtain ⟨T1, X1, e1, st1⟩ := getS2 X0 hx hZ hown (host := "") (Or.inl (hw _ (ow 27 rfl))) Via.refl e0 S_w_HONOURS (g := (mkF m 62 #[.val (.int p1), .val (.int p2), .val (.int (3 : Int32)), .unset, .unset, .unset, .unset, .unset] [])) rfl (hb hby at_62)
  obtain ⟨cq2, kq2, q2a, q2b, q2c⟩ := isOf hZ e1 E_w_HONOURS
  obtain ⟨v2, _, ⟨T2, L2, k2, n2⟩, -, X2, ⟨Lc2, hQ2, l2, y2, z2⟩, st2⟩ := X1.virtualBack hx (y := (⟨"com/example/tenpai/tenpai/core/Suit", "kind", "(I)I"⟩ : MethodName)) (z := (⟨"com/example/tenpai/tenpai/core/Suit", "kind", "(I)I"⟩ : MethodName)) hown (mvT hZ (hw _ (ow 4 rfl))) (mvT hZ (hw _ (ow 5 rfl))) (notFace_of_selects (args := #[]) (mvT hZ (hw _ (ow 7 rfl)))) (mvT hZ (hw _ (ow 7 rfl))) (mvT hZ (hw _ (ow 6 rfl))) (by decide) (backOf (W := 0) (rm_kind l Z a0 hw [] w_HONOURS z (3 : Int32) h0 n0 w_CHARACTERS w_ALL w_BAMBOO w_DOTS w_HONOURS hK F_ordinal_w_HONOURS E_w_HONOURS) hZ (hw _ (ow 8 rfl)) (hw _ (ow 1 rfl)) (by decide) (by decide)) q2a q2c (g := (mkF m 88 #[.val (.int p1), .val (.int p2), .val (.int (3 : Int32)), .val (.ref w_HONOURS), .val (.int (27 : Int32)), .val (.int (7 : Int32)), .val (.int z), .unset] [(.int z), (.ref w_HONOURS)])) rfl (by rw [hml]; rfl) (Steps.refl _) (argsL := [(.int z)]) (rest := []) (lenOf pd_1 rfl) rfl (Nat.le_of_eq rfl) (hb hby at_88) (fun _ _ => ⟨rfl, e1, (by decide : 0 + 0 ≤ _), (by decide : 0 + 0 ≤ _)⟩)
  dsimp only [Pt.U, Pt.locs, Pt.cells, Pt.slots] at X2 l2 y2 z2 st2 hQ2
  subst l2 y2 z2
  obtain ⟨hv2, Nq2, e2⟩ := hQ2
  obtain rfl : v2 = some (.int kk) := hv2.trans (congrArg some (congrArg Value.int hkk))
  have N2 := Fr.app N0 Nq2
  obtain ⟨v3, _, ⟨T3, L3, k3, n3⟩, -, X3, ⟨Lc3, hQ3, l3, y3, z3⟩, st3⟩ := Jvm.LawKit.callS X2 hx (y := (⟨"com/example/tenpai/tenpai/core/Suit", "ofKind", "(I)Lcom/example/tenpai/tenpai/core/Suit;"⟩ : MethodName)) hown (mvT hZ (hw _ (ow 18 rfl))) (mvT hZ (hw _ (ow 19 rfl))) (mvT hZ (hw _ (ow 1 rfl))) (mvT hZ (hw _ (ow 20 rfl))) (by decide) (backOf (W := 0) (rm_ofKind3 l Z a0 hw [] kk h0 n0 w_CHARACTERS w_ALL w_BAMBOO w_DOTS w_HONOURS hK hq) hZ (hw _ (ow 20 rfl)) (hw _ (ow 1 rfl)) (by decide) (by decide)) (g := (mkF m 123 #[.val (.int p1), .val (.int p2), .val (.int (3 : Int32)), .val (.ref w_HONOURS), .val (.int (27 : Int32)), .val (.int (7 : Int32)), .val (.int z), .val (.int kk)] [(.int kk)])) rfl (by rw [hml]; rfl) (argsL := [(.int kk)]) (rest := []) (lenOf pd_2 rfl) rfl (Nat.le_of_eq rfl) (hb hby at_123) (fun _ _ => ⟨rfl, e2, (by decide : 0 + 0 ≤ _), (by decide : 0 + 0 ≤ _)⟩)
  dsimp only [Pt.U, Pt.locs, Pt.cells, Pt.slots] at X3 l3 y3 z3 st3 hQ3
  subst l3 y3 z3
  obtain ⟨hv3, Nq3, e3⟩ := hQ3
  obtain rfl : v3 = some (.ref w_HONOURS) := hv3
  have N3 := Fr.app N2 Nq3
  have pre4 : ∀ t, Steps p.tables e below (T3.setTop (mkF m 135 #[.val (.int p1), .val (.int p2), .val (.int (3 : Int32)), .val (.ref w_HONOURS), .val (.int (27 : Int32)), .val (.int (7 : Int32)), .val (.int z), .val (.int kk)] [(.int (1 : Int32))])) t → Steps p.tables e below (s₁.setTop (entryFrame m #[(.int p1), (.int p2)] maxLocals)) t := fun t k => pre0 t (by
    show Steps p.tables e below (s₁.setTop (mkF m 0 #[.val (.int p1), .val (.int p2), .unset, .unset, .unset, .unset, .unset, .unset] [])) _
    refine XS.iloadN X0.here hx rfl (hb hby at_0) rfl ?_
    show Steps p.tables e below (s₁.setTop (mkF m 1 #[.val (.int p1), .val (.int p2), .unset, .unset, .unset, .unset, .unset, .unset] [(.int p1)])) _
    refine XS.iconst X0.here hx rfl (hb hby at_1) ?_
    show Steps p.tables e below (s₁.setTop (mkF m 2 #[.val (.int p1), .val (.int p2), .unset, .unset, .unset, .unset, .unset, .unset] [(.int (3 : Int32)), (.int p1)])) _
    refine XS.iand X0.here hx rfl (hb hby at_2) rfl ?_
    show Steps p.tables e below (s₁.setTop (mkF m 3 #[.val (.int p1), .val (.int p2), .unset, .unset, .unset, .unset, .unset, .unset] [(.int (p1 &&& (3 : Int32)))])) _
    rw [hk]
    show Steps p.tables e below (s₁.setTop (mkF m 3 #[.val (.int p1), .val (.int p2), .unset, .unset, .unset, .unset, .unset, .unset] [(.int (3 : Int32))])) _
    refine XS.istoreN X0.here hx rfl (hb hby at_3) rfl (l' := #[.val (.int p1), .val (.int p2), .val (.int (3 : Int32)), .unset, .unset, .unset, .unset, .unset]) rfl ?_
    show Steps p.tables e below (s₁.setTop (mkF m 4 #[.val (.int p1), .val (.int p2), .val (.int (3 : Int32)), .unset, .unset, .unset, .unset, .unset] [])) _
    refine XS.iloadN X0.here hx rfl (hb hby at_4) rfl ?_
    show Steps p.tables e below (s₁.setTop (mkF m 5 #[.val (.int p1), .val (.int p2), .val (.int (3 : Int32)), .unset, .unset, .unset, .unset, .unset] [(.int (3 : Int32))])) _
    refine XS.ifYes X0.here hx rfl (pc0 := 5) (pc' := 22) rfl (hb hby at_5) rfl ((if0 _ _).trans (feq (by decide)).2) (by decide) (by decide) ?_
    show Steps p.tables e below (s₁.setTop (mkF m 22 #[.val (.int p1), .val (.int p2), .val (.int (3 : Int32)), .unset, .unset, .unset, .unset, .unset] [])) _
    refine XS.iloadN X0.here hx rfl (hb hby at_22) rfl ?_
    show Steps p.tables e below (s₁.setTop (mkF m 23 #[.val (.int p1), .val (.int p2), .val (.int (3 : Int32)), .unset, .unset, .unset, .unset, .unset] [(.int (3 : Int32))])) _
    refine XS.iconst X0.here hx rfl (hb hby at_23) ?_
    show Steps p.tables e below (s₁.setTop (mkF m 24 #[.val (.int p1), .val (.int p2), .val (.int (3 : Int32)), .unset, .unset, .unset, .unset, .unset] [(.int (1 : Int32)), (.int (3 : Int32))])) _
    refine XS.icmpYes X0.here hx rfl (pc0 := 24) (pc' := 42) rfl (hb hby at_24) rfl (feq (by decide)).2 (by decide) (by decide) ?_
    show Steps p.tables e below (s₁.setTop (mkF m 42 #[.val (.int p1), .val (.int p2), .val (.int (3 : Int32)), .unset, .unset, .unset, .unset, .unset] [])) _
    refine XS.iloadN X0.here hx rfl (hb hby at_42) rfl ?_
    show Steps p.tables e below (s₁.setTop (mkF m 43 #[.val (.int p1), .val (.int p2), .val (.int (3 : Int32)), .unset, .unset, .unset, .unset, .unset] [(.int (3 : Int32))])) _
    refine XS.iconst X0.here hx rfl (hb hby at_43) ?_
    show Steps p.tables e below (s₁.setTop (mkF m 44 #[.val (.int p1), .val (.int p2), .val (.int (3 : Int32)), .unset, .unset, .unset, .unset, .unset] [(.int (2 : Int32)), (.int (3 : Int32))])) _
    refine XS.icmpYes X0.here hx rfl (pc0 := 44) (pc' := 62) rfl (hb hby at_44) rfl (feq (by decide)).2 (by decide) (by decide) ?_
    show Steps p.tables e below (s₁.setTop (mkF m 62 #[.val (.int p1), .val (.int p2), .val (.int (3 : Int32)), .unset, .unset, .unset, .unset, .unset] [])) _
    refine st1 _ ?_
    show Steps p.tables e below (T1.setTop (mkF m 65 #[.val (.int p1), .val (.int p2), .val (.int (3 : Int32)), .unset, .unset, .unset, .unset, .unset] [(.ref w_HONOURS)])) _
    refine XS.astoreN X1.here hx rfl (hb hby at_65) rfl rfl (l' := #[.val (.int p1), .val (.int p2), .val (.int (3 : Int32)), .val (.ref w_HONOURS), .unset, .unset, .unset, .unset]) rfl ?_
    show Steps p.tables e below (T1.setTop (mkF m 66 #[.val (.int p1), .val (.int p2), .val (.int (3 : Int32)), .val (.ref w_HONOURS), .unset, .unset, .unset, .unset] [])) _
    refine XS.bipush X1.here hx rfl (hb hby at_66) ?_
    show Steps p.tables e below (T1.setTop (mkF m 68 #[.val (.int p1), .val (.int p2), .val (.int (3 : Int32)), .val (.ref w_HONOURS), .unset, .unset, .unset, .unset] [(.int (27 : Int32))])) _
    refine XS.istore X1.here hx rfl (hb hby at_68) rfl (l' := #[.val (.int p1), .val (.int p2), .val (.int (3 : Int32)), .val (.ref w_HONOURS), .val (.int (27 : Int32)), .unset, .unset, .unset]) rfl ?_
    show Steps p.tables e below (T1.setTop (mkF m 70 #[.val (.int p1), .val (.int p2), .val (.int (3 : Int32)), .val (.ref w_HONOURS), .val (.int (27 : Int32)), .unset, .unset, .unset] [])) _
    refine XS.bipush X1.here hx rfl (hb hby at_70) ?_
    show Steps p.tables e below (T1.setTop (mkF m 72 #[.val (.int p1), .val (.int p2), .val (.int (3 : Int32)), .val (.ref w_HONOURS), .val (.int (27 : Int32)), .unset, .unset, .unset] [(.int (7 : Int32))])) _
    refine XS.istore X1.here hx rfl (hb hby at_72) rfl (l' := #[.val (.int p1), .val (.int p2), .val (.int (3 : Int32)), .val (.ref w_HONOURS), .val (.int (27 : Int32)), .val (.int (7 : Int32)), .unset, .unset]) rfl ?_
    show Steps p.tables e below (T1.setTop (mkF m 74 #[.val (.int p1), .val (.int p2), .val (.int (3 : Int32)), .val (.ref w_HONOURS), .val (.int (27 : Int32)), .val (.int (7 : Int32)), .unset, .unset] [])) _
    refine XS.iconst X1.here hx rfl (hb hby at_74) ?_
    show Steps p.tables e below (T1.setTop (mkF m 75 #[.val (.int p1), .val (.int p2), .val (.int (3 : Int32)), .val (.ref w_HONOURS), .val (.int (27 : Int32)), .val (.int (7 : Int32)), .unset, .unset] [(.int (1 : Int32))])) _
    refine XS.iloadN X1.here hx rfl (hb hby at_75) rfl ?_
    show Steps p.tables e below (T1.setTop (mkF m 76 #[.val (.int p1), .val (.int p2), .val (.int (3 : Int32)), .val (.ref w_HONOURS), .val (.int (27 : Int32)), .val (.int (7 : Int32)), .unset, .unset] [(.int p2), (.int (1 : Int32))])) _
    refine X1.ldcInt hx hown (mvT hZ (hw _ (ow 3 rfl))) (g := (mkF m 76 #[.val (.int p1), .val (.int p2), .val (.int (3 : Int32)), .val (.ref w_HONOURS), .val (.int (27 : Int32)), .val (.int (7 : Int32)), .unset, .unset] [(.int p2), (.int (1 : Int32))])) rfl (hb hby at_76) _ ?_
    show Steps p.tables e below (T1.setTop (mkF m 78 #[.val (.int p1), .val (.int p2), .val (.int (3 : Int32)), .val (.ref w_HONOURS), .val (.int (27 : Int32)), .val (.int (7 : Int32)), .unset, .unset] [(.int (2147483647 : Int32)), (.int p2), (.int (1 : Int32))])) _
    refine XS.iand X1.here hx rfl (hb hby at_78) rfl ?_
    show Steps p.tables e below (T1.setTop (mkF m 79 #[.val (.int p1), .val (.int p2), .val (.int (3 : Int32)), .val (.ref w_HONOURS), .val (.int (27 : Int32)), .val (.int (7 : Int32)), .unset, .unset] [(.int (p2 &&& (2147483647 : Int32))), (.int (1 : Int32))])) _
    refine XS.iload X1.here hx rfl (hb hby at_79) rfl ?_
    show Steps p.tables e below (T1.setTop (mkF m 81 #[.val (.int p1), .val (.int p2), .val (.int (3 : Int32)), .val (.ref w_HONOURS), .val (.int (27 : Int32)), .val (.int (7 : Int32)), .unset, .unset] [(.int (7 : Int32)), (.int (p2 &&& (2147483647 : Int32))), (.int (1 : Int32))])) _
    refine iremM X1 hx rfl (hb hby at_81) rfl (by decide) ?_
    show Steps p.tables e below (T1.setTop (mkF m 82 #[.val (.int p1), .val (.int p2), .val (.int (3 : Int32)), .val (.ref w_HONOURS), .val (.int (27 : Int32)), .val (.int (7 : Int32)), .unset, .unset] [(.int ((p2 &&& (2147483647 : Int32)) % (7 : Int32))), (.int (1 : Int32))])) _
    refine XS.iadd X1.here hx rfl (hb hby at_82) rfl ?_
    show Steps p.tables e below (T1.setTop (mkF m 83 #[.val (.int p1), .val (.int p2), .val (.int (3 : Int32)), .val (.ref w_HONOURS), .val (.int (27 : Int32)), .val (.int (7 : Int32)), .unset, .unset] [(.int ((1 : Int32) + ((p2 &&& (2147483647 : Int32)) % (7 : Int32))))])) _
    rw [hz]
    show Steps p.tables e below (T1.setTop (mkF m 83 #[.val (.int p1), .val (.int p2), .val (.int (3 : Int32)), .val (.ref w_HONOURS), .val (.int (27 : Int32)), .val (.int (7 : Int32)), .unset, .unset] [(.int z)])) _
    refine XS.istore X1.here hx rfl (hb hby at_83) rfl (l' := #[.val (.int p1), .val (.int p2), .val (.int (3 : Int32)), .val (.ref w_HONOURS), .val (.int (27 : Int32)), .val (.int (7 : Int32)), .val (.int z), .unset]) rfl ?_
    show Steps p.tables e below (T1.setTop (mkF m 85 #[.val (.int p1), .val (.int p2), .val (.int (3 : Int32)), .val (.ref w_HONOURS), .val (.int (27 : Int32)), .val (.int (7 : Int32)), .val (.int z), .unset] [])) _
    refine XS.aloadN X1.here hx rfl (hb hby at_85) rfl rfl ?_
    show Steps p.tables e below (T1.setTop (mkF m 86 #[.val (.int p1), .val (.int p2), .val (.int (3 : Int32)), .val (.ref w_HONOURS), .val (.int (27 : Int32)), .val (.int (7 : Int32)), .val (.int z), .unset] [(.ref w_HONOURS)])) _
    refine XS.iload X1.here hx rfl (hb hby at_86) rfl ?_
    show Steps p.tables e below (T1.setTop (mkF m 88 #[.val (.int p1), .val (.int p2), .val (.int (3 : Int32)), .val (.ref w_HONOURS), .val (.int (27 : Int32)), .val (.int (7 : Int32)), .val (.int z), .unset] [(.int z), (.ref w_HONOURS)])) _
    refine st2.trans ?_
    show Steps p.tables e below (T2.setTop (mkF m 91 #[.val (.int p1), .val (.int p2), .val (.int (3 : Int32)), .val (.ref w_HONOURS), .val (.int (27 : Int32)), .val (.int (7 : Int32)), .val (.int z), .unset] [(.int kk)])) _
    refine XS.istore X2.here hx rfl (hb hby at_91) rfl (l' := #[.val (.int p1), .val (.int p2), .val (.int (3 : Int32)), .val (.ref w_HONOURS), .val (.int (27 : Int32)), .val (.int (7 : Int32)), .val (.int z), .val (.int kk)]) rfl ?_
    show Steps p.tables e below (T2.setTop (mkF m 93 #[.val (.int p1), .val (.int p2), .val (.int (3 : Int32)), .val (.ref w_HONOURS), .val (.int (27 : Int32)), .val (.int (7 : Int32)), .val (.int z), .val (.int kk)] [])) _
    refine XS.iload X2.here hx rfl (hb hby at_93) rfl ?_
    show Steps p.tables e below (T2.setTop (mkF m 95 #[.val (.int p1), .val (.int p2), .val (.int (3 : Int32)), .val (.ref w_HONOURS), .val (.int (27 : Int32)), .val (.int (7 : Int32)), .val (.int z), .val (.int kk)] [(.int kk)])) _
    refine XS.iload X2.here hx rfl (hb hby at_95) rfl ?_
    show Steps p.tables e below (T2.setTop (mkF m 97 #[.val (.int p1), .val (.int p2), .val (.int (3 : Int32)), .val (.ref w_HONOURS), .val (.int (27 : Int32)), .val (.int (7 : Int32)), .val (.int z), .val (.int kk)] [(.int (27 : Int32)), (.int kk)])) _
    refine XS.iload X2.here hx rfl (hb hby at_97) rfl ?_
    show Steps p.tables e below (T2.setTop (mkF m 99 #[.val (.int p1), .val (.int p2), .val (.int (3 : Int32)), .val (.ref w_HONOURS), .val (.int (27 : Int32)), .val (.int (7 : Int32)), .val (.int z), .val (.int kk)] [(.int z), (.int (27 : Int32)), (.int kk)])) _
    refine XS.iadd X2.here hx rfl (hb hby at_99) rfl ?_
    show Steps p.tables e below (T2.setTop (mkF m 100 #[.val (.int p1), .val (.int p2), .val (.int (3 : Int32)), .val (.ref w_HONOURS), .val (.int (27 : Int32)), .val (.int (7 : Int32)), .val (.int z), .val (.int kk)] [(.int ((27 : Int32) + z)), (.int kk)])) _
    refine XS.iconst X2.here hx rfl (hb hby at_100) ?_
    show Steps p.tables e below (T2.setTop (mkF m 101 #[.val (.int p1), .val (.int p2), .val (.int (3 : Int32)), .val (.ref w_HONOURS), .val (.int (27 : Int32)), .val (.int (7 : Int32)), .val (.int z), .val (.int kk)] [(.int (1 : Int32)), (.int ((27 : Int32) + z)), (.int kk)])) _
    refine XS.isub X2.here hx rfl (hb hby at_101) rfl ?_
    show Steps p.tables e below (T2.setTop (mkF m 102 #[.val (.int p1), .val (.int p2), .val (.int (3 : Int32)), .val (.ref w_HONOURS), .val (.int (27 : Int32)), .val (.int (7 : Int32)), .val (.int z), .val (.int kk)] [(.int (((27 : Int32) + z) - (1 : Int32))), (.int kk)])) _
    rw [hbb]
    show Steps p.tables e below (T2.setTop (mkF m 102 #[.val (.int p1), .val (.int p2), .val (.int (3 : Int32)), .val (.ref w_HONOURS), .val (.int (27 : Int32)), .val (.int (7 : Int32)), .val (.int z), .val (.int kk)] [(.int kk), (.int kk)])) _
    refine XS.icmpYes X2.here hx rfl (pc0 := 102) (pc' := 107) rfl (hb hby at_102) rfl (teq rfl).1 (by decide) (by decide) ?_
    show Steps p.tables e below (T2.setTop (mkF m 107 #[.val (.int p1), .val (.int p2), .val (.int (3 : Int32)), .val (.ref w_HONOURS), .val (.int (27 : Int32)), .val (.int (7 : Int32)), .val (.int z), .val (.int kk)] [])) _
    refine XS.iload X2.here hx rfl (hb hby at_107) rfl ?_
    show Steps p.tables e below (T2.setTop (mkF m 109 #[.val (.int p1), .val (.int p2), .val (.int (3 : Int32)), .val (.ref w_HONOURS), .val (.int (27 : Int32)), .val (.int (7 : Int32)), .val (.int z), .val (.int kk)] [(.int kk)])) _
    refine XS.ifNo X2.here hx rfl (hb hby at_109) rfl ((if0 _ _).trans (flt hl).1) ?_
    show Steps p.tables e below (T2.setTop (mkF m 112 #[.val (.int p1), .val (.int p2), .val (.int (3 : Int32)), .val (.ref w_HONOURS), .val (.int (27 : Int32)), .val (.int (7 : Int32)), .val (.int z), .val (.int kk)] [])) _
    refine XS.iload X2.here hx rfl (hb hby at_112) rfl ?_
    show Steps p.tables e below (T2.setTop (mkF m 114 #[.val (.int p1), .val (.int p2), .val (.int (3 : Int32)), .val (.ref w_HONOURS), .val (.int (27 : Int32)), .val (.int (7 : Int32)), .val (.int z), .val (.int kk)] [(.int kk)])) _
    refine XS.bipush X2.here hx rfl (hb hby at_114) ?_
    show Steps p.tables e below (T2.setTop (mkF m 116 #[.val (.int p1), .val (.int p2), .val (.int (3 : Int32)), .val (.ref w_HONOURS), .val (.int (27 : Int32)), .val (.int (7 : Int32)), .val (.int z), .val (.int kk)] [(.int (34 : Int32)), (.int kk)])) _
    refine XS.icmpYes X2.here hx rfl (pc0 := 116) (pc' := 121) rfl (hb hby at_116) rfl (tlt hu).1 (by decide) (by decide) ?_
    show Steps p.tables e below (T2.setTop (mkF m 121 #[.val (.int p1), .val (.int p2), .val (.int (3 : Int32)), .val (.ref w_HONOURS), .val (.int (27 : Int32)), .val (.int (7 : Int32)), .val (.int z), .val (.int kk)] [])) _
    refine XS.iload X2.here hx rfl (hb hby at_121) rfl ?_
    show Steps p.tables e below (T2.setTop (mkF m 123 #[.val (.int p1), .val (.int p2), .val (.int (3 : Int32)), .val (.ref w_HONOURS), .val (.int (27 : Int32)), .val (.int (7 : Int32)), .val (.int z), .val (.int kk)] [(.int kk)])) _
    refine st3 _ ?_
    show Steps p.tables e below (T3.setTop (mkF m 126 #[.val (.int p1), .val (.int p2), .val (.int (3 : Int32)), .val (.ref w_HONOURS), .val (.int (27 : Int32)), .val (.int (7 : Int32)), .val (.int z), .val (.int kk)] [(.ref w_HONOURS)])) _
    refine XS.aloadN X3.here hx rfl (hb hby at_126) rfl rfl ?_
    show Steps p.tables e below (T3.setTop (mkF m 127 #[.val (.int p1), .val (.int p2), .val (.int (3 : Int32)), .val (.ref w_HONOURS), .val (.int (27 : Int32)), .val (.int (7 : Int32)), .val (.int z), .val (.int kk)] [(.ref w_HONOURS), (.ref w_HONOURS)])) _
    refine Jvm.RoadKit.acmp (g := (mkF m 127 #[.val (.int p1), .val (.int p2), .val (.int (3 : Int32)), .val (.ref w_HONOURS), .val (.int (27 : Int32)), .val (.int (7 : Int32)), .val (.int z), .val (.int kk)] [(.ref w_HONOURS), (.ref w_HONOURS)])) X3 hx rfl rfl rfl (pc0 := 127) (pc' := 130) (same := true) rfl (hb hby at_127) rfl (decide_eq_true rfl) (by decide) (by decide) ?_
    show Steps p.tables e below (T3.setTop (mkF m 130 #[.val (.int p1), .val (.int p2), .val (.int (3 : Int32)), .val (.ref w_HONOURS), .val (.int (27 : Int32)), .val (.int (7 : Int32)), .val (.int z), .val (.int kk)] [])) _
    refine XS.iconst X3.here hx rfl (hb hby at_130) ?_
    show Steps p.tables e below (T3.setTop (mkF m 131 #[.val (.int p1), .val (.int p2), .val (.int (3 : Int32)), .val (.ref w_HONOURS), .val (.int (27 : Int32)), .val (.int (7 : Int32)), .val (.int z), .val (.int kk)] [(.int (1 : Int32))])) _
    refine XS.goto X3.here hx rfl (pc0 := 131) (pc' := 135) rfl (hb hby at_131) (by decide) (by decide) ?_
    exact k)
  obtain ⟨fs, hr, hrun, hended, hW, hsame⟩ := X3.leave (v := some (.int (1 : Int32))) (fun h => by rw [Bd.returns] at h; cases h)
  refine ⟨_, _, pre4 _ ?_, hrun, hended, _, _, rfl, ?_, ⟨_, rfl⟩, hW, hsame.mono (by decide) (by decide)⟩
  · show Steps p.tables e below (T3.setTop (mkF m 135 #[.val (.int p1), .val (.int p2), .val (.int (3 : Int32)), .val (.ref w_HONOURS), .val (.int (27 : Int32)), .val (.int (7 : Int32)), .val (.int z), .val (.int kk)] [(.int (1 : Int32))])) _
    exact retN X3 hx (t := .boolean) Bd.returns (by simp) (hb hby at_135) hr
  · exact ⟨rfl, N3, e3⟩
theorem own_n3 (p2 : Int32) : let z := ((1 : Int32) + ((p2 &&& (2147483647 : Int32)) % (7 : Int32))); let kk := (((3 : Int32) * (9 : Int32)) + z) - (1 : Int32); ((27 : Int32) + z) - (1 : Int32) = kk ∧ ¬ (kk < (0 : Int32)) ∧ kk < (34 : Int32) ∧ kk / (9 : Int32) = (3 : Int32) := by
  intro z kk
  have q0 := c_mask p2 2147483647 31 (by decide) (by decide)
  have q1 := (c_irem (p2 &&& 2147483647) 7 7 (by decide)).1 (by omega)
  have e1 : (1 : Int32).toInt = 1 := by decide
  have a1 := c_iadd 1 ((p2 &&& 2147483647) % 7)
  have r1 := rng32 (1 + ((p2 &&& 2147483647) % 7))
  have hz : z.toInt = 1 + ((p2 &&& 2147483647) % 7 : Int32).toInt := by show (1 + ((p2 &&& 2147483647) % 7) : Int32).toInt = _; omega
  have b : ((3 : Int32) * (9 : Int32)) = (27 : Int32) := by decide
  have eb : (27 : Int32).toInt = 27 := by decide
  have a2 := c_iadd (27) z
  have r2 := rng32 ((27) + z)
  have s1 := c_isub ((27) + z) 1
  have r3 := rng32 ((27) + z - 1)
  have hk : kk = (27 : Int32) + z - 1 := by show ((3 : Int32) * (9 : Int32)) + z - 1 = _; rw [b]
  have hki : kk.toInt = 27 + z.toInt - 1 := by rw [hk]; omega
  have d := (c_idiv kk 9 9 (by decide) (by decide)).1 (by omega)
  have e0 : (0 : Int32).toInt = 0 := by decide
  have e34 : (34 : Int32).toInt = 34 := by decide
  have ek : (3 : Int32).toInt = 3 := by decide
  refine ⟨hk.symm, ?_, ?_, ?_⟩
  · rw [Int32.lt_iff_toInt_lt]; omega
  · rw [Int32.lt_iff_toInt_lt]; omega
  · rw [← Int32.toInt_inj]; omega
theorem own_cases (y : Int32) (h0 : 0 ≤ y.toInt) (h1 : y.toInt < 4) : y = (0 : Int32) ∨ y = (1 : Int32) ∨ y = (2 : Int32) ∨ y = (3 : Int32) := by
  have q : y.toInt = 0 ∨ y.toInt = 1 ∨ y.toInt = 2 ∨ y.toInt = 3 := by omega
  rcases q with q | q | q | q
  · exact Or.inl (Int32.toInt_inj.mp q)
  · exact Or.inr (Or.inl (Int32.toInt_inj.mp q))
  · exact Or.inr (Or.inr (Or.inl (Int32.toInt_inj.mp q)))
  · exact Or.inr (Or.inr (Or.inr (Int32.toInt_inj.mp q)))
theorem rm_law (l : Launch) (Z : State) (a0 : Array Value) (hw : ∀ d ∈ tables_1, d.before a0 Z = true) (ws : List Jvm.Cond) (p1 : Int32) (p2 : Int32) (h0 : Heap) (n0 : Nat) (w_CHARACTERS w_ALL w_BAMBOO w_DOTS w_HONOURS : Addr) (hK : own_K Z h0 w_CHARACTERS w_ALL w_BAMBOO w_DOTS w_HONOURS) :
    MetFree l x (head1 (Jvm.Cond.code x code maxLocals ret :: ws) room_1) (fun a U => a = #[(.int p1), (.int p2)] ∧ Z.Warmed39 U.vm ∧ U.heap = h0) (fun _ _ _ _ _ => True) (fun _ U o U' => ∃ v L, o = .returned v ∧ own_Q (some (.int (1 : Int32))) h0 n0 v U'.heap L ∧ FrameEnd U o U' L room_1.cells room_1.slots) := by
  have q := c_mask p1 3 2 (by decide) (by decide)
  rcases own_cases (p1 &&& (3 : Int32)) (by omega) (by omega) with hk | hk | hk | hk
  · exact rm_law0 l Z a0 hw ws p1 p2 h0 n0 w_CHARACTERS w_ALL w_BAMBOO w_DOTS w_HONOURS hK _ _ hk rfl rfl (own_n0 p2).1 (own_n0 p2).2.1 (own_n0 p2).2.2.1 (own_n0 p2).2.2.2
  · exact rm_law1 l Z a0 hw ws p1 p2 h0 n0 w_CHARACTERS w_ALL w_BAMBOO w_DOTS w_HONOURS hK _ _ hk rfl rfl (own_n1 p2).1 (own_n1 p2).2.1 (own_n1 p2).2.2.1 (own_n1 p2).2.2.2
  · exact rm_law2 l Z a0 hw ws p1 p2 h0 n0 w_CHARACTERS w_ALL w_BAMBOO w_DOTS w_HONOURS hK _ _ hk rfl rfl (own_n2 p2).1 (own_n2 p2).2.1 (own_n2 p2).2.2.1 (own_n2 p2).2.2.2
  · exact rm_law3 l Z a0 hw ws p1 p2 h0 n0 w_CHARACTERS w_ALL w_BAMBOO w_DOTS w_HONOURS hK _ _ hk rfl rfl (own_n3 p2).1 (own_n3 p2).2.1 (own_n3 p2).2.2.1 (own_n3 p2).2.2.2
set_option maxRecDepth 65536 in
set_option maxHeartbeats 40000000 in
theorem comes_1 {Post : Tables → Env → Array Value → State → Outcome → State → Prop} (hpost : ∀ tb e args s v u, (limb_1_1.after args s (.returned v) u = true ∧ limb_1_2.after args s (.returned v) u = true ∧ True) → FrameEnd s (.returned v) u (Jvm.fieldLocs frame_1_writes args s ++ Jvm.arrayLocs frame_1_arrays args s ++ Jvm.staticLocs frame_1_statics s) 0 0 → Post tb e args s (.returned v) u) :
    ArmFor flags0 classFile x code maxLocals ret World_1 tables_1 room_1 Calls_1 rest_1 Pre_1 Post := by
  intro l hfl _ _ p e ha hc hk s m args below hf hA hF happ hP
  obtain ⟨hcalls, hrest, hpre⟩ := hP
  obtain ⟨-, -, -, hnamed, -, -, -, hat⟩ := (Spec.applies_iff hf).mp happ
  obtain ⟨hg, hn⟩ := and_e (Cond.before_iff.mp (show (Jvm.Cond.and given_1 narrow_1).before args s = true from hpre))
  obtain ⟨g0, hg⟩ := and_e hg
  obtain ⟨g1, hg⟩ := and_e hg
  obtain ⟨w0, w1, rfl⟩ : ∃ w0 w1 : Value, args = #[w0, w1] := by
    have hs : args.size = 2 := by simpa [Cond.value, given_1] using g0
    obtain ⟨L⟩ := args
    match L, hs with
    | [w0, w1], _ => exact ⟨w0, w1, rfl⟩
  have hw := fun d (hd : d ∈ tables_1) => atoms_spec (ws := Jvm.Cond.code x code maxLocals ret :: tables_1) hat d (List.mem_cons_of_mem _ hd)
  have hfit : Fit s := fun {y c} hc i hi => by
    obtain ⟨ha, rfl⟩ := Array.getElem?_eq_some_iff.mp hc
    have q := List.all_eq_true.mp ((Array.all_eq_true_iff_forall_mem.mp hF) _ (Array.getElem_mem ha)) i (List.mem_range.mpr hi)
    simpa [Array.getElem?_eq_getElem hi] using q
  obtain ⟨i0, ei0⟩ := is_v g1
  obtain rfl : w0 = (.int i0) := Option.some.inj ei0
  obtain ⟨i1, ei1⟩ := is_v hg
  obtain rfl : w1 = (.int i1) := Option.some.inj ei1
  obtain ⟨c0, hn⟩ := and_e hn
  obtain ⟨w_CHARACTERS, v_w_CHARACTERS⟩ := exa_v c0
  have S_w_CHARACTERS := Sta.start v_w_CHARACTERS (Or.inr ⟨(hw _ (ow 1 rfl)), (hw _ (ow 2 rfl))⟩)
  have E_w_CHARACTERS := Exa.start v_w_CHARACTERS c0
  obtain ⟨c1, hn⟩ := and_e hn
  have F_ordinal_w_CHARACTERS := Fld.start ((fld_at v_w_CHARACTERS).symm.trans (own_eqI c1))
  obtain ⟨c2, hn⟩ := and_e hn
  obtain ⟨w_ALL, v_w_ALL⟩ := arr_v c2
  have S_w_ALL := Sta.start v_w_ALL (Or.inr ⟨(hw _ (ow 1 rfl)), (hw _ (ow 22 rfl))⟩)
  obtain ⟨cl_w_ALL, A_w_ALL⟩ := Arr.start v_w_ALL c2
  obtain ⟨c3, hn⟩ := and_e hn
  have n_w_ALL := own_len (own_eqI c3) v_w_ALL A_w_ALL.1
  obtain ⟨c4, hn⟩ := and_e hn
  have a0_w_ALL := (elem_in (own_eqR c4 v_w_CHARACTERS) v_w_ALL rfl A_w_ALL.1).2
  obtain ⟨c5, hn⟩ := and_e hn
  obtain ⟨w_BAMBOO, v_w_BAMBOO⟩ := exa_v c5
  have S_w_BAMBOO := Sta.start v_w_BAMBOO (Or.inr ⟨(hw _ (ow 1 rfl)), (hw _ (ow 24 rfl))⟩)
  have E_w_BAMBOO := Exa.start v_w_BAMBOO c5
  obtain ⟨c6, hn⟩ := and_e hn
  have F_ordinal_w_BAMBOO := Fld.start ((fld_at v_w_BAMBOO).symm.trans (own_eqI c6))
  obtain ⟨c7, hn⟩ := and_e hn
  have a2_w_ALL := (elem_in (own_eqR c7 v_w_BAMBOO) v_w_ALL rfl A_w_ALL.1).2
  obtain ⟨c8, hn⟩ := and_e hn
  obtain ⟨w_DOTS, v_w_DOTS⟩ := exa_v c8
  have S_w_DOTS := Sta.start v_w_DOTS (Or.inr ⟨(hw _ (ow 1 rfl)), (hw _ (ow 26 rfl))⟩)
  have E_w_DOTS := Exa.start v_w_DOTS c8
  obtain ⟨c9, hn⟩ := and_e hn
  have F_ordinal_w_DOTS := Fld.start ((fld_at v_w_DOTS).symm.trans (own_eqI c9))
  obtain ⟨c10, hn⟩ := and_e hn
  have a1_w_ALL := (elem_in (own_eqR c10 v_w_DOTS) v_w_ALL rfl A_w_ALL.1).2
  obtain ⟨c11, hn⟩ := and_e hn
  obtain ⟨w_HONOURS, v_w_HONOURS⟩ := exa_v c11
  have S_w_HONOURS := Sta.start v_w_HONOURS (Or.inr ⟨(hw _ (ow 1 rfl)), (hw _ (ow 28 rfl))⟩)
  have E_w_HONOURS := Exa.start v_w_HONOURS c11
  obtain ⟨c12, hn⟩ := and_e hn
  have F_ordinal_w_HONOURS := Fld.start ((fld_at v_w_HONOURS).symm.trans (own_eqI c12))
  have a3_w_ALL := (elem_in (own_eqR hn v_w_HONOURS) v_w_ALL rfl A_w_ALL.1).2
  have B_w_ALL : own_Arr s s.heap w_ALL (.object "com/example/tenpai/tenpai/core/Suit") [(.ref w_CHARACTERS), (.ref w_DOTS), (.ref w_BAMBOO), (.ref w_HONOURS)] := ⟨cl_w_ALL, A_w_ALL, own_ext_w_ALL n_w_ALL a0_w_ALL a1_w_ALL a2_w_ALL a3_w_ALL⟩
  have hK : own_K s s.heap w_CHARACTERS w_ALL w_BAMBOO w_DOTS w_HONOURS := ⟨S_w_CHARACTERS, E_w_CHARACTERS, F_ordinal_w_CHARACTERS, S_w_ALL, S_w_BAMBOO, E_w_BAMBOO, F_ordinal_w_BAMBOO, S_w_DOTS, E_w_DOTS, F_ordinal_w_DOTS, S_w_HONOURS, E_w_HONOURS, F_ordinal_w_HONOURS, B_w_ALL⟩
  obtain ⟨n, o, h1, h2, h3, _, L, rfl, ⟨rfl, N, -⟩, hq⟩ := rm_law l s _ hw tables_1 i0 i1 s.heap s.heap.size w_CHARACTERS w_ALL w_BAMBOO w_DOTS w_HONOURS hK p e ha hc hk s m _ below hf ((Spec.applies_iff_loose hf).mp happ).1 ⟨rfl, State.Warmed39.refl s, rfl⟩ trivial
  refine ⟨n, _, h1, h2, h3, hpost _ _ _ _ _ _ ⟨Cond.after_iff.mpr rfl, Cond.after_iff.mpr (eq_i res_at (Term.int_eval (1)) rfl), trivial⟩ ⟨hq.1, hq.2.1, (hq.2.2.sift fun y hy => Or.inr (N y hy)).mono (by decide) (by decide)⟩⟩
theorem main_1_1 : Claimed_1_1 := comes_1 fun _ _ _ _ _ _ h hF => ⟨h.1, hF⟩
theorem main_1_2 : Claimed_1_2 := comes_1 fun _ _ _ _ _ _ h hF => ⟨h.2.1, hF⟩
end Jvm.Pilot.@@N@@
namespace Jvm.Pilot.@@N@@
open Jvm Jvm.ClassFile Sem Op Lib Jvm.Free Jvm.Stand Jvm.Pilot.@@N@@.Jvm.D
/-! MADE BY PROGRAM (witnessworld.py) out of the Statement's table words and the real class files: 13 classes; the members and pool entries that the words name. The judged class is class 1, her method 1. -/
namespace start1
open Jvm.ClassFile
def u (s : String) : CpInfo := .utf8 (stringToUtf16 s)
/-- a pool by its gaps: so many unusable entries, then the entry; so many at the end -/
def gap : Nat → List CpInfo → List CpInfo
  | 0, r => r
  | n + 1, r => .unusable :: gap n r
def poolList (es : List (Nat × CpInfo)) (last : Nat) : List CpInfo := es.foldr (fun e r => gap e.1 (e.2 :: r)) (gap last [])
def pool (es : List (Nat × CpInfo)) (last : Nat) : Array CpInfo := ⟨poolList es last⟩
def fileOf (pool : Array CpInfo) (this : Nat) (attrs : Array Attribute := #[]) (ms : Array MethodInfo := #[]) (fl : Nat := 33) (sup : Nat := 0) (ifs : Array Nat := #[]) (fds : Array FieldInfo := #[]) : ClassFile where
  minorVersion := 0
  majorVersion := 65
  constantPool := pool
  accessFlags := fl
  thisClass := this
  superClass := sup
  interfaces := ifs
  fields := fds
  methods := ms
  attributes := attrs
def plain (name : String) (sup : Option ClassId) : Class where
  name := name
  kind := .ordinary
  loader := none
  accessFlags := 33
  super := sup
  interfaces := #[]
  cf := none
  fields := #[]
  methods := #[]
  instanceTypes := #[]
  staticTypes := #[]
  resolved := #[]
  callSites := []
  init := .initialized
  statics := none
  mirror := none

def pool0 : Array CpInfo := pool [(5, u "<init>"), (0, u "()V"), (1, .class_ 10), (1, u "java/lang/Object")] 113

def k0m0 : Method := { name := "<init>", desc := "()V", sig := { parameters := [], returnType := none }, accessFlags := 1, code := none }
/-- java/lang/Object -/
def k0 : Class := { plain "java/lang/Object" none with
  accessFlags := 33
  interfaces := #[]
  cf := some (fileOf pool0 8 #[] #[{ accessFlags := 1, nameIndex := 5, descriptorIndex := 6, attributes := #[] }] 33 0 #[] #[])
  fields := #[]
  methods := #[k0m0]
  instanceTypes := #[]
  staticTypes := #[]
  resolved := Array.replicate 124 none
  statics := none }

def pool1 : Array CpInfo := pool [(2, .class_ 4), (1, u "java/lang/Object"), (0, u "<init>"), (0, u "()V"), (0, .fieldref 8 9), (0, .class_ 10), (0, .nameAndType 11 12), (0, u "com/example/tenpai/tenpai/core/Suit"), (0, u "CHARACTERS"), (0, u "Lcom/example/tenpai/tenpai/core/Suit;"), (0, .fieldref 8 14), (0, .nameAndType 15 12), (0, u "DOTS"), (0, .fieldref 8 17), (0, .nameAndType 18 12), (0, u "BAMBOO"), (0, .fieldref 8 20), (0, .nameAndType 21 12), (0, u "HONOURS"), (0, .integer 2147483647), (0, .methodref 8 24), (0, .nameAndType 25 26), (0, u "kind"), (0, u "(I)I"), (0, .methodref 8 28), (0, .nameAndType 29 30), (0, u "ofKind"), (0, u "(I)Lcom/example/tenpai/tenpai/core/Suit;"), (0, .class_ 32), (0, u "com/example/tenpai/tenpai/core/SuitKindPinLaw"), (2, u "law"), (0, u "(II)Z")] 3

def k1m0 : Method := { name := "<init>", desc := "()V", sig := { parameters := [], returnType := none }, accessFlags := 1, code := none }
def k1c1 : Code := { maxStack := 3, maxLocals := 8, code := code, exceptionTable := #[], attributes := #[] }
def k1m1 : Method := { name := "law", desc := "(II)Z", sig := { parameters := [.int, .int], returnType := some .boolean }, accessFlags := 9, code := some k1c1 }
/-- com/example/tenpai/tenpai/core/SuitKindPinLaw -/
def k1 : Class := { plain "com/example/tenpai/tenpai/core/SuitKindPinLaw" (some 0) with
  accessFlags := 49
  interfaces := #[]
  cf := some (fileOf pool1 31 #[] #[{ accessFlags := 1, nameIndex := 5, descriptorIndex := 6, attributes := #[] }, { accessFlags := 9, nameIndex := 35, descriptorIndex := 36, attributes := #[] }] 49 2 #[] #[])
  fields := #[]
  methods := #[k1m0, k1m1]
  instanceTypes := #[]
  staticTypes := #[]
  resolved := Array.replicate 40 none
  statics := none }

def pool2 : Array CpInfo := pool [(1, .class_ 2), (0, u "java/lang/constant/Constable"), (0, .class_ 4), (0, u "java/lang/Object")] 6

/-- java/lang/constant/Constable -/
def k2 : Class := { plain "java/lang/constant/Constable" (some 0) with
  accessFlags := 1537
  interfaces := #[]
  cf := some (fileOf pool2 1 #[] #[] 1537 3 #[] #[])
  fields := #[]
  methods := #[]
  instanceTypes := #[]
  staticTypes := #[]
  resolved := Array.replicate 11 none
  statics := none }

def pool3 : Array CpInfo := pool [(1, .class_ 2), (0, u "java/lang/Comparable"), (0, .class_ 4), (0, u "java/lang/Object")] 7

/-- java/lang/Comparable -/
def k3 : Class := { plain "java/lang/Comparable" (some 0) with
  accessFlags := 1537
  interfaces := #[]
  cf := some (fileOf pool3 1 #[] #[] 1537 3 #[] #[])
  fields := #[]
  methods := #[]
  instanceTypes := #[]
  staticTypes := #[]
  resolved := Array.replicate 12 none
  statics := none }

def pool4 : Array CpInfo := pool [(1, .class_ 2), (0, u "java/io/Serializable"), (0, .class_ 4), (0, u "java/lang/Object")] 2

/-- java/io/Serializable -/
def k4 : Class := { plain "java/io/Serializable" (some 0) with
  accessFlags := 1537
  interfaces := #[]
  cf := some (fileOf pool4 1 #[] #[] 1537 3 #[] #[])
  fields := #[]
  methods := #[]
  instanceTypes := #[]
  staticTypes := #[]
  resolved := Array.replicate 7 none
  statics := none }

def pool5 : Array CpInfo := pool [(2, .class_ 4), (1, u "java/lang/Enum"), (0, u "name"), (0, u "Ljava/lang/String;"), (0, .fieldref 2 8), (0, .nameAndType 9 10), (0, u "ordinal"), (0, u "I"), (1, .class_ 14), (1, u "java/lang/Object"), (4, u "hash"), (86, .class_ 108), (1, u "java/lang/Enum$EnumDesc"), (2, .class_ 112), (0, u "java/lang/constant/Constable"), (0, .class_ 114), (0, u "java/lang/Comparable"), (0, .class_ 116), (0, u "java/io/Serializable"), (9, u "()I")] 77

def k5c0 : Code := { maxStack := 1, maxLocals := 1, code := jdk_37_method_2_code, exceptionTable := #[], attributes := #[] }
def k5m0 : Method := { name := "ordinal", desc := "()I", sig := { parameters := [], returnType := some .int }, accessFlags := 17, code := some k5c0 }
/-- java/lang/Enum -/
def k5 : Class := { plain "java/lang/Enum" (some 0) with
  accessFlags := 1057
  interfaces := #[2, 3, 4]
  cf := some (fileOf pool5 2 #[.nestMembers #[106]] #[{ accessFlags := 17, nameIndex := 9, descriptorIndex := 126, attributes := #[] }] 1057 12 #[111, 113, 115] #[{ accessFlags := 18, nameIndex := 5, descriptorIndex := 6, attributes := #[] }, { accessFlags := 18, nameIndex := 9, descriptorIndex := 10, attributes := #[] }, { accessFlags := 2, nameIndex := 19, descriptorIndex := 10, attributes := #[] }])
  fields := #[{ name := "name", type := (.object "java/lang/String"), accessFlags := 18, slot := 0, constantValue := 0 }, { name := "ordinal", type := .int, accessFlags := 18, slot := 1, constantValue := 0 }, { name := "hash", type := .int, accessFlags := 2, slot := 2, constantValue := 0 }]
  methods := #[k5m0]
  instanceTypes := #[(.object "java/lang/String"), .int, .int]
  staticTypes := #[]
  resolved := Array.replicate 204 none
  statics := none }

def pool6 : Array CpInfo := pool [(1, .class_ 2), (0, u "com/example/tenpai/tenpai/core/Suit"), (2, u "CHARACTERS"), (0, u "Lcom/example/tenpai/tenpai/core/Suit;"), (2, u "DOTS"), (2, u "BAMBOO"), (2, u "HONOURS"), (2, u "$VALUES"), (0, u "[Lcom/example/tenpai/tenpai/core/Suit;"), (6, .class_ 28), (1, u "java/lang/Enum"), (8, u "_letter"), (0, u "C"), (2, u "_size"), (0, u "I"), (2, u "_runs"), (0, u "Z"), (0, .fieldref 1 48), (0, .nameAndType 49 19), (0, u "ALL"), (0, .methodref 1 51), (0, .nameAndType 52 53), (0, u "ordinal"), (0, u "()I"), (14, u "KINDS"), (11, u "ofKind"), (0, u "(I)Lcom/example/tenpai/tenpai/core/Suit;"), (5, u "kind"), (0, u "(I)I")] 5

def k6c0 : Code := { maxStack := 3, maxLocals := 1, code := prog_25_method_5_code, exceptionTable := #[], attributes := #[] }
def k6m0 : Method := { name := "ofKind", desc := "(I)Lcom/example/tenpai/tenpai/core/Suit;", sig := { parameters := [.int], returnType := some (.object "com/example/tenpai/tenpai/core/Suit") }, accessFlags := 8, code := some k6c0 }
def k6c1 : Code := { maxStack := 2, maxLocals := 2, code := prog_25_method_9_code, exceptionTable := #[], attributes := #[] }
def k6m1 : Method := { name := "kind", desc := "(I)I", sig := { parameters := [.int], returnType := some .int }, accessFlags := 0, code := some k6c1 }
/-- com/example/tenpai/tenpai/core/Suit -/
def k6 : Class := { plain "com/example/tenpai/tenpai/core/Suit" (some 5) with
  accessFlags := 16432
  interfaces := #[]
  cf := some (fileOf pool6 1 #[] #[{ accessFlags := 8, nameIndex := 80, descriptorIndex := 81, attributes := #[] }, { accessFlags := 0, nameIndex := 87, descriptorIndex := 88, attributes := #[] }] 16432 26 #[] #[{ accessFlags := 16409, nameIndex := 5, descriptorIndex := 6, attributes := #[] }, { accessFlags := 16409, nameIndex := 9, descriptorIndex := 6, attributes := #[] }, { accessFlags := 16409, nameIndex := 12, descriptorIndex := 6, attributes := #[] }, { accessFlags := 16409, nameIndex := 15, descriptorIndex := 6, attributes := #[] }, { accessFlags := 24, nameIndex := 68, descriptorIndex := 42, attributes := #[] }, { accessFlags := 26, nameIndex := 49, descriptorIndex := 19, attributes := #[] }, { accessFlags := 18, nameIndex := 37, descriptorIndex := 38, attributes := #[] }, { accessFlags := 18, nameIndex := 41, descriptorIndex := 42, attributes := #[] }, { accessFlags := 18, nameIndex := 45, descriptorIndex := 46, attributes := #[] }, { accessFlags := 4122, nameIndex := 18, descriptorIndex := 19, attributes := #[] }])
  fields := #[{ name := "CHARACTERS", type := (.object "com/example/tenpai/tenpai/core/Suit"), accessFlags := 16409, slot := 0, constantValue := 0 }, { name := "DOTS", type := (.object "com/example/tenpai/tenpai/core/Suit"), accessFlags := 16409, slot := 1, constantValue := 0 }, { name := "BAMBOO", type := (.object "com/example/tenpai/tenpai/core/Suit"), accessFlags := 16409, slot := 2, constantValue := 0 }, { name := "HONOURS", type := (.object "com/example/tenpai/tenpai/core/Suit"), accessFlags := 16409, slot := 3, constantValue := 0 }, { name := "KINDS", type := .int, accessFlags := 24, slot := 4, constantValue := 0 }, { name := "ALL", type := (.array (.object "com/example/tenpai/tenpai/core/Suit")), accessFlags := 26, slot := 5, constantValue := 0 }, { name := "_letter", type := .char, accessFlags := 18, slot := 3, constantValue := 0 }, { name := "_size", type := .int, accessFlags := 18, slot := 4, constantValue := 0 }, { name := "_runs", type := .boolean, accessFlags := 18, slot := 5, constantValue := 0 }, { name := "$VALUES", type := (.array (.object "com/example/tenpai/tenpai/core/Suit")), accessFlags := 4122, slot := 6, constantValue := 0 }]
  methods := #[k6m0, k6m1]
  instanceTypes := #[(.object "java/lang/String"), .int, .int, .char, .int, .boolean]
  staticTypes := #[(.object "com/example/tenpai/tenpai/core/Suit"), (.object "com/example/tenpai/tenpai/core/Suit"), (.object "com/example/tenpai/tenpai/core/Suit"), (.object "com/example/tenpai/tenpai/core/Suit"), .int, (.array (.object "com/example/tenpai/tenpai/core/Suit")), (.array (.object "com/example/tenpai/tenpai/core/Suit"))]
  resolved := Array.replicate 94 none
  statics := some 0 }

def pool7 : Array CpInfo := pool [(1, u "java/lang/Cloneable"), (0, .class_ 1), (0, u "java/lang/Object"), (0, .class_ 3)] 3

/-- java/lang/Cloneable -/
def k7 : Class := { plain "java/lang/Cloneable" (some 0) with
  accessFlags := 1537
  interfaces := #[]
  cf := some (fileOf pool7 2 #[] #[] 1537 4 #[] #[])
  fields := #[]
  methods := #[]
  instanceTypes := #[]
  staticTypes := #[]
  resolved := Array.replicate 8 none
  statics := none }

/-- the primitive byte -/
def k8 : Class := { plain "byte" none with kind := .primitive 'B', accessFlags := 0x411 }
/-- [B -/
def k9 : Class := { plain "[B" (some 0) with kind := .array 8 .byte, interfaces := #[7, 4], accessFlags := 1041 }

/-- the primitive int -/
def k10 : Class := { plain "int" none with kind := .primitive 'I', accessFlags := 0x411 }
/-- [I -/
def k11 : Class := { plain "[I" (some 0) with kind := .array 10 .int, interfaces := #[7, 4], accessFlags := 1041 }

/-- [Lcom/example/tenpai/tenpai/core/Suit; -/
def k12 : Class := { plain "[Lcom/example/tenpai/tenpai/core/Suit;" (some 0) with kind := .array 6 (.object "com/example/tenpai/tenpai/core/Suit"), interfaces := #[7, 4], accessFlags := 1041 }

def heap : Heap := #[{ cls := 6, slots := #[.ref 2, .ref 4, .ref 3, .ref 5, .int 0, .ref 1, .null], vm := .statics 6 },
  { cls := 12, slots := #[.ref 2, .ref 4, .ref 3, .ref 5], vm := .none },
  { cls := 6, slots := #[.null, .int 0, .int 0, .int 0, .int 0, .int 0], vm := .none },
  { cls := 6, slots := #[.null, .int 2, .int 0, .int 0, .int 0, .int 0], vm := .none },
  { cls := 6, slots := #[.null, .int 1, .int 0, .int 0, .int 0, .int 0], vm := .none },
  { cls := 6, slots := #[.null, .int 3, .int 0, .int 0, .int 0, .int 0], vm := .none }]
def classes : Array Class := #[k0, k1, k2, k3, k4, k5, k6, k7, k8, k9, k10, k11, k12]
def interned : List (Array UInt16 × Addr) := []
def slotsUsed : Nat := 35
def theMethod : MethodId := ⟨1, 1⟩
def args0 : Array Value := #[.int 5, .int 4]
def aboutOver (below : List Frame) : State where
  vm := { classes := classes, interned := interned.toArray }
  heap := heap
  slotsUsed := slotsUsed
  threads := #[{ frames := .invoking theMethod args0 :: below }]
def below0 : List Frame := [.native { method := ⟨0, 0⟩, args := #[] }]
def about1 : State := aboutOver below0
def p0 : Program := .bare "" "" ""
def e0 : Env := launch0.env 0 0 0
theorem w_frames : about1.frames = Frame.invoking theMethod args0 :: below0 := rfl
set_option maxRecDepth 65536 in
theorem w_args : argsFit about1.vm theMethod args0 = true := by decide +kernel
set_option maxRecDepth 65536 in
theorem w_heap : heapFits about1 = true := by decide +kernel
set_option maxRecDepth 65536 in
theorem w_runnable : about1.curStatus? = some .runnable := by decide +kernel
set_option maxRecDepth 65536 in
theorem w_alone : about1.alone = true := by decide +kernel
set_option maxRecDepth 65536 in
theorem w_named : about1.methodNamed? x = some theMethod := by decide +kernel
set_option maxRecDepth 65536 in
theorem w_hears : about1.hears theMethod below0 = true := by decide +kernel
set_option maxRecDepth 65536 in
theorem w_ripe : about1.ripe theMethod args0 below0 = true := by decide +kernel
theorem w_running : about1.status = .running := rfl
set_option maxRecDepth 65536 in
theorem w_room : about1.hasRoom e0.platform room_1 = true :=
  launch0.hasRoom_least _ room_1 (by decide +kernel) (by decide +kernel) (by decide +kernel) (by decide +kernel) (by decide +kernel) (by decide +kernel)
theorem allAtoms_all (ts : List Jvm.Cond) (a : Array Jvm.Value) (st : Jvm.State) : (allAtoms ts).before a st = ts.all (fun c => c.before a st) := by
  induction ts with
  | nil => rfl
  | cons c t ih =>
    show (Jvm.Cond.and c (allAtoms t)).before a st = _
    rw [Jvm.Cond.before_and, ih, List.all_cons]
def words1 : List Jvm.Cond := Jvm.Cond.code x code maxLocals ret :: tables_1
/-- a 'code' word, met by the world's own term for the bytes: nothing is compared byte by byte -/
theorem code_word {y : MethodName} {bytes : ByteArray} {mx : Nat} {rt : Option FieldType} {a : Array Value} {s : State} {m : MethodId} {meth : Method} {c : Code} (h1 : s.methodNamed? y = some m) (h2 : s.vm.method? m = some meth) (h3 : meth.code = some c) (h4 : c.code = bytes)
    (h5 : (c.maxLocals == mx && c.exceptionTable.isEmpty && decide (c.maxStack ≤ mostOperands) && decide (meth.sig.returnType = rt) && !meth.locks && decide (parseMethodDescriptor y.desc = some meth.sig)) = true) : (Jvm.Cond.code y bytes mx rt).before a s = true := by
  simp only [Bool.and_eq_true, beq_iff_eq, Bool.not_eq_true', decide_eq_true_eq] at h5
  obtain ⟨⟨⟨⟨⟨g1, g2⟩, g3⟩, g4⟩, g5⟩, g6⟩ := h5
  simp [Cond.before, Cond.holds, Cond.value, h1, h2, h3, h4, g1, g2, g3, g4, g5, g6]
def isCode : Jvm.Cond → Bool
  | .code _ _ _ _ => true
  | _ => false
theorem all_split {L : List Jvm.Cond} {P : Jvm.Cond → Bool} (h1 : L.all (fun c => isCode c || P c) = true) (h2 : ∀ c ∈ L.filter isCode, P c = true) : L.all P = true := by
  refine List.all_eq_true.mpr fun c hc => ?_
  have h := List.all_eq_true.mp h1 c hc
  rcases Bool.eq_false_or_eq_true (isCode c) with hi | hi
  · exact h2 c (List.mem_filter.mpr ⟨hc, hi⟩)
  · simpa [hi] using h
set_option maxRecDepth 65536 in
theorem w_c0 : (Jvm.Cond.code x code maxLocals ret).before args0 about1 = true := code_word (m := ⟨1, 1⟩) (meth := k1m1) (c := k1c1) (by decide +kernel) rfl rfl rfl (by decide +kernel)
set_option maxRecDepth 65536 in
theorem w_c1 : (Jvm.Cond.code ({ cls := "com/example/tenpai/tenpai/core/Suit", name := "kind", desc := "(I)I" } : Jvm.MethodName) prog_25_method_9_code (2 : Nat) (Option.some Jvm.ClassFile.FieldType.int)).before args0 about1 = true := code_word (m := ⟨6, 1⟩) (meth := k6m1) (c := k6c1) (by decide +kernel) rfl rfl rfl (by decide +kernel)
set_option maxRecDepth 65536 in
theorem w_c2 : (Jvm.Cond.code ({ cls := "java/lang/Enum", name := "ordinal", desc := "()I" } : Jvm.MethodName) jdk_37_method_2_code (1 : Nat) (Option.some Jvm.ClassFile.FieldType.int)).before args0 about1 = true := code_word (m := ⟨5, 0⟩) (meth := k5m0) (c := k5c0) (by decide +kernel) rfl rfl rfl (by decide +kernel)
set_option maxRecDepth 65536 in
theorem w_c3 : (Jvm.Cond.code ({ cls := "com/example/tenpai/tenpai/core/Suit", name := "ofKind", desc := "(I)Lcom/example/tenpai/tenpai/core/Suit;" } : Jvm.MethodName) prog_25_method_5_code (1 : Nat) (Option.some (Jvm.ClassFile.FieldType.object "com/example/tenpai/tenpai/core/Suit"))).before args0 about1 = true := code_word (m := ⟨6, 0⟩) (meth := k6m0) (c := k6c0) (by decide +kernel) rfl rfl rfl (by decide +kernel)
def codes1 : List Jvm.Cond := [Jvm.Cond.code x code maxLocals ret, Jvm.Cond.code ({ cls := "com/example/tenpai/tenpai/core/Suit", name := "kind", desc := "(I)I" } : Jvm.MethodName) prog_25_method_9_code (2 : Nat) (Option.some Jvm.ClassFile.FieldType.int), Jvm.Cond.code ({ cls := "java/lang/Enum", name := "ordinal", desc := "()I" } : Jvm.MethodName) jdk_37_method_2_code (1 : Nat) (Option.some Jvm.ClassFile.FieldType.int), Jvm.Cond.code ({ cls := "com/example/tenpai/tenpai/core/Suit", name := "ofKind", desc := "(I)Lcom/example/tenpai/tenpai/core/Suit;" } : Jvm.MethodName) prog_25_method_5_code (1 : Nat) (Option.some (Jvm.ClassFile.FieldType.object "com/example/tenpai/tenpai/core/Suit"))]
set_option maxRecDepth 65536 in
theorem codes_eq : words1.filter isCode = codes1 := rfl
theorem w_codes : ∀ c ∈ words1.filter isCode, c.before args0 about1 = true := by
  rw [codes_eq]
  intro c hc
  simp only [codes1, List.mem_cons, List.not_mem_nil, or_false] at hc
  rcases hc with rfl | rfl | rfl | rfl
  · exact w_c0
  · exact w_c1
  · exact w_c2
  · exact w_c3
set_option maxRecDepth 65536 in
theorem w_t1 : (words1.take 24).all (fun c => isCode c || c.before args0 about1) = true := by decide +kernel
set_option maxRecDepth 65536 in
theorem w_t2 : (words1.drop 24).all (fun c => isCode c || c.before args0 about1) = true := by decide +kernel
theorem w_tables : (allAtoms (Jvm.Cond.code x code maxLocals ret :: tables_1)).before args0 about1 = true := by
  rw [allAtoms_all]
  show words1.all (fun c => c.before args0 about1) = true
  refine all_split ?_ w_codes
  rw [← List.take_append_drop 24 words1, List.all_append, w_t1, w_t2]
  rfl
set_option maxRecDepth 65536 in
theorem w_case : (Jvm.Cond.and given_1 narrow_1).before args0 about1 = true := by decide +kernel
theorem w_applies : (headSpec (Jvm.Cond.code x code maxLocals ret :: tables_1) room_1).applies x e0.platform about1 = true :=
  (Spec.applies_iff w_frames).mpr ⟨w_running, w_runnable, w_alone, w_named, w_hears, w_ripe, w_room, w_tables⟩
theorem atStart : AtStart classFile x code maxLocals ret World_1 tables_1 room_1 Calls_1 rest_1 Pre_1 launch0 p0 e0 about1 theMethod args0 below0 :=
  ⟨lists_1, trivial, launch0.admits_env _ _ _, launch0.least_env, fairChoices_fair.cas, fairChoices_fair.clock, w_frames, w_args, w_heap, w_applies, trivial, trivial, w_case⟩
end start1
theorem witness_1 : WitnessClaimed_1 := ⟨start1.p0, start1.e0, start1.about1, start1.theMethod, start1.args0, start1.below0, start1.atStart⟩
end Jvm.Pilot.@@N@@
