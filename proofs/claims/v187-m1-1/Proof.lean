import JvmDerived
import JvmDerived.Pilot.@@N@@Statement
import JvmDerived.Pilot.@@N@@Code
set_option linter.unusedVariables false
set_option linter.unusedSimpArgs false
namespace Jvm.RoadKit
open Sem ClassFile Op Lib Jvm.Stand Jvm.Free Jvm.LawKit
section New
variable {p : Program} {l : Launch} {e : Env} {R : Room} {s : State} {m : MethodId} {args : Array Value} {below : List Frame} {meth : Method} {c : Code} {T : State} {locs : List Loc} {cells slots : Nat}
theorem retI (X : Stand p l e R s m args below meth c T locs cells slots) (hx : p.tables.exec = Jvm.exec) {pc : Nat} {Ls : Array Slot} {z : Int32} {rest : List Value} (hret : meth.sig.returnType = some .int) (hd : decode c.code pc = .ok (.ireturn, 1)) {fs : List Frame}
    (hl : ∀ (f : JFrame) (acts : List Action), f.method = m → f.locked = none → f.entered = [] → (doReturn e (T.setTop f) acts (some (.int z))).1 = T.setFrames fs) : Steps p.tables e below (T.setTop (mkF m pc Ls (.int z :: rest))) (T.setFrames fs) :=
  retOut X hx hret rfl (Or.inl ⟨rfl, Or.inl rfl, z, rfl⟩) hd hl
end New
end Jvm.RoadKit
namespace Jvm.Pilot.@@N@@
open Jvm Jvm.ClassFile Sem Op Lib Jvm.Free Jvm.Stand Jvm.LawKit Jvm.RoadKit Bundle Jvm.Pilot.@@N@@.Jvm.D
theorem ow {d : Jvm.Cond} (i : Nat) (h : tables_1[i]? = some d) : d ∈ tables_1 := List.mem_of_getElem? h
/-- what a body that only reads leaves: its answer, nothing written, the heap as it was -/
def own_Q (r : Option Value) (h0 : Heap) (n0 : Nat) (v : Option Value) (h : Heap) (L : List Loc) : Prop := v = r ∧ Fr n0 L ∧ h = h0
section OwnWords
variable {args : Array Value} {first s : State} {o : Option Outcome} {idx : List Nat} {a b : Term}
theorem own_eqI {k : Int32} (h : (Jvm.Cond.eq a (.int k)).value args first o s idx = some true) : a.eval args first o idx s = some (.int k) := by
  obtain ⟨x, y, hx, hy, k1, -⟩ := cmp_v (r := true) (Or.inl h)
  have hy' : y = .int k := (Option.some.inj hy).symm
  subst hy'
  cases x <;> simp [Kin, Value.isRef] at k1
  simp [Jvm.Cond.value, hx, Term.eval] at h
  rw [hx, h]
theorem own_eqR {y : Addr} (h : (Jvm.Cond.eq a b).value args first o s idx = some true) (hb : b.eval args first o idx s = some (.ref y)) : a.eval args first o idx s = some (.ref y) := by
  obtain ⟨x, z, hx, hy, k1, -⟩ := cmp_v (r := true) (Or.inl h)
  cases hb.symm.trans hy
  cases x <;> simp [Kin, Value.isRef] at k1
  · simp [Jvm.Cond.value, hx, hb] at h
  · simp [Jvm.Cond.value, hx, hb] at h
    rw [hx, h]
theorem own_len {y : Addr} {c : Cell} {n : Int32} (h : (Term.length a).eval args first o idx s = some (.int n)) (ht : a.eval args first o idx s = some (.ref y)) (hc : s.heap[y]? = some c) : (c.slots.size : Int) = n.toInt := by
  simp only [Term.eval, Option.bind_eq_bind, ht, Option.bind_some] at h
  obtain ⟨cell, hcell, h⟩ := Option.bind_eq_some_iff.mp h
  cases hc.symm.trans (State.arrayAt?_spec hcell).1
  by_cases hn : c.slots.size < 2147483648
  · rw [if_pos hn] at h; cases h; exact (len_toInt hn).symm
  · rw [if_neg hn] at h; cases h
end OwnWords
/-- an array that stands in the heap, with all that lies in it -/
def own_Arr (Z : State) (h : Heap) (a : Addr) (ty : FieldType) (vs : List Value) : Prop := ∃ c : Cell, Arr Z h a c ty ∧ c.slots = vs.toArray
/-- what a law leaves that makes arrays of its own -/
def own_QH (r : Option Value) (n0 : Nat) (v : Option Value) (h : Heap) (L : List Loc) : Prop := v = r ∧ Fr n0 L ∧ True
/-- the same of an array whose class is known -/
def own_ArrK (Z : State) (h : Heap) (a : Addr) (k : ClassId) (ty : FieldType) (vs : List Value) : Prop := ∃ c : Cell, Arr Z h a c ty ∧ c.cls = k ∧ c.slots = vs.toArray
section OwnArr
variable {Z : State} {h0 h h' : Heap} {a b : Addr} {k : ClassId} {ty : FieldType} {vs : List Value} {v : Value} {sl : Nat} {c : Cell}
theorem own_Arr.ext (F : own_Arr Z h a ty vs) (E : Ext h h') : own_Arr Z h' a ty vs := by obtain ⟨c, A, r⟩ := F; exact ⟨c, A.ext E, r⟩
theorem own_ArrK.lt (F : own_ArrK Z h a k ty vs) : a < h.size := by obtain ⟨c, A, -⟩ := F; exact A.lt
theorem own_ArrK.ext (F : own_ArrK Z h a k ty vs) (E : Ext h h') : own_ArrK Z h' a k ty vs := by obtain ⟨c, A, r⟩ := F; exact ⟨c, A.ext E, r⟩
theorem own_ArrK.other (F : own_ArrK Z h b k ty vs) (W : Wr h h' a sl v) (q : b ≠ a) : own_ArrK Z h' b k ty vs := by obtain ⟨c, A, r⟩ := F; exact ⟨c, A.other W q, r⟩
theorem own_set (W : Wr h h' a sl v) (A : Arr Z h a c ty) (q : c.cls = k) (e : c.slots = vs.toArray) : own_ArrK Z h' a k ty (vs.set sl v) := ⟨_, A.same W, q, by simp [Cell.setSlot, e]⟩
theorem own_get {j : Int32} (e : c.slots = vs.toArray) (hj : ¬ j < 0) (q : vs[j.toNatClampNeg]? = some v) : (¬ (j < 0 ∨ c.slots.size ≤ j.toNatClampNeg)) ∧ c.slots[j.toNatClampNeg]? = some v := by
  have hl := (List.getElem?_eq_some_iff.mp q).1
  rw [e]
  refine ⟨?_, by simpa using q⟩
  rintro (h | h)
  · exact hj h
  · simp at h; omega
theorem own_ext_trans {h'' : Heap} (E : Ext h h') (E' : Ext h' h'') : Ext h h'' := ⟨Nat.le_trans E.1 E'.1, fun x y q => E'.2 x y (E.2 x y q)⟩
theorem own_ext_wr (E : Ext h0 h) (W : Wr h h' a sl v) (q : h0.size ≤ a) : Ext h0 h' := by
  refine ⟨Nat.le_trans E.1 (Nat.le_of_eq W.size.symm), fun x y hx => ?_⟩
  have hlt := (Array.getElem?_eq_some_iff.mp hx).1
  obtain ⟨c', e1, -, -, -, e5, -⟩ := wr_at W (E.2 x y hx)
  rw [← e5 (Nat.ne_of_lt (Nat.lt_of_lt_of_le hlt q))]; exact e1
theorem own_ext_keep (E : Ext h0 h) (K : Keep h h' [a]) (q : h0.size ≤ a) : Ext h0 h' := ⟨Nat.le_trans E.1 K.1, fun x y hx => K.2.1 x y (E.2 x y hx) (ninS (Nat.ne_of_lt (Nat.lt_of_lt_of_le (Array.getElem?_eq_some_iff.mp hx).1 q)) nin0)⟩
end OwnArr
theorem own_ext_w_BYTE_ORDER_MARK {S : Array Value} {v0 v1 v2 : Value} (hn : (S.size : Int) = 3) (h0 : S[0]? = some v0) (h1 : S[1]? = some v1) (h2 : S[2]? = some v2) : S = #[v0, v1, v2] := by
  refine Array.ext_getElem? fun i => ?_
  match i with
  | 0 => exact h0
  | 1 => exact h1
  | 2 => exact h2
  | k + 3 => rw [Array.getElem?_eq_none (by omega), Array.getElem?_eq_none (by simp)]
def own_K (Z : State) (h : Heap) (w_BYTE_ORDER_MARK : Addr) : Prop := Sta Z h "com/example/falkirk/falkirk/loader/Utf8" "BYTE_ORDER_MARK" "[B" (.ref w_BYTE_ORDER_MARK) ∧ own_Arr Z h w_BYTE_ORDER_MARK .byte [(.int (-17 : Int32)), (.int (-69 : Int32)), (.int (-65 : Int32))]
theorem own_K_ext {Z : State} {h h' : Heap} {w_BYTE_ORDER_MARK : Addr} (E : Ext h h') (hK : own_K Z h w_BYTE_ORDER_MARK) : own_K Z h' w_BYTE_ORDER_MARK := by
  obtain ⟨S_w_BYTE_ORDER_MARK, B_w_BYTE_ORDER_MARK⟩ := hK
  exact ⟨S_w_BYTE_ORDER_MARK.ext E, B_w_BYTE_ORDER_MARK.ext E⟩
/-- a byte[] of n components, whatever they are -/
def own_TabC (Z : State) (h : Heap) (a : Addr) (c : Cell) (n : Int32) : Prop := Arr Z h a c .byte ∧ c.slots.size = n.toNatClampNeg ∧ ¬ n < 0 ∧ ∀ j : Int32, ¬ (j < 0 ∨ c.slots.size ≤ j.toNatClampNeg) → c.slots[j.toNatClampNeg]? = some (.int (atv c j)) ∧ fits .byte (.int (atv c j)) = true
def own_Tab (Z : State) (h : Heap) (a : Addr) (n : Int32) : Prop := ∃ c, own_TabC Z h a c n
theorem own_tab_new {Z : State} {h : Heap} {a : Addr} {k : ClassId} {n : Int32} (A : Arr Z h a (newA k .byte n) .byte) (hn : ¬ n < 0) : own_Tab Z h a n := by
  refine ⟨_, A, sz_new _ _ _, hn, fun j hj => ?_⟩
  have e : (newA k .byte n).slots[j.toNatClampNeg]? = some (.int 0) := get_new (by rw [sz_new] at hj; exact hj)
  rw [atv_of e]
  exact ⟨e, by decide⟩
theorem own_tab_set {Z : State} {h h' : Heap} {a : Addr} {c : Cell} {n j x : Int32} (F : own_TabC Z h a c n) (hj : ¬ (j < 0 ∨ c.slots.size ≤ j.toNatClampNeg)) (W : Wr h h' a j.toNatClampNeg (.int (nar .byte x))) : own_Tab Z h' a n := by
  obtain ⟨A, S, N, G⟩ := F
  refine ⟨_, A.same W, by rw [sz_set]; exact S, N, fun i hi => ?_⟩
  rw [sz_set] at hi
  by_cases q : i = j
  · have e := get_hit (v := .int (nar .byte x)) hj q
    rw [atv_of e]
    exact ⟨e, fits_nar_byte x⟩
  · have e := get_miss (c := c) (v := .int (nar .byte x)) (fun z => hj (Or.inl z)) (fun z => hi (Or.inl z)) q
    have g := G i hi
    rw [g.1] at e
    rw [atv_of e]
    exact ⟨e, g.2⟩
theorem own_byte (x b : Int32) (m : Int) (hm : b.toInt = m) (h0 : 128 ≤ m) (h1 : m < 256) (hx : fits .byte (.int x) = true) (c : Int32) (hc : c.toInt = m - 256) : x = c ↔ (x &&& (255 : Int32)) = b := by
  have r := rng_byte hx
  have q := c_mask x 255 8 (by decide) (by decide)
  have e1 : (-128 : Int32).toInt = -128 := by decide
  have e2 : (127 : Int32).toInt = 127 := by decide
  rw [Int32.lt_iff_toInt_lt, Int32.lt_iff_toInt_lt] at r
  rw [← Int32.toInt_inj, ← Int32.toInt_inj]
  omega
def own_Q_set (Z : State) (a1 : Addr) (n : Int32) (h0 : Heap) (n0 : Nat) (v : Option Value) (h : Heap) (L : List Loc) : Prop := v = none ∧ Fr n0 L ∧ Keep h0 h [a1] ∧ own_Tab Z h a1 n
theorem d_method_2_0 : decode method_2_code 0 = .ok (.iload_n 1, 1) := by decide +kernel
theorem d_method_2_1 : decode method_2_code 1 = .ok (.aload_n 0, 1) := by decide +kernel
theorem d_method_2_2 : decode method_2_code 2 = .ok (.arraylength, 1) := by decide +kernel
theorem d_method_2_3 : decode method_2_code 3 = .ok (.if_icmp .ge 7, 3) := by decide +kernel
theorem d_method_2_6 : decode method_2_code 6 = .ok (.aload_n 0, 1) := by decide +kernel
theorem d_method_2_7 : decode method_2_code 7 = .ok (.iload_n 1, 1) := by decide +kernel
theorem d_method_2_8 : decode method_2_code 8 = .ok (.iload_n 2, 1) := by decide +kernel
theorem d_method_2_9 : decode method_2_code 9 = .ok (.bastore, 1) := by decide +kernel
theorem d_method_2_10 : decode method_2_code 10 = .ok (.return_, 1) := by decide +kernel
theorem pn_0 : plainName "com/example/falkirk/falkirk/loader/Utf8StartsWithByteOrderMarkPinLaw" = true := by first | (simp [plainName, overriddenIn]; done) | decide +kernel
theorem ef_set (m : MethodId) (x0 : Addr) (x1 : Int32) (x2 : Int32) : entryFrame m #[(.ref x0), (.int x1), (.int x2)] 3 = mkF m 0 #[.val (.ref x0), .val (.int x1), .val (.int x2)] [] := by first | (simp [entryFrame, mkF, argsToLocals, Value.category]; done) | rfl
set_option maxRecDepth 65536 in
set_option maxHeartbeats 40000000 in
theorem rm_set (l : Launch) (Z : State) (a0 : Array Value) (hw : ∀ d ∈ tables_1, d.before a0 Z = true) (ws : List Jvm.Cond) (a1 : Addr) (p1 : Int32) (p2 : Int32) (h0 : Heap) (n0 : Nat) (n : Int32) (hT : own_Tab Z h0 a1 n) (hp : ¬ p1 < 0) (g_a1 : n0 ≤ a1) :
    MetFree l (⟨"com/example/falkirk/falkirk/loader/Utf8StartsWithByteOrderMarkPinLaw", "set", "([BIB)V"⟩ : MethodName) (head1 (Jvm.Cond.code (⟨"com/example/falkirk/falkirk/loader/Utf8StartsWithByteOrderMarkPinLaw", "set", "([BIB)V"⟩ : MethodName) method_2_code 3 none :: ws) ({ frames := 0, cells := 0, slots := 0, locals := 0 } : Room)) (fun a U => a = #[(.ref a1), (.int p1), (.int p2)] ∧ Z.Warmed39 U.vm ∧ U.heap = h0) (fun _ _ _ _ _ => True) (fun _ U o U' => ∃ v L, o = .returned v ∧ own_Q_set Z a1 n h0 n0 v U'.heap L ∧ FrameEnd U o U' L ({ frames := 0, cells := 0, slots := 0, locals := 0 } : Room).cells ({ frames := 0, cells := 0, slots := 0, locals := 0 } : Room).slots) := by
  refine MetFree.of_bodySF (plainFor_of_name pn_0) hisR ?_
  intro p e s m args below meth c s₁ Bd hml0 hP hK0
  obtain ⟨rfl, hZ, hh⟩ := hP
  have hx := Bd.exec
  have hby := Bd.bytes
  have hml : c.maxLocals = 3 := hml0
  have hown : s.vm.findClass "com/example/falkirk/falkirk/loader/Utf8StartsWithByteOrderMarkPinLaw" = some m.cls := findClass_of_methodNamed Bd.named
  have hnm := (name_of_methodNamed Bd.named Bd.method).1
  have X0 : Stand p l e ({ frames := 0, cells := 0, slots := 0, locals := 0 } : Room) s m #[(.ref a1), (.int p1), (.int p2)] below meth c s₁ [] 0 0 := Stand.of_body Bd
  have e0 : s₁.heap = h0 := by rw [← hh, Bd.state]; rfl
  have N0 := Fr.nil n0
  have pre0 : ∀ t, Steps p.tables e below (s₁.setTop (mkF m 0 #[.val (.ref a1), .val (.int p1), .val (.int p2)] [])) t → Steps p.tables e below (s₁.setTop (entryFrame m #[(.ref a1), (.int p1), (.int p2)] 3)) t := fun t k => castTop (ef_set m a1 p1 p2) k
  obtain ⟨c0, hT0⟩ := hT
  have pre2 : ∀ t, Steps p.tables e below (s₁.setTop (mkF m 3 #[.val (.ref a1), .val (.int p1), .val (.int p2)] [(.int n), (.int p1)])) t → Steps p.tables e below (s₁.setTop (entryFrame m #[(.ref a1), (.int p1), (.int p2)] 3)) t := fun t k => pre0 t (by
    show Steps p.tables e below (s₁.setTop (mkF m 0 #[.val (.ref a1), .val (.int p1), .val (.int p2)] [])) _
    refine XS.iloadN X0.here hx rfl (hb hby d_method_2_0) rfl ?_
    show Steps p.tables e below (s₁.setTop (mkF m 1 #[.val (.ref a1), .val (.int p1), .val (.int p2)] [(.int p1)])) _
    refine XS.aloadN X0.here hx rfl (hb hby d_method_2_1) rfl rfl ?_
    show Steps p.tables e below (s₁.setTop (mkF m 2 #[.val (.ref a1), .val (.int p1), .val (.int p2)] [(.ref a1), (.int p1)])) _
    refine X0.arraylength hx (by rw [e0]; exact hT0.1.1) (State.isArrayOf_alike hZ.alike hT0.1.2.1) (g := (mkF m 2 #[.val (.ref a1), .val (.int p1), .val (.int p2)] [(.ref a1), (.int p1)])) rfl rfl (hb hby d_method_2_2) _ ?_
    rw [len_of hT0.2.1 hT0.2.2.1]
    exact k)
  by_cases hc3_1 : p1 < n
  · have hin3 : ¬ (p1 < 0 ∨ c0.slots.size ≤ p1.toNatClampNeg) := inb_of hT0.2.1 ⟨hp, hc3_1⟩
    obtain ⟨T3, h3, X3, e3, W3, st3⟩ := stB X0 hx hZ e0 hT0.1 (j := p1) hin3 (g := (mkF m 9 #[.val (.ref a1), .val (.int p1), .val (.int p2)] [(.int p2), (.int p1), (.ref a1)])) rfl rfl (hb hby d_method_2_9)
    have N3 := Fr.snoc X3 N0 g_a1
    have pre4 : ∀ t, Steps p.tables e below (T3.setTop (mkF m 10 #[.val (.ref a1), .val (.int p1), .val (.int p2)] [])) t → Steps p.tables e below (s₁.setTop (entryFrame m #[(.ref a1), (.int p1), (.int p2)] 3)) t := fun t k => pre2 t (by
      show Steps p.tables e below (s₁.setTop (mkF m 3 #[.val (.ref a1), .val (.int p1), .val (.int p2)] [(.int n), (.int p1)])) _
      refine XS.icmpNo X0.here hx rfl (hb hby d_method_2_3) rfl (tlt hc3_1).2.1 ?_
      show Steps p.tables e below (s₁.setTop (mkF m 6 #[.val (.ref a1), .val (.int p1), .val (.int p2)] [])) _
      refine XS.aloadN X0.here hx rfl (hb hby d_method_2_6) rfl rfl ?_
      show Steps p.tables e below (s₁.setTop (mkF m 7 #[.val (.ref a1), .val (.int p1), .val (.int p2)] [(.ref a1)])) _
      refine XS.iloadN X0.here hx rfl (hb hby d_method_2_7) rfl ?_
      show Steps p.tables e below (s₁.setTop (mkF m 8 #[.val (.ref a1), .val (.int p1), .val (.int p2)] [(.int p1), (.ref a1)])) _
      refine XS.iloadN X0.here hx rfl (hb hby d_method_2_8) rfl ?_
      show Steps p.tables e below (s₁.setTop (mkF m 9 #[.val (.ref a1), .val (.int p1), .val (.int p2)] [(.int p2), (.int p1), (.ref a1)])) _
      refine st3 _ ?_
      exact k)
    obtain ⟨fs, hr, hrun, hended, hW, hsame⟩ := X3.leave (v := none) (fun _ => rfl)
    refine ⟨_, _, pre4 _ ?_, hrun, hended, _, _, rfl, ?_, ⟨_, rfl⟩, hW, hsame.mono (by decide) (by decide)⟩
    · show Steps p.tables e below (T3.setTop (mkF m 10 #[.val (.ref a1), .val (.int p1), .val (.int p2)] [])) _
      exact X3.returnOut hx Bd.returns (hb hby d_method_2_10) hr
    · exact ⟨rfl, N3, by rw [show (T3.setFrames fs).heap = _ from e3]; exact ⟨Keep.of_wr W3, own_tab_set hT0 hin3 W3⟩⟩
  · have pre5 : ∀ t, Steps p.tables e below (s₁.setTop (mkF m 10 #[.val (.ref a1), .val (.int p1), .val (.int p2)] [])) t → Steps p.tables e below (s₁.setTop (entryFrame m #[(.ref a1), (.int p1), (.int p2)] 3)) t := fun t k => pre2 t (by
      show Steps p.tables e below (s₁.setTop (mkF m 3 #[.val (.ref a1), .val (.int p1), .val (.int p2)] [(.int n), (.int p1)])) _
      refine XS.icmpYes X0.here hx rfl (pc0 := 3) (pc' := 10) rfl (hb hby d_method_2_3) rfl (flt hc3_1).2.1 (by decide) (by decide) ?_
      exact k)
    obtain ⟨fs, hr, hrun, hended, hW, hsame⟩ := X0.leave (v := none) (fun _ => rfl)
    refine ⟨_, _, pre5 _ ?_, hrun, hended, _, _, rfl, ?_, ⟨_, rfl⟩, hW, hsame.mono (by decide) (by decide)⟩
    · show Steps p.tables e below (s₁.setTop (mkF m 10 #[.val (.ref a1), .val (.int p1), .val (.int p2)] [])) _
      exact X0.returnOut hx Bd.returns (hb hby d_method_2_10) hr
    · exact ⟨rfl, N0, by rw [show (s₁.setFrames fs).heap = _ from e0]; exact ⟨Keep.refl h0 [a1], ⟨c0, hT0⟩⟩⟩
theorem d_prog_14_method_3_0 : decode prog_14_method_3_code 0 = .ok (.aload_n 0, 1) := by decide +kernel
theorem d_prog_14_method_3_1 : decode prog_14_method_3_code 1 = .ok (.arraylength, 1) := by decide +kernel
theorem d_prog_14_method_3_2 : decode prog_14_method_3_code 2 = .ok (.iload_n 1, 1) := by decide +kernel
theorem d_prog_14_method_3_3 : decode prog_14_method_3_code 3 = .ok (.isub, 1) := by decide +kernel
theorem d_prog_14_method_3_4 : decode prog_14_method_3_code 4 = .ok (.getstatic 13, 3) := by decide +kernel
theorem d_prog_14_method_3_7 : decode prog_14_method_3_code 7 = .ok (.arraylength, 1) := by decide +kernel
theorem d_prog_14_method_3_8 : decode prog_14_method_3_code 8 = .ok (.if_icmp .ge 5, 3) := by decide +kernel
theorem d_prog_14_method_3_11 : decode prog_14_method_3_code 11 = .ok (.iconst 0, 1) := by decide +kernel
theorem d_prog_14_method_3_12 : decode prog_14_method_3_code 12 = .ok (.ireturn, 1) := by decide +kernel
theorem d_prog_14_method_3_13 : decode prog_14_method_3_code 13 = .ok (.iconst 0, 1) := by decide +kernel
theorem d_prog_14_method_3_14 : decode prog_14_method_3_code 14 = .ok (.istore_n 2, 1) := by decide +kernel
theorem d_prog_14_method_3_15 : decode prog_14_method_3_code 15 = .ok (.iload_n 2, 1) := by decide +kernel
theorem d_prog_14_method_3_16 : decode prog_14_method_3_code 16 = .ok (.getstatic 13, 3) := by decide +kernel
theorem d_prog_14_method_3_19 : decode prog_14_method_3_code 19 = .ok (.arraylength, 1) := by decide +kernel
theorem d_prog_14_method_3_20 : decode prog_14_method_3_code 20 = .ok (.if_icmp .ge 24, 3) := by decide +kernel
theorem d_prog_14_method_3_23 : decode prog_14_method_3_code 23 = .ok (.aload_n 0, 1) := by decide +kernel
theorem d_prog_14_method_3_24 : decode prog_14_method_3_code 24 = .ok (.iload_n 1, 1) := by decide +kernel
theorem d_prog_14_method_3_25 : decode prog_14_method_3_code 25 = .ok (.iload_n 2, 1) := by decide +kernel
theorem d_prog_14_method_3_26 : decode prog_14_method_3_code 26 = .ok (.iadd, 1) := by decide +kernel
theorem d_prog_14_method_3_27 : decode prog_14_method_3_code 27 = .ok (.baload, 1) := by decide +kernel
theorem d_prog_14_method_3_28 : decode prog_14_method_3_code 28 = .ok (.getstatic 13, 3) := by decide +kernel
theorem d_prog_14_method_3_31 : decode prog_14_method_3_code 31 = .ok (.iload_n 2, 1) := by decide +kernel
theorem d_prog_14_method_3_32 : decode prog_14_method_3_code 32 = .ok (.baload, 1) := by decide +kernel
theorem d_prog_14_method_3_33 : decode prog_14_method_3_code 33 = .ok (.if_icmp .eq 5, 3) := by decide +kernel
theorem d_prog_14_method_3_38 : decode prog_14_method_3_code 38 = .ok (.iinc 2 1, 3) := by decide +kernel
theorem d_prog_14_method_3_41 : decode prog_14_method_3_code 41 = .ok (.goto (-26), 3) := by decide +kernel
theorem d_prog_14_method_3_44 : decode prog_14_method_3_code 44 = .ok (.iconst 1, 1) := by decide +kernel
theorem d_prog_14_method_3_45 : decode prog_14_method_3_code 45 = .ok (.ireturn, 1) := by decide +kernel
theorem d_prog_14_method_3_36 : decode prog_14_method_3_code 36 = .ok (.iconst 0, 1) := by decide +kernel
theorem d_prog_14_method_3_37 : decode prog_14_method_3_code 37 = .ok (.ireturn, 1) := by decide +kernel
theorem pn_1 : plainName "com/example/falkirk/falkirk/loader/Utf8" = true := by first | (simp [plainName, overriddenIn]; done) | decide +kernel
theorem ef_sw (m : MethodId) (x0 : Addr) (x1 : Int32) : entryFrame m #[(.ref x0), (.int x1)] 3 = mkF m 0 #[.val (.ref x0), .val (.int x1), .unset] [] := by first | (simp [entryFrame, mkF, argsToLocals, Value.category]; done) | rfl
set_option maxRecDepth 65536 in
set_option maxHeartbeats 40000000 in
theorem rm_sw (l : Launch) (Z : State) (a0 : Array Value) (hw : ∀ d ∈ tables_1, d.before a0 Z = true) (ws : List Jvm.Cond) (a1 : Addr) (p1 : Int32) (h0 : Heap) (n0 : Nat) (w_BYTE_ORDER_MARK : Addr) (hK : own_K Z h0 w_BYTE_ORDER_MARK) (c1 : Cell) (n : Int32) (hT : own_TabC Z h0 a1 c1 n) (hb0 : ¬ (n - p1) < (3 : Int32) → ¬ (p1 + (0 : Int32)) < 0 ∧ (p1 + (0 : Int32)) < n) (hb1 : ¬ (n - p1) < (3 : Int32) → ¬ (p1 + (1 : Int32)) < 0 ∧ (p1 + (1 : Int32)) < n) (hb2 : ¬ (n - p1) < (3 : Int32) → ¬ (p1 + (2 : Int32)) < 0 ∧ (p1 + (2 : Int32)) < n) :
    MetFree l (⟨"com/example/falkirk/falkirk/loader/Utf8", "startsWithByteOrderMark", "([BI)Z"⟩ : MethodName) (head1 (Jvm.Cond.code (⟨"com/example/falkirk/falkirk/loader/Utf8", "startsWithByteOrderMark", "([BI)Z"⟩ : MethodName) prog_14_method_3_code 3 (some .boolean) :: ws) ({ frames := 0, cells := 0, slots := 0, locals := 0 } : Room)) (fun a U => a = #[(.ref a1), (.int p1)] ∧ Z.Warmed39 U.vm ∧ U.heap = h0) (fun _ _ _ _ _ => True) (fun _ U o U' => ∃ v L, o = .returned v ∧ own_Q (some (.int (if (n - p1) < (3 : Int32) then (0 : Int32) else (if (atv c1 (p1 + (0 : Int32))) = (-17 : Int32) then (if (atv c1 (p1 + (1 : Int32))) = (-69 : Int32) then (if (atv c1 (p1 + (2 : Int32))) = (-65 : Int32) then (1 : Int32) else (0 : Int32)) else (0 : Int32)) else (0 : Int32))))) h0 n0 v U'.heap L ∧ FrameEnd U o U' L ({ frames := 0, cells := 0, slots := 0, locals := 0 } : Room).cells ({ frames := 0, cells := 0, slots := 0, locals := 0 } : Room).slots) := by
  refine MetFree.of_bodySF (plainFor_of_name pn_1) hisR ?_
  intro p e s m args below meth c s₁ Bd hml0 hP hK0
  obtain ⟨rfl, hZ, hh⟩ := hP
  have hx := Bd.exec
  have hby := Bd.bytes
  have hml : c.maxLocals = 3 := hml0
  have hown : s.vm.findClass "com/example/falkirk/falkirk/loader/Utf8" = some m.cls := findClass_of_methodNamed Bd.named
  have hnm := (name_of_methodNamed Bd.named Bd.method).1
  have X0 : Stand p l e ({ frames := 0, cells := 0, slots := 0, locals := 0 } : Room) s m #[(.ref a1), (.int p1)] below meth c s₁ [] 0 0 := Stand.of_body Bd
  have e0 : s₁.heap = h0 := by rw [← hh, Bd.state]; rfl
  have N0 := Fr.nil n0
  have pre0 : ∀ t, Steps p.tables e below (s₁.setTop (mkF m 0 #[.val (.ref a1), .val (.int p1), .unset] [])) t → Steps p.tables e below (s₁.setTop (entryFrame m #[(.ref a1), (.int p1)] 3)) t := fun t k => castTop (ef_sw m a1 p1) k
  have hK' := hK
  obtain ⟨S_w_BYTE_ORDER_MARK, B_w_BYTE_ORDER_MARK⟩ := hK'
  obtain ⟨cl_w_BYTE_ORDER_MARK, A_w_BYTE_ORDER_MARK, q_w_BYTE_ORDER_MARK⟩ := B_w_BYTE_ORDER_MARK
  obtain ⟨T1, X1, e1, st1⟩ := getS2 X0 hx hZ hown (host := "") (Or.inl (hw _ (ow 9 rfl))) Via.refl e0 S_w_BYTE_ORDER_MARK (g := (mkF m 4 #[.val (.ref a1), .val (.int p1), .unset] [(.int (n - p1))])) rfl (hb hby d_prog_14_method_3_4)
  have pre3 : ∀ t, Steps p.tables e below (T1.setTop (mkF m 8 #[.val (.ref a1), .val (.int p1), .unset] [(.int (3 : Int32)), (.int (n - p1))])) t → Steps p.tables e below (s₁.setTop (entryFrame m #[(.ref a1), (.int p1)] 3)) t := fun t k => pre0 t (by
    show Steps p.tables e below (s₁.setTop (mkF m 0 #[.val (.ref a1), .val (.int p1), .unset] [])) _
    refine XS.aloadN X0.here hx rfl (hb hby d_prog_14_method_3_0) rfl rfl ?_
    show Steps p.tables e below (s₁.setTop (mkF m 1 #[.val (.ref a1), .val (.int p1), .unset] [(.ref a1)])) _
    refine X0.arraylength hx (by rw [e0]; exact hT.1.1) (State.isArrayOf_alike hZ.alike hT.1.2.1) (g := (mkF m 1 #[.val (.ref a1), .val (.int p1), .unset] [(.ref a1)])) rfl rfl (hb hby d_prog_14_method_3_1) _ ?_
    rw [len_of hT.2.1 hT.2.2.1]
    show Steps p.tables e below (s₁.setTop (mkF m 2 #[.val (.ref a1), .val (.int p1), .unset] [(.int n)])) _
    refine XS.iloadN X0.here hx rfl (hb hby d_prog_14_method_3_2) rfl ?_
    show Steps p.tables e below (s₁.setTop (mkF m 3 #[.val (.ref a1), .val (.int p1), .unset] [(.int p1), (.int n)])) _
    refine XS.isub X0.here hx rfl (hb hby d_prog_14_method_3_3) rfl ?_
    show Steps p.tables e below (s₁.setTop (mkF m 4 #[.val (.ref a1), .val (.int p1), .unset] [(.int (n - p1))])) _
    refine st1 _ ?_
    show Steps p.tables e below (T1.setTop (mkF m 7 #[.val (.ref a1), .val (.int p1), .unset] [(.ref w_BYTE_ORDER_MARK), (.int (n - p1))])) _
    refine X1.arraylength hx (by rw [e1]; exact A_w_BYTE_ORDER_MARK.1) (State.isArrayOf_alike hZ.alike A_w_BYTE_ORDER_MARK.2.1) (g := (mkF m 7 #[.val (.ref a1), .val (.int p1), .unset] [(.ref w_BYTE_ORDER_MARK), (.int (n - p1))])) rfl rfl (hb hby d_prog_14_method_3_7) _ ?_
    rw [q_w_BYTE_ORDER_MARK]
    exact k)
  by_cases hc8_2 : (n - p1) < (3 : Int32)
  · have pre4 : ∀ t, Steps p.tables e below (T1.setTop (mkF m 12 #[.val (.ref a1), .val (.int p1), .unset] [(.int (0 : Int32))])) t → Steps p.tables e below (s₁.setTop (entryFrame m #[(.ref a1), (.int p1)] 3)) t := fun t k => pre3 t (by
      show Steps p.tables e below (T1.setTop (mkF m 8 #[.val (.ref a1), .val (.int p1), .unset] [(.int (3 : Int32)), (.int (n - p1))])) _
      refine XS.icmpNo X1.here hx rfl (hb hby d_prog_14_method_3_8) rfl (tlt hc8_2).2.1 ?_
      show Steps p.tables e below (T1.setTop (mkF m 11 #[.val (.ref a1), .val (.int p1), .unset] [])) _
      refine XS.iconst X1.here hx rfl (hb hby d_prog_14_method_3_11) ?_
      exact k)
    obtain ⟨fs, hr, hrun, hended, hW, hsame⟩ := X1.leave (v := some (.int (0 : Int32))) (fun h => by rw [Bd.returns] at h; cases h)
    refine ⟨_, _, pre4 _ ?_, hrun, hended, _, _, rfl, ?_, ⟨_, rfl⟩, hW, hsame.mono (by decide) (by decide)⟩
    · show Steps p.tables e below (T1.setTop (mkF m 12 #[.val (.ref a1), .val (.int p1), .unset] [(.int (0 : Int32))])) _
      exact retN X1 hx (t := .boolean) Bd.returns (by simp) (hb hby d_prog_14_method_3_12) hr
    · exact ⟨congrArg (fun z => some (Value.int z)) (Eq.symm (if_pos hc8_2)), N0, e1⟩
  · obtain ⟨T5, X5, e5, st5⟩ := getS2 X1 hx hZ hown (host := "") (Or.inl (hw _ (ow 9 rfl))) Via.refl e1 S_w_BYTE_ORDER_MARK (g := (mkF m 16 #[.val (.ref a1), .val (.int p1), .val (.int (0 : Int32))] [(.int (0 : Int32))])) rfl (hb hby d_prog_14_method_3_16)
    have hin6 : ¬ ((p1 + (0 : Int32)) < 0 ∨ c1.slots.size ≤ ((p1 + (0 : Int32))).toNatClampNeg) := inb_of hT.2.1 (hb0 hc8_2)
    obtain ⟨T7, X7, e7, st7⟩ := getS2 X5 hx hZ hown (host := "") (Or.inl (hw _ (ow 9 rfl))) Via.refl e5 S_w_BYTE_ORDER_MARK (g := (mkF m 28 #[.val (.ref a1), .val (.int p1), .val (.int (0 : Int32))] [(.int (atv c1 (p1 + (0 : Int32))))])) rfl (hb hby d_prog_14_method_3_28)
    have pre9 : ∀ t, Steps p.tables e below (T7.setTop (mkF m 33 #[.val (.ref a1), .val (.int p1), .val (.int (0 : Int32))] [(.int (-17 : Int32)), (.int (atv c1 (p1 + (0 : Int32))))])) t → Steps p.tables e below (s₁.setTop (entryFrame m #[(.ref a1), (.int p1)] 3)) t := fun t k => pre3 t (by
      show Steps p.tables e below (T1.setTop (mkF m 8 #[.val (.ref a1), .val (.int p1), .unset] [(.int (3 : Int32)), (.int (n - p1))])) _
      refine XS.icmpYes X1.here hx rfl (pc0 := 8) (pc' := 13) rfl (hb hby d_prog_14_method_3_8) rfl (flt hc8_2).2.1 (by decide) (by decide) ?_
      show Steps p.tables e below (T1.setTop (mkF m 13 #[.val (.ref a1), .val (.int p1), .unset] [])) _
      refine XS.iconst X1.here hx rfl (hb hby d_prog_14_method_3_13) ?_
      show Steps p.tables e below (T1.setTop (mkF m 14 #[.val (.ref a1), .val (.int p1), .unset] [(.int (0 : Int32))])) _
      refine XS.istoreN X1.here hx rfl (hb hby d_prog_14_method_3_14) rfl (l' := #[.val (.ref a1), .val (.int p1), .val (.int (0 : Int32))]) rfl ?_
      show Steps p.tables e below (T1.setTop (mkF m 15 #[.val (.ref a1), .val (.int p1), .val (.int (0 : Int32))] [])) _
      refine XS.iloadN X1.here hx rfl (hb hby d_prog_14_method_3_15) rfl ?_
      show Steps p.tables e below (T1.setTop (mkF m 16 #[.val (.ref a1), .val (.int p1), .val (.int (0 : Int32))] [(.int (0 : Int32))])) _
      refine st5 _ ?_
      show Steps p.tables e below (T5.setTop (mkF m 19 #[.val (.ref a1), .val (.int p1), .val (.int (0 : Int32))] [(.ref w_BYTE_ORDER_MARK), (.int (0 : Int32))])) _
      refine X5.arraylength hx (by rw [e5]; exact A_w_BYTE_ORDER_MARK.1) (State.isArrayOf_alike hZ.alike A_w_BYTE_ORDER_MARK.2.1) (g := (mkF m 19 #[.val (.ref a1), .val (.int p1), .val (.int (0 : Int32))] [(.ref w_BYTE_ORDER_MARK), (.int (0 : Int32))])) rfl rfl (hb hby d_prog_14_method_3_19) _ ?_
      rw [q_w_BYTE_ORDER_MARK]
      show Steps p.tables e below (T5.setTop (mkF m 20 #[.val (.ref a1), .val (.int p1), .val (.int (0 : Int32))] [(.int (3 : Int32)), (.int (0 : Int32))])) _
      refine XS.icmpNo X5.here hx rfl (hb hby d_prog_14_method_3_20) rfl (tlt (by decide)).2.1 ?_
      show Steps p.tables e below (T5.setTop (mkF m 23 #[.val (.ref a1), .val (.int p1), .val (.int (0 : Int32))] [])) _
      refine XS.aloadN X5.here hx rfl (hb hby d_prog_14_method_3_23) rfl rfl ?_
      show Steps p.tables e below (T5.setTop (mkF m 24 #[.val (.ref a1), .val (.int p1), .val (.int (0 : Int32))] [(.ref a1)])) _
      refine XS.iloadN X5.here hx rfl (hb hby d_prog_14_method_3_24) rfl ?_
      show Steps p.tables e below (T5.setTop (mkF m 25 #[.val (.ref a1), .val (.int p1), .val (.int (0 : Int32))] [(.int p1), (.ref a1)])) _
      refine XS.iloadN X5.here hx rfl (hb hby d_prog_14_method_3_25) rfl ?_
      show Steps p.tables e below (T5.setTop (mkF m 26 #[.val (.ref a1), .val (.int p1), .val (.int (0 : Int32))] [(.int (0 : Int32)), (.int p1), (.ref a1)])) _
      refine XS.iadd X5.here hx rfl (hb hby d_prog_14_method_3_26) rfl ?_
      show Steps p.tables e below (T5.setTop (mkF m 27 #[.val (.ref a1), .val (.int p1), .val (.int (0 : Int32))] [(.int (p1 + (0 : Int32))), (.ref a1)])) _
      refine X5.baloadBytes hx (j := (p1 + (0 : Int32))) (v := .int (atv c1 (p1 + (0 : Int32)))) (by rw [e5]; exact hT.1.1) (State.isArrayOf_alike hZ.alike hT.1.2.1) hT.1.2.2 hin6 (hT.2.2.2 _ hin6).1 (g := (mkF m 27 #[.val (.ref a1), .val (.int p1), .val (.int (0 : Int32))] [(.int (p1 + (0 : Int32))), (.ref a1)])) rfl rfl (hb hby d_prog_14_method_3_27) _ ?_
      show Steps p.tables e below (T5.setTop (mkF m 28 #[.val (.ref a1), .val (.int p1), .val (.int (0 : Int32))] [(.int (atv c1 (p1 + (0 : Int32))))])) _
      refine st7 _ ?_
      show Steps p.tables e below (T7.setTop (mkF m 31 #[.val (.ref a1), .val (.int p1), .val (.int (0 : Int32))] [(.ref w_BYTE_ORDER_MARK), (.int (atv c1 (p1 + (0 : Int32))))])) _
      refine XS.iloadN X7.here hx rfl (hb hby d_prog_14_method_3_31) rfl ?_
      show Steps p.tables e below (T7.setTop (mkF m 32 #[.val (.ref a1), .val (.int p1), .val (.int (0 : Int32))] [(.int (0 : Int32)), (.ref w_BYTE_ORDER_MARK), (.int (atv c1 (p1 + (0 : Int32))))])) _
      refine X7.baloadBytes hx (j := (0 : Int32)) (v := (.int (-17 : Int32))) (by rw [e7]; exact A_w_BYTE_ORDER_MARK.1) (State.isArrayOf_alike hZ.alike A_w_BYTE_ORDER_MARK.2.1) A_w_BYTE_ORDER_MARK.2.2 (by rw [q_w_BYTE_ORDER_MARK]; decide) (by rw [q_w_BYTE_ORDER_MARK]; rfl) (g := (mkF m 32 #[.val (.ref a1), .val (.int p1), .val (.int (0 : Int32))] [(.int (0 : Int32)), (.ref w_BYTE_ORDER_MARK), (.int (atv c1 (p1 + (0 : Int32))))])) rfl rfl (hb hby d_prog_14_method_3_32) _ ?_
      exact k)
    by_cases hc33_8 : (atv c1 (p1 + (0 : Int32))) = (-17 : Int32)
    · obtain ⟨T10, X10, e10, st10⟩ := getS2 X7 hx hZ hown (host := "") (Or.inl (hw _ (ow 9 rfl))) Via.refl e7 S_w_BYTE_ORDER_MARK (g := (mkF m 16 #[.val (.ref a1), .val (.int p1), .val (.int (1 : Int32))] [(.int (1 : Int32))])) rfl (hb hby d_prog_14_method_3_16)
      have hin11 : ¬ ((p1 + (1 : Int32)) < 0 ∨ c1.slots.size ≤ ((p1 + (1 : Int32))).toNatClampNeg) := inb_of hT.2.1 (hb1 hc8_2)
      obtain ⟨T12, X12, e12, st12⟩ := getS2 X10 hx hZ hown (host := "") (Or.inl (hw _ (ow 9 rfl))) Via.refl e10 S_w_BYTE_ORDER_MARK (g := (mkF m 28 #[.val (.ref a1), .val (.int p1), .val (.int (1 : Int32))] [(.int (atv c1 (p1 + (1 : Int32))))])) rfl (hb hby d_prog_14_method_3_28)
      have pre14 : ∀ t, Steps p.tables e below (T12.setTop (mkF m 33 #[.val (.ref a1), .val (.int p1), .val (.int (1 : Int32))] [(.int (-69 : Int32)), (.int (atv c1 (p1 + (1 : Int32))))])) t → Steps p.tables e below (s₁.setTop (entryFrame m #[(.ref a1), (.int p1)] 3)) t := fun t k => pre9 t (by
        show Steps p.tables e below (T7.setTop (mkF m 33 #[.val (.ref a1), .val (.int p1), .val (.int (0 : Int32))] [(.int (-17 : Int32)), (.int (atv c1 (p1 + (0 : Int32))))])) _
        refine XS.icmpYes X7.here hx rfl (pc0 := 33) (pc' := 38) rfl (hb hby d_prog_14_method_3_33) rfl (teq hc33_8).1 (by decide) (by decide) ?_
        show Steps p.tables e below (T7.setTop (mkF m 38 #[.val (.ref a1), .val (.int p1), .val (.int (0 : Int32))] [])) _
        refine XS.iinc X7.here hx rfl (hb hby d_prog_14_method_3_38) rfl (l' := #[.val (.ref a1), .val (.int p1), .val (.int (1 : Int32))]) rfl ?_
        show Steps p.tables e below (T7.setTop (mkF m 41 #[.val (.ref a1), .val (.int p1), .val (.int (1 : Int32))] [])) _
        refine XS.goto X7.here hx rfl (pc0 := 41) (pc' := 15) rfl (hb hby d_prog_14_method_3_41) (by decide) (by decide) ?_
        show Steps p.tables e below (T7.setTop (mkF m 15 #[.val (.ref a1), .val (.int p1), .val (.int (1 : Int32))] [])) _
        refine XS.iloadN X7.here hx rfl (hb hby d_prog_14_method_3_15) rfl ?_
        show Steps p.tables e below (T7.setTop (mkF m 16 #[.val (.ref a1), .val (.int p1), .val (.int (1 : Int32))] [(.int (1 : Int32))])) _
        refine st10 _ ?_
        show Steps p.tables e below (T10.setTop (mkF m 19 #[.val (.ref a1), .val (.int p1), .val (.int (1 : Int32))] [(.ref w_BYTE_ORDER_MARK), (.int (1 : Int32))])) _
        refine X10.arraylength hx (by rw [e10]; exact A_w_BYTE_ORDER_MARK.1) (State.isArrayOf_alike hZ.alike A_w_BYTE_ORDER_MARK.2.1) (g := (mkF m 19 #[.val (.ref a1), .val (.int p1), .val (.int (1 : Int32))] [(.ref w_BYTE_ORDER_MARK), (.int (1 : Int32))])) rfl rfl (hb hby d_prog_14_method_3_19) _ ?_
        rw [q_w_BYTE_ORDER_MARK]
        show Steps p.tables e below (T10.setTop (mkF m 20 #[.val (.ref a1), .val (.int p1), .val (.int (1 : Int32))] [(.int (3 : Int32)), (.int (1 : Int32))])) _
        refine XS.icmpNo X10.here hx rfl (hb hby d_prog_14_method_3_20) rfl (tlt (by decide)).2.1 ?_
        show Steps p.tables e below (T10.setTop (mkF m 23 #[.val (.ref a1), .val (.int p1), .val (.int (1 : Int32))] [])) _
        refine XS.aloadN X10.here hx rfl (hb hby d_prog_14_method_3_23) rfl rfl ?_
        show Steps p.tables e below (T10.setTop (mkF m 24 #[.val (.ref a1), .val (.int p1), .val (.int (1 : Int32))] [(.ref a1)])) _
        refine XS.iloadN X10.here hx rfl (hb hby d_prog_14_method_3_24) rfl ?_
        show Steps p.tables e below (T10.setTop (mkF m 25 #[.val (.ref a1), .val (.int p1), .val (.int (1 : Int32))] [(.int p1), (.ref a1)])) _
        refine XS.iloadN X10.here hx rfl (hb hby d_prog_14_method_3_25) rfl ?_
        show Steps p.tables e below (T10.setTop (mkF m 26 #[.val (.ref a1), .val (.int p1), .val (.int (1 : Int32))] [(.int (1 : Int32)), (.int p1), (.ref a1)])) _
        refine XS.iadd X10.here hx rfl (hb hby d_prog_14_method_3_26) rfl ?_
        show Steps p.tables e below (T10.setTop (mkF m 27 #[.val (.ref a1), .val (.int p1), .val (.int (1 : Int32))] [(.int (p1 + (1 : Int32))), (.ref a1)])) _
        refine X10.baloadBytes hx (j := (p1 + (1 : Int32))) (v := .int (atv c1 (p1 + (1 : Int32)))) (by rw [e10]; exact hT.1.1) (State.isArrayOf_alike hZ.alike hT.1.2.1) hT.1.2.2 hin11 (hT.2.2.2 _ hin11).1 (g := (mkF m 27 #[.val (.ref a1), .val (.int p1), .val (.int (1 : Int32))] [(.int (p1 + (1 : Int32))), (.ref a1)])) rfl rfl (hb hby d_prog_14_method_3_27) _ ?_
        show Steps p.tables e below (T10.setTop (mkF m 28 #[.val (.ref a1), .val (.int p1), .val (.int (1 : Int32))] [(.int (atv c1 (p1 + (1 : Int32))))])) _
        refine st12 _ ?_
        show Steps p.tables e below (T12.setTop (mkF m 31 #[.val (.ref a1), .val (.int p1), .val (.int (1 : Int32))] [(.ref w_BYTE_ORDER_MARK), (.int (atv c1 (p1 + (1 : Int32))))])) _
        refine XS.iloadN X12.here hx rfl (hb hby d_prog_14_method_3_31) rfl ?_
        show Steps p.tables e below (T12.setTop (mkF m 32 #[.val (.ref a1), .val (.int p1), .val (.int (1 : Int32))] [(.int (1 : Int32)), (.ref w_BYTE_ORDER_MARK), (.int (atv c1 (p1 + (1 : Int32))))])) _
        refine X12.baloadBytes hx (j := (1 : Int32)) (v := (.int (-69 : Int32))) (by rw [e12]; exact A_w_BYTE_ORDER_MARK.1) (State.isArrayOf_alike hZ.alike A_w_BYTE_ORDER_MARK.2.1) A_w_BYTE_ORDER_MARK.2.2 (by rw [q_w_BYTE_ORDER_MARK]; decide) (by rw [q_w_BYTE_ORDER_MARK]; rfl) (g := (mkF m 32 #[.val (.ref a1), .val (.int p1), .val (.int (1 : Int32))] [(.int (1 : Int32)), (.ref w_BYTE_ORDER_MARK), (.int (atv c1 (p1 + (1 : Int32))))])) rfl rfl (hb hby d_prog_14_method_3_32) _ ?_
        exact k)
      by_cases hc33_13 : (atv c1 (p1 + (1 : Int32))) = (-69 : Int32)
      · obtain ⟨T15, X15, e15, st15⟩ := getS2 X12 hx hZ hown (host := "") (Or.inl (hw _ (ow 9 rfl))) Via.refl e12 S_w_BYTE_ORDER_MARK (g := (mkF m 16 #[.val (.ref a1), .val (.int p1), .val (.int (2 : Int32))] [(.int (2 : Int32))])) rfl (hb hby d_prog_14_method_3_16)
        have hin16 : ¬ ((p1 + (2 : Int32)) < 0 ∨ c1.slots.size ≤ ((p1 + (2 : Int32))).toNatClampNeg) := inb_of hT.2.1 (hb2 hc8_2)
        obtain ⟨T17, X17, e17, st17⟩ := getS2 X15 hx hZ hown (host := "") (Or.inl (hw _ (ow 9 rfl))) Via.refl e15 S_w_BYTE_ORDER_MARK (g := (mkF m 28 #[.val (.ref a1), .val (.int p1), .val (.int (2 : Int32))] [(.int (atv c1 (p1 + (2 : Int32))))])) rfl (hb hby d_prog_14_method_3_28)
        have pre19 : ∀ t, Steps p.tables e below (T17.setTop (mkF m 33 #[.val (.ref a1), .val (.int p1), .val (.int (2 : Int32))] [(.int (-65 : Int32)), (.int (atv c1 (p1 + (2 : Int32))))])) t → Steps p.tables e below (s₁.setTop (entryFrame m #[(.ref a1), (.int p1)] 3)) t := fun t k => pre14 t (by
          show Steps p.tables e below (T12.setTop (mkF m 33 #[.val (.ref a1), .val (.int p1), .val (.int (1 : Int32))] [(.int (-69 : Int32)), (.int (atv c1 (p1 + (1 : Int32))))])) _
          refine XS.icmpYes X12.here hx rfl (pc0 := 33) (pc' := 38) rfl (hb hby d_prog_14_method_3_33) rfl (teq hc33_13).1 (by decide) (by decide) ?_
          show Steps p.tables e below (T12.setTop (mkF m 38 #[.val (.ref a1), .val (.int p1), .val (.int (1 : Int32))] [])) _
          refine XS.iinc X12.here hx rfl (hb hby d_prog_14_method_3_38) rfl (l' := #[.val (.ref a1), .val (.int p1), .val (.int (2 : Int32))]) rfl ?_
          show Steps p.tables e below (T12.setTop (mkF m 41 #[.val (.ref a1), .val (.int p1), .val (.int (2 : Int32))] [])) _
          refine XS.goto X12.here hx rfl (pc0 := 41) (pc' := 15) rfl (hb hby d_prog_14_method_3_41) (by decide) (by decide) ?_
          show Steps p.tables e below (T12.setTop (mkF m 15 #[.val (.ref a1), .val (.int p1), .val (.int (2 : Int32))] [])) _
          refine XS.iloadN X12.here hx rfl (hb hby d_prog_14_method_3_15) rfl ?_
          show Steps p.tables e below (T12.setTop (mkF m 16 #[.val (.ref a1), .val (.int p1), .val (.int (2 : Int32))] [(.int (2 : Int32))])) _
          refine st15 _ ?_
          show Steps p.tables e below (T15.setTop (mkF m 19 #[.val (.ref a1), .val (.int p1), .val (.int (2 : Int32))] [(.ref w_BYTE_ORDER_MARK), (.int (2 : Int32))])) _
          refine X15.arraylength hx (by rw [e15]; exact A_w_BYTE_ORDER_MARK.1) (State.isArrayOf_alike hZ.alike A_w_BYTE_ORDER_MARK.2.1) (g := (mkF m 19 #[.val (.ref a1), .val (.int p1), .val (.int (2 : Int32))] [(.ref w_BYTE_ORDER_MARK), (.int (2 : Int32))])) rfl rfl (hb hby d_prog_14_method_3_19) _ ?_
          rw [q_w_BYTE_ORDER_MARK]
          show Steps p.tables e below (T15.setTop (mkF m 20 #[.val (.ref a1), .val (.int p1), .val (.int (2 : Int32))] [(.int (3 : Int32)), (.int (2 : Int32))])) _
          refine XS.icmpNo X15.here hx rfl (hb hby d_prog_14_method_3_20) rfl (tlt (by decide)).2.1 ?_
          show Steps p.tables e below (T15.setTop (mkF m 23 #[.val (.ref a1), .val (.int p1), .val (.int (2 : Int32))] [])) _
          refine XS.aloadN X15.here hx rfl (hb hby d_prog_14_method_3_23) rfl rfl ?_
          show Steps p.tables e below (T15.setTop (mkF m 24 #[.val (.ref a1), .val (.int p1), .val (.int (2 : Int32))] [(.ref a1)])) _
          refine XS.iloadN X15.here hx rfl (hb hby d_prog_14_method_3_24) rfl ?_
          show Steps p.tables e below (T15.setTop (mkF m 25 #[.val (.ref a1), .val (.int p1), .val (.int (2 : Int32))] [(.int p1), (.ref a1)])) _
          refine XS.iloadN X15.here hx rfl (hb hby d_prog_14_method_3_25) rfl ?_
          show Steps p.tables e below (T15.setTop (mkF m 26 #[.val (.ref a1), .val (.int p1), .val (.int (2 : Int32))] [(.int (2 : Int32)), (.int p1), (.ref a1)])) _
          refine XS.iadd X15.here hx rfl (hb hby d_prog_14_method_3_26) rfl ?_
          show Steps p.tables e below (T15.setTop (mkF m 27 #[.val (.ref a1), .val (.int p1), .val (.int (2 : Int32))] [(.int (p1 + (2 : Int32))), (.ref a1)])) _
          refine X15.baloadBytes hx (j := (p1 + (2 : Int32))) (v := .int (atv c1 (p1 + (2 : Int32)))) (by rw [e15]; exact hT.1.1) (State.isArrayOf_alike hZ.alike hT.1.2.1) hT.1.2.2 hin16 (hT.2.2.2 _ hin16).1 (g := (mkF m 27 #[.val (.ref a1), .val (.int p1), .val (.int (2 : Int32))] [(.int (p1 + (2 : Int32))), (.ref a1)])) rfl rfl (hb hby d_prog_14_method_3_27) _ ?_
          show Steps p.tables e below (T15.setTop (mkF m 28 #[.val (.ref a1), .val (.int p1), .val (.int (2 : Int32))] [(.int (atv c1 (p1 + (2 : Int32))))])) _
          refine st17 _ ?_
          show Steps p.tables e below (T17.setTop (mkF m 31 #[.val (.ref a1), .val (.int p1), .val (.int (2 : Int32))] [(.ref w_BYTE_ORDER_MARK), (.int (atv c1 (p1 + (2 : Int32))))])) _
          refine XS.iloadN X17.here hx rfl (hb hby d_prog_14_method_3_31) rfl ?_
          show Steps p.tables e below (T17.setTop (mkF m 32 #[.val (.ref a1), .val (.int p1), .val (.int (2 : Int32))] [(.int (2 : Int32)), (.ref w_BYTE_ORDER_MARK), (.int (atv c1 (p1 + (2 : Int32))))])) _
          refine X17.baloadBytes hx (j := (2 : Int32)) (v := (.int (-65 : Int32))) (by rw [e17]; exact A_w_BYTE_ORDER_MARK.1) (State.isArrayOf_alike hZ.alike A_w_BYTE_ORDER_MARK.2.1) A_w_BYTE_ORDER_MARK.2.2 (by rw [q_w_BYTE_ORDER_MARK]; decide) (by rw [q_w_BYTE_ORDER_MARK]; rfl) (g := (mkF m 32 #[.val (.ref a1), .val (.int p1), .val (.int (2 : Int32))] [(.int (2 : Int32)), (.ref w_BYTE_ORDER_MARK), (.int (atv c1 (p1 + (2 : Int32))))])) rfl rfl (hb hby d_prog_14_method_3_32) _ ?_
          exact k)
        by_cases hc33_18 : (atv c1 (p1 + (2 : Int32))) = (-65 : Int32)
        · obtain ⟨T20, X20, e20, st20⟩ := getS2 X17 hx hZ hown (host := "") (Or.inl (hw _ (ow 9 rfl))) Via.refl e17 S_w_BYTE_ORDER_MARK (g := (mkF m 16 #[.val (.ref a1), .val (.int p1), .val (.int (3 : Int32))] [(.int (3 : Int32))])) rfl (hb hby d_prog_14_method_3_16)
          have pre21 : ∀ t, Steps p.tables e below (T20.setTop (mkF m 45 #[.val (.ref a1), .val (.int p1), .val (.int (3 : Int32))] [(.int (1 : Int32))])) t → Steps p.tables e below (s₁.setTop (entryFrame m #[(.ref a1), (.int p1)] 3)) t := fun t k => pre19 t (by
            show Steps p.tables e below (T17.setTop (mkF m 33 #[.val (.ref a1), .val (.int p1), .val (.int (2 : Int32))] [(.int (-65 : Int32)), (.int (atv c1 (p1 + (2 : Int32))))])) _
            refine XS.icmpYes X17.here hx rfl (pc0 := 33) (pc' := 38) rfl (hb hby d_prog_14_method_3_33) rfl (teq hc33_18).1 (by decide) (by decide) ?_
            show Steps p.tables e below (T17.setTop (mkF m 38 #[.val (.ref a1), .val (.int p1), .val (.int (2 : Int32))] [])) _
            refine XS.iinc X17.here hx rfl (hb hby d_prog_14_method_3_38) rfl (l' := #[.val (.ref a1), .val (.int p1), .val (.int (3 : Int32))]) rfl ?_
            show Steps p.tables e below (T17.setTop (mkF m 41 #[.val (.ref a1), .val (.int p1), .val (.int (3 : Int32))] [])) _
            refine XS.goto X17.here hx rfl (pc0 := 41) (pc' := 15) rfl (hb hby d_prog_14_method_3_41) (by decide) (by decide) ?_
            show Steps p.tables e below (T17.setTop (mkF m 15 #[.val (.ref a1), .val (.int p1), .val (.int (3 : Int32))] [])) _
            refine XS.iloadN X17.here hx rfl (hb hby d_prog_14_method_3_15) rfl ?_
            show Steps p.tables e below (T17.setTop (mkF m 16 #[.val (.ref a1), .val (.int p1), .val (.int (3 : Int32))] [(.int (3 : Int32))])) _
            refine st20 _ ?_
            show Steps p.tables e below (T20.setTop (mkF m 19 #[.val (.ref a1), .val (.int p1), .val (.int (3 : Int32))] [(.ref w_BYTE_ORDER_MARK), (.int (3 : Int32))])) _
            refine X20.arraylength hx (by rw [e20]; exact A_w_BYTE_ORDER_MARK.1) (State.isArrayOf_alike hZ.alike A_w_BYTE_ORDER_MARK.2.1) (g := (mkF m 19 #[.val (.ref a1), .val (.int p1), .val (.int (3 : Int32))] [(.ref w_BYTE_ORDER_MARK), (.int (3 : Int32))])) rfl rfl (hb hby d_prog_14_method_3_19) _ ?_
            rw [q_w_BYTE_ORDER_MARK]
            show Steps p.tables e below (T20.setTop (mkF m 20 #[.val (.ref a1), .val (.int p1), .val (.int (3 : Int32))] [(.int (3 : Int32)), (.int (3 : Int32))])) _
            refine XS.icmpYes X20.here hx rfl (pc0 := 20) (pc' := 44) rfl (hb hby d_prog_14_method_3_20) rfl (flt (by decide)).2.1 (by decide) (by decide) ?_
            show Steps p.tables e below (T20.setTop (mkF m 44 #[.val (.ref a1), .val (.int p1), .val (.int (3 : Int32))] [])) _
            refine XS.iconst X20.here hx rfl (hb hby d_prog_14_method_3_44) ?_
            exact k)
          obtain ⟨fs, hr, hrun, hended, hW, hsame⟩ := X20.leave (v := some (.int (1 : Int32))) (fun h => by rw [Bd.returns] at h; cases h)
          refine ⟨_, _, pre21 _ ?_, hrun, hended, _, _, rfl, ?_, ⟨_, rfl⟩, hW, hsame.mono (by decide) (by decide)⟩
          · show Steps p.tables e below (T20.setTop (mkF m 45 #[.val (.ref a1), .val (.int p1), .val (.int (3 : Int32))] [(.int (1 : Int32))])) _
            exact retN X20 hx (t := .boolean) Bd.returns (by simp) (hb hby d_prog_14_method_3_45) hr
          · exact ⟨congrArg (fun z => some (Value.int z)) (Eq.symm ((if_neg hc8_2).trans ((if_pos hc33_8).trans ((if_pos hc33_13).trans (if_pos hc33_18))))), N0, e20⟩
        · have pre22 : ∀ t, Steps p.tables e below (T17.setTop (mkF m 37 #[.val (.ref a1), .val (.int p1), .val (.int (2 : Int32))] [(.int (0 : Int32))])) t → Steps p.tables e below (s₁.setTop (entryFrame m #[(.ref a1), (.int p1)] 3)) t := fun t k => pre19 t (by
            show Steps p.tables e below (T17.setTop (mkF m 33 #[.val (.ref a1), .val (.int p1), .val (.int (2 : Int32))] [(.int (-65 : Int32)), (.int (atv c1 (p1 + (2 : Int32))))])) _
            refine XS.icmpNo X17.here hx rfl (hb hby d_prog_14_method_3_33) rfl (feq hc33_18).1 ?_
            show Steps p.tables e below (T17.setTop (mkF m 36 #[.val (.ref a1), .val (.int p1), .val (.int (2 : Int32))] [])) _
            refine XS.iconst X17.here hx rfl (hb hby d_prog_14_method_3_36) ?_
            exact k)
          obtain ⟨fs, hr, hrun, hended, hW, hsame⟩ := X17.leave (v := some (.int (0 : Int32))) (fun h => by rw [Bd.returns] at h; cases h)
          refine ⟨_, _, pre22 _ ?_, hrun, hended, _, _, rfl, ?_, ⟨_, rfl⟩, hW, hsame.mono (by decide) (by decide)⟩
          · show Steps p.tables e below (T17.setTop (mkF m 37 #[.val (.ref a1), .val (.int p1), .val (.int (2 : Int32))] [(.int (0 : Int32))])) _
            exact retN X17 hx (t := .boolean) Bd.returns (by simp) (hb hby d_prog_14_method_3_37) hr
          · exact ⟨congrArg (fun z => some (Value.int z)) (Eq.symm ((if_neg hc8_2).trans ((if_pos hc33_8).trans ((if_pos hc33_13).trans (if_neg hc33_18))))), N0, e17⟩
      · have pre23 : ∀ t, Steps p.tables e below (T12.setTop (mkF m 37 #[.val (.ref a1), .val (.int p1), .val (.int (1 : Int32))] [(.int (0 : Int32))])) t → Steps p.tables e below (s₁.setTop (entryFrame m #[(.ref a1), (.int p1)] 3)) t := fun t k => pre14 t (by
          show Steps p.tables e below (T12.setTop (mkF m 33 #[.val (.ref a1), .val (.int p1), .val (.int (1 : Int32))] [(.int (-69 : Int32)), (.int (atv c1 (p1 + (1 : Int32))))])) _
          refine XS.icmpNo X12.here hx rfl (hb hby d_prog_14_method_3_33) rfl (feq hc33_13).1 ?_
          show Steps p.tables e below (T12.setTop (mkF m 36 #[.val (.ref a1), .val (.int p1), .val (.int (1 : Int32))] [])) _
          refine XS.iconst X12.here hx rfl (hb hby d_prog_14_method_3_36) ?_
          exact k)
        obtain ⟨fs, hr, hrun, hended, hW, hsame⟩ := X12.leave (v := some (.int (0 : Int32))) (fun h => by rw [Bd.returns] at h; cases h)
        refine ⟨_, _, pre23 _ ?_, hrun, hended, _, _, rfl, ?_, ⟨_, rfl⟩, hW, hsame.mono (by decide) (by decide)⟩
        · show Steps p.tables e below (T12.setTop (mkF m 37 #[.val (.ref a1), .val (.int p1), .val (.int (1 : Int32))] [(.int (0 : Int32))])) _
          exact retN X12 hx (t := .boolean) Bd.returns (by simp) (hb hby d_prog_14_method_3_37) hr
        · exact ⟨congrArg (fun z => some (Value.int z)) (Eq.symm ((if_neg hc8_2).trans ((if_pos hc33_8).trans (if_neg hc33_13)))), N0, e12⟩
    · have pre24 : ∀ t, Steps p.tables e below (T7.setTop (mkF m 37 #[.val (.ref a1), .val (.int p1), .val (.int (0 : Int32))] [(.int (0 : Int32))])) t → Steps p.tables e below (s₁.setTop (entryFrame m #[(.ref a1), (.int p1)] 3)) t := fun t k => pre9 t (by
        show Steps p.tables e below (T7.setTop (mkF m 33 #[.val (.ref a1), .val (.int p1), .val (.int (0 : Int32))] [(.int (-17 : Int32)), (.int (atv c1 (p1 + (0 : Int32))))])) _
        refine XS.icmpNo X7.here hx rfl (hb hby d_prog_14_method_3_33) rfl (feq hc33_8).1 ?_
        show Steps p.tables e below (T7.setTop (mkF m 36 #[.val (.ref a1), .val (.int p1), .val (.int (0 : Int32))] [])) _
        refine XS.iconst X7.here hx rfl (hb hby d_prog_14_method_3_36) ?_
        exact k)
      obtain ⟨fs, hr, hrun, hended, hW, hsame⟩ := X7.leave (v := some (.int (0 : Int32))) (fun h => by rw [Bd.returns] at h; cases h)
      refine ⟨_, _, pre24 _ ?_, hrun, hended, _, _, rfl, ?_, ⟨_, rfl⟩, hW, hsame.mono (by decide) (by decide)⟩
      · show Steps p.tables e below (T7.setTop (mkF m 37 #[.val (.ref a1), .val (.int p1), .val (.int (0 : Int32))] [(.int (0 : Int32))])) _
        exact retN X7 hx (t := .boolean) Bd.returns (by simp) (hb hby d_prog_14_method_3_37) hr
      · exact ⟨congrArg (fun z => some (Value.int z)) (Eq.symm ((if_neg hc8_2).trans (if_neg hc33_8))), N0, e7⟩
theorem own_at0 (c : Cell) (st m : Int32) {P : Prop} (h : atv c st = m ↔ P) : (atv c (st + (0 : Int32))) = m ↔ P := by rw [Int32.add_zero]; exact h
theorem pd_0 : parseMethodDescriptor "([BIB)V" = some ⟨[(.array .byte), .int, .byte], none⟩ := by decide +kernel
theorem pd_1 : parseMethodDescriptor "([BI)Z" = some ⟨[(.array .byte), .int], some .boolean⟩ := by decide +kernel
theorem ef_lawS (m : MethodId) (x0 : Int32) (x1 : Int32) (x2 : Int64) (x3 : Int32) (x4 : Int32) : entryFrame m #[(.int x0), (.int x1), (.long x2), (.int x3), (.int x4)] maxLocals = mkF m 0 #[.val (.int x0), .val (.int x1), .val (.long x2), .second, .val (.int x3), .val (.int x4), .unset, .unset, .unset, .unset, .unset] [] := by first | (simp [entryFrame, mkF, argsToLocals, Value.category, maxLocals]; done) | rfl
set_option maxRecDepth 65536 in
set_option maxHeartbeats 40000000 in
theorem rm_lawS (l : Launch) (Z : State) (a0 : Array Value) (hw : ∀ d ∈ tables_1, d.before a0 Z = true) (ws : List Jvm.Cond) (p1 : Int32) (p2 : Int32) (q3 : Int64) (p4 : Int32) (p5 : Int32) (h0 : Heap) (n0 : Nat) (Z0 : n0 ≤ h0.size) (w_BYTE_ORDER_MARK : Addr) (hK : own_K Z h0 w_BYTE_ORDER_MARK) (n st wh : Int32) (hn : (p1 &&& (7 : Int32)) = n) (hst : (p2 &&& (7 : Int32)) = st) (hwh : (((p4.toUInt32 >>> ((1 : Int32) &&& 31).toUInt32).toInt32) &&& (3 : Int32)) = wh) (hn0 : ¬ n < 0) (hcap : n.toNatClampNeg ≤ 7) (hst0 : ¬ st < 0) (hst1 : ¬ (st + (1 : Int32)) < 0) (hst2 : ¬ (st + (2 : Int32)) < 0) (hst3 : ¬ (st + wh) < 0) (hlen : (n - st) < (3 : Int32) ↔ n < (st + (3 : Int32))) (hb0 : ¬ n < (st + (3 : Int32)) → ¬ st < 0 ∧ st < n) (hb1 : ¬ n < (st + (3 : Int32)) → ¬ (st + (1 : Int32)) < 0 ∧ (st + (1 : Int32)) < n) (hb2 : ¬ n < (st + (3 : Int32)) → ¬ (st + (2 : Int32)) < 0 ∧ (st + (2 : Int32)) < n) (hc0 : ¬ (n - st) < (3 : Int32) → ¬ (st + (0 : Int32)) < 0 ∧ (st + (0 : Int32)) < n) (hc1 : ¬ (n - st) < (3 : Int32) → ¬ (st + (1 : Int32)) < 0 ∧ (st + (1 : Int32)) < n) (hc2 : ¬ (n - st) < (3 : Int32) → ¬ (st + (2 : Int32)) < 0 ∧ (st + (2 : Int32)) < n) :
    MetFree l x (head1 (Jvm.Cond.code x code maxLocals ret :: ws) room_1) (fun a U => a = #[(.int p1), (.int p2), (.long q3), (.int p4), (.int p5)] ∧ Z.Warmed39 U.vm ∧ U.heap = h0) (fun _ _ _ _ _ => True) (fun _ U o U' => ∃ v L, o = .returned v ∧ own_QH (some (.int (1 : Int32))) n0 v U'.heap L ∧ FrameEnd U o U' L room_1.cells room_1.slots) := by
  refine MetFree.of_bodySF (plainFor_of_name pn_0) hisR ?_
  intro p e s m args below meth c s₁ Bd hml0 hP hK0
  obtain ⟨rfl, hZ, hh⟩ := hP
  have hx := Bd.exec
  have hby := Bd.bytes
  have hml : c.maxLocals = 11 := hml0
  have hown : s.vm.findClass "com/example/falkirk/falkirk/loader/Utf8StartsWithByteOrderMarkPinLaw" = some m.cls := findClass_of_methodNamed Bd.named
  have hnm := (name_of_methodNamed Bd.named Bd.method).1
  have X0 : Stand p l e room_1 s m #[(.int p1), (.int p2), (.long q3), (.int p4), (.int p5)] below meth c s₁ [] 0 0 := Stand.of_body Bd
  have e0 : s₁.heap = h0 := by rw [← hh, Bd.state]; rfl
  have N0 := Fr.nil n0
  have pre0 : ∀ t, Steps p.tables e below (s₁.setTop (mkF m 0 #[.val (.int p1), .val (.int p2), .val (.long q3), .second, .val (.int p4), .val (.int p5), .unset, .unset, .unset, .unset, .unset] [])) t → Steps p.tables e below (s₁.setTop (entryFrame m #[(.int p1), (.int p2), (.long q3), (.int p4), (.int p5)] maxLocals)) t := fun t k => castTop (ef_lawS m p1 p2 q3 p4 p5) k
  have hK' := hK
  obtain ⟨S_w_BYTE_ORDER_MARK, B_w_BYTE_ORDER_MARK⟩ := hK'
  obtain ⟨cl_w_BYTE_ORDER_MARK, A_w_BYTE_ORDER_MARK, q_w_BYTE_ORDER_MARK⟩ := B_w_BYTE_ORDER_MARK
  obtain ⟨T1, h1, k1, X1, e1, Eq1, A1, st1⟩ := newP X0 hx hZ (aty := .byte) (hw _ (ow 0 rfl)) e0 (g := (mkF m 14 #[.val (.int p1), .val (.int p2), .val (.long q3), .second, .val (.int p4), .val (.int p5), .val (.int n), .val (.int st), .unset, .unset, .unset] [(.int n)])) rfl (hb hby at_14) rfl hn0 (cap := 7) hcap (by decide) (by decide) (by decide)
  obtain ⟨b1, gb1⟩ : ∃ z, z = h0.size := ⟨_, rfl⟩
  rw [← gb1] at A1 st1
  have Tb1 : own_Tab Z h1 b1 n := own_tab_new A1 hn0
  have sz_b1 : h0.size ≤ b1 := Nat.le_of_eq gb1.symm
  have g_b1 : n0 ≤ b1 := Nat.le_trans Z0 sz_b1
  have EX1 : Ext h0 h1 := Eq1
  obtain ⟨v2, _, ⟨T2, L2, k2, n2⟩, -, X2, ⟨Lc2, hQ2, l2, y2, z2⟩, st2⟩ := Jvm.LawKit.callS X1 hx (y := (⟨"com/example/falkirk/falkirk/loader/Utf8StartsWithByteOrderMarkPinLaw", "set", "([BIB)V"⟩ : MethodName)) hown (mvT hZ (hw _ (ow 1 rfl))) (mvT hZ (hw _ (ow 2 rfl))) (mvT hZ (hw _ (ow 3 rfl))) (mvT hZ (hw _ (ow 4 rfl))) (by decide) (backOf (W := 0) (rm_set l Z a0 hw [] b1 (0 : Int32) ((q3.toInt32).toInt8.toInt32) h1 n0 n Tb1 (by decide) g_b1) hZ (hw _ (ow 4 rfl)) (hw _ (ow 3 rfl)) (by decide) (by decide)) (g := (mkF m 24 #[.val (.int p1), .val (.int p2), .val (.long q3), .second, .val (.int p4), .val (.int p5), .val (.int n), .val (.int st), .val (.ref b1), .unset, .unset] [(.int ((q3.toInt32).toInt8.toInt32)), (.int (0 : Int32)), (.ref b1)])) rfl (by rw [hml]; rfl) (argsL := [(.ref b1), (.int (0 : Int32)), (.int ((q3.toInt32).toInt8.toInt32))]) (rest := []) (lenOf pd_0 rfl) rfl (Nat.le_of_eq rfl) (hb hby at_24) (fun _ _ => ⟨rfl, e1, (by decide : 1 + 0 ≤ _), (by decide : 7 + 0 ≤ _)⟩)
  dsimp only [Pt.U, Pt.locs, Pt.cells, Pt.slots] at X2 l2 y2 z2 st2 hQ2
  subst l2 y2 z2
  obtain ⟨hv2, Nq2, Kq2, Tq2⟩ := hQ2
  obtain rfl : v2 = none := hv2
  have N2 := Fr.app N0 Nq2
  have EX2 : Ext h0 T2.heap := own_ext_keep EX1 Kq2 sz_b1
  obtain ⟨v3, _, ⟨T3, L3, k3, n3⟩, -, X3, ⟨Lc3, hQ3, l3, y3, z3⟩, st3⟩ := Jvm.LawKit.callS X2 hx (y := (⟨"com/example/falkirk/falkirk/loader/Utf8StartsWithByteOrderMarkPinLaw", "set", "([BIB)V"⟩ : MethodName)) hown (mvT hZ (hw _ (ow 1 rfl))) (mvT hZ (hw _ (ow 2 rfl))) (mvT hZ (hw _ (ow 3 rfl))) (mvT hZ (hw _ (ow 4 rfl))) (by decide) (backOf (W := 0) (rm_set l Z a0 hw [] b1 (1 : Int32) ((((q3.toUInt64 >>> ((8 : Int32) &&& 0x3f).toInt64.toUInt64).toInt64).toInt32).toInt8.toInt32) T2.heap n0 n Tq2 (by decide) g_b1) hZ (hw _ (ow 4 rfl)) (hw _ (ow 3 rfl)) (by decide) (by decide)) (g := (mkF m 36 #[.val (.int p1), .val (.int p2), .val (.long q3), .second, .val (.int p4), .val (.int p5), .val (.int n), .val (.int st), .val (.ref b1), .unset, .unset] [(.int ((((q3.toUInt64 >>> ((8 : Int32) &&& 0x3f).toInt64.toUInt64).toInt64).toInt32).toInt8.toInt32)), (.int (1 : Int32)), (.ref b1)])) rfl (by rw [hml]; rfl) (argsL := [(.ref b1), (.int (1 : Int32)), (.int ((((q3.toUInt64 >>> ((8 : Int32) &&& 0x3f).toInt64.toUInt64).toInt64).toInt32).toInt8.toInt32))]) (rest := []) (lenOf pd_0 rfl) rfl (Nat.le_of_eq rfl) (hb hby at_36) (fun _ _ => ⟨rfl, (rfl : T2.heap = T2.heap), (by decide : 1 + 0 ≤ _), (by decide : 7 + 0 ≤ _)⟩)
  dsimp only [Pt.U, Pt.locs, Pt.cells, Pt.slots] at X3 l3 y3 z3 st3 hQ3
  subst l3 y3 z3
  obtain ⟨hv3, Nq3, Kq3, Tq3⟩ := hQ3
  obtain rfl : v3 = none := hv3
  have N3 := Fr.app N2 Nq3
  have EX3 : Ext h0 T3.heap := own_ext_keep EX2 Kq3 sz_b1
  obtain ⟨v4, _, ⟨T4, L4, k4, n4⟩, -, X4, ⟨Lc4, hQ4, l4, y4, z4⟩, st4⟩ := Jvm.LawKit.callS X3 hx (y := (⟨"com/example/falkirk/falkirk/loader/Utf8StartsWithByteOrderMarkPinLaw", "set", "([BIB)V"⟩ : MethodName)) hown (mvT hZ (hw _ (ow 1 rfl))) (mvT hZ (hw _ (ow 2 rfl))) (mvT hZ (hw _ (ow 3 rfl))) (mvT hZ (hw _ (ow 4 rfl))) (by decide) (backOf (W := 0) (rm_set l Z a0 hw [] b1 (2 : Int32) ((((q3.toUInt64 >>> ((16 : Int32) &&& 0x3f).toInt64.toUInt64).toInt64).toInt32).toInt8.toInt32) T3.heap n0 n Tq3 (by decide) g_b1) hZ (hw _ (ow 4 rfl)) (hw _ (ow 3 rfl)) (by decide) (by decide)) (g := (mkF m 48 #[.val (.int p1), .val (.int p2), .val (.long q3), .second, .val (.int p4), .val (.int p5), .val (.int n), .val (.int st), .val (.ref b1), .unset, .unset] [(.int ((((q3.toUInt64 >>> ((16 : Int32) &&& 0x3f).toInt64.toUInt64).toInt64).toInt32).toInt8.toInt32)), (.int (2 : Int32)), (.ref b1)])) rfl (by rw [hml]; rfl) (argsL := [(.ref b1), (.int (2 : Int32)), (.int ((((q3.toUInt64 >>> ((16 : Int32) &&& 0x3f).toInt64.toUInt64).toInt64).toInt32).toInt8.toInt32))]) (rest := []) (lenOf pd_0 rfl) rfl (Nat.le_of_eq rfl) (hb hby at_48) (fun _ _ => ⟨rfl, (rfl : T3.heap = T3.heap), (by decide : 1 + 0 ≤ _), (by decide : 7 + 0 ≤ _)⟩)
  dsimp only [Pt.U, Pt.locs, Pt.cells, Pt.slots] at X4 l4 y4 z4 st4 hQ4
  subst l4 y4 z4
  obtain ⟨hv4, Nq4, Kq4, Tq4⟩ := hQ4
  obtain rfl : v4 = none := hv4
  have N4 := Fr.app N3 Nq4
  have EX4 : Ext h0 T4.heap := own_ext_keep EX3 Kq4 sz_b1
  obtain ⟨v5, _, ⟨T5, L5, k5, n5⟩, -, X5, ⟨Lc5, hQ5, l5, y5, z5⟩, st5⟩ := Jvm.LawKit.callS X4 hx (y := (⟨"com/example/falkirk/falkirk/loader/Utf8StartsWithByteOrderMarkPinLaw", "set", "([BIB)V"⟩ : MethodName)) hown (mvT hZ (hw _ (ow 1 rfl))) (mvT hZ (hw _ (ow 2 rfl))) (mvT hZ (hw _ (ow 3 rfl))) (mvT hZ (hw _ (ow 4 rfl))) (by decide) (backOf (W := 0) (rm_set l Z a0 hw [] b1 (3 : Int32) ((((q3.toUInt64 >>> ((24 : Int32) &&& 0x3f).toInt64.toUInt64).toInt64).toInt32).toInt8.toInt32) T4.heap n0 n Tq4 (by decide) g_b1) hZ (hw _ (ow 4 rfl)) (hw _ (ow 3 rfl)) (by decide) (by decide)) (g := (mkF m 60 #[.val (.int p1), .val (.int p2), .val (.long q3), .second, .val (.int p4), .val (.int p5), .val (.int n), .val (.int st), .val (.ref b1), .unset, .unset] [(.int ((((q3.toUInt64 >>> ((24 : Int32) &&& 0x3f).toInt64.toUInt64).toInt64).toInt32).toInt8.toInt32)), (.int (3 : Int32)), (.ref b1)])) rfl (by rw [hml]; rfl) (argsL := [(.ref b1), (.int (3 : Int32)), (.int ((((q3.toUInt64 >>> ((24 : Int32) &&& 0x3f).toInt64.toUInt64).toInt64).toInt32).toInt8.toInt32))]) (rest := []) (lenOf pd_0 rfl) rfl (Nat.le_of_eq rfl) (hb hby at_60) (fun _ _ => ⟨rfl, (rfl : T4.heap = T4.heap), (by decide : 1 + 0 ≤ _), (by decide : 7 + 0 ≤ _)⟩)
  dsimp only [Pt.U, Pt.locs, Pt.cells, Pt.slots] at X5 l5 y5 z5 st5 hQ5
  subst l5 y5 z5
  obtain ⟨hv5, Nq5, Kq5, Tq5⟩ := hQ5
  obtain rfl : v5 = none := hv5
  have N5 := Fr.app N4 Nq5
  have EX5 : Ext h0 T5.heap := own_ext_keep EX4 Kq5 sz_b1
  obtain ⟨v6, _, ⟨T6, L6, k6, n6⟩, -, X6, ⟨Lc6, hQ6, l6, y6, z6⟩, st6⟩ := Jvm.LawKit.callS X5 hx (y := (⟨"com/example/falkirk/falkirk/loader/Utf8StartsWithByteOrderMarkPinLaw", "set", "([BIB)V"⟩ : MethodName)) hown (mvT hZ (hw _ (ow 1 rfl))) (mvT hZ (hw _ (ow 2 rfl))) (mvT hZ (hw _ (ow 3 rfl))) (mvT hZ (hw _ (ow 4 rfl))) (by decide) (backOf (W := 0) (rm_set l Z a0 hw [] b1 (4 : Int32) ((((q3.toUInt64 >>> ((32 : Int32) &&& 0x3f).toInt64.toUInt64).toInt64).toInt32).toInt8.toInt32) T5.heap n0 n Tq5 (by decide) g_b1) hZ (hw _ (ow 4 rfl)) (hw _ (ow 3 rfl)) (by decide) (by decide)) (g := (mkF m 72 #[.val (.int p1), .val (.int p2), .val (.long q3), .second, .val (.int p4), .val (.int p5), .val (.int n), .val (.int st), .val (.ref b1), .unset, .unset] [(.int ((((q3.toUInt64 >>> ((32 : Int32) &&& 0x3f).toInt64.toUInt64).toInt64).toInt32).toInt8.toInt32)), (.int (4 : Int32)), (.ref b1)])) rfl (by rw [hml]; rfl) (argsL := [(.ref b1), (.int (4 : Int32)), (.int ((((q3.toUInt64 >>> ((32 : Int32) &&& 0x3f).toInt64.toUInt64).toInt64).toInt32).toInt8.toInt32))]) (rest := []) (lenOf pd_0 rfl) rfl (Nat.le_of_eq rfl) (hb hby at_72) (fun _ _ => ⟨rfl, (rfl : T5.heap = T5.heap), (by decide : 1 + 0 ≤ _), (by decide : 7 + 0 ≤ _)⟩)
  dsimp only [Pt.U, Pt.locs, Pt.cells, Pt.slots] at X6 l6 y6 z6 st6 hQ6
  subst l6 y6 z6
  obtain ⟨hv6, Nq6, Kq6, Tq6⟩ := hQ6
  obtain rfl : v6 = none := hv6
  have N6 := Fr.app N5 Nq6
  have EX6 : Ext h0 T6.heap := own_ext_keep EX5 Kq6 sz_b1
  obtain ⟨v7, _, ⟨T7, L7, k7, n7⟩, -, X7, ⟨Lc7, hQ7, l7, y7, z7⟩, st7⟩ := Jvm.LawKit.callS X6 hx (y := (⟨"com/example/falkirk/falkirk/loader/Utf8StartsWithByteOrderMarkPinLaw", "set", "([BIB)V"⟩ : MethodName)) hown (mvT hZ (hw _ (ow 1 rfl))) (mvT hZ (hw _ (ow 2 rfl))) (mvT hZ (hw _ (ow 3 rfl))) (mvT hZ (hw _ (ow 4 rfl))) (by decide) (backOf (W := 0) (rm_set l Z a0 hw [] b1 (5 : Int32) ((((q3.toUInt64 >>> ((40 : Int32) &&& 0x3f).toInt64.toUInt64).toInt64).toInt32).toInt8.toInt32) T6.heap n0 n Tq6 (by decide) g_b1) hZ (hw _ (ow 4 rfl)) (hw _ (ow 3 rfl)) (by decide) (by decide)) (g := (mkF m 84 #[.val (.int p1), .val (.int p2), .val (.long q3), .second, .val (.int p4), .val (.int p5), .val (.int n), .val (.int st), .val (.ref b1), .unset, .unset] [(.int ((((q3.toUInt64 >>> ((40 : Int32) &&& 0x3f).toInt64.toUInt64).toInt64).toInt32).toInt8.toInt32)), (.int (5 : Int32)), (.ref b1)])) rfl (by rw [hml]; rfl) (argsL := [(.ref b1), (.int (5 : Int32)), (.int ((((q3.toUInt64 >>> ((40 : Int32) &&& 0x3f).toInt64.toUInt64).toInt64).toInt32).toInt8.toInt32))]) (rest := []) (lenOf pd_0 rfl) rfl (Nat.le_of_eq rfl) (hb hby at_84) (fun _ _ => ⟨rfl, (rfl : T6.heap = T6.heap), (by decide : 1 + 0 ≤ _), (by decide : 7 + 0 ≤ _)⟩)
  dsimp only [Pt.U, Pt.locs, Pt.cells, Pt.slots] at X7 l7 y7 z7 st7 hQ7
  subst l7 y7 z7
  obtain ⟨hv7, Nq7, Kq7, Tq7⟩ := hQ7
  obtain rfl : v7 = none := hv7
  have N7 := Fr.app N6 Nq7
  have EX7 : Ext h0 T7.heap := own_ext_keep EX6 Kq7 sz_b1
  obtain ⟨v8, _, ⟨T8, L8, k8, n8⟩, -, X8, ⟨Lc8, hQ8, l8, y8, z8⟩, st8⟩ := Jvm.LawKit.callS X7 hx (y := (⟨"com/example/falkirk/falkirk/loader/Utf8StartsWithByteOrderMarkPinLaw", "set", "([BIB)V"⟩ : MethodName)) hown (mvT hZ (hw _ (ow 1 rfl))) (mvT hZ (hw _ (ow 2 rfl))) (mvT hZ (hw _ (ow 3 rfl))) (mvT hZ (hw _ (ow 4 rfl))) (by decide) (backOf (W := 0) (rm_set l Z a0 hw [] b1 (6 : Int32) ((((q3.toUInt64 >>> ((48 : Int32) &&& 0x3f).toInt64.toUInt64).toInt64).toInt32).toInt8.toInt32) T7.heap n0 n Tq7 (by decide) g_b1) hZ (hw _ (ow 4 rfl)) (hw _ (ow 3 rfl)) (by decide) (by decide)) (g := (mkF m 97 #[.val (.int p1), .val (.int p2), .val (.long q3), .second, .val (.int p4), .val (.int p5), .val (.int n), .val (.int st), .val (.ref b1), .unset, .unset] [(.int ((((q3.toUInt64 >>> ((48 : Int32) &&& 0x3f).toInt64.toUInt64).toInt64).toInt32).toInt8.toInt32)), (.int (6 : Int32)), (.ref b1)])) rfl (by rw [hml]; rfl) (argsL := [(.ref b1), (.int (6 : Int32)), (.int ((((q3.toUInt64 >>> ((48 : Int32) &&& 0x3f).toInt64.toUInt64).toInt64).toInt32).toInt8.toInt32))]) (rest := []) (lenOf pd_0 rfl) rfl (Nat.le_of_eq rfl) (hb hby at_97) (fun _ _ => ⟨rfl, (rfl : T7.heap = T7.heap), (by decide : 1 + 0 ≤ _), (by decide : 7 + 0 ≤ _)⟩)
  dsimp only [Pt.U, Pt.locs, Pt.cells, Pt.slots] at X8 l8 y8 z8 st8 hQ8
  subst l8 y8 z8
  obtain ⟨hv8, Nq8, Kq8, Tq8⟩ := hQ8
  obtain rfl : v8 = none := hv8
  have N8 := Fr.app N7 Nq8
  have EX8 : Ext h0 T8.heap := own_ext_keep EX7 Kq8 sz_b1
  have pre10 : ∀ t, Steps p.tables e below (T8.setTop (mkF m 104 #[.val (.int p1), .val (.int p2), .val (.long q3), .second, .val (.int p4), .val (.int p5), .val (.int n), .val (.int st), .val (.ref b1), .unset, .unset] [(.int (p4 &&& (1 : Int32)))])) t → Steps p.tables e below (s₁.setTop (entryFrame m #[(.int p1), (.int p2), (.long q3), (.int p4), (.int p5)] maxLocals)) t := fun t k => pre0 t (by
    show Steps p.tables e below (s₁.setTop (mkF m 0 #[.val (.int p1), .val (.int p2), .val (.long q3), .second, .val (.int p4), .val (.int p5), .unset, .unset, .unset, .unset, .unset] [])) _
    refine XS.iloadN X0.here hx rfl (hb hby at_0) rfl ?_
    show Steps p.tables e below (s₁.setTop (mkF m 1 #[.val (.int p1), .val (.int p2), .val (.long q3), .second, .val (.int p4), .val (.int p5), .unset, .unset, .unset, .unset, .unset] [(.int p1)])) _
    refine XS.bipush X0.here hx rfl (hb hby at_1) ?_
    show Steps p.tables e below (s₁.setTop (mkF m 3 #[.val (.int p1), .val (.int p2), .val (.long q3), .second, .val (.int p4), .val (.int p5), .unset, .unset, .unset, .unset, .unset] [(.int (7 : Int32)), (.int p1)])) _
    refine XS.iand X0.here hx rfl (hb hby at_3) rfl ?_
    show Steps p.tables e below (s₁.setTop (mkF m 4 #[.val (.int p1), .val (.int p2), .val (.long q3), .second, .val (.int p4), .val (.int p5), .unset, .unset, .unset, .unset, .unset] [(.int (p1 &&& (7 : Int32)))])) _
    rw [hn]
    show Steps p.tables e below (s₁.setTop (mkF m 4 #[.val (.int p1), .val (.int p2), .val (.long q3), .second, .val (.int p4), .val (.int p5), .unset, .unset, .unset, .unset, .unset] [(.int n)])) _
    refine XS.istore X0.here hx rfl (hb hby at_4) rfl (l' := #[.val (.int p1), .val (.int p2), .val (.long q3), .second, .val (.int p4), .val (.int p5), .val (.int n), .unset, .unset, .unset, .unset]) rfl ?_
    show Steps p.tables e below (s₁.setTop (mkF m 6 #[.val (.int p1), .val (.int p2), .val (.long q3), .second, .val (.int p4), .val (.int p5), .val (.int n), .unset, .unset, .unset, .unset] [])) _
    refine XS.iloadN X0.here hx rfl (hb hby at_6) rfl ?_
    show Steps p.tables e below (s₁.setTop (mkF m 7 #[.val (.int p1), .val (.int p2), .val (.long q3), .second, .val (.int p4), .val (.int p5), .val (.int n), .unset, .unset, .unset, .unset] [(.int p2)])) _
    refine XS.bipush X0.here hx rfl (hb hby at_7) ?_
    show Steps p.tables e below (s₁.setTop (mkF m 9 #[.val (.int p1), .val (.int p2), .val (.long q3), .second, .val (.int p4), .val (.int p5), .val (.int n), .unset, .unset, .unset, .unset] [(.int (7 : Int32)), (.int p2)])) _
    refine XS.iand X0.here hx rfl (hb hby at_9) rfl ?_
    show Steps p.tables e below (s₁.setTop (mkF m 10 #[.val (.int p1), .val (.int p2), .val (.long q3), .second, .val (.int p4), .val (.int p5), .val (.int n), .unset, .unset, .unset, .unset] [(.int (p2 &&& (7 : Int32)))])) _
    rw [hst]
    show Steps p.tables e below (s₁.setTop (mkF m 10 #[.val (.int p1), .val (.int p2), .val (.long q3), .second, .val (.int p4), .val (.int p5), .val (.int n), .unset, .unset, .unset, .unset] [(.int st)])) _
    refine XS.istore X0.here hx rfl (hb hby at_10) rfl (l' := #[.val (.int p1), .val (.int p2), .val (.long q3), .second, .val (.int p4), .val (.int p5), .val (.int n), .val (.int st), .unset, .unset, .unset]) rfl ?_
    show Steps p.tables e below (s₁.setTop (mkF m 12 #[.val (.int p1), .val (.int p2), .val (.long q3), .second, .val (.int p4), .val (.int p5), .val (.int n), .val (.int st), .unset, .unset, .unset] [])) _
    refine XS.iload X0.here hx rfl (hb hby at_12) rfl ?_
    show Steps p.tables e below (s₁.setTop (mkF m 14 #[.val (.int p1), .val (.int p2), .val (.long q3), .second, .val (.int p4), .val (.int p5), .val (.int n), .val (.int st), .unset, .unset, .unset] [(.int n)])) _
    refine st1 _ ?_
    show Steps p.tables e below (T1.setTop (mkF m 16 #[.val (.int p1), .val (.int p2), .val (.long q3), .second, .val (.int p4), .val (.int p5), .val (.int n), .val (.int st), .unset, .unset, .unset] [(.ref b1)])) _
    refine XS.astore X1.here hx rfl (hb hby at_16) rfl rfl (l' := #[.val (.int p1), .val (.int p2), .val (.long q3), .second, .val (.int p4), .val (.int p5), .val (.int n), .val (.int st), .val (.ref b1), .unset, .unset]) rfl ?_
    show Steps p.tables e below (T1.setTop (mkF m 18 #[.val (.int p1), .val (.int p2), .val (.long q3), .second, .val (.int p4), .val (.int p5), .val (.int n), .val (.int st), .val (.ref b1), .unset, .unset] [])) _
    refine XS.aload X1.here hx rfl (hb hby at_18) rfl rfl ?_
    show Steps p.tables e below (T1.setTop (mkF m 20 #[.val (.int p1), .val (.int p2), .val (.long q3), .second, .val (.int p4), .val (.int p5), .val (.int n), .val (.int st), .val (.ref b1), .unset, .unset] [(.ref b1)])) _
    refine XS.iconst X1.here hx rfl (hb hby at_20) ?_
    show Steps p.tables e below (T1.setTop (mkF m 21 #[.val (.int p1), .val (.int p2), .val (.long q3), .second, .val (.int p4), .val (.int p5), .val (.int n), .val (.int st), .val (.ref b1), .unset, .unset] [(.int (0 : Int32)), (.ref b1)])) _
    refine XS.lloadN X1.here hx rfl (hb hby at_21) rfl ?_
    show Steps p.tables e below (T1.setTop (mkF m 22 #[.val (.int p1), .val (.int p2), .val (.long q3), .second, .val (.int p4), .val (.int p5), .val (.int n), .val (.int st), .val (.ref b1), .unset, .unset] [(.long q3), (.int (0 : Int32)), (.ref b1)])) _
    refine XS.l2i X1.here hx rfl (hb hby at_22) rfl ?_
    show Steps p.tables e below (T1.setTop (mkF m 23 #[.val (.int p1), .val (.int p2), .val (.long q3), .second, .val (.int p4), .val (.int p5), .val (.int n), .val (.int st), .val (.ref b1), .unset, .unset] [(.int (q3.toInt32)), (.int (0 : Int32)), (.ref b1)])) _
    refine XS.i2b X1.here hx rfl (hb hby at_23) rfl ?_
    show Steps p.tables e below (T1.setTop (mkF m 24 #[.val (.int p1), .val (.int p2), .val (.long q3), .second, .val (.int p4), .val (.int p5), .val (.int n), .val (.int st), .val (.ref b1), .unset, .unset] [(.int ((q3.toInt32).toInt8.toInt32)), (.int (0 : Int32)), (.ref b1)])) _
    refine st2 _ ?_
    show Steps p.tables e below (T2.setTop (mkF m 27 #[.val (.int p1), .val (.int p2), .val (.long q3), .second, .val (.int p4), .val (.int p5), .val (.int n), .val (.int st), .val (.ref b1), .unset, .unset] [])) _
    refine XS.aload X2.here hx rfl (hb hby at_27) rfl rfl ?_
    show Steps p.tables e below (T2.setTop (mkF m 29 #[.val (.int p1), .val (.int p2), .val (.long q3), .second, .val (.int p4), .val (.int p5), .val (.int n), .val (.int st), .val (.ref b1), .unset, .unset] [(.ref b1)])) _
    refine XS.iconst X2.here hx rfl (hb hby at_29) ?_
    show Steps p.tables e below (T2.setTop (mkF m 30 #[.val (.int p1), .val (.int p2), .val (.long q3), .second, .val (.int p4), .val (.int p5), .val (.int n), .val (.int st), .val (.ref b1), .unset, .unset] [(.int (1 : Int32)), (.ref b1)])) _
    refine XS.lloadN X2.here hx rfl (hb hby at_30) rfl ?_
    show Steps p.tables e below (T2.setTop (mkF m 31 #[.val (.int p1), .val (.int p2), .val (.long q3), .second, .val (.int p4), .val (.int p5), .val (.int n), .val (.int st), .val (.ref b1), .unset, .unset] [(.long q3), (.int (1 : Int32)), (.ref b1)])) _
    refine XS.bipush X2.here hx rfl (hb hby at_31) ?_
    show Steps p.tables e below (T2.setTop (mkF m 33 #[.val (.int p1), .val (.int p2), .val (.long q3), .second, .val (.int p4), .val (.int p5), .val (.int n), .val (.int st), .val (.ref b1), .unset, .unset] [(.int (8 : Int32)), (.long q3), (.int (1 : Int32)), (.ref b1)])) _
    refine XS.lushr X2.here hx rfl (hb hby at_33) rfl ?_
    show Steps p.tables e below (T2.setTop (mkF m 34 #[.val (.int p1), .val (.int p2), .val (.long q3), .second, .val (.int p4), .val (.int p5), .val (.int n), .val (.int st), .val (.ref b1), .unset, .unset] [(.long ((q3.toUInt64 >>> ((8 : Int32) &&& 0x3f).toInt64.toUInt64).toInt64)), (.int (1 : Int32)), (.ref b1)])) _
    refine XS.l2i X2.here hx rfl (hb hby at_34) rfl ?_
    show Steps p.tables e below (T2.setTop (mkF m 35 #[.val (.int p1), .val (.int p2), .val (.long q3), .second, .val (.int p4), .val (.int p5), .val (.int n), .val (.int st), .val (.ref b1), .unset, .unset] [(.int (((q3.toUInt64 >>> ((8 : Int32) &&& 0x3f).toInt64.toUInt64).toInt64).toInt32)), (.int (1 : Int32)), (.ref b1)])) _
    refine XS.i2b X2.here hx rfl (hb hby at_35) rfl ?_
    show Steps p.tables e below (T2.setTop (mkF m 36 #[.val (.int p1), .val (.int p2), .val (.long q3), .second, .val (.int p4), .val (.int p5), .val (.int n), .val (.int st), .val (.ref b1), .unset, .unset] [(.int ((((q3.toUInt64 >>> ((8 : Int32) &&& 0x3f).toInt64.toUInt64).toInt64).toInt32).toInt8.toInt32)), (.int (1 : Int32)), (.ref b1)])) _
    refine st3 _ ?_
    show Steps p.tables e below (T3.setTop (mkF m 39 #[.val (.int p1), .val (.int p2), .val (.long q3), .second, .val (.int p4), .val (.int p5), .val (.int n), .val (.int st), .val (.ref b1), .unset, .unset] [])) _
    refine XS.aload X3.here hx rfl (hb hby at_39) rfl rfl ?_
    show Steps p.tables e below (T3.setTop (mkF m 41 #[.val (.int p1), .val (.int p2), .val (.long q3), .second, .val (.int p4), .val (.int p5), .val (.int n), .val (.int st), .val (.ref b1), .unset, .unset] [(.ref b1)])) _
    refine XS.iconst X3.here hx rfl (hb hby at_41) ?_
    show Steps p.tables e below (T3.setTop (mkF m 42 #[.val (.int p1), .val (.int p2), .val (.long q3), .second, .val (.int p4), .val (.int p5), .val (.int n), .val (.int st), .val (.ref b1), .unset, .unset] [(.int (2 : Int32)), (.ref b1)])) _
    refine XS.lloadN X3.here hx rfl (hb hby at_42) rfl ?_
    show Steps p.tables e below (T3.setTop (mkF m 43 #[.val (.int p1), .val (.int p2), .val (.long q3), .second, .val (.int p4), .val (.int p5), .val (.int n), .val (.int st), .val (.ref b1), .unset, .unset] [(.long q3), (.int (2 : Int32)), (.ref b1)])) _
    refine XS.bipush X3.here hx rfl (hb hby at_43) ?_
    show Steps p.tables e below (T3.setTop (mkF m 45 #[.val (.int p1), .val (.int p2), .val (.long q3), .second, .val (.int p4), .val (.int p5), .val (.int n), .val (.int st), .val (.ref b1), .unset, .unset] [(.int (16 : Int32)), (.long q3), (.int (2 : Int32)), (.ref b1)])) _
    refine XS.lushr X3.here hx rfl (hb hby at_45) rfl ?_
    show Steps p.tables e below (T3.setTop (mkF m 46 #[.val (.int p1), .val (.int p2), .val (.long q3), .second, .val (.int p4), .val (.int p5), .val (.int n), .val (.int st), .val (.ref b1), .unset, .unset] [(.long ((q3.toUInt64 >>> ((16 : Int32) &&& 0x3f).toInt64.toUInt64).toInt64)), (.int (2 : Int32)), (.ref b1)])) _
    refine XS.l2i X3.here hx rfl (hb hby at_46) rfl ?_
    show Steps p.tables e below (T3.setTop (mkF m 47 #[.val (.int p1), .val (.int p2), .val (.long q3), .second, .val (.int p4), .val (.int p5), .val (.int n), .val (.int st), .val (.ref b1), .unset, .unset] [(.int (((q3.toUInt64 >>> ((16 : Int32) &&& 0x3f).toInt64.toUInt64).toInt64).toInt32)), (.int (2 : Int32)), (.ref b1)])) _
    refine XS.i2b X3.here hx rfl (hb hby at_47) rfl ?_
    show Steps p.tables e below (T3.setTop (mkF m 48 #[.val (.int p1), .val (.int p2), .val (.long q3), .second, .val (.int p4), .val (.int p5), .val (.int n), .val (.int st), .val (.ref b1), .unset, .unset] [(.int ((((q3.toUInt64 >>> ((16 : Int32) &&& 0x3f).toInt64.toUInt64).toInt64).toInt32).toInt8.toInt32)), (.int (2 : Int32)), (.ref b1)])) _
    refine st4 _ ?_
    show Steps p.tables e below (T4.setTop (mkF m 51 #[.val (.int p1), .val (.int p2), .val (.long q3), .second, .val (.int p4), .val (.int p5), .val (.int n), .val (.int st), .val (.ref b1), .unset, .unset] [])) _
    refine XS.aload X4.here hx rfl (hb hby at_51) rfl rfl ?_
    show Steps p.tables e below (T4.setTop (mkF m 53 #[.val (.int p1), .val (.int p2), .val (.long q3), .second, .val (.int p4), .val (.int p5), .val (.int n), .val (.int st), .val (.ref b1), .unset, .unset] [(.ref b1)])) _
    refine XS.iconst X4.here hx rfl (hb hby at_53) ?_
    show Steps p.tables e below (T4.setTop (mkF m 54 #[.val (.int p1), .val (.int p2), .val (.long q3), .second, .val (.int p4), .val (.int p5), .val (.int n), .val (.int st), .val (.ref b1), .unset, .unset] [(.int (3 : Int32)), (.ref b1)])) _
    refine XS.lloadN X4.here hx rfl (hb hby at_54) rfl ?_
    show Steps p.tables e below (T4.setTop (mkF m 55 #[.val (.int p1), .val (.int p2), .val (.long q3), .second, .val (.int p4), .val (.int p5), .val (.int n), .val (.int st), .val (.ref b1), .unset, .unset] [(.long q3), (.int (3 : Int32)), (.ref b1)])) _
    refine XS.bipush X4.here hx rfl (hb hby at_55) ?_
    show Steps p.tables e below (T4.setTop (mkF m 57 #[.val (.int p1), .val (.int p2), .val (.long q3), .second, .val (.int p4), .val (.int p5), .val (.int n), .val (.int st), .val (.ref b1), .unset, .unset] [(.int (24 : Int32)), (.long q3), (.int (3 : Int32)), (.ref b1)])) _
    refine XS.lushr X4.here hx rfl (hb hby at_57) rfl ?_
    show Steps p.tables e below (T4.setTop (mkF m 58 #[.val (.int p1), .val (.int p2), .val (.long q3), .second, .val (.int p4), .val (.int p5), .val (.int n), .val (.int st), .val (.ref b1), .unset, .unset] [(.long ((q3.toUInt64 >>> ((24 : Int32) &&& 0x3f).toInt64.toUInt64).toInt64)), (.int (3 : Int32)), (.ref b1)])) _
    refine XS.l2i X4.here hx rfl (hb hby at_58) rfl ?_
    show Steps p.tables e below (T4.setTop (mkF m 59 #[.val (.int p1), .val (.int p2), .val (.long q3), .second, .val (.int p4), .val (.int p5), .val (.int n), .val (.int st), .val (.ref b1), .unset, .unset] [(.int (((q3.toUInt64 >>> ((24 : Int32) &&& 0x3f).toInt64.toUInt64).toInt64).toInt32)), (.int (3 : Int32)), (.ref b1)])) _
    refine XS.i2b X4.here hx rfl (hb hby at_59) rfl ?_
    show Steps p.tables e below (T4.setTop (mkF m 60 #[.val (.int p1), .val (.int p2), .val (.long q3), .second, .val (.int p4), .val (.int p5), .val (.int n), .val (.int st), .val (.ref b1), .unset, .unset] [(.int ((((q3.toUInt64 >>> ((24 : Int32) &&& 0x3f).toInt64.toUInt64).toInt64).toInt32).toInt8.toInt32)), (.int (3 : Int32)), (.ref b1)])) _
    refine st5 _ ?_
    show Steps p.tables e below (T5.setTop (mkF m 63 #[.val (.int p1), .val (.int p2), .val (.long q3), .second, .val (.int p4), .val (.int p5), .val (.int n), .val (.int st), .val (.ref b1), .unset, .unset] [])) _
    refine XS.aload X5.here hx rfl (hb hby at_63) rfl rfl ?_
    show Steps p.tables e below (T5.setTop (mkF m 65 #[.val (.int p1), .val (.int p2), .val (.long q3), .second, .val (.int p4), .val (.int p5), .val (.int n), .val (.int st), .val (.ref b1), .unset, .unset] [(.ref b1)])) _
    refine XS.iconst X5.here hx rfl (hb hby at_65) ?_
    show Steps p.tables e below (T5.setTop (mkF m 66 #[.val (.int p1), .val (.int p2), .val (.long q3), .second, .val (.int p4), .val (.int p5), .val (.int n), .val (.int st), .val (.ref b1), .unset, .unset] [(.int (4 : Int32)), (.ref b1)])) _
    refine XS.lloadN X5.here hx rfl (hb hby at_66) rfl ?_
    show Steps p.tables e below (T5.setTop (mkF m 67 #[.val (.int p1), .val (.int p2), .val (.long q3), .second, .val (.int p4), .val (.int p5), .val (.int n), .val (.int st), .val (.ref b1), .unset, .unset] [(.long q3), (.int (4 : Int32)), (.ref b1)])) _
    refine XS.bipush X5.here hx rfl (hb hby at_67) ?_
    show Steps p.tables e below (T5.setTop (mkF m 69 #[.val (.int p1), .val (.int p2), .val (.long q3), .second, .val (.int p4), .val (.int p5), .val (.int n), .val (.int st), .val (.ref b1), .unset, .unset] [(.int (32 : Int32)), (.long q3), (.int (4 : Int32)), (.ref b1)])) _
    refine XS.lushr X5.here hx rfl (hb hby at_69) rfl ?_
    show Steps p.tables e below (T5.setTop (mkF m 70 #[.val (.int p1), .val (.int p2), .val (.long q3), .second, .val (.int p4), .val (.int p5), .val (.int n), .val (.int st), .val (.ref b1), .unset, .unset] [(.long ((q3.toUInt64 >>> ((32 : Int32) &&& 0x3f).toInt64.toUInt64).toInt64)), (.int (4 : Int32)), (.ref b1)])) _
    refine XS.l2i X5.here hx rfl (hb hby at_70) rfl ?_
    show Steps p.tables e below (T5.setTop (mkF m 71 #[.val (.int p1), .val (.int p2), .val (.long q3), .second, .val (.int p4), .val (.int p5), .val (.int n), .val (.int st), .val (.ref b1), .unset, .unset] [(.int (((q3.toUInt64 >>> ((32 : Int32) &&& 0x3f).toInt64.toUInt64).toInt64).toInt32)), (.int (4 : Int32)), (.ref b1)])) _
    refine XS.i2b X5.here hx rfl (hb hby at_71) rfl ?_
    show Steps p.tables e below (T5.setTop (mkF m 72 #[.val (.int p1), .val (.int p2), .val (.long q3), .second, .val (.int p4), .val (.int p5), .val (.int n), .val (.int st), .val (.ref b1), .unset, .unset] [(.int ((((q3.toUInt64 >>> ((32 : Int32) &&& 0x3f).toInt64.toUInt64).toInt64).toInt32).toInt8.toInt32)), (.int (4 : Int32)), (.ref b1)])) _
    refine st6 _ ?_
    show Steps p.tables e below (T6.setTop (mkF m 75 #[.val (.int p1), .val (.int p2), .val (.long q3), .second, .val (.int p4), .val (.int p5), .val (.int n), .val (.int st), .val (.ref b1), .unset, .unset] [])) _
    refine XS.aload X6.here hx rfl (hb hby at_75) rfl rfl ?_
    show Steps p.tables e below (T6.setTop (mkF m 77 #[.val (.int p1), .val (.int p2), .val (.long q3), .second, .val (.int p4), .val (.int p5), .val (.int n), .val (.int st), .val (.ref b1), .unset, .unset] [(.ref b1)])) _
    refine XS.iconst X6.here hx rfl (hb hby at_77) ?_
    show Steps p.tables e below (T6.setTop (mkF m 78 #[.val (.int p1), .val (.int p2), .val (.long q3), .second, .val (.int p4), .val (.int p5), .val (.int n), .val (.int st), .val (.ref b1), .unset, .unset] [(.int (5 : Int32)), (.ref b1)])) _
    refine XS.lloadN X6.here hx rfl (hb hby at_78) rfl ?_
    show Steps p.tables e below (T6.setTop (mkF m 79 #[.val (.int p1), .val (.int p2), .val (.long q3), .second, .val (.int p4), .val (.int p5), .val (.int n), .val (.int st), .val (.ref b1), .unset, .unset] [(.long q3), (.int (5 : Int32)), (.ref b1)])) _
    refine XS.bipush X6.here hx rfl (hb hby at_79) ?_
    show Steps p.tables e below (T6.setTop (mkF m 81 #[.val (.int p1), .val (.int p2), .val (.long q3), .second, .val (.int p4), .val (.int p5), .val (.int n), .val (.int st), .val (.ref b1), .unset, .unset] [(.int (40 : Int32)), (.long q3), (.int (5 : Int32)), (.ref b1)])) _
    refine XS.lushr X6.here hx rfl (hb hby at_81) rfl ?_
    show Steps p.tables e below (T6.setTop (mkF m 82 #[.val (.int p1), .val (.int p2), .val (.long q3), .second, .val (.int p4), .val (.int p5), .val (.int n), .val (.int st), .val (.ref b1), .unset, .unset] [(.long ((q3.toUInt64 >>> ((40 : Int32) &&& 0x3f).toInt64.toUInt64).toInt64)), (.int (5 : Int32)), (.ref b1)])) _
    refine XS.l2i X6.here hx rfl (hb hby at_82) rfl ?_
    show Steps p.tables e below (T6.setTop (mkF m 83 #[.val (.int p1), .val (.int p2), .val (.long q3), .second, .val (.int p4), .val (.int p5), .val (.int n), .val (.int st), .val (.ref b1), .unset, .unset] [(.int (((q3.toUInt64 >>> ((40 : Int32) &&& 0x3f).toInt64.toUInt64).toInt64).toInt32)), (.int (5 : Int32)), (.ref b1)])) _
    refine XS.i2b X6.here hx rfl (hb hby at_83) rfl ?_
    show Steps p.tables e below (T6.setTop (mkF m 84 #[.val (.int p1), .val (.int p2), .val (.long q3), .second, .val (.int p4), .val (.int p5), .val (.int n), .val (.int st), .val (.ref b1), .unset, .unset] [(.int ((((q3.toUInt64 >>> ((40 : Int32) &&& 0x3f).toInt64.toUInt64).toInt64).toInt32).toInt8.toInt32)), (.int (5 : Int32)), (.ref b1)])) _
    refine st7 _ ?_
    show Steps p.tables e below (T7.setTop (mkF m 87 #[.val (.int p1), .val (.int p2), .val (.long q3), .second, .val (.int p4), .val (.int p5), .val (.int n), .val (.int st), .val (.ref b1), .unset, .unset] [])) _
    refine XS.aload X7.here hx rfl (hb hby at_87) rfl rfl ?_
    show Steps p.tables e below (T7.setTop (mkF m 89 #[.val (.int p1), .val (.int p2), .val (.long q3), .second, .val (.int p4), .val (.int p5), .val (.int n), .val (.int st), .val (.ref b1), .unset, .unset] [(.ref b1)])) _
    refine XS.bipush X7.here hx rfl (hb hby at_89) ?_
    show Steps p.tables e below (T7.setTop (mkF m 91 #[.val (.int p1), .val (.int p2), .val (.long q3), .second, .val (.int p4), .val (.int p5), .val (.int n), .val (.int st), .val (.ref b1), .unset, .unset] [(.int (6 : Int32)), (.ref b1)])) _
    refine XS.lloadN X7.here hx rfl (hb hby at_91) rfl ?_
    show Steps p.tables e below (T7.setTop (mkF m 92 #[.val (.int p1), .val (.int p2), .val (.long q3), .second, .val (.int p4), .val (.int p5), .val (.int n), .val (.int st), .val (.ref b1), .unset, .unset] [(.long q3), (.int (6 : Int32)), (.ref b1)])) _
    refine XS.bipush X7.here hx rfl (hb hby at_92) ?_
    show Steps p.tables e below (T7.setTop (mkF m 94 #[.val (.int p1), .val (.int p2), .val (.long q3), .second, .val (.int p4), .val (.int p5), .val (.int n), .val (.int st), .val (.ref b1), .unset, .unset] [(.int (48 : Int32)), (.long q3), (.int (6 : Int32)), (.ref b1)])) _
    refine XS.lushr X7.here hx rfl (hb hby at_94) rfl ?_
    show Steps p.tables e below (T7.setTop (mkF m 95 #[.val (.int p1), .val (.int p2), .val (.long q3), .second, .val (.int p4), .val (.int p5), .val (.int n), .val (.int st), .val (.ref b1), .unset, .unset] [(.long ((q3.toUInt64 >>> ((48 : Int32) &&& 0x3f).toInt64.toUInt64).toInt64)), (.int (6 : Int32)), (.ref b1)])) _
    refine XS.l2i X7.here hx rfl (hb hby at_95) rfl ?_
    show Steps p.tables e below (T7.setTop (mkF m 96 #[.val (.int p1), .val (.int p2), .val (.long q3), .second, .val (.int p4), .val (.int p5), .val (.int n), .val (.int st), .val (.ref b1), .unset, .unset] [(.int (((q3.toUInt64 >>> ((48 : Int32) &&& 0x3f).toInt64.toUInt64).toInt64).toInt32)), (.int (6 : Int32)), (.ref b1)])) _
    refine XS.i2b X7.here hx rfl (hb hby at_96) rfl ?_
    show Steps p.tables e below (T7.setTop (mkF m 97 #[.val (.int p1), .val (.int p2), .val (.long q3), .second, .val (.int p4), .val (.int p5), .val (.int n), .val (.int st), .val (.ref b1), .unset, .unset] [(.int ((((q3.toUInt64 >>> ((48 : Int32) &&& 0x3f).toInt64.toUInt64).toInt64).toInt32).toInt8.toInt32)), (.int (6 : Int32)), (.ref b1)])) _
    refine st8 _ ?_
    show Steps p.tables e below (T8.setTop (mkF m 100 #[.val (.int p1), .val (.int p2), .val (.long q3), .second, .val (.int p4), .val (.int p5), .val (.int n), .val (.int st), .val (.ref b1), .unset, .unset] [])) _
    refine XS.iload X8.here hx rfl (hb hby at_100) rfl ?_
    show Steps p.tables e below (T8.setTop (mkF m 102 #[.val (.int p1), .val (.int p2), .val (.long q3), .second, .val (.int p4), .val (.int p5), .val (.int n), .val (.int st), .val (.ref b1), .unset, .unset] [(.int p4)])) _
    refine XS.iconst X8.here hx rfl (hb hby at_102) ?_
    show Steps p.tables e below (T8.setTop (mkF m 103 #[.val (.int p1), .val (.int p2), .val (.long q3), .second, .val (.int p4), .val (.int p5), .val (.int n), .val (.int st), .val (.ref b1), .unset, .unset] [(.int (1 : Int32)), (.int p4)])) _
    refine XS.iand X8.here hx rfl (hb hby at_103) rfl ?_
    exact k)
  by_cases hc104_9 : (p4 &&& (1 : Int32)) = (0 : Int32)
  · have pre12 : ∀ t, Steps p.tables e below (T8.setTop (mkF m 149 #[.val (.int p1), .val (.int p2), .val (.long q3), .second, .val (.int p4), .val (.int p5), .val (.int n), .val (.int st), .val (.ref b1), .val (.int wh), .unset] [(.int (3 : Int32)), (.int wh)])) t → Steps p.tables e below (s₁.setTop (entryFrame m #[(.int p1), (.int p2), (.long q3), (.int p4), (.int p5)] maxLocals)) t := fun t k => pre10 t (by
      show Steps p.tables e below (T8.setTop (mkF m 104 #[.val (.int p1), .val (.int p2), .val (.long q3), .second, .val (.int p4), .val (.int p5), .val (.int n), .val (.int st), .val (.ref b1), .unset, .unset] [(.int (p4 &&& (1 : Int32)))])) _
      refine XS.ifYes X8.here hx rfl (pc0 := 104) (pc' := 138) rfl (hb hby at_104) rfl ((if0 _ _).trans (teq hc104_9).1) (by decide) (by decide) ?_
      show Steps p.tables e below (T8.setTop (mkF m 138 #[.val (.int p1), .val (.int p2), .val (.long q3), .second, .val (.int p4), .val (.int p5), .val (.int n), .val (.int st), .val (.ref b1), .unset, .unset] [])) _
      refine XS.iload X8.here hx rfl (hb hby at_138) rfl ?_
      show Steps p.tables e below (T8.setTop (mkF m 140 #[.val (.int p1), .val (.int p2), .val (.long q3), .second, .val (.int p4), .val (.int p5), .val (.int n), .val (.int st), .val (.ref b1), .unset, .unset] [(.int p4)])) _
      refine XS.iconst X8.here hx rfl (hb hby at_140) ?_
      show Steps p.tables e below (T8.setTop (mkF m 141 #[.val (.int p1), .val (.int p2), .val (.long q3), .second, .val (.int p4), .val (.int p5), .val (.int n), .val (.int st), .val (.ref b1), .unset, .unset] [(.int (1 : Int32)), (.int p4)])) _
      refine XS.iushr X8.here hx rfl (hb hby at_141) rfl ?_
      show Steps p.tables e below (T8.setTop (mkF m 142 #[.val (.int p1), .val (.int p2), .val (.long q3), .second, .val (.int p4), .val (.int p5), .val (.int n), .val (.int st), .val (.ref b1), .unset, .unset] [(.int ((p4.toUInt32 >>> ((1 : Int32) &&& 31).toUInt32).toInt32))])) _
      refine XS.iconst X8.here hx rfl (hb hby at_142) ?_
      show Steps p.tables e below (T8.setTop (mkF m 143 #[.val (.int p1), .val (.int p2), .val (.long q3), .second, .val (.int p4), .val (.int p5), .val (.int n), .val (.int st), .val (.ref b1), .unset, .unset] [(.int (3 : Int32)), (.int ((p4.toUInt32 >>> ((1 : Int32) &&& 31).toUInt32).toInt32))])) _
      refine XS.iand X8.here hx rfl (hb hby at_143) rfl ?_
      show Steps p.tables e below (T8.setTop (mkF m 144 #[.val (.int p1), .val (.int p2), .val (.long q3), .second, .val (.int p4), .val (.int p5), .val (.int n), .val (.int st), .val (.ref b1), .unset, .unset] [(.int (((p4.toUInt32 >>> ((1 : Int32) &&& 31).toUInt32).toInt32) &&& (3 : Int32)))])) _
      rw [hwh]
      show Steps p.tables e below (T8.setTop (mkF m 144 #[.val (.int p1), .val (.int p2), .val (.long q3), .second, .val (.int p4), .val (.int p5), .val (.int n), .val (.int st), .val (.ref b1), .unset, .unset] [(.int wh)])) _
      refine XS.istore X8.here hx rfl (hb hby at_144) rfl (l' := #[.val (.int p1), .val (.int p2), .val (.long q3), .second, .val (.int p4), .val (.int p5), .val (.int n), .val (.int st), .val (.ref b1), .val (.int wh), .unset]) rfl ?_
      show Steps p.tables e below (T8.setTop (mkF m 146 #[.val (.int p1), .val (.int p2), .val (.long q3), .second, .val (.int p4), .val (.int p5), .val (.int n), .val (.int st), .val (.ref b1), .val (.int wh), .unset] [])) _
      refine XS.iload X8.here hx rfl (hb hby at_146) rfl ?_
      show Steps p.tables e below (T8.setTop (mkF m 148 #[.val (.int p1), .val (.int p2), .val (.long q3), .second, .val (.int p4), .val (.int p5), .val (.int n), .val (.int st), .val (.ref b1), .val (.int wh), .unset] [(.int wh)])) _
      refine XS.iconst X8.here hx rfl (hb hby at_148) ?_
      exact k)
    by_cases hc149_11 : wh < (3 : Int32)
    · obtain ⟨v13, _, ⟨T13, L13, k13, n13⟩, -, X13, ⟨Lc13, hQ13, l13, y13, z13⟩, st13⟩ := Jvm.LawKit.callS X8 hx (y := (⟨"com/example/falkirk/falkirk/loader/Utf8StartsWithByteOrderMarkPinLaw", "set", "([BIB)V"⟩ : MethodName)) hown (mvT hZ (hw _ (ow 1 rfl))) (mvT hZ (hw _ (ow 2 rfl))) (mvT hZ (hw _ (ow 3 rfl))) (mvT hZ (hw _ (ow 4 rfl))) (by decide) (backOf (W := 0) (rm_set l Z a0 hw [] b1 (st + wh) (p5.toInt8.toInt32) T8.heap n0 n Tq8 hst3 g_b1) hZ (hw _ (ow 4 rfl)) (hw _ (ow 3 rfl)) (by decide) (by decide)) (g := (mkF m 162 #[.val (.int p1), .val (.int p2), .val (.long q3), .second, .val (.int p4), .val (.int p5), .val (.int n), .val (.int st), .val (.ref b1), .val (.int wh), .unset] [(.int (p5.toInt8.toInt32)), (.int (st + wh)), (.ref b1)])) rfl (by rw [hml]; rfl) (argsL := [(.ref b1), (.int (st + wh)), (.int (p5.toInt8.toInt32))]) (rest := []) (lenOf pd_0 rfl) rfl (Nat.le_of_eq rfl) (hb hby at_162) (fun _ _ => ⟨rfl, (rfl : T8.heap = T8.heap), (by decide : 1 + 0 ≤ _), (by decide : 7 + 0 ≤ _)⟩)
      dsimp only [Pt.U, Pt.locs, Pt.cells, Pt.slots] at X13 l13 y13 z13 st13 hQ13
      subst l13 y13 z13
      obtain ⟨hv13, Nq13, Kq13, Tq13⟩ := hQ13
      obtain rfl : v13 = none := hv13
      have N13 := Fr.app N8 Nq13
      have EX13 : Ext h0 T13.heap := own_ext_keep EX8 Kq13 sz_b1
      have pre15 : ∀ t, Steps p.tables e below (T13.setTop (mkF m 171 #[.val (.int p1), .val (.int p2), .val (.long q3), .second, .val (.int p4), .val (.int p5), .val (.int n), .val (.int st), .val (.ref b1), .val (.int wh), .unset] [(.int n), (.int (st + (3 : Int32)))])) t → Steps p.tables e below (s₁.setTop (entryFrame m #[(.int p1), (.int p2), (.long q3), (.int p4), (.int p5)] maxLocals)) t := fun t k => pre12 t (by
        show Steps p.tables e below (T8.setTop (mkF m 149 #[.val (.int p1), .val (.int p2), .val (.long q3), .second, .val (.int p4), .val (.int p5), .val (.int n), .val (.int st), .val (.ref b1), .val (.int wh), .unset] [(.int (3 : Int32)), (.int wh)])) _
        refine XS.icmpNo X8.here hx rfl (hb hby at_149) rfl (tlt hc149_11).2.1 ?_
        show Steps p.tables e below (T8.setTop (mkF m 152 #[.val (.int p1), .val (.int p2), .val (.long q3), .second, .val (.int p4), .val (.int p5), .val (.int n), .val (.int st), .val (.ref b1), .val (.int wh), .unset] [])) _
        refine XS.aload X8.here hx rfl (hb hby at_152) rfl rfl ?_
        show Steps p.tables e below (T8.setTop (mkF m 154 #[.val (.int p1), .val (.int p2), .val (.long q3), .second, .val (.int p4), .val (.int p5), .val (.int n), .val (.int st), .val (.ref b1), .val (.int wh), .unset] [(.ref b1)])) _
        refine XS.iload X8.here hx rfl (hb hby at_154) rfl ?_
        show Steps p.tables e below (T8.setTop (mkF m 156 #[.val (.int p1), .val (.int p2), .val (.long q3), .second, .val (.int p4), .val (.int p5), .val (.int n), .val (.int st), .val (.ref b1), .val (.int wh), .unset] [(.int st), (.ref b1)])) _
        refine XS.iload X8.here hx rfl (hb hby at_156) rfl ?_
        show Steps p.tables e below (T8.setTop (mkF m 158 #[.val (.int p1), .val (.int p2), .val (.long q3), .second, .val (.int p4), .val (.int p5), .val (.int n), .val (.int st), .val (.ref b1), .val (.int wh), .unset] [(.int wh), (.int st), (.ref b1)])) _
        refine XS.iadd X8.here hx rfl (hb hby at_158) rfl ?_
        show Steps p.tables e below (T8.setTop (mkF m 159 #[.val (.int p1), .val (.int p2), .val (.long q3), .second, .val (.int p4), .val (.int p5), .val (.int n), .val (.int st), .val (.ref b1), .val (.int wh), .unset] [(.int (st + wh)), (.ref b1)])) _
        refine XS.iload X8.here hx rfl (hb hby at_159) rfl ?_
        show Steps p.tables e below (T8.setTop (mkF m 161 #[.val (.int p1), .val (.int p2), .val (.long q3), .second, .val (.int p4), .val (.int p5), .val (.int n), .val (.int st), .val (.ref b1), .val (.int wh), .unset] [(.int p5), (.int (st + wh)), (.ref b1)])) _
        refine XS.i2b X8.here hx rfl (hb hby at_161) rfl ?_
        show Steps p.tables e below (T8.setTop (mkF m 162 #[.val (.int p1), .val (.int p2), .val (.long q3), .second, .val (.int p4), .val (.int p5), .val (.int n), .val (.int st), .val (.ref b1), .val (.int wh), .unset] [(.int (p5.toInt8.toInt32)), (.int (st + wh)), (.ref b1)])) _
        refine st13 _ ?_
        show Steps p.tables e below (T13.setTop (mkF m 165 #[.val (.int p1), .val (.int p2), .val (.long q3), .second, .val (.int p4), .val (.int p5), .val (.int n), .val (.int st), .val (.ref b1), .val (.int wh), .unset] [])) _
        refine XS.iload X13.here hx rfl (hb hby at_165) rfl ?_
        show Steps p.tables e below (T13.setTop (mkF m 167 #[.val (.int p1), .val (.int p2), .val (.long q3), .second, .val (.int p4), .val (.int p5), .val (.int n), .val (.int st), .val (.ref b1), .val (.int wh), .unset] [(.int st)])) _
        refine XS.iconst X13.here hx rfl (hb hby at_167) ?_
        show Steps p.tables e below (T13.setTop (mkF m 168 #[.val (.int p1), .val (.int p2), .val (.long q3), .second, .val (.int p4), .val (.int p5), .val (.int n), .val (.int st), .val (.ref b1), .val (.int wh), .unset] [(.int (3 : Int32)), (.int st)])) _
        refine XS.iadd X13.here hx rfl (hb hby at_168) rfl ?_
        show Steps p.tables e below (T13.setTop (mkF m 169 #[.val (.int p1), .val (.int p2), .val (.long q3), .second, .val (.int p4), .val (.int p5), .val (.int n), .val (.int st), .val (.ref b1), .val (.int wh), .unset] [(.int (st + (3 : Int32)))])) _
        refine XS.iload X13.here hx rfl (hb hby at_169) rfl ?_
        exact k)
      by_cases hc171_14 : n < (st + (3 : Int32))
      · obtain ⟨cT, hTT⟩ := Tq13
        obtain ⟨v16, _, ⟨T16, L16, k16, n16⟩, -, X16, ⟨Lc16, hQ16, l16, y16, z16⟩, st16⟩ := Jvm.LawKit.callS X13 hx (y := (⟨"com/example/falkirk/falkirk/loader/Utf8", "startsWithByteOrderMark", "([BI)Z"⟩ : MethodName)) hown (mvT hZ (hw _ (ow 5 rfl))) (mvT hZ (hw _ (ow 6 rfl))) (mvT hZ (hw _ (ow 7 rfl))) (mvT hZ (hw _ (ow 8 rfl))) (by decide) (backOf (W := 0) (rm_sw l Z a0 hw [] b1 st T13.heap n0 w_BYTE_ORDER_MARK (own_K_ext EX13 hK) cT n hTT hc0 hc1 hc2) hZ (hw _ (ow 8 rfl)) (hw _ (ow 7 rfl)) (by decide) (by decide)) (g := (mkF m 234 #[.val (.int p1), .val (.int p2), .val (.long q3), .second, .val (.int p4), .val (.int p5), .val (.int n), .val (.int st), .val (.ref b1), .val (.int wh), .val (.int (0 : Int32))] [(.int st), (.ref b1)])) rfl (by rw [hml]; rfl) (argsL := [(.ref b1), (.int st)]) (rest := []) (lenOf pd_1 rfl) rfl (Nat.le_of_eq rfl) (hb hby at_234) (fun _ _ => ⟨rfl, (rfl : T13.heap = T13.heap), (by decide : 1 + 0 ≤ _), (by decide : 7 + 0 ≤ _)⟩)
        dsimp only [Pt.U, Pt.locs, Pt.cells, Pt.slots] at X16 l16 y16 z16 st16 hQ16
        subst l16 y16 z16
        obtain ⟨hv16, Nq16, e16⟩ := hQ16
        obtain rfl : v16 = some (.int (0 : Int32)) := hv16.trans (congrArg some (congrArg Value.int (if_pos (hlen.mpr hc171_14))))
        have N16 := Fr.app N13 Nq16
        have pre17 : ∀ t, Steps p.tables e below (T16.setTop (mkF m 247 #[.val (.int p1), .val (.int p2), .val (.long q3), .second, .val (.int p4), .val (.int p5), .val (.int n), .val (.int st), .val (.ref b1), .val (.int wh), .val (.int (0 : Int32))] [(.int (1 : Int32))])) t → Steps p.tables e below (s₁.setTop (entryFrame m #[(.int p1), (.int p2), (.long q3), (.int p4), (.int p5)] maxLocals)) t := fun t k => pre15 t (by
          show Steps p.tables e below (T13.setTop (mkF m 171 #[.val (.int p1), .val (.int p2), .val (.long q3), .second, .val (.int p4), .val (.int p5), .val (.int n), .val (.int st), .val (.ref b1), .val (.int wh), .unset] [(.int n), (.int (st + (3 : Int32)))])) _
          refine XS.icmpYes X13.here hx rfl (pc0 := 171) (pc' := 227) rfl (hb hby at_171) rfl (tlt hc171_14).2.2.1 (by decide) (by decide) ?_
          show Steps p.tables e below (T13.setTop (mkF m 227 #[.val (.int p1), .val (.int p2), .val (.long q3), .second, .val (.int p4), .val (.int p5), .val (.int n), .val (.int st), .val (.ref b1), .val (.int wh), .unset] [])) _
          refine XS.iconst X13.here hx rfl (hb hby at_227) ?_
          show Steps p.tables e below (T13.setTop (mkF m 228 #[.val (.int p1), .val (.int p2), .val (.long q3), .second, .val (.int p4), .val (.int p5), .val (.int n), .val (.int st), .val (.ref b1), .val (.int wh), .unset] [(.int (0 : Int32))])) _
          refine XS.istore X13.here hx rfl (hb hby at_228) rfl (l' := #[.val (.int p1), .val (.int p2), .val (.long q3), .second, .val (.int p4), .val (.int p5), .val (.int n), .val (.int st), .val (.ref b1), .val (.int wh), .val (.int (0 : Int32))]) rfl ?_
          show Steps p.tables e below (T13.setTop (mkF m 230 #[.val (.int p1), .val (.int p2), .val (.long q3), .second, .val (.int p4), .val (.int p5), .val (.int n), .val (.int st), .val (.ref b1), .val (.int wh), .val (.int (0 : Int32))] [])) _
          refine XS.aload X13.here hx rfl (hb hby at_230) rfl rfl ?_
          show Steps p.tables e below (T13.setTop (mkF m 232 #[.val (.int p1), .val (.int p2), .val (.long q3), .second, .val (.int p4), .val (.int p5), .val (.int n), .val (.int st), .val (.ref b1), .val (.int wh), .val (.int (0 : Int32))] [(.ref b1)])) _
          refine XS.iload X13.here hx rfl (hb hby at_232) rfl ?_
          show Steps p.tables e below (T13.setTop (mkF m 234 #[.val (.int p1), .val (.int p2), .val (.long q3), .second, .val (.int p4), .val (.int p5), .val (.int n), .val (.int st), .val (.ref b1), .val (.int wh), .val (.int (0 : Int32))] [(.int st), (.ref b1)])) _
          refine st16 _ ?_
          show Steps p.tables e below (T16.setTop (mkF m 237 #[.val (.int p1), .val (.int p2), .val (.long q3), .second, .val (.int p4), .val (.int p5), .val (.int n), .val (.int st), .val (.ref b1), .val (.int wh), .val (.int (0 : Int32))] [(.int (0 : Int32))])) _
          refine XS.iload X16.here hx rfl (hb hby at_237) rfl ?_
          show Steps p.tables e below (T16.setTop (mkF m 239 #[.val (.int p1), .val (.int p2), .val (.long q3), .second, .val (.int p4), .val (.int p5), .val (.int n), .val (.int st), .val (.ref b1), .val (.int wh), .val (.int (0 : Int32))] [(.int (0 : Int32)), (.int (0 : Int32))])) _
          refine XS.icmpNo X16.here hx rfl (hb hby at_239) rfl (teq (by decide)).2 ?_
          show Steps p.tables e below (T16.setTop (mkF m 242 #[.val (.int p1), .val (.int p2), .val (.long q3), .second, .val (.int p4), .val (.int p5), .val (.int n), .val (.int st), .val (.ref b1), .val (.int wh), .val (.int (0 : Int32))] [])) _
          refine XS.iconst X16.here hx rfl (hb hby at_242) ?_
          show Steps p.tables e below (T16.setTop (mkF m 243 #[.val (.int p1), .val (.int p2), .val (.long q3), .second, .val (.int p4), .val (.int p5), .val (.int n), .val (.int st), .val (.ref b1), .val (.int wh), .val (.int (0 : Int32))] [(.int (1 : Int32))])) _
          refine XS.goto X16.here hx rfl (pc0 := 243) (pc' := 247) rfl (hb hby at_243) (by decide) (by decide) ?_
          exact k)
        obtain ⟨fs, hr, hrun, hended, hW, hsame⟩ := X16.leave (v := some (.int (1 : Int32))) (fun h => by rw [Bd.returns] at h; cases h)
        refine ⟨_, _, pre17 _ ?_, hrun, hended, _, _, rfl, ?_, ⟨_, rfl⟩, hW, hsame.mono (by decide) (by decide)⟩
        · show Steps p.tables e below (T16.setTop (mkF m 247 #[.val (.int p1), .val (.int p2), .val (.long q3), .second, .val (.int p4), .val (.int p5), .val (.int n), .val (.int st), .val (.ref b1), .val (.int wh), .val (.int (0 : Int32))] [(.int (1 : Int32))])) _
          exact retN X16 hx (t := .boolean) Bd.returns (by simp) (hb hby at_247) hr
        · exact ⟨rfl, N16, trivial⟩
      · obtain ⟨cT, hTT⟩ := Tq13
        have hin0_18 : ¬ (st < 0 ∨ cT.slots.size ≤ (st).toNatClampNeg) := inb_of hTT.2.1 (hb0 hc171_14)
        have pre20 : ∀ t, Steps p.tables e below (T13.setTop (mkF m 186 #[.val (.int p1), .val (.int p2), .val (.long q3), .second, .val (.int p4), .val (.int p5), .val (.int n), .val (.int st), .val (.ref b1), .val (.int wh), .unset] [(.int (239 : Int32)), (.int ((atv cT st) &&& (255 : Int32)))])) t → Steps p.tables e below (s₁.setTop (entryFrame m #[(.int p1), (.int p2), (.long q3), (.int p4), (.int p5)] maxLocals)) t := fun t k => pre15 t (by
          show Steps p.tables e below (T13.setTop (mkF m 171 #[.val (.int p1), .val (.int p2), .val (.long q3), .second, .val (.int p4), .val (.int p5), .val (.int n), .val (.int st), .val (.ref b1), .val (.int wh), .unset] [(.int n), (.int (st + (3 : Int32)))])) _
          refine XS.icmpNo X13.here hx rfl (hb hby at_171) rfl (flt hc171_14).2.2.1 ?_
          show Steps p.tables e below (T13.setTop (mkF m 174 #[.val (.int p1), .val (.int p2), .val (.long q3), .second, .val (.int p4), .val (.int p5), .val (.int n), .val (.int st), .val (.ref b1), .val (.int wh), .unset] [])) _
          refine XS.aload X13.here hx rfl (hb hby at_174) rfl rfl ?_
          show Steps p.tables e below (T13.setTop (mkF m 176 #[.val (.int p1), .val (.int p2), .val (.long q3), .second, .val (.int p4), .val (.int p5), .val (.int n), .val (.int st), .val (.ref b1), .val (.int wh), .unset] [(.ref b1)])) _
          refine XS.iload X13.here hx rfl (hb hby at_176) rfl ?_
          show Steps p.tables e below (T13.setTop (mkF m 178 #[.val (.int p1), .val (.int p2), .val (.long q3), .second, .val (.int p4), .val (.int p5), .val (.int n), .val (.int st), .val (.ref b1), .val (.int wh), .unset] [(.int st), (.ref b1)])) _
          refine X13.baloadBytes hx (j := st) (v := .int (atv cT st)) (by rw [(rfl : T13.heap = T13.heap)]; exact hTT.1.1) (State.isArrayOf_alike hZ.alike hTT.1.2.1) hTT.1.2.2 hin0_18 (hTT.2.2.2 _ hin0_18).1 (g := (mkF m 178 #[.val (.int p1), .val (.int p2), .val (.long q3), .second, .val (.int p4), .val (.int p5), .val (.int n), .val (.int st), .val (.ref b1), .val (.int wh), .unset] [(.int st), (.ref b1)])) rfl rfl (hb hby at_178) _ ?_
          show Steps p.tables e below (T13.setTop (mkF m 179 #[.val (.int p1), .val (.int p2), .val (.long q3), .second, .val (.int p4), .val (.int p5), .val (.int n), .val (.int st), .val (.ref b1), .val (.int wh), .unset] [(.int (atv cT st))])) _
          refine XS.sipush X13.here hx rfl (hb hby at_179) ?_
          show Steps p.tables e below (T13.setTop (mkF m 182 #[.val (.int p1), .val (.int p2), .val (.long q3), .second, .val (.int p4), .val (.int p5), .val (.int n), .val (.int st), .val (.ref b1), .val (.int wh), .unset] [(.int (255 : Int32)), (.int (atv cT st))])) _
          refine XS.iand X13.here hx rfl (hb hby at_182) rfl ?_
          show Steps p.tables e below (T13.setTop (mkF m 183 #[.val (.int p1), .val (.int p2), .val (.long q3), .second, .val (.int p4), .val (.int p5), .val (.int n), .val (.int st), .val (.ref b1), .val (.int wh), .unset] [(.int ((atv cT st) &&& (255 : Int32)))])) _
          refine XS.sipush X13.here hx rfl (hb hby at_183) ?_
          exact k)
        by_cases hc186_19 : ((atv cT st) &&& (255 : Int32)) = (239 : Int32)
        · have hin1_21 : ¬ ((st + (1 : Int32)) < 0 ∨ cT.slots.size ≤ ((st + (1 : Int32))).toNatClampNeg) := inb_of hTT.2.1 (hb1 hc171_14)
          have pre23 : ∀ t, Steps p.tables e below (T13.setTop (mkF m 203 #[.val (.int p1), .val (.int p2), .val (.long q3), .second, .val (.int p4), .val (.int p5), .val (.int n), .val (.int st), .val (.ref b1), .val (.int wh), .unset] [(.int (187 : Int32)), (.int ((atv cT (st + (1 : Int32))) &&& (255 : Int32)))])) t → Steps p.tables e below (s₁.setTop (entryFrame m #[(.int p1), (.int p2), (.long q3), (.int p4), (.int p5)] maxLocals)) t := fun t k => pre20 t (by
            show Steps p.tables e below (T13.setTop (mkF m 186 #[.val (.int p1), .val (.int p2), .val (.long q3), .second, .val (.int p4), .val (.int p5), .val (.int n), .val (.int st), .val (.ref b1), .val (.int wh), .unset] [(.int (239 : Int32)), (.int ((atv cT st) &&& (255 : Int32)))])) _
            refine XS.icmpNo X13.here hx rfl (hb hby at_186) rfl (teq hc186_19).2 ?_
            show Steps p.tables e below (T13.setTop (mkF m 189 #[.val (.int p1), .val (.int p2), .val (.long q3), .second, .val (.int p4), .val (.int p5), .val (.int n), .val (.int st), .val (.ref b1), .val (.int wh), .unset] [])) _
            refine XS.aload X13.here hx rfl (hb hby at_189) rfl rfl ?_
            show Steps p.tables e below (T13.setTop (mkF m 191 #[.val (.int p1), .val (.int p2), .val (.long q3), .second, .val (.int p4), .val (.int p5), .val (.int n), .val (.int st), .val (.ref b1), .val (.int wh), .unset] [(.ref b1)])) _
            refine XS.iload X13.here hx rfl (hb hby at_191) rfl ?_
            show Steps p.tables e below (T13.setTop (mkF m 193 #[.val (.int p1), .val (.int p2), .val (.long q3), .second, .val (.int p4), .val (.int p5), .val (.int n), .val (.int st), .val (.ref b1), .val (.int wh), .unset] [(.int st), (.ref b1)])) _
            refine XS.iconst X13.here hx rfl (hb hby at_193) ?_
            show Steps p.tables e below (T13.setTop (mkF m 194 #[.val (.int p1), .val (.int p2), .val (.long q3), .second, .val (.int p4), .val (.int p5), .val (.int n), .val (.int st), .val (.ref b1), .val (.int wh), .unset] [(.int (1 : Int32)), (.int st), (.ref b1)])) _
            refine XS.iadd X13.here hx rfl (hb hby at_194) rfl ?_
            show Steps p.tables e below (T13.setTop (mkF m 195 #[.val (.int p1), .val (.int p2), .val (.long q3), .second, .val (.int p4), .val (.int p5), .val (.int n), .val (.int st), .val (.ref b1), .val (.int wh), .unset] [(.int (st + (1 : Int32))), (.ref b1)])) _
            refine X13.baloadBytes hx (j := (st + (1 : Int32))) (v := .int (atv cT (st + (1 : Int32)))) (by rw [(rfl : T13.heap = T13.heap)]; exact hTT.1.1) (State.isArrayOf_alike hZ.alike hTT.1.2.1) hTT.1.2.2 hin1_21 (hTT.2.2.2 _ hin1_21).1 (g := (mkF m 195 #[.val (.int p1), .val (.int p2), .val (.long q3), .second, .val (.int p4), .val (.int p5), .val (.int n), .val (.int st), .val (.ref b1), .val (.int wh), .unset] [(.int (st + (1 : Int32))), (.ref b1)])) rfl rfl (hb hby at_195) _ ?_
            show Steps p.tables e below (T13.setTop (mkF m 196 #[.val (.int p1), .val (.int p2), .val (.long q3), .second, .val (.int p4), .val (.int p5), .val (.int n), .val (.int st), .val (.ref b1), .val (.int wh), .unset] [(.int (atv cT (st + (1 : Int32))))])) _
            refine XS.sipush X13.here hx rfl (hb hby at_196) ?_
            show Steps p.tables e below (T13.setTop (mkF m 199 #[.val (.int p1), .val (.int p2), .val (.long q3), .second, .val (.int p4), .val (.int p5), .val (.int n), .val (.int st), .val (.ref b1), .val (.int wh), .unset] [(.int (255 : Int32)), (.int (atv cT (st + (1 : Int32))))])) _
            refine XS.iand X13.here hx rfl (hb hby at_199) rfl ?_
            show Steps p.tables e below (T13.setTop (mkF m 200 #[.val (.int p1), .val (.int p2), .val (.long q3), .second, .val (.int p4), .val (.int p5), .val (.int n), .val (.int st), .val (.ref b1), .val (.int wh), .unset] [(.int ((atv cT (st + (1 : Int32))) &&& (255 : Int32)))])) _
            refine XS.sipush X13.here hx rfl (hb hby at_200) ?_
            exact k)
          by_cases hc203_22 : ((atv cT (st + (1 : Int32))) &&& (255 : Int32)) = (187 : Int32)
          · have hin2_24 : ¬ ((st + (2 : Int32)) < 0 ∨ cT.slots.size ≤ ((st + (2 : Int32))).toNatClampNeg) := inb_of hTT.2.1 (hb2 hc171_14)
            have pre26 : ∀ t, Steps p.tables e below (T13.setTop (mkF m 220 #[.val (.int p1), .val (.int p2), .val (.long q3), .second, .val (.int p4), .val (.int p5), .val (.int n), .val (.int st), .val (.ref b1), .val (.int wh), .unset] [(.int (191 : Int32)), (.int ((atv cT (st + (2 : Int32))) &&& (255 : Int32)))])) t → Steps p.tables e below (s₁.setTop (entryFrame m #[(.int p1), (.int p2), (.long q3), (.int p4), (.int p5)] maxLocals)) t := fun t k => pre23 t (by
              show Steps p.tables e below (T13.setTop (mkF m 203 #[.val (.int p1), .val (.int p2), .val (.long q3), .second, .val (.int p4), .val (.int p5), .val (.int n), .val (.int st), .val (.ref b1), .val (.int wh), .unset] [(.int (187 : Int32)), (.int ((atv cT (st + (1 : Int32))) &&& (255 : Int32)))])) _
              refine XS.icmpNo X13.here hx rfl (hb hby at_203) rfl (teq hc203_22).2 ?_
              show Steps p.tables e below (T13.setTop (mkF m 206 #[.val (.int p1), .val (.int p2), .val (.long q3), .second, .val (.int p4), .val (.int p5), .val (.int n), .val (.int st), .val (.ref b1), .val (.int wh), .unset] [])) _
              refine XS.aload X13.here hx rfl (hb hby at_206) rfl rfl ?_
              show Steps p.tables e below (T13.setTop (mkF m 208 #[.val (.int p1), .val (.int p2), .val (.long q3), .second, .val (.int p4), .val (.int p5), .val (.int n), .val (.int st), .val (.ref b1), .val (.int wh), .unset] [(.ref b1)])) _
              refine XS.iload X13.here hx rfl (hb hby at_208) rfl ?_
              show Steps p.tables e below (T13.setTop (mkF m 210 #[.val (.int p1), .val (.int p2), .val (.long q3), .second, .val (.int p4), .val (.int p5), .val (.int n), .val (.int st), .val (.ref b1), .val (.int wh), .unset] [(.int st), (.ref b1)])) _
              refine XS.iconst X13.here hx rfl (hb hby at_210) ?_
              show Steps p.tables e below (T13.setTop (mkF m 211 #[.val (.int p1), .val (.int p2), .val (.long q3), .second, .val (.int p4), .val (.int p5), .val (.int n), .val (.int st), .val (.ref b1), .val (.int wh), .unset] [(.int (2 : Int32)), (.int st), (.ref b1)])) _
              refine XS.iadd X13.here hx rfl (hb hby at_211) rfl ?_
              show Steps p.tables e below (T13.setTop (mkF m 212 #[.val (.int p1), .val (.int p2), .val (.long q3), .second, .val (.int p4), .val (.int p5), .val (.int n), .val (.int st), .val (.ref b1), .val (.int wh), .unset] [(.int (st + (2 : Int32))), (.ref b1)])) _
              refine X13.baloadBytes hx (j := (st + (2 : Int32))) (v := .int (atv cT (st + (2 : Int32)))) (by rw [(rfl : T13.heap = T13.heap)]; exact hTT.1.1) (State.isArrayOf_alike hZ.alike hTT.1.2.1) hTT.1.2.2 hin2_24 (hTT.2.2.2 _ hin2_24).1 (g := (mkF m 212 #[.val (.int p1), .val (.int p2), .val (.long q3), .second, .val (.int p4), .val (.int p5), .val (.int n), .val (.int st), .val (.ref b1), .val (.int wh), .unset] [(.int (st + (2 : Int32))), (.ref b1)])) rfl rfl (hb hby at_212) _ ?_
              show Steps p.tables e below (T13.setTop (mkF m 213 #[.val (.int p1), .val (.int p2), .val (.long q3), .second, .val (.int p4), .val (.int p5), .val (.int n), .val (.int st), .val (.ref b1), .val (.int wh), .unset] [(.int (atv cT (st + (2 : Int32))))])) _
              refine XS.sipush X13.here hx rfl (hb hby at_213) ?_
              show Steps p.tables e below (T13.setTop (mkF m 216 #[.val (.int p1), .val (.int p2), .val (.long q3), .second, .val (.int p4), .val (.int p5), .val (.int n), .val (.int st), .val (.ref b1), .val (.int wh), .unset] [(.int (255 : Int32)), (.int (atv cT (st + (2 : Int32))))])) _
              refine XS.iand X13.here hx rfl (hb hby at_216) rfl ?_
              show Steps p.tables e below (T13.setTop (mkF m 217 #[.val (.int p1), .val (.int p2), .val (.long q3), .second, .val (.int p4), .val (.int p5), .val (.int n), .val (.int st), .val (.ref b1), .val (.int wh), .unset] [(.int ((atv cT (st + (2 : Int32))) &&& (255 : Int32)))])) _
              refine XS.sipush X13.here hx rfl (hb hby at_217) ?_
              exact k)
            by_cases hc220_25 : ((atv cT (st + (2 : Int32))) &&& (255 : Int32)) = (191 : Int32)
            · obtain ⟨v27, _, ⟨T27, L27, k27, n27⟩, -, X27, ⟨Lc27, hQ27, l27, y27, z27⟩, st27⟩ := Jvm.LawKit.callS X13 hx (y := (⟨"com/example/falkirk/falkirk/loader/Utf8", "startsWithByteOrderMark", "([BI)Z"⟩ : MethodName)) hown (mvT hZ (hw _ (ow 5 rfl))) (mvT hZ (hw _ (ow 6 rfl))) (mvT hZ (hw _ (ow 7 rfl))) (mvT hZ (hw _ (ow 8 rfl))) (by decide) (backOf (W := 0) (rm_sw l Z a0 hw [] b1 st T13.heap n0 w_BYTE_ORDER_MARK (own_K_ext EX13 hK) cT n hTT hc0 hc1 hc2) hZ (hw _ (ow 8 rfl)) (hw _ (ow 7 rfl)) (by decide) (by decide)) (g := (mkF m 234 #[.val (.int p1), .val (.int p2), .val (.long q3), .second, .val (.int p4), .val (.int p5), .val (.int n), .val (.int st), .val (.ref b1), .val (.int wh), .val (.int (1 : Int32))] [(.int st), (.ref b1)])) rfl (by rw [hml]; rfl) (argsL := [(.ref b1), (.int st)]) (rest := []) (lenOf pd_1 rfl) rfl (Nat.le_of_eq rfl) (hb hby at_234) (fun _ _ => ⟨rfl, (rfl : T13.heap = T13.heap), (by decide : 1 + 0 ≤ _), (by decide : 7 + 0 ≤ _)⟩)
              dsimp only [Pt.U, Pt.locs, Pt.cells, Pt.slots] at X27 l27 y27 z27 st27 hQ27
              subst l27 y27 z27
              obtain ⟨hv27, Nq27, e27⟩ := hQ27
              obtain rfl : v27 = some (.int (1 : Int32)) := hv27.trans (congrArg some (congrArg Value.int ((if_neg (mt hlen.mp hc171_14)).trans ((if_pos ((own_at0 cT st (-17 : Int32) (own_byte _ _ 239 (by decide) (by decide) (by decide) (hTT.2.2.2 _ hin0_18).2 (-17 : Int32) (by decide))).mpr hc186_19)).trans ((if_pos ((own_byte _ _ 187 (by decide) (by decide) (by decide) (hTT.2.2.2 _ hin1_21).2 (-69 : Int32) (by decide)).mpr hc203_22)).trans (if_pos ((own_byte _ _ 191 (by decide) (by decide) (by decide) (hTT.2.2.2 _ hin2_24).2 (-65 : Int32) (by decide)).mpr hc220_25)))))))
              have N27 := Fr.app N13 Nq27
              have pre28 : ∀ t, Steps p.tables e below (T27.setTop (mkF m 247 #[.val (.int p1), .val (.int p2), .val (.long q3), .second, .val (.int p4), .val (.int p5), .val (.int n), .val (.int st), .val (.ref b1), .val (.int wh), .val (.int (1 : Int32))] [(.int (1 : Int32))])) t → Steps p.tables e below (s₁.setTop (entryFrame m #[(.int p1), (.int p2), (.long q3), (.int p4), (.int p5)] maxLocals)) t := fun t k => pre26 t (by
                show Steps p.tables e below (T13.setTop (mkF m 220 #[.val (.int p1), .val (.int p2), .val (.long q3), .second, .val (.int p4), .val (.int p5), .val (.int n), .val (.int st), .val (.ref b1), .val (.int wh), .unset] [(.int (191 : Int32)), (.int ((atv cT (st + (2 : Int32))) &&& (255 : Int32)))])) _
                refine XS.icmpNo X13.here hx rfl (hb hby at_220) rfl (teq hc220_25).2 ?_
                show Steps p.tables e below (T13.setTop (mkF m 223 #[.val (.int p1), .val (.int p2), .val (.long q3), .second, .val (.int p4), .val (.int p5), .val (.int n), .val (.int st), .val (.ref b1), .val (.int wh), .unset] [])) _
                refine XS.iconst X13.here hx rfl (hb hby at_223) ?_
                show Steps p.tables e below (T13.setTop (mkF m 224 #[.val (.int p1), .val (.int p2), .val (.long q3), .second, .val (.int p4), .val (.int p5), .val (.int n), .val (.int st), .val (.ref b1), .val (.int wh), .unset] [(.int (1 : Int32))])) _
                refine XS.goto X13.here hx rfl (pc0 := 224) (pc' := 228) rfl (hb hby at_224) (by decide) (by decide) ?_
                show Steps p.tables e below (T13.setTop (mkF m 228 #[.val (.int p1), .val (.int p2), .val (.long q3), .second, .val (.int p4), .val (.int p5), .val (.int n), .val (.int st), .val (.ref b1), .val (.int wh), .unset] [(.int (1 : Int32))])) _
                refine XS.istore X13.here hx rfl (hb hby at_228) rfl (l' := #[.val (.int p1), .val (.int p2), .val (.long q3), .second, .val (.int p4), .val (.int p5), .val (.int n), .val (.int st), .val (.ref b1), .val (.int wh), .val (.int (1 : Int32))]) rfl ?_
                show Steps p.tables e below (T13.setTop (mkF m 230 #[.val (.int p1), .val (.int p2), .val (.long q3), .second, .val (.int p4), .val (.int p5), .val (.int n), .val (.int st), .val (.ref b1), .val (.int wh), .val (.int (1 : Int32))] [])) _
                refine XS.aload X13.here hx rfl (hb hby at_230) rfl rfl ?_
                show Steps p.tables e below (T13.setTop (mkF m 232 #[.val (.int p1), .val (.int p2), .val (.long q3), .second, .val (.int p4), .val (.int p5), .val (.int n), .val (.int st), .val (.ref b1), .val (.int wh), .val (.int (1 : Int32))] [(.ref b1)])) _
                refine XS.iload X13.here hx rfl (hb hby at_232) rfl ?_
                show Steps p.tables e below (T13.setTop (mkF m 234 #[.val (.int p1), .val (.int p2), .val (.long q3), .second, .val (.int p4), .val (.int p5), .val (.int n), .val (.int st), .val (.ref b1), .val (.int wh), .val (.int (1 : Int32))] [(.int st), (.ref b1)])) _
                refine st27 _ ?_
                show Steps p.tables e below (T27.setTop (mkF m 237 #[.val (.int p1), .val (.int p2), .val (.long q3), .second, .val (.int p4), .val (.int p5), .val (.int n), .val (.int st), .val (.ref b1), .val (.int wh), .val (.int (1 : Int32))] [(.int (1 : Int32))])) _
                refine XS.iload X27.here hx rfl (hb hby at_237) rfl ?_
                show Steps p.tables e below (T27.setTop (mkF m 239 #[.val (.int p1), .val (.int p2), .val (.long q3), .second, .val (.int p4), .val (.int p5), .val (.int n), .val (.int st), .val (.ref b1), .val (.int wh), .val (.int (1 : Int32))] [(.int (1 : Int32)), (.int (1 : Int32))])) _
                refine XS.icmpNo X27.here hx rfl (hb hby at_239) rfl (teq (by decide)).2 ?_
                show Steps p.tables e below (T27.setTop (mkF m 242 #[.val (.int p1), .val (.int p2), .val (.long q3), .second, .val (.int p4), .val (.int p5), .val (.int n), .val (.int st), .val (.ref b1), .val (.int wh), .val (.int (1 : Int32))] [])) _
                refine XS.iconst X27.here hx rfl (hb hby at_242) ?_
                show Steps p.tables e below (T27.setTop (mkF m 243 #[.val (.int p1), .val (.int p2), .val (.long q3), .second, .val (.int p4), .val (.int p5), .val (.int n), .val (.int st), .val (.ref b1), .val (.int wh), .val (.int (1 : Int32))] [(.int (1 : Int32))])) _
                refine XS.goto X27.here hx rfl (pc0 := 243) (pc' := 247) rfl (hb hby at_243) (by decide) (by decide) ?_
                exact k)
              obtain ⟨fs, hr, hrun, hended, hW, hsame⟩ := X27.leave (v := some (.int (1 : Int32))) (fun h => by rw [Bd.returns] at h; cases h)
              refine ⟨_, _, pre28 _ ?_, hrun, hended, _, _, rfl, ?_, ⟨_, rfl⟩, hW, hsame.mono (by decide) (by decide)⟩
              · show Steps p.tables e below (T27.setTop (mkF m 247 #[.val (.int p1), .val (.int p2), .val (.long q3), .second, .val (.int p4), .val (.int p5), .val (.int n), .val (.int st), .val (.ref b1), .val (.int wh), .val (.int (1 : Int32))] [(.int (1 : Int32))])) _
                exact retN X27 hx (t := .boolean) Bd.returns (by simp) (hb hby at_247) hr
              · exact ⟨rfl, N27, trivial⟩
            · obtain ⟨v29, _, ⟨T29, L29, k29, n29⟩, -, X29, ⟨Lc29, hQ29, l29, y29, z29⟩, st29⟩ := Jvm.LawKit.callS X13 hx (y := (⟨"com/example/falkirk/falkirk/loader/Utf8", "startsWithByteOrderMark", "([BI)Z"⟩ : MethodName)) hown (mvT hZ (hw _ (ow 5 rfl))) (mvT hZ (hw _ (ow 6 rfl))) (mvT hZ (hw _ (ow 7 rfl))) (mvT hZ (hw _ (ow 8 rfl))) (by decide) (backOf (W := 0) (rm_sw l Z a0 hw [] b1 st T13.heap n0 w_BYTE_ORDER_MARK (own_K_ext EX13 hK) cT n hTT hc0 hc1 hc2) hZ (hw _ (ow 8 rfl)) (hw _ (ow 7 rfl)) (by decide) (by decide)) (g := (mkF m 234 #[.val (.int p1), .val (.int p2), .val (.long q3), .second, .val (.int p4), .val (.int p5), .val (.int n), .val (.int st), .val (.ref b1), .val (.int wh), .val (.int (0 : Int32))] [(.int st), (.ref b1)])) rfl (by rw [hml]; rfl) (argsL := [(.ref b1), (.int st)]) (rest := []) (lenOf pd_1 rfl) rfl (Nat.le_of_eq rfl) (hb hby at_234) (fun _ _ => ⟨rfl, (rfl : T13.heap = T13.heap), (by decide : 1 + 0 ≤ _), (by decide : 7 + 0 ≤ _)⟩)
              dsimp only [Pt.U, Pt.locs, Pt.cells, Pt.slots] at X29 l29 y29 z29 st29 hQ29
              subst l29 y29 z29
              obtain ⟨hv29, Nq29, e29⟩ := hQ29
              obtain rfl : v29 = some (.int (0 : Int32)) := hv29.trans (congrArg some (congrArg Value.int ((if_neg (mt hlen.mp hc171_14)).trans ((if_pos ((own_at0 cT st (-17 : Int32) (own_byte _ _ 239 (by decide) (by decide) (by decide) (hTT.2.2.2 _ hin0_18).2 (-17 : Int32) (by decide))).mpr hc186_19)).trans ((if_pos ((own_byte _ _ 187 (by decide) (by decide) (by decide) (hTT.2.2.2 _ hin1_21).2 (-69 : Int32) (by decide)).mpr hc203_22)).trans (if_neg (mt (own_byte _ _ 191 (by decide) (by decide) (by decide) (hTT.2.2.2 _ hin2_24).2 (-65 : Int32) (by decide)).mp hc220_25)))))))
              have N29 := Fr.app N13 Nq29
              have pre30 : ∀ t, Steps p.tables e below (T29.setTop (mkF m 247 #[.val (.int p1), .val (.int p2), .val (.long q3), .second, .val (.int p4), .val (.int p5), .val (.int n), .val (.int st), .val (.ref b1), .val (.int wh), .val (.int (0 : Int32))] [(.int (1 : Int32))])) t → Steps p.tables e below (s₁.setTop (entryFrame m #[(.int p1), (.int p2), (.long q3), (.int p4), (.int p5)] maxLocals)) t := fun t k => pre26 t (by
                show Steps p.tables e below (T13.setTop (mkF m 220 #[.val (.int p1), .val (.int p2), .val (.long q3), .second, .val (.int p4), .val (.int p5), .val (.int n), .val (.int st), .val (.ref b1), .val (.int wh), .unset] [(.int (191 : Int32)), (.int ((atv cT (st + (2 : Int32))) &&& (255 : Int32)))])) _
                refine XS.icmpYes X13.here hx rfl (pc0 := 220) (pc' := 227) rfl (hb hby at_220) rfl (feq hc220_25).2 (by decide) (by decide) ?_
                show Steps p.tables e below (T13.setTop (mkF m 227 #[.val (.int p1), .val (.int p2), .val (.long q3), .second, .val (.int p4), .val (.int p5), .val (.int n), .val (.int st), .val (.ref b1), .val (.int wh), .unset] [])) _
                refine XS.iconst X13.here hx rfl (hb hby at_227) ?_
                show Steps p.tables e below (T13.setTop (mkF m 228 #[.val (.int p1), .val (.int p2), .val (.long q3), .second, .val (.int p4), .val (.int p5), .val (.int n), .val (.int st), .val (.ref b1), .val (.int wh), .unset] [(.int (0 : Int32))])) _
                refine XS.istore X13.here hx rfl (hb hby at_228) rfl (l' := #[.val (.int p1), .val (.int p2), .val (.long q3), .second, .val (.int p4), .val (.int p5), .val (.int n), .val (.int st), .val (.ref b1), .val (.int wh), .val (.int (0 : Int32))]) rfl ?_
                show Steps p.tables e below (T13.setTop (mkF m 230 #[.val (.int p1), .val (.int p2), .val (.long q3), .second, .val (.int p4), .val (.int p5), .val (.int n), .val (.int st), .val (.ref b1), .val (.int wh), .val (.int (0 : Int32))] [])) _
                refine XS.aload X13.here hx rfl (hb hby at_230) rfl rfl ?_
                show Steps p.tables e below (T13.setTop (mkF m 232 #[.val (.int p1), .val (.int p2), .val (.long q3), .second, .val (.int p4), .val (.int p5), .val (.int n), .val (.int st), .val (.ref b1), .val (.int wh), .val (.int (0 : Int32))] [(.ref b1)])) _
                refine XS.iload X13.here hx rfl (hb hby at_232) rfl ?_
                show Steps p.tables e below (T13.setTop (mkF m 234 #[.val (.int p1), .val (.int p2), .val (.long q3), .second, .val (.int p4), .val (.int p5), .val (.int n), .val (.int st), .val (.ref b1), .val (.int wh), .val (.int (0 : Int32))] [(.int st), (.ref b1)])) _
                refine st29 _ ?_
                show Steps p.tables e below (T29.setTop (mkF m 237 #[.val (.int p1), .val (.int p2), .val (.long q3), .second, .val (.int p4), .val (.int p5), .val (.int n), .val (.int st), .val (.ref b1), .val (.int wh), .val (.int (0 : Int32))] [(.int (0 : Int32))])) _
                refine XS.iload X29.here hx rfl (hb hby at_237) rfl ?_
                show Steps p.tables e below (T29.setTop (mkF m 239 #[.val (.int p1), .val (.int p2), .val (.long q3), .second, .val (.int p4), .val (.int p5), .val (.int n), .val (.int st), .val (.ref b1), .val (.int wh), .val (.int (0 : Int32))] [(.int (0 : Int32)), (.int (0 : Int32))])) _
                refine XS.icmpNo X29.here hx rfl (hb hby at_239) rfl (teq (by decide)).2 ?_
                show Steps p.tables e below (T29.setTop (mkF m 242 #[.val (.int p1), .val (.int p2), .val (.long q3), .second, .val (.int p4), .val (.int p5), .val (.int n), .val (.int st), .val (.ref b1), .val (.int wh), .val (.int (0 : Int32))] [])) _
                refine XS.iconst X29.here hx rfl (hb hby at_242) ?_
                show Steps p.tables e below (T29.setTop (mkF m 243 #[.val (.int p1), .val (.int p2), .val (.long q3), .second, .val (.int p4), .val (.int p5), .val (.int n), .val (.int st), .val (.ref b1), .val (.int wh), .val (.int (0 : Int32))] [(.int (1 : Int32))])) _
                refine XS.goto X29.here hx rfl (pc0 := 243) (pc' := 247) rfl (hb hby at_243) (by decide) (by decide) ?_
                exact k)
              obtain ⟨fs, hr, hrun, hended, hW, hsame⟩ := X29.leave (v := some (.int (1 : Int32))) (fun h => by rw [Bd.returns] at h; cases h)
              refine ⟨_, _, pre30 _ ?_, hrun, hended, _, _, rfl, ?_, ⟨_, rfl⟩, hW, hsame.mono (by decide) (by decide)⟩
              · show Steps p.tables e below (T29.setTop (mkF m 247 #[.val (.int p1), .val (.int p2), .val (.long q3), .second, .val (.int p4), .val (.int p5), .val (.int n), .val (.int st), .val (.ref b1), .val (.int wh), .val (.int (0 : Int32))] [(.int (1 : Int32))])) _
                exact retN X29 hx (t := .boolean) Bd.returns (by simp) (hb hby at_247) hr
              · exact ⟨rfl, N29, trivial⟩
          · obtain ⟨v31, _, ⟨T31, L31, k31, n31⟩, -, X31, ⟨Lc31, hQ31, l31, y31, z31⟩, st31⟩ := Jvm.LawKit.callS X13 hx (y := (⟨"com/example/falkirk/falkirk/loader/Utf8", "startsWithByteOrderMark", "([BI)Z"⟩ : MethodName)) hown (mvT hZ (hw _ (ow 5 rfl))) (mvT hZ (hw _ (ow 6 rfl))) (mvT hZ (hw _ (ow 7 rfl))) (mvT hZ (hw _ (ow 8 rfl))) (by decide) (backOf (W := 0) (rm_sw l Z a0 hw [] b1 st T13.heap n0 w_BYTE_ORDER_MARK (own_K_ext EX13 hK) cT n hTT hc0 hc1 hc2) hZ (hw _ (ow 8 rfl)) (hw _ (ow 7 rfl)) (by decide) (by decide)) (g := (mkF m 234 #[.val (.int p1), .val (.int p2), .val (.long q3), .second, .val (.int p4), .val (.int p5), .val (.int n), .val (.int st), .val (.ref b1), .val (.int wh), .val (.int (0 : Int32))] [(.int st), (.ref b1)])) rfl (by rw [hml]; rfl) (argsL := [(.ref b1), (.int st)]) (rest := []) (lenOf pd_1 rfl) rfl (Nat.le_of_eq rfl) (hb hby at_234) (fun _ _ => ⟨rfl, (rfl : T13.heap = T13.heap), (by decide : 1 + 0 ≤ _), (by decide : 7 + 0 ≤ _)⟩)
            dsimp only [Pt.U, Pt.locs, Pt.cells, Pt.slots] at X31 l31 y31 z31 st31 hQ31
            subst l31 y31 z31
            obtain ⟨hv31, Nq31, e31⟩ := hQ31
            obtain rfl : v31 = some (.int (0 : Int32)) := hv31.trans (congrArg some (congrArg Value.int ((if_neg (mt hlen.mp hc171_14)).trans ((if_pos ((own_at0 cT st (-17 : Int32) (own_byte _ _ 239 (by decide) (by decide) (by decide) (hTT.2.2.2 _ hin0_18).2 (-17 : Int32) (by decide))).mpr hc186_19)).trans (if_neg (mt (own_byte _ _ 187 (by decide) (by decide) (by decide) (hTT.2.2.2 _ hin1_21).2 (-69 : Int32) (by decide)).mp hc203_22))))))
            have N31 := Fr.app N13 Nq31
            have pre32 : ∀ t, Steps p.tables e below (T31.setTop (mkF m 247 #[.val (.int p1), .val (.int p2), .val (.long q3), .second, .val (.int p4), .val (.int p5), .val (.int n), .val (.int st), .val (.ref b1), .val (.int wh), .val (.int (0 : Int32))] [(.int (1 : Int32))])) t → Steps p.tables e below (s₁.setTop (entryFrame m #[(.int p1), (.int p2), (.long q3), (.int p4), (.int p5)] maxLocals)) t := fun t k => pre23 t (by
              show Steps p.tables e below (T13.setTop (mkF m 203 #[.val (.int p1), .val (.int p2), .val (.long q3), .second, .val (.int p4), .val (.int p5), .val (.int n), .val (.int st), .val (.ref b1), .val (.int wh), .unset] [(.int (187 : Int32)), (.int ((atv cT (st + (1 : Int32))) &&& (255 : Int32)))])) _
              refine XS.icmpYes X13.here hx rfl (pc0 := 203) (pc' := 227) rfl (hb hby at_203) rfl (feq hc203_22).2 (by decide) (by decide) ?_
              show Steps p.tables e below (T13.setTop (mkF m 227 #[.val (.int p1), .val (.int p2), .val (.long q3), .second, .val (.int p4), .val (.int p5), .val (.int n), .val (.int st), .val (.ref b1), .val (.int wh), .unset] [])) _
              refine XS.iconst X13.here hx rfl (hb hby at_227) ?_
              show Steps p.tables e below (T13.setTop (mkF m 228 #[.val (.int p1), .val (.int p2), .val (.long q3), .second, .val (.int p4), .val (.int p5), .val (.int n), .val (.int st), .val (.ref b1), .val (.int wh), .unset] [(.int (0 : Int32))])) _
              refine XS.istore X13.here hx rfl (hb hby at_228) rfl (l' := #[.val (.int p1), .val (.int p2), .val (.long q3), .second, .val (.int p4), .val (.int p5), .val (.int n), .val (.int st), .val (.ref b1), .val (.int wh), .val (.int (0 : Int32))]) rfl ?_
              show Steps p.tables e below (T13.setTop (mkF m 230 #[.val (.int p1), .val (.int p2), .val (.long q3), .second, .val (.int p4), .val (.int p5), .val (.int n), .val (.int st), .val (.ref b1), .val (.int wh), .val (.int (0 : Int32))] [])) _
              refine XS.aload X13.here hx rfl (hb hby at_230) rfl rfl ?_
              show Steps p.tables e below (T13.setTop (mkF m 232 #[.val (.int p1), .val (.int p2), .val (.long q3), .second, .val (.int p4), .val (.int p5), .val (.int n), .val (.int st), .val (.ref b1), .val (.int wh), .val (.int (0 : Int32))] [(.ref b1)])) _
              refine XS.iload X13.here hx rfl (hb hby at_232) rfl ?_
              show Steps p.tables e below (T13.setTop (mkF m 234 #[.val (.int p1), .val (.int p2), .val (.long q3), .second, .val (.int p4), .val (.int p5), .val (.int n), .val (.int st), .val (.ref b1), .val (.int wh), .val (.int (0 : Int32))] [(.int st), (.ref b1)])) _
              refine st31 _ ?_
              show Steps p.tables e below (T31.setTop (mkF m 237 #[.val (.int p1), .val (.int p2), .val (.long q3), .second, .val (.int p4), .val (.int p5), .val (.int n), .val (.int st), .val (.ref b1), .val (.int wh), .val (.int (0 : Int32))] [(.int (0 : Int32))])) _
              refine XS.iload X31.here hx rfl (hb hby at_237) rfl ?_
              show Steps p.tables e below (T31.setTop (mkF m 239 #[.val (.int p1), .val (.int p2), .val (.long q3), .second, .val (.int p4), .val (.int p5), .val (.int n), .val (.int st), .val (.ref b1), .val (.int wh), .val (.int (0 : Int32))] [(.int (0 : Int32)), (.int (0 : Int32))])) _
              refine XS.icmpNo X31.here hx rfl (hb hby at_239) rfl (teq (by decide)).2 ?_
              show Steps p.tables e below (T31.setTop (mkF m 242 #[.val (.int p1), .val (.int p2), .val (.long q3), .second, .val (.int p4), .val (.int p5), .val (.int n), .val (.int st), .val (.ref b1), .val (.int wh), .val (.int (0 : Int32))] [])) _
              refine XS.iconst X31.here hx rfl (hb hby at_242) ?_
              show Steps p.tables e below (T31.setTop (mkF m 243 #[.val (.int p1), .val (.int p2), .val (.long q3), .second, .val (.int p4), .val (.int p5), .val (.int n), .val (.int st), .val (.ref b1), .val (.int wh), .val (.int (0 : Int32))] [(.int (1 : Int32))])) _
              refine XS.goto X31.here hx rfl (pc0 := 243) (pc' := 247) rfl (hb hby at_243) (by decide) (by decide) ?_
              exact k)
            obtain ⟨fs, hr, hrun, hended, hW, hsame⟩ := X31.leave (v := some (.int (1 : Int32))) (fun h => by rw [Bd.returns] at h; cases h)
            refine ⟨_, _, pre32 _ ?_, hrun, hended, _, _, rfl, ?_, ⟨_, rfl⟩, hW, hsame.mono (by decide) (by decide)⟩
            · show Steps p.tables e below (T31.setTop (mkF m 247 #[.val (.int p1), .val (.int p2), .val (.long q3), .second, .val (.int p4), .val (.int p5), .val (.int n), .val (.int st), .val (.ref b1), .val (.int wh), .val (.int (0 : Int32))] [(.int (1 : Int32))])) _
              exact retN X31 hx (t := .boolean) Bd.returns (by simp) (hb hby at_247) hr
            · exact ⟨rfl, N31, trivial⟩
        · obtain ⟨v33, _, ⟨T33, L33, k33, n33⟩, -, X33, ⟨Lc33, hQ33, l33, y33, z33⟩, st33⟩ := Jvm.LawKit.callS X13 hx (y := (⟨"com/example/falkirk/falkirk/loader/Utf8", "startsWithByteOrderMark", "([BI)Z"⟩ : MethodName)) hown (mvT hZ (hw _ (ow 5 rfl))) (mvT hZ (hw _ (ow 6 rfl))) (mvT hZ (hw _ (ow 7 rfl))) (mvT hZ (hw _ (ow 8 rfl))) (by decide) (backOf (W := 0) (rm_sw l Z a0 hw [] b1 st T13.heap n0 w_BYTE_ORDER_MARK (own_K_ext EX13 hK) cT n hTT hc0 hc1 hc2) hZ (hw _ (ow 8 rfl)) (hw _ (ow 7 rfl)) (by decide) (by decide)) (g := (mkF m 234 #[.val (.int p1), .val (.int p2), .val (.long q3), .second, .val (.int p4), .val (.int p5), .val (.int n), .val (.int st), .val (.ref b1), .val (.int wh), .val (.int (0 : Int32))] [(.int st), (.ref b1)])) rfl (by rw [hml]; rfl) (argsL := [(.ref b1), (.int st)]) (rest := []) (lenOf pd_1 rfl) rfl (Nat.le_of_eq rfl) (hb hby at_234) (fun _ _ => ⟨rfl, (rfl : T13.heap = T13.heap), (by decide : 1 + 0 ≤ _), (by decide : 7 + 0 ≤ _)⟩)
          dsimp only [Pt.U, Pt.locs, Pt.cells, Pt.slots] at X33 l33 y33 z33 st33 hQ33
          subst l33 y33 z33
          obtain ⟨hv33, Nq33, e33⟩ := hQ33
          obtain rfl : v33 = some (.int (0 : Int32)) := hv33.trans (congrArg some (congrArg Value.int ((if_neg (mt hlen.mp hc171_14)).trans (if_neg (mt (own_at0 cT st (-17 : Int32) (own_byte _ _ 239 (by decide) (by decide) (by decide) (hTT.2.2.2 _ hin0_18).2 (-17 : Int32) (by decide))).mp hc186_19)))))
          have N33 := Fr.app N13 Nq33
          have pre34 : ∀ t, Steps p.tables e below (T33.setTop (mkF m 247 #[.val (.int p1), .val (.int p2), .val (.long q3), .second, .val (.int p4), .val (.int p5), .val (.int n), .val (.int st), .val (.ref b1), .val (.int wh), .val (.int (0 : Int32))] [(.int (1 : Int32))])) t → Steps p.tables e below (s₁.setTop (entryFrame m #[(.int p1), (.int p2), (.long q3), (.int p4), (.int p5)] maxLocals)) t := fun t k => pre20 t (by
            show Steps p.tables e below (T13.setTop (mkF m 186 #[.val (.int p1), .val (.int p2), .val (.long q3), .second, .val (.int p4), .val (.int p5), .val (.int n), .val (.int st), .val (.ref b1), .val (.int wh), .unset] [(.int (239 : Int32)), (.int ((atv cT st) &&& (255 : Int32)))])) _
            refine XS.icmpYes X13.here hx rfl (pc0 := 186) (pc' := 227) rfl (hb hby at_186) rfl (feq hc186_19).2 (by decide) (by decide) ?_
            show Steps p.tables e below (T13.setTop (mkF m 227 #[.val (.int p1), .val (.int p2), .val (.long q3), .second, .val (.int p4), .val (.int p5), .val (.int n), .val (.int st), .val (.ref b1), .val (.int wh), .unset] [])) _
            refine XS.iconst X13.here hx rfl (hb hby at_227) ?_
            show Steps p.tables e below (T13.setTop (mkF m 228 #[.val (.int p1), .val (.int p2), .val (.long q3), .second, .val (.int p4), .val (.int p5), .val (.int n), .val (.int st), .val (.ref b1), .val (.int wh), .unset] [(.int (0 : Int32))])) _
            refine XS.istore X13.here hx rfl (hb hby at_228) rfl (l' := #[.val (.int p1), .val (.int p2), .val (.long q3), .second, .val (.int p4), .val (.int p5), .val (.int n), .val (.int st), .val (.ref b1), .val (.int wh), .val (.int (0 : Int32))]) rfl ?_
            show Steps p.tables e below (T13.setTop (mkF m 230 #[.val (.int p1), .val (.int p2), .val (.long q3), .second, .val (.int p4), .val (.int p5), .val (.int n), .val (.int st), .val (.ref b1), .val (.int wh), .val (.int (0 : Int32))] [])) _
            refine XS.aload X13.here hx rfl (hb hby at_230) rfl rfl ?_
            show Steps p.tables e below (T13.setTop (mkF m 232 #[.val (.int p1), .val (.int p2), .val (.long q3), .second, .val (.int p4), .val (.int p5), .val (.int n), .val (.int st), .val (.ref b1), .val (.int wh), .val (.int (0 : Int32))] [(.ref b1)])) _
            refine XS.iload X13.here hx rfl (hb hby at_232) rfl ?_
            show Steps p.tables e below (T13.setTop (mkF m 234 #[.val (.int p1), .val (.int p2), .val (.long q3), .second, .val (.int p4), .val (.int p5), .val (.int n), .val (.int st), .val (.ref b1), .val (.int wh), .val (.int (0 : Int32))] [(.int st), (.ref b1)])) _
            refine st33 _ ?_
            show Steps p.tables e below (T33.setTop (mkF m 237 #[.val (.int p1), .val (.int p2), .val (.long q3), .second, .val (.int p4), .val (.int p5), .val (.int n), .val (.int st), .val (.ref b1), .val (.int wh), .val (.int (0 : Int32))] [(.int (0 : Int32))])) _
            refine XS.iload X33.here hx rfl (hb hby at_237) rfl ?_
            show Steps p.tables e below (T33.setTop (mkF m 239 #[.val (.int p1), .val (.int p2), .val (.long q3), .second, .val (.int p4), .val (.int p5), .val (.int n), .val (.int st), .val (.ref b1), .val (.int wh), .val (.int (0 : Int32))] [(.int (0 : Int32)), (.int (0 : Int32))])) _
            refine XS.icmpNo X33.here hx rfl (hb hby at_239) rfl (teq (by decide)).2 ?_
            show Steps p.tables e below (T33.setTop (mkF m 242 #[.val (.int p1), .val (.int p2), .val (.long q3), .second, .val (.int p4), .val (.int p5), .val (.int n), .val (.int st), .val (.ref b1), .val (.int wh), .val (.int (0 : Int32))] [])) _
            refine XS.iconst X33.here hx rfl (hb hby at_242) ?_
            show Steps p.tables e below (T33.setTop (mkF m 243 #[.val (.int p1), .val (.int p2), .val (.long q3), .second, .val (.int p4), .val (.int p5), .val (.int n), .val (.int st), .val (.ref b1), .val (.int wh), .val (.int (0 : Int32))] [(.int (1 : Int32))])) _
            refine XS.goto X33.here hx rfl (pc0 := 243) (pc' := 247) rfl (hb hby at_243) (by decide) (by decide) ?_
            exact k)
          obtain ⟨fs, hr, hrun, hended, hW, hsame⟩ := X33.leave (v := some (.int (1 : Int32))) (fun h => by rw [Bd.returns] at h; cases h)
          refine ⟨_, _, pre34 _ ?_, hrun, hended, _, _, rfl, ?_, ⟨_, rfl⟩, hW, hsame.mono (by decide) (by decide)⟩
          · show Steps p.tables e below (T33.setTop (mkF m 247 #[.val (.int p1), .val (.int p2), .val (.long q3), .second, .val (.int p4), .val (.int p5), .val (.int n), .val (.int st), .val (.ref b1), .val (.int wh), .val (.int (0 : Int32))] [(.int (1 : Int32))])) _
            exact retN X33 hx (t := .boolean) Bd.returns (by simp) (hb hby at_247) hr
          · exact ⟨rfl, N33, trivial⟩
    · have pre36 : ∀ t, Steps p.tables e below (T8.setTop (mkF m 171 #[.val (.int p1), .val (.int p2), .val (.long q3), .second, .val (.int p4), .val (.int p5), .val (.int n), .val (.int st), .val (.ref b1), .val (.int wh), .unset] [(.int n), (.int (st + (3 : Int32)))])) t → Steps p.tables e below (s₁.setTop (entryFrame m #[(.int p1), (.int p2), (.long q3), (.int p4), (.int p5)] maxLocals)) t := fun t k => pre12 t (by
        show Steps p.tables e below (T8.setTop (mkF m 149 #[.val (.int p1), .val (.int p2), .val (.long q3), .second, .val (.int p4), .val (.int p5), .val (.int n), .val (.int st), .val (.ref b1), .val (.int wh), .unset] [(.int (3 : Int32)), (.int wh)])) _
        refine XS.icmpYes X8.here hx rfl (pc0 := 149) (pc' := 165) rfl (hb hby at_149) rfl (flt hc149_11).2.1 (by decide) (by decide) ?_
        show Steps p.tables e below (T8.setTop (mkF m 165 #[.val (.int p1), .val (.int p2), .val (.long q3), .second, .val (.int p4), .val (.int p5), .val (.int n), .val (.int st), .val (.ref b1), .val (.int wh), .unset] [])) _
        refine XS.iload X8.here hx rfl (hb hby at_165) rfl ?_
        show Steps p.tables e below (T8.setTop (mkF m 167 #[.val (.int p1), .val (.int p2), .val (.long q3), .second, .val (.int p4), .val (.int p5), .val (.int n), .val (.int st), .val (.ref b1), .val (.int wh), .unset] [(.int st)])) _
        refine XS.iconst X8.here hx rfl (hb hby at_167) ?_
        show Steps p.tables e below (T8.setTop (mkF m 168 #[.val (.int p1), .val (.int p2), .val (.long q3), .second, .val (.int p4), .val (.int p5), .val (.int n), .val (.int st), .val (.ref b1), .val (.int wh), .unset] [(.int (3 : Int32)), (.int st)])) _
        refine XS.iadd X8.here hx rfl (hb hby at_168) rfl ?_
        show Steps p.tables e below (T8.setTop (mkF m 169 #[.val (.int p1), .val (.int p2), .val (.long q3), .second, .val (.int p4), .val (.int p5), .val (.int n), .val (.int st), .val (.ref b1), .val (.int wh), .unset] [(.int (st + (3 : Int32)))])) _
        refine XS.iload X8.here hx rfl (hb hby at_169) rfl ?_
        exact k)
      by_cases hc171_35 : n < (st + (3 : Int32))
      · obtain ⟨cT, hTT⟩ := Tq8
        obtain ⟨v37, _, ⟨T37, L37, k37, n37⟩, -, X37, ⟨Lc37, hQ37, l37, y37, z37⟩, st37⟩ := Jvm.LawKit.callS X8 hx (y := (⟨"com/example/falkirk/falkirk/loader/Utf8", "startsWithByteOrderMark", "([BI)Z"⟩ : MethodName)) hown (mvT hZ (hw _ (ow 5 rfl))) (mvT hZ (hw _ (ow 6 rfl))) (mvT hZ (hw _ (ow 7 rfl))) (mvT hZ (hw _ (ow 8 rfl))) (by decide) (backOf (W := 0) (rm_sw l Z a0 hw [] b1 st T8.heap n0 w_BYTE_ORDER_MARK (own_K_ext EX8 hK) cT n hTT hc0 hc1 hc2) hZ (hw _ (ow 8 rfl)) (hw _ (ow 7 rfl)) (by decide) (by decide)) (g := (mkF m 234 #[.val (.int p1), .val (.int p2), .val (.long q3), .second, .val (.int p4), .val (.int p5), .val (.int n), .val (.int st), .val (.ref b1), .val (.int wh), .val (.int (0 : Int32))] [(.int st), (.ref b1)])) rfl (by rw [hml]; rfl) (argsL := [(.ref b1), (.int st)]) (rest := []) (lenOf pd_1 rfl) rfl (Nat.le_of_eq rfl) (hb hby at_234) (fun _ _ => ⟨rfl, (rfl : T8.heap = T8.heap), (by decide : 1 + 0 ≤ _), (by decide : 7 + 0 ≤ _)⟩)
        dsimp only [Pt.U, Pt.locs, Pt.cells, Pt.slots] at X37 l37 y37 z37 st37 hQ37
        subst l37 y37 z37
        obtain ⟨hv37, Nq37, e37⟩ := hQ37
        obtain rfl : v37 = some (.int (0 : Int32)) := hv37.trans (congrArg some (congrArg Value.int (if_pos (hlen.mpr hc171_35))))
        have N37 := Fr.app N8 Nq37
        have pre38 : ∀ t, Steps p.tables e below (T37.setTop (mkF m 247 #[.val (.int p1), .val (.int p2), .val (.long q3), .second, .val (.int p4), .val (.int p5), .val (.int n), .val (.int st), .val (.ref b1), .val (.int wh), .val (.int (0 : Int32))] [(.int (1 : Int32))])) t → Steps p.tables e below (s₁.setTop (entryFrame m #[(.int p1), (.int p2), (.long q3), (.int p4), (.int p5)] maxLocals)) t := fun t k => pre36 t (by
          show Steps p.tables e below (T8.setTop (mkF m 171 #[.val (.int p1), .val (.int p2), .val (.long q3), .second, .val (.int p4), .val (.int p5), .val (.int n), .val (.int st), .val (.ref b1), .val (.int wh), .unset] [(.int n), (.int (st + (3 : Int32)))])) _
          refine XS.icmpYes X8.here hx rfl (pc0 := 171) (pc' := 227) rfl (hb hby at_171) rfl (tlt hc171_35).2.2.1 (by decide) (by decide) ?_
          show Steps p.tables e below (T8.setTop (mkF m 227 #[.val (.int p1), .val (.int p2), .val (.long q3), .second, .val (.int p4), .val (.int p5), .val (.int n), .val (.int st), .val (.ref b1), .val (.int wh), .unset] [])) _
          refine XS.iconst X8.here hx rfl (hb hby at_227) ?_
          show Steps p.tables e below (T8.setTop (mkF m 228 #[.val (.int p1), .val (.int p2), .val (.long q3), .second, .val (.int p4), .val (.int p5), .val (.int n), .val (.int st), .val (.ref b1), .val (.int wh), .unset] [(.int (0 : Int32))])) _
          refine XS.istore X8.here hx rfl (hb hby at_228) rfl (l' := #[.val (.int p1), .val (.int p2), .val (.long q3), .second, .val (.int p4), .val (.int p5), .val (.int n), .val (.int st), .val (.ref b1), .val (.int wh), .val (.int (0 : Int32))]) rfl ?_
          show Steps p.tables e below (T8.setTop (mkF m 230 #[.val (.int p1), .val (.int p2), .val (.long q3), .second, .val (.int p4), .val (.int p5), .val (.int n), .val (.int st), .val (.ref b1), .val (.int wh), .val (.int (0 : Int32))] [])) _
          refine XS.aload X8.here hx rfl (hb hby at_230) rfl rfl ?_
          show Steps p.tables e below (T8.setTop (mkF m 232 #[.val (.int p1), .val (.int p2), .val (.long q3), .second, .val (.int p4), .val (.int p5), .val (.int n), .val (.int st), .val (.ref b1), .val (.int wh), .val (.int (0 : Int32))] [(.ref b1)])) _
          refine XS.iload X8.here hx rfl (hb hby at_232) rfl ?_
          show Steps p.tables e below (T8.setTop (mkF m 234 #[.val (.int p1), .val (.int p2), .val (.long q3), .second, .val (.int p4), .val (.int p5), .val (.int n), .val (.int st), .val (.ref b1), .val (.int wh), .val (.int (0 : Int32))] [(.int st), (.ref b1)])) _
          refine st37 _ ?_
          show Steps p.tables e below (T37.setTop (mkF m 237 #[.val (.int p1), .val (.int p2), .val (.long q3), .second, .val (.int p4), .val (.int p5), .val (.int n), .val (.int st), .val (.ref b1), .val (.int wh), .val (.int (0 : Int32))] [(.int (0 : Int32))])) _
          refine XS.iload X37.here hx rfl (hb hby at_237) rfl ?_
          show Steps p.tables e below (T37.setTop (mkF m 239 #[.val (.int p1), .val (.int p2), .val (.long q3), .second, .val (.int p4), .val (.int p5), .val (.int n), .val (.int st), .val (.ref b1), .val (.int wh), .val (.int (0 : Int32))] [(.int (0 : Int32)), (.int (0 : Int32))])) _
          refine XS.icmpNo X37.here hx rfl (hb hby at_239) rfl (teq (by decide)).2 ?_
          show Steps p.tables e below (T37.setTop (mkF m 242 #[.val (.int p1), .val (.int p2), .val (.long q3), .second, .val (.int p4), .val (.int p5), .val (.int n), .val (.int st), .val (.ref b1), .val (.int wh), .val (.int (0 : Int32))] [])) _
          refine XS.iconst X37.here hx rfl (hb hby at_242) ?_
          show Steps p.tables e below (T37.setTop (mkF m 243 #[.val (.int p1), .val (.int p2), .val (.long q3), .second, .val (.int p4), .val (.int p5), .val (.int n), .val (.int st), .val (.ref b1), .val (.int wh), .val (.int (0 : Int32))] [(.int (1 : Int32))])) _
          refine XS.goto X37.here hx rfl (pc0 := 243) (pc' := 247) rfl (hb hby at_243) (by decide) (by decide) ?_
          exact k)
        obtain ⟨fs, hr, hrun, hended, hW, hsame⟩ := X37.leave (v := some (.int (1 : Int32))) (fun h => by rw [Bd.returns] at h; cases h)
        refine ⟨_, _, pre38 _ ?_, hrun, hended, _, _, rfl, ?_, ⟨_, rfl⟩, hW, hsame.mono (by decide) (by decide)⟩
        · show Steps p.tables e below (T37.setTop (mkF m 247 #[.val (.int p1), .val (.int p2), .val (.long q3), .second, .val (.int p4), .val (.int p5), .val (.int n), .val (.int st), .val (.ref b1), .val (.int wh), .val (.int (0 : Int32))] [(.int (1 : Int32))])) _
          exact retN X37 hx (t := .boolean) Bd.returns (by simp) (hb hby at_247) hr
        · exact ⟨rfl, N37, trivial⟩
      · obtain ⟨cT, hTT⟩ := Tq8
        have hin0_39 : ¬ (st < 0 ∨ cT.slots.size ≤ (st).toNatClampNeg) := inb_of hTT.2.1 (hb0 hc171_35)
        have pre41 : ∀ t, Steps p.tables e below (T8.setTop (mkF m 186 #[.val (.int p1), .val (.int p2), .val (.long q3), .second, .val (.int p4), .val (.int p5), .val (.int n), .val (.int st), .val (.ref b1), .val (.int wh), .unset] [(.int (239 : Int32)), (.int ((atv cT st) &&& (255 : Int32)))])) t → Steps p.tables e below (s₁.setTop (entryFrame m #[(.int p1), (.int p2), (.long q3), (.int p4), (.int p5)] maxLocals)) t := fun t k => pre36 t (by
          show Steps p.tables e below (T8.setTop (mkF m 171 #[.val (.int p1), .val (.int p2), .val (.long q3), .second, .val (.int p4), .val (.int p5), .val (.int n), .val (.int st), .val (.ref b1), .val (.int wh), .unset] [(.int n), (.int (st + (3 : Int32)))])) _
          refine XS.icmpNo X8.here hx rfl (hb hby at_171) rfl (flt hc171_35).2.2.1 ?_
          show Steps p.tables e below (T8.setTop (mkF m 174 #[.val (.int p1), .val (.int p2), .val (.long q3), .second, .val (.int p4), .val (.int p5), .val (.int n), .val (.int st), .val (.ref b1), .val (.int wh), .unset] [])) _
          refine XS.aload X8.here hx rfl (hb hby at_174) rfl rfl ?_
          show Steps p.tables e below (T8.setTop (mkF m 176 #[.val (.int p1), .val (.int p2), .val (.long q3), .second, .val (.int p4), .val (.int p5), .val (.int n), .val (.int st), .val (.ref b1), .val (.int wh), .unset] [(.ref b1)])) _
          refine XS.iload X8.here hx rfl (hb hby at_176) rfl ?_
          show Steps p.tables e below (T8.setTop (mkF m 178 #[.val (.int p1), .val (.int p2), .val (.long q3), .second, .val (.int p4), .val (.int p5), .val (.int n), .val (.int st), .val (.ref b1), .val (.int wh), .unset] [(.int st), (.ref b1)])) _
          refine X8.baloadBytes hx (j := st) (v := .int (atv cT st)) (by rw [(rfl : T8.heap = T8.heap)]; exact hTT.1.1) (State.isArrayOf_alike hZ.alike hTT.1.2.1) hTT.1.2.2 hin0_39 (hTT.2.2.2 _ hin0_39).1 (g := (mkF m 178 #[.val (.int p1), .val (.int p2), .val (.long q3), .second, .val (.int p4), .val (.int p5), .val (.int n), .val (.int st), .val (.ref b1), .val (.int wh), .unset] [(.int st), (.ref b1)])) rfl rfl (hb hby at_178) _ ?_
          show Steps p.tables e below (T8.setTop (mkF m 179 #[.val (.int p1), .val (.int p2), .val (.long q3), .second, .val (.int p4), .val (.int p5), .val (.int n), .val (.int st), .val (.ref b1), .val (.int wh), .unset] [(.int (atv cT st))])) _
          refine XS.sipush X8.here hx rfl (hb hby at_179) ?_
          show Steps p.tables e below (T8.setTop (mkF m 182 #[.val (.int p1), .val (.int p2), .val (.long q3), .second, .val (.int p4), .val (.int p5), .val (.int n), .val (.int st), .val (.ref b1), .val (.int wh), .unset] [(.int (255 : Int32)), (.int (atv cT st))])) _
          refine XS.iand X8.here hx rfl (hb hby at_182) rfl ?_
          show Steps p.tables e below (T8.setTop (mkF m 183 #[.val (.int p1), .val (.int p2), .val (.long q3), .second, .val (.int p4), .val (.int p5), .val (.int n), .val (.int st), .val (.ref b1), .val (.int wh), .unset] [(.int ((atv cT st) &&& (255 : Int32)))])) _
          refine XS.sipush X8.here hx rfl (hb hby at_183) ?_
          exact k)
        by_cases hc186_40 : ((atv cT st) &&& (255 : Int32)) = (239 : Int32)
        · have hin1_42 : ¬ ((st + (1 : Int32)) < 0 ∨ cT.slots.size ≤ ((st + (1 : Int32))).toNatClampNeg) := inb_of hTT.2.1 (hb1 hc171_35)
          have pre44 : ∀ t, Steps p.tables e below (T8.setTop (mkF m 203 #[.val (.int p1), .val (.int p2), .val (.long q3), .second, .val (.int p4), .val (.int p5), .val (.int n), .val (.int st), .val (.ref b1), .val (.int wh), .unset] [(.int (187 : Int32)), (.int ((atv cT (st + (1 : Int32))) &&& (255 : Int32)))])) t → Steps p.tables e below (s₁.setTop (entryFrame m #[(.int p1), (.int p2), (.long q3), (.int p4), (.int p5)] maxLocals)) t := fun t k => pre41 t (by
            show Steps p.tables e below (T8.setTop (mkF m 186 #[.val (.int p1), .val (.int p2), .val (.long q3), .second, .val (.int p4), .val (.int p5), .val (.int n), .val (.int st), .val (.ref b1), .val (.int wh), .unset] [(.int (239 : Int32)), (.int ((atv cT st) &&& (255 : Int32)))])) _
            refine XS.icmpNo X8.here hx rfl (hb hby at_186) rfl (teq hc186_40).2 ?_
            show Steps p.tables e below (T8.setTop (mkF m 189 #[.val (.int p1), .val (.int p2), .val (.long q3), .second, .val (.int p4), .val (.int p5), .val (.int n), .val (.int st), .val (.ref b1), .val (.int wh), .unset] [])) _
            refine XS.aload X8.here hx rfl (hb hby at_189) rfl rfl ?_
            show Steps p.tables e below (T8.setTop (mkF m 191 #[.val (.int p1), .val (.int p2), .val (.long q3), .second, .val (.int p4), .val (.int p5), .val (.int n), .val (.int st), .val (.ref b1), .val (.int wh), .unset] [(.ref b1)])) _
            refine XS.iload X8.here hx rfl (hb hby at_191) rfl ?_
            show Steps p.tables e below (T8.setTop (mkF m 193 #[.val (.int p1), .val (.int p2), .val (.long q3), .second, .val (.int p4), .val (.int p5), .val (.int n), .val (.int st), .val (.ref b1), .val (.int wh), .unset] [(.int st), (.ref b1)])) _
            refine XS.iconst X8.here hx rfl (hb hby at_193) ?_
            show Steps p.tables e below (T8.setTop (mkF m 194 #[.val (.int p1), .val (.int p2), .val (.long q3), .second, .val (.int p4), .val (.int p5), .val (.int n), .val (.int st), .val (.ref b1), .val (.int wh), .unset] [(.int (1 : Int32)), (.int st), (.ref b1)])) _
            refine XS.iadd X8.here hx rfl (hb hby at_194) rfl ?_
            show Steps p.tables e below (T8.setTop (mkF m 195 #[.val (.int p1), .val (.int p2), .val (.long q3), .second, .val (.int p4), .val (.int p5), .val (.int n), .val (.int st), .val (.ref b1), .val (.int wh), .unset] [(.int (st + (1 : Int32))), (.ref b1)])) _
            refine X8.baloadBytes hx (j := (st + (1 : Int32))) (v := .int (atv cT (st + (1 : Int32)))) (by rw [(rfl : T8.heap = T8.heap)]; exact hTT.1.1) (State.isArrayOf_alike hZ.alike hTT.1.2.1) hTT.1.2.2 hin1_42 (hTT.2.2.2 _ hin1_42).1 (g := (mkF m 195 #[.val (.int p1), .val (.int p2), .val (.long q3), .second, .val (.int p4), .val (.int p5), .val (.int n), .val (.int st), .val (.ref b1), .val (.int wh), .unset] [(.int (st + (1 : Int32))), (.ref b1)])) rfl rfl (hb hby at_195) _ ?_
            show Steps p.tables e below (T8.setTop (mkF m 196 #[.val (.int p1), .val (.int p2), .val (.long q3), .second, .val (.int p4), .val (.int p5), .val (.int n), .val (.int st), .val (.ref b1), .val (.int wh), .unset] [(.int (atv cT (st + (1 : Int32))))])) _
            refine XS.sipush X8.here hx rfl (hb hby at_196) ?_
            show Steps p.tables e below (T8.setTop (mkF m 199 #[.val (.int p1), .val (.int p2), .val (.long q3), .second, .val (.int p4), .val (.int p5), .val (.int n), .val (.int st), .val (.ref b1), .val (.int wh), .unset] [(.int (255 : Int32)), (.int (atv cT (st + (1 : Int32))))])) _
            refine XS.iand X8.here hx rfl (hb hby at_199) rfl ?_
            show Steps p.tables e below (T8.setTop (mkF m 200 #[.val (.int p1), .val (.int p2), .val (.long q3), .second, .val (.int p4), .val (.int p5), .val (.int n), .val (.int st), .val (.ref b1), .val (.int wh), .unset] [(.int ((atv cT (st + (1 : Int32))) &&& (255 : Int32)))])) _
            refine XS.sipush X8.here hx rfl (hb hby at_200) ?_
            exact k)
          by_cases hc203_43 : ((atv cT (st + (1 : Int32))) &&& (255 : Int32)) = (187 : Int32)
          · have hin2_45 : ¬ ((st + (2 : Int32)) < 0 ∨ cT.slots.size ≤ ((st + (2 : Int32))).toNatClampNeg) := inb_of hTT.2.1 (hb2 hc171_35)
            have pre47 : ∀ t, Steps p.tables e below (T8.setTop (mkF m 220 #[.val (.int p1), .val (.int p2), .val (.long q3), .second, .val (.int p4), .val (.int p5), .val (.int n), .val (.int st), .val (.ref b1), .val (.int wh), .unset] [(.int (191 : Int32)), (.int ((atv cT (st + (2 : Int32))) &&& (255 : Int32)))])) t → Steps p.tables e below (s₁.setTop (entryFrame m #[(.int p1), (.int p2), (.long q3), (.int p4), (.int p5)] maxLocals)) t := fun t k => pre44 t (by
              show Steps p.tables e below (T8.setTop (mkF m 203 #[.val (.int p1), .val (.int p2), .val (.long q3), .second, .val (.int p4), .val (.int p5), .val (.int n), .val (.int st), .val (.ref b1), .val (.int wh), .unset] [(.int (187 : Int32)), (.int ((atv cT (st + (1 : Int32))) &&& (255 : Int32)))])) _
              refine XS.icmpNo X8.here hx rfl (hb hby at_203) rfl (teq hc203_43).2 ?_
              show Steps p.tables e below (T8.setTop (mkF m 206 #[.val (.int p1), .val (.int p2), .val (.long q3), .second, .val (.int p4), .val (.int p5), .val (.int n), .val (.int st), .val (.ref b1), .val (.int wh), .unset] [])) _
              refine XS.aload X8.here hx rfl (hb hby at_206) rfl rfl ?_
              show Steps p.tables e below (T8.setTop (mkF m 208 #[.val (.int p1), .val (.int p2), .val (.long q3), .second, .val (.int p4), .val (.int p5), .val (.int n), .val (.int st), .val (.ref b1), .val (.int wh), .unset] [(.ref b1)])) _
              refine XS.iload X8.here hx rfl (hb hby at_208) rfl ?_
              show Steps p.tables e below (T8.setTop (mkF m 210 #[.val (.int p1), .val (.int p2), .val (.long q3), .second, .val (.int p4), .val (.int p5), .val (.int n), .val (.int st), .val (.ref b1), .val (.int wh), .unset] [(.int st), (.ref b1)])) _
              refine XS.iconst X8.here hx rfl (hb hby at_210) ?_
              show Steps p.tables e below (T8.setTop (mkF m 211 #[.val (.int p1), .val (.int p2), .val (.long q3), .second, .val (.int p4), .val (.int p5), .val (.int n), .val (.int st), .val (.ref b1), .val (.int wh), .unset] [(.int (2 : Int32)), (.int st), (.ref b1)])) _
              refine XS.iadd X8.here hx rfl (hb hby at_211) rfl ?_
              show Steps p.tables e below (T8.setTop (mkF m 212 #[.val (.int p1), .val (.int p2), .val (.long q3), .second, .val (.int p4), .val (.int p5), .val (.int n), .val (.int st), .val (.ref b1), .val (.int wh), .unset] [(.int (st + (2 : Int32))), (.ref b1)])) _
              refine X8.baloadBytes hx (j := (st + (2 : Int32))) (v := .int (atv cT (st + (2 : Int32)))) (by rw [(rfl : T8.heap = T8.heap)]; exact hTT.1.1) (State.isArrayOf_alike hZ.alike hTT.1.2.1) hTT.1.2.2 hin2_45 (hTT.2.2.2 _ hin2_45).1 (g := (mkF m 212 #[.val (.int p1), .val (.int p2), .val (.long q3), .second, .val (.int p4), .val (.int p5), .val (.int n), .val (.int st), .val (.ref b1), .val (.int wh), .unset] [(.int (st + (2 : Int32))), (.ref b1)])) rfl rfl (hb hby at_212) _ ?_
              show Steps p.tables e below (T8.setTop (mkF m 213 #[.val (.int p1), .val (.int p2), .val (.long q3), .second, .val (.int p4), .val (.int p5), .val (.int n), .val (.int st), .val (.ref b1), .val (.int wh), .unset] [(.int (atv cT (st + (2 : Int32))))])) _
              refine XS.sipush X8.here hx rfl (hb hby at_213) ?_
              show Steps p.tables e below (T8.setTop (mkF m 216 #[.val (.int p1), .val (.int p2), .val (.long q3), .second, .val (.int p4), .val (.int p5), .val (.int n), .val (.int st), .val (.ref b1), .val (.int wh), .unset] [(.int (255 : Int32)), (.int (atv cT (st + (2 : Int32))))])) _
              refine XS.iand X8.here hx rfl (hb hby at_216) rfl ?_
              show Steps p.tables e below (T8.setTop (mkF m 217 #[.val (.int p1), .val (.int p2), .val (.long q3), .second, .val (.int p4), .val (.int p5), .val (.int n), .val (.int st), .val (.ref b1), .val (.int wh), .unset] [(.int ((atv cT (st + (2 : Int32))) &&& (255 : Int32)))])) _
              refine XS.sipush X8.here hx rfl (hb hby at_217) ?_
              exact k)
            by_cases hc220_46 : ((atv cT (st + (2 : Int32))) &&& (255 : Int32)) = (191 : Int32)
            · obtain ⟨v48, _, ⟨T48, L48, k48, n48⟩, -, X48, ⟨Lc48, hQ48, l48, y48, z48⟩, st48⟩ := Jvm.LawKit.callS X8 hx (y := (⟨"com/example/falkirk/falkirk/loader/Utf8", "startsWithByteOrderMark", "([BI)Z"⟩ : MethodName)) hown (mvT hZ (hw _ (ow 5 rfl))) (mvT hZ (hw _ (ow 6 rfl))) (mvT hZ (hw _ (ow 7 rfl))) (mvT hZ (hw _ (ow 8 rfl))) (by decide) (backOf (W := 0) (rm_sw l Z a0 hw [] b1 st T8.heap n0 w_BYTE_ORDER_MARK (own_K_ext EX8 hK) cT n hTT hc0 hc1 hc2) hZ (hw _ (ow 8 rfl)) (hw _ (ow 7 rfl)) (by decide) (by decide)) (g := (mkF m 234 #[.val (.int p1), .val (.int p2), .val (.long q3), .second, .val (.int p4), .val (.int p5), .val (.int n), .val (.int st), .val (.ref b1), .val (.int wh), .val (.int (1 : Int32))] [(.int st), (.ref b1)])) rfl (by rw [hml]; rfl) (argsL := [(.ref b1), (.int st)]) (rest := []) (lenOf pd_1 rfl) rfl (Nat.le_of_eq rfl) (hb hby at_234) (fun _ _ => ⟨rfl, (rfl : T8.heap = T8.heap), (by decide : 1 + 0 ≤ _), (by decide : 7 + 0 ≤ _)⟩)
              dsimp only [Pt.U, Pt.locs, Pt.cells, Pt.slots] at X48 l48 y48 z48 st48 hQ48
              subst l48 y48 z48
              obtain ⟨hv48, Nq48, e48⟩ := hQ48
              obtain rfl : v48 = some (.int (1 : Int32)) := hv48.trans (congrArg some (congrArg Value.int ((if_neg (mt hlen.mp hc171_35)).trans ((if_pos ((own_at0 cT st (-17 : Int32) (own_byte _ _ 239 (by decide) (by decide) (by decide) (hTT.2.2.2 _ hin0_39).2 (-17 : Int32) (by decide))).mpr hc186_40)).trans ((if_pos ((own_byte _ _ 187 (by decide) (by decide) (by decide) (hTT.2.2.2 _ hin1_42).2 (-69 : Int32) (by decide)).mpr hc203_43)).trans (if_pos ((own_byte _ _ 191 (by decide) (by decide) (by decide) (hTT.2.2.2 _ hin2_45).2 (-65 : Int32) (by decide)).mpr hc220_46)))))))
              have N48 := Fr.app N8 Nq48
              have pre49 : ∀ t, Steps p.tables e below (T48.setTop (mkF m 247 #[.val (.int p1), .val (.int p2), .val (.long q3), .second, .val (.int p4), .val (.int p5), .val (.int n), .val (.int st), .val (.ref b1), .val (.int wh), .val (.int (1 : Int32))] [(.int (1 : Int32))])) t → Steps p.tables e below (s₁.setTop (entryFrame m #[(.int p1), (.int p2), (.long q3), (.int p4), (.int p5)] maxLocals)) t := fun t k => pre47 t (by
                show Steps p.tables e below (T8.setTop (mkF m 220 #[.val (.int p1), .val (.int p2), .val (.long q3), .second, .val (.int p4), .val (.int p5), .val (.int n), .val (.int st), .val (.ref b1), .val (.int wh), .unset] [(.int (191 : Int32)), (.int ((atv cT (st + (2 : Int32))) &&& (255 : Int32)))])) _
                refine XS.icmpNo X8.here hx rfl (hb hby at_220) rfl (teq hc220_46).2 ?_
                show Steps p.tables e below (T8.setTop (mkF m 223 #[.val (.int p1), .val (.int p2), .val (.long q3), .second, .val (.int p4), .val (.int p5), .val (.int n), .val (.int st), .val (.ref b1), .val (.int wh), .unset] [])) _
                refine XS.iconst X8.here hx rfl (hb hby at_223) ?_
                show Steps p.tables e below (T8.setTop (mkF m 224 #[.val (.int p1), .val (.int p2), .val (.long q3), .second, .val (.int p4), .val (.int p5), .val (.int n), .val (.int st), .val (.ref b1), .val (.int wh), .unset] [(.int (1 : Int32))])) _
                refine XS.goto X8.here hx rfl (pc0 := 224) (pc' := 228) rfl (hb hby at_224) (by decide) (by decide) ?_
                show Steps p.tables e below (T8.setTop (mkF m 228 #[.val (.int p1), .val (.int p2), .val (.long q3), .second, .val (.int p4), .val (.int p5), .val (.int n), .val (.int st), .val (.ref b1), .val (.int wh), .unset] [(.int (1 : Int32))])) _
                refine XS.istore X8.here hx rfl (hb hby at_228) rfl (l' := #[.val (.int p1), .val (.int p2), .val (.long q3), .second, .val (.int p4), .val (.int p5), .val (.int n), .val (.int st), .val (.ref b1), .val (.int wh), .val (.int (1 : Int32))]) rfl ?_
                show Steps p.tables e below (T8.setTop (mkF m 230 #[.val (.int p1), .val (.int p2), .val (.long q3), .second, .val (.int p4), .val (.int p5), .val (.int n), .val (.int st), .val (.ref b1), .val (.int wh), .val (.int (1 : Int32))] [])) _
                refine XS.aload X8.here hx rfl (hb hby at_230) rfl rfl ?_
                show Steps p.tables e below (T8.setTop (mkF m 232 #[.val (.int p1), .val (.int p2), .val (.long q3), .second, .val (.int p4), .val (.int p5), .val (.int n), .val (.int st), .val (.ref b1), .val (.int wh), .val (.int (1 : Int32))] [(.ref b1)])) _
                refine XS.iload X8.here hx rfl (hb hby at_232) rfl ?_
                show Steps p.tables e below (T8.setTop (mkF m 234 #[.val (.int p1), .val (.int p2), .val (.long q3), .second, .val (.int p4), .val (.int p5), .val (.int n), .val (.int st), .val (.ref b1), .val (.int wh), .val (.int (1 : Int32))] [(.int st), (.ref b1)])) _
                refine st48 _ ?_
                show Steps p.tables e below (T48.setTop (mkF m 237 #[.val (.int p1), .val (.int p2), .val (.long q3), .second, .val (.int p4), .val (.int p5), .val (.int n), .val (.int st), .val (.ref b1), .val (.int wh), .val (.int (1 : Int32))] [(.int (1 : Int32))])) _
                refine XS.iload X48.here hx rfl (hb hby at_237) rfl ?_
                show Steps p.tables e below (T48.setTop (mkF m 239 #[.val (.int p1), .val (.int p2), .val (.long q3), .second, .val (.int p4), .val (.int p5), .val (.int n), .val (.int st), .val (.ref b1), .val (.int wh), .val (.int (1 : Int32))] [(.int (1 : Int32)), (.int (1 : Int32))])) _
                refine XS.icmpNo X48.here hx rfl (hb hby at_239) rfl (teq (by decide)).2 ?_
                show Steps p.tables e below (T48.setTop (mkF m 242 #[.val (.int p1), .val (.int p2), .val (.long q3), .second, .val (.int p4), .val (.int p5), .val (.int n), .val (.int st), .val (.ref b1), .val (.int wh), .val (.int (1 : Int32))] [])) _
                refine XS.iconst X48.here hx rfl (hb hby at_242) ?_
                show Steps p.tables e below (T48.setTop (mkF m 243 #[.val (.int p1), .val (.int p2), .val (.long q3), .second, .val (.int p4), .val (.int p5), .val (.int n), .val (.int st), .val (.ref b1), .val (.int wh), .val (.int (1 : Int32))] [(.int (1 : Int32))])) _
                refine XS.goto X48.here hx rfl (pc0 := 243) (pc' := 247) rfl (hb hby at_243) (by decide) (by decide) ?_
                exact k)
              obtain ⟨fs, hr, hrun, hended, hW, hsame⟩ := X48.leave (v := some (.int (1 : Int32))) (fun h => by rw [Bd.returns] at h; cases h)
              refine ⟨_, _, pre49 _ ?_, hrun, hended, _, _, rfl, ?_, ⟨_, rfl⟩, hW, hsame.mono (by decide) (by decide)⟩
              · show Steps p.tables e below (T48.setTop (mkF m 247 #[.val (.int p1), .val (.int p2), .val (.long q3), .second, .val (.int p4), .val (.int p5), .val (.int n), .val (.int st), .val (.ref b1), .val (.int wh), .val (.int (1 : Int32))] [(.int (1 : Int32))])) _
                exact retN X48 hx (t := .boolean) Bd.returns (by simp) (hb hby at_247) hr
              · exact ⟨rfl, N48, trivial⟩
            · obtain ⟨v50, _, ⟨T50, L50, k50, n50⟩, -, X50, ⟨Lc50, hQ50, l50, y50, z50⟩, st50⟩ := Jvm.LawKit.callS X8 hx (y := (⟨"com/example/falkirk/falkirk/loader/Utf8", "startsWithByteOrderMark", "([BI)Z"⟩ : MethodName)) hown (mvT hZ (hw _ (ow 5 rfl))) (mvT hZ (hw _ (ow 6 rfl))) (mvT hZ (hw _ (ow 7 rfl))) (mvT hZ (hw _ (ow 8 rfl))) (by decide) (backOf (W := 0) (rm_sw l Z a0 hw [] b1 st T8.heap n0 w_BYTE_ORDER_MARK (own_K_ext EX8 hK) cT n hTT hc0 hc1 hc2) hZ (hw _ (ow 8 rfl)) (hw _ (ow 7 rfl)) (by decide) (by decide)) (g := (mkF m 234 #[.val (.int p1), .val (.int p2), .val (.long q3), .second, .val (.int p4), .val (.int p5), .val (.int n), .val (.int st), .val (.ref b1), .val (.int wh), .val (.int (0 : Int32))] [(.int st), (.ref b1)])) rfl (by rw [hml]; rfl) (argsL := [(.ref b1), (.int st)]) (rest := []) (lenOf pd_1 rfl) rfl (Nat.le_of_eq rfl) (hb hby at_234) (fun _ _ => ⟨rfl, (rfl : T8.heap = T8.heap), (by decide : 1 + 0 ≤ _), (by decide : 7 + 0 ≤ _)⟩)
              dsimp only [Pt.U, Pt.locs, Pt.cells, Pt.slots] at X50 l50 y50 z50 st50 hQ50
              subst l50 y50 z50
              obtain ⟨hv50, Nq50, e50⟩ := hQ50
              obtain rfl : v50 = some (.int (0 : Int32)) := hv50.trans (congrArg some (congrArg Value.int ((if_neg (mt hlen.mp hc171_35)).trans ((if_pos ((own_at0 cT st (-17 : Int32) (own_byte _ _ 239 (by decide) (by decide) (by decide) (hTT.2.2.2 _ hin0_39).2 (-17 : Int32) (by decide))).mpr hc186_40)).trans ((if_pos ((own_byte _ _ 187 (by decide) (by decide) (by decide) (hTT.2.2.2 _ hin1_42).2 (-69 : Int32) (by decide)).mpr hc203_43)).trans (if_neg (mt (own_byte _ _ 191 (by decide) (by decide) (by decide) (hTT.2.2.2 _ hin2_45).2 (-65 : Int32) (by decide)).mp hc220_46)))))))
              have N50 := Fr.app N8 Nq50
              have pre51 : ∀ t, Steps p.tables e below (T50.setTop (mkF m 247 #[.val (.int p1), .val (.int p2), .val (.long q3), .second, .val (.int p4), .val (.int p5), .val (.int n), .val (.int st), .val (.ref b1), .val (.int wh), .val (.int (0 : Int32))] [(.int (1 : Int32))])) t → Steps p.tables e below (s₁.setTop (entryFrame m #[(.int p1), (.int p2), (.long q3), (.int p4), (.int p5)] maxLocals)) t := fun t k => pre47 t (by
                show Steps p.tables e below (T8.setTop (mkF m 220 #[.val (.int p1), .val (.int p2), .val (.long q3), .second, .val (.int p4), .val (.int p5), .val (.int n), .val (.int st), .val (.ref b1), .val (.int wh), .unset] [(.int (191 : Int32)), (.int ((atv cT (st + (2 : Int32))) &&& (255 : Int32)))])) _
                refine XS.icmpYes X8.here hx rfl (pc0 := 220) (pc' := 227) rfl (hb hby at_220) rfl (feq hc220_46).2 (by decide) (by decide) ?_
                show Steps p.tables e below (T8.setTop (mkF m 227 #[.val (.int p1), .val (.int p2), .val (.long q3), .second, .val (.int p4), .val (.int p5), .val (.int n), .val (.int st), .val (.ref b1), .val (.int wh), .unset] [])) _
                refine XS.iconst X8.here hx rfl (hb hby at_227) ?_
                show Steps p.tables e below (T8.setTop (mkF m 228 #[.val (.int p1), .val (.int p2), .val (.long q3), .second, .val (.int p4), .val (.int p5), .val (.int n), .val (.int st), .val (.ref b1), .val (.int wh), .unset] [(.int (0 : Int32))])) _
                refine XS.istore X8.here hx rfl (hb hby at_228) rfl (l' := #[.val (.int p1), .val (.int p2), .val (.long q3), .second, .val (.int p4), .val (.int p5), .val (.int n), .val (.int st), .val (.ref b1), .val (.int wh), .val (.int (0 : Int32))]) rfl ?_
                show Steps p.tables e below (T8.setTop (mkF m 230 #[.val (.int p1), .val (.int p2), .val (.long q3), .second, .val (.int p4), .val (.int p5), .val (.int n), .val (.int st), .val (.ref b1), .val (.int wh), .val (.int (0 : Int32))] [])) _
                refine XS.aload X8.here hx rfl (hb hby at_230) rfl rfl ?_
                show Steps p.tables e below (T8.setTop (mkF m 232 #[.val (.int p1), .val (.int p2), .val (.long q3), .second, .val (.int p4), .val (.int p5), .val (.int n), .val (.int st), .val (.ref b1), .val (.int wh), .val (.int (0 : Int32))] [(.ref b1)])) _
                refine XS.iload X8.here hx rfl (hb hby at_232) rfl ?_
                show Steps p.tables e below (T8.setTop (mkF m 234 #[.val (.int p1), .val (.int p2), .val (.long q3), .second, .val (.int p4), .val (.int p5), .val (.int n), .val (.int st), .val (.ref b1), .val (.int wh), .val (.int (0 : Int32))] [(.int st), (.ref b1)])) _
                refine st50 _ ?_
                show Steps p.tables e below (T50.setTop (mkF m 237 #[.val (.int p1), .val (.int p2), .val (.long q3), .second, .val (.int p4), .val (.int p5), .val (.int n), .val (.int st), .val (.ref b1), .val (.int wh), .val (.int (0 : Int32))] [(.int (0 : Int32))])) _
                refine XS.iload X50.here hx rfl (hb hby at_237) rfl ?_
                show Steps p.tables e below (T50.setTop (mkF m 239 #[.val (.int p1), .val (.int p2), .val (.long q3), .second, .val (.int p4), .val (.int p5), .val (.int n), .val (.int st), .val (.ref b1), .val (.int wh), .val (.int (0 : Int32))] [(.int (0 : Int32)), (.int (0 : Int32))])) _
                refine XS.icmpNo X50.here hx rfl (hb hby at_239) rfl (teq (by decide)).2 ?_
                show Steps p.tables e below (T50.setTop (mkF m 242 #[.val (.int p1), .val (.int p2), .val (.long q3), .second, .val (.int p4), .val (.int p5), .val (.int n), .val (.int st), .val (.ref b1), .val (.int wh), .val (.int (0 : Int32))] [])) _
                refine XS.iconst X50.here hx rfl (hb hby at_242) ?_
                show Steps p.tables e below (T50.setTop (mkF m 243 #[.val (.int p1), .val (.int p2), .val (.long q3), .second, .val (.int p4), .val (.int p5), .val (.int n), .val (.int st), .val (.ref b1), .val (.int wh), .val (.int (0 : Int32))] [(.int (1 : Int32))])) _
                refine XS.goto X50.here hx rfl (pc0 := 243) (pc' := 247) rfl (hb hby at_243) (by decide) (by decide) ?_
                exact k)
              obtain ⟨fs, hr, hrun, hended, hW, hsame⟩ := X50.leave (v := some (.int (1 : Int32))) (fun h => by rw [Bd.returns] at h; cases h)
              refine ⟨_, _, pre51 _ ?_, hrun, hended, _, _, rfl, ?_, ⟨_, rfl⟩, hW, hsame.mono (by decide) (by decide)⟩
              · show Steps p.tables e below (T50.setTop (mkF m 247 #[.val (.int p1), .val (.int p2), .val (.long q3), .second, .val (.int p4), .val (.int p5), .val (.int n), .val (.int st), .val (.ref b1), .val (.int wh), .val (.int (0 : Int32))] [(.int (1 : Int32))])) _
                exact retN X50 hx (t := .boolean) Bd.returns (by simp) (hb hby at_247) hr
              · exact ⟨rfl, N50, trivial⟩
          · obtain ⟨v52, _, ⟨T52, L52, k52, n52⟩, -, X52, ⟨Lc52, hQ52, l52, y52, z52⟩, st52⟩ := Jvm.LawKit.callS X8 hx (y := (⟨"com/example/falkirk/falkirk/loader/Utf8", "startsWithByteOrderMark", "([BI)Z"⟩ : MethodName)) hown (mvT hZ (hw _ (ow 5 rfl))) (mvT hZ (hw _ (ow 6 rfl))) (mvT hZ (hw _ (ow 7 rfl))) (mvT hZ (hw _ (ow 8 rfl))) (by decide) (backOf (W := 0) (rm_sw l Z a0 hw [] b1 st T8.heap n0 w_BYTE_ORDER_MARK (own_K_ext EX8 hK) cT n hTT hc0 hc1 hc2) hZ (hw _ (ow 8 rfl)) (hw _ (ow 7 rfl)) (by decide) (by decide)) (g := (mkF m 234 #[.val (.int p1), .val (.int p2), .val (.long q3), .second, .val (.int p4), .val (.int p5), .val (.int n), .val (.int st), .val (.ref b1), .val (.int wh), .val (.int (0 : Int32))] [(.int st), (.ref b1)])) rfl (by rw [hml]; rfl) (argsL := [(.ref b1), (.int st)]) (rest := []) (lenOf pd_1 rfl) rfl (Nat.le_of_eq rfl) (hb hby at_234) (fun _ _ => ⟨rfl, (rfl : T8.heap = T8.heap), (by decide : 1 + 0 ≤ _), (by decide : 7 + 0 ≤ _)⟩)
            dsimp only [Pt.U, Pt.locs, Pt.cells, Pt.slots] at X52 l52 y52 z52 st52 hQ52
            subst l52 y52 z52
            obtain ⟨hv52, Nq52, e52⟩ := hQ52
            obtain rfl : v52 = some (.int (0 : Int32)) := hv52.trans (congrArg some (congrArg Value.int ((if_neg (mt hlen.mp hc171_35)).trans ((if_pos ((own_at0 cT st (-17 : Int32) (own_byte _ _ 239 (by decide) (by decide) (by decide) (hTT.2.2.2 _ hin0_39).2 (-17 : Int32) (by decide))).mpr hc186_40)).trans (if_neg (mt (own_byte _ _ 187 (by decide) (by decide) (by decide) (hTT.2.2.2 _ hin1_42).2 (-69 : Int32) (by decide)).mp hc203_43))))))
            have N52 := Fr.app N8 Nq52
            have pre53 : ∀ t, Steps p.tables e below (T52.setTop (mkF m 247 #[.val (.int p1), .val (.int p2), .val (.long q3), .second, .val (.int p4), .val (.int p5), .val (.int n), .val (.int st), .val (.ref b1), .val (.int wh), .val (.int (0 : Int32))] [(.int (1 : Int32))])) t → Steps p.tables e below (s₁.setTop (entryFrame m #[(.int p1), (.int p2), (.long q3), (.int p4), (.int p5)] maxLocals)) t := fun t k => pre44 t (by
              show Steps p.tables e below (T8.setTop (mkF m 203 #[.val (.int p1), .val (.int p2), .val (.long q3), .second, .val (.int p4), .val (.int p5), .val (.int n), .val (.int st), .val (.ref b1), .val (.int wh), .unset] [(.int (187 : Int32)), (.int ((atv cT (st + (1 : Int32))) &&& (255 : Int32)))])) _
              refine XS.icmpYes X8.here hx rfl (pc0 := 203) (pc' := 227) rfl (hb hby at_203) rfl (feq hc203_43).2 (by decide) (by decide) ?_
              show Steps p.tables e below (T8.setTop (mkF m 227 #[.val (.int p1), .val (.int p2), .val (.long q3), .second, .val (.int p4), .val (.int p5), .val (.int n), .val (.int st), .val (.ref b1), .val (.int wh), .unset] [])) _
              refine XS.iconst X8.here hx rfl (hb hby at_227) ?_
              show Steps p.tables e below (T8.setTop (mkF m 228 #[.val (.int p1), .val (.int p2), .val (.long q3), .second, .val (.int p4), .val (.int p5), .val (.int n), .val (.int st), .val (.ref b1), .val (.int wh), .unset] [(.int (0 : Int32))])) _
              refine XS.istore X8.here hx rfl (hb hby at_228) rfl (l' := #[.val (.int p1), .val (.int p2), .val (.long q3), .second, .val (.int p4), .val (.int p5), .val (.int n), .val (.int st), .val (.ref b1), .val (.int wh), .val (.int (0 : Int32))]) rfl ?_
              show Steps p.tables e below (T8.setTop (mkF m 230 #[.val (.int p1), .val (.int p2), .val (.long q3), .second, .val (.int p4), .val (.int p5), .val (.int n), .val (.int st), .val (.ref b1), .val (.int wh), .val (.int (0 : Int32))] [])) _
              refine XS.aload X8.here hx rfl (hb hby at_230) rfl rfl ?_
              show Steps p.tables e below (T8.setTop (mkF m 232 #[.val (.int p1), .val (.int p2), .val (.long q3), .second, .val (.int p4), .val (.int p5), .val (.int n), .val (.int st), .val (.ref b1), .val (.int wh), .val (.int (0 : Int32))] [(.ref b1)])) _
              refine XS.iload X8.here hx rfl (hb hby at_232) rfl ?_
              show Steps p.tables e below (T8.setTop (mkF m 234 #[.val (.int p1), .val (.int p2), .val (.long q3), .second, .val (.int p4), .val (.int p5), .val (.int n), .val (.int st), .val (.ref b1), .val (.int wh), .val (.int (0 : Int32))] [(.int st), (.ref b1)])) _
              refine st52 _ ?_
              show Steps p.tables e below (T52.setTop (mkF m 237 #[.val (.int p1), .val (.int p2), .val (.long q3), .second, .val (.int p4), .val (.int p5), .val (.int n), .val (.int st), .val (.ref b1), .val (.int wh), .val (.int (0 : Int32))] [(.int (0 : Int32))])) _
              refine XS.iload X52.here hx rfl (hb hby at_237) rfl ?_
              show Steps p.tables e below (T52.setTop (mkF m 239 #[.val (.int p1), .val (.int p2), .val (.long q3), .second, .val (.int p4), .val (.int p5), .val (.int n), .val (.int st), .val (.ref b1), .val (.int wh), .val (.int (0 : Int32))] [(.int (0 : Int32)), (.int (0 : Int32))])) _
              refine XS.icmpNo X52.here hx rfl (hb hby at_239) rfl (teq (by decide)).2 ?_
              show Steps p.tables e below (T52.setTop (mkF m 242 #[.val (.int p1), .val (.int p2), .val (.long q3), .second, .val (.int p4), .val (.int p5), .val (.int n), .val (.int st), .val (.ref b1), .val (.int wh), .val (.int (0 : Int32))] [])) _
              refine XS.iconst X52.here hx rfl (hb hby at_242) ?_
              show Steps p.tables e below (T52.setTop (mkF m 243 #[.val (.int p1), .val (.int p2), .val (.long q3), .second, .val (.int p4), .val (.int p5), .val (.int n), .val (.int st), .val (.ref b1), .val (.int wh), .val (.int (0 : Int32))] [(.int (1 : Int32))])) _
              refine XS.goto X52.here hx rfl (pc0 := 243) (pc' := 247) rfl (hb hby at_243) (by decide) (by decide) ?_
              exact k)
            obtain ⟨fs, hr, hrun, hended, hW, hsame⟩ := X52.leave (v := some (.int (1 : Int32))) (fun h => by rw [Bd.returns] at h; cases h)
            refine ⟨_, _, pre53 _ ?_, hrun, hended, _, _, rfl, ?_, ⟨_, rfl⟩, hW, hsame.mono (by decide) (by decide)⟩
            · show Steps p.tables e below (T52.setTop (mkF m 247 #[.val (.int p1), .val (.int p2), .val (.long q3), .second, .val (.int p4), .val (.int p5), .val (.int n), .val (.int st), .val (.ref b1), .val (.int wh), .val (.int (0 : Int32))] [(.int (1 : Int32))])) _
              exact retN X52 hx (t := .boolean) Bd.returns (by simp) (hb hby at_247) hr
            · exact ⟨rfl, N52, trivial⟩
        · obtain ⟨v54, _, ⟨T54, L54, k54, n54⟩, -, X54, ⟨Lc54, hQ54, l54, y54, z54⟩, st54⟩ := Jvm.LawKit.callS X8 hx (y := (⟨"com/example/falkirk/falkirk/loader/Utf8", "startsWithByteOrderMark", "([BI)Z"⟩ : MethodName)) hown (mvT hZ (hw _ (ow 5 rfl))) (mvT hZ (hw _ (ow 6 rfl))) (mvT hZ (hw _ (ow 7 rfl))) (mvT hZ (hw _ (ow 8 rfl))) (by decide) (backOf (W := 0) (rm_sw l Z a0 hw [] b1 st T8.heap n0 w_BYTE_ORDER_MARK (own_K_ext EX8 hK) cT n hTT hc0 hc1 hc2) hZ (hw _ (ow 8 rfl)) (hw _ (ow 7 rfl)) (by decide) (by decide)) (g := (mkF m 234 #[.val (.int p1), .val (.int p2), .val (.long q3), .second, .val (.int p4), .val (.int p5), .val (.int n), .val (.int st), .val (.ref b1), .val (.int wh), .val (.int (0 : Int32))] [(.int st), (.ref b1)])) rfl (by rw [hml]; rfl) (argsL := [(.ref b1), (.int st)]) (rest := []) (lenOf pd_1 rfl) rfl (Nat.le_of_eq rfl) (hb hby at_234) (fun _ _ => ⟨rfl, (rfl : T8.heap = T8.heap), (by decide : 1 + 0 ≤ _), (by decide : 7 + 0 ≤ _)⟩)
          dsimp only [Pt.U, Pt.locs, Pt.cells, Pt.slots] at X54 l54 y54 z54 st54 hQ54
          subst l54 y54 z54
          obtain ⟨hv54, Nq54, e54⟩ := hQ54
          obtain rfl : v54 = some (.int (0 : Int32)) := hv54.trans (congrArg some (congrArg Value.int ((if_neg (mt hlen.mp hc171_35)).trans (if_neg (mt (own_at0 cT st (-17 : Int32) (own_byte _ _ 239 (by decide) (by decide) (by decide) (hTT.2.2.2 _ hin0_39).2 (-17 : Int32) (by decide))).mp hc186_40)))))
          have N54 := Fr.app N8 Nq54
          have pre55 : ∀ t, Steps p.tables e below (T54.setTop (mkF m 247 #[.val (.int p1), .val (.int p2), .val (.long q3), .second, .val (.int p4), .val (.int p5), .val (.int n), .val (.int st), .val (.ref b1), .val (.int wh), .val (.int (0 : Int32))] [(.int (1 : Int32))])) t → Steps p.tables e below (s₁.setTop (entryFrame m #[(.int p1), (.int p2), (.long q3), (.int p4), (.int p5)] maxLocals)) t := fun t k => pre41 t (by
            show Steps p.tables e below (T8.setTop (mkF m 186 #[.val (.int p1), .val (.int p2), .val (.long q3), .second, .val (.int p4), .val (.int p5), .val (.int n), .val (.int st), .val (.ref b1), .val (.int wh), .unset] [(.int (239 : Int32)), (.int ((atv cT st) &&& (255 : Int32)))])) _
            refine XS.icmpYes X8.here hx rfl (pc0 := 186) (pc' := 227) rfl (hb hby at_186) rfl (feq hc186_40).2 (by decide) (by decide) ?_
            show Steps p.tables e below (T8.setTop (mkF m 227 #[.val (.int p1), .val (.int p2), .val (.long q3), .second, .val (.int p4), .val (.int p5), .val (.int n), .val (.int st), .val (.ref b1), .val (.int wh), .unset] [])) _
            refine XS.iconst X8.here hx rfl (hb hby at_227) ?_
            show Steps p.tables e below (T8.setTop (mkF m 228 #[.val (.int p1), .val (.int p2), .val (.long q3), .second, .val (.int p4), .val (.int p5), .val (.int n), .val (.int st), .val (.ref b1), .val (.int wh), .unset] [(.int (0 : Int32))])) _
            refine XS.istore X8.here hx rfl (hb hby at_228) rfl (l' := #[.val (.int p1), .val (.int p2), .val (.long q3), .second, .val (.int p4), .val (.int p5), .val (.int n), .val (.int st), .val (.ref b1), .val (.int wh), .val (.int (0 : Int32))]) rfl ?_
            show Steps p.tables e below (T8.setTop (mkF m 230 #[.val (.int p1), .val (.int p2), .val (.long q3), .second, .val (.int p4), .val (.int p5), .val (.int n), .val (.int st), .val (.ref b1), .val (.int wh), .val (.int (0 : Int32))] [])) _
            refine XS.aload X8.here hx rfl (hb hby at_230) rfl rfl ?_
            show Steps p.tables e below (T8.setTop (mkF m 232 #[.val (.int p1), .val (.int p2), .val (.long q3), .second, .val (.int p4), .val (.int p5), .val (.int n), .val (.int st), .val (.ref b1), .val (.int wh), .val (.int (0 : Int32))] [(.ref b1)])) _
            refine XS.iload X8.here hx rfl (hb hby at_232) rfl ?_
            show Steps p.tables e below (T8.setTop (mkF m 234 #[.val (.int p1), .val (.int p2), .val (.long q3), .second, .val (.int p4), .val (.int p5), .val (.int n), .val (.int st), .val (.ref b1), .val (.int wh), .val (.int (0 : Int32))] [(.int st), (.ref b1)])) _
            refine st54 _ ?_
            show Steps p.tables e below (T54.setTop (mkF m 237 #[.val (.int p1), .val (.int p2), .val (.long q3), .second, .val (.int p4), .val (.int p5), .val (.int n), .val (.int st), .val (.ref b1), .val (.int wh), .val (.int (0 : Int32))] [(.int (0 : Int32))])) _
            refine XS.iload X54.here hx rfl (hb hby at_237) rfl ?_
            show Steps p.tables e below (T54.setTop (mkF m 239 #[.val (.int p1), .val (.int p2), .val (.long q3), .second, .val (.int p4), .val (.int p5), .val (.int n), .val (.int st), .val (.ref b1), .val (.int wh), .val (.int (0 : Int32))] [(.int (0 : Int32)), (.int (0 : Int32))])) _
            refine XS.icmpNo X54.here hx rfl (hb hby at_239) rfl (teq (by decide)).2 ?_
            show Steps p.tables e below (T54.setTop (mkF m 242 #[.val (.int p1), .val (.int p2), .val (.long q3), .second, .val (.int p4), .val (.int p5), .val (.int n), .val (.int st), .val (.ref b1), .val (.int wh), .val (.int (0 : Int32))] [])) _
            refine XS.iconst X54.here hx rfl (hb hby at_242) ?_
            show Steps p.tables e below (T54.setTop (mkF m 243 #[.val (.int p1), .val (.int p2), .val (.long q3), .second, .val (.int p4), .val (.int p5), .val (.int n), .val (.int st), .val (.ref b1), .val (.int wh), .val (.int (0 : Int32))] [(.int (1 : Int32))])) _
            refine XS.goto X54.here hx rfl (pc0 := 243) (pc' := 247) rfl (hb hby at_243) (by decide) (by decide) ?_
            exact k)
          obtain ⟨fs, hr, hrun, hended, hW, hsame⟩ := X54.leave (v := some (.int (1 : Int32))) (fun h => by rw [Bd.returns] at h; cases h)
          refine ⟨_, _, pre55 _ ?_, hrun, hended, _, _, rfl, ?_, ⟨_, rfl⟩, hW, hsame.mono (by decide) (by decide)⟩
          · show Steps p.tables e below (T54.setTop (mkF m 247 #[.val (.int p1), .val (.int p2), .val (.long q3), .second, .val (.int p4), .val (.int p5), .val (.int n), .val (.int st), .val (.ref b1), .val (.int wh), .val (.int (0 : Int32))] [(.int (1 : Int32))])) _
            exact retN X54 hx (t := .boolean) Bd.returns (by simp) (hb hby at_247) hr
          · exact ⟨rfl, N54, trivial⟩
  · obtain ⟨v56, _, ⟨T56, L56, k56, n56⟩, -, X56, ⟨Lc56, hQ56, l56, y56, z56⟩, st56⟩ := Jvm.LawKit.callS X8 hx (y := (⟨"com/example/falkirk/falkirk/loader/Utf8StartsWithByteOrderMarkPinLaw", "set", "([BIB)V"⟩ : MethodName)) hown (mvT hZ (hw _ (ow 1 rfl))) (mvT hZ (hw _ (ow 2 rfl))) (mvT hZ (hw _ (ow 3 rfl))) (mvT hZ (hw _ (ow 4 rfl))) (by decide) (backOf (W := 0) (rm_set l Z a0 hw [] b1 st (-17 : Int32) T8.heap n0 n Tq8 hst0 g_b1) hZ (hw _ (ow 4 rfl)) (hw _ (ow 3 rfl)) (by decide) (by decide)) (g := (mkF m 113 #[.val (.int p1), .val (.int p2), .val (.long q3), .second, .val (.int p4), .val (.int p5), .val (.int n), .val (.int st), .val (.ref b1), .unset, .unset] [(.int (-17 : Int32)), (.int st), (.ref b1)])) rfl (by rw [hml]; rfl) (argsL := [(.ref b1), (.int st), (.int (-17 : Int32))]) (rest := []) (lenOf pd_0 rfl) rfl (Nat.le_of_eq rfl) (hb hby at_113) (fun _ _ => ⟨rfl, (rfl : T8.heap = T8.heap), (by decide : 1 + 0 ≤ _), (by decide : 7 + 0 ≤ _)⟩)
    dsimp only [Pt.U, Pt.locs, Pt.cells, Pt.slots] at X56 l56 y56 z56 st56 hQ56
    subst l56 y56 z56
    obtain ⟨hv56, Nq56, Kq56, Tq56⟩ := hQ56
    obtain rfl : v56 = none := hv56
    have N56 := Fr.app N8 Nq56
    have EX56 : Ext h0 T56.heap := own_ext_keep EX8 Kq56 sz_b1
    obtain ⟨v57, _, ⟨T57, L57, k57, n57⟩, -, X57, ⟨Lc57, hQ57, l57, y57, z57⟩, st57⟩ := Jvm.LawKit.callS X56 hx (y := (⟨"com/example/falkirk/falkirk/loader/Utf8StartsWithByteOrderMarkPinLaw", "set", "([BIB)V"⟩ : MethodName)) hown (mvT hZ (hw _ (ow 1 rfl))) (mvT hZ (hw _ (ow 2 rfl))) (mvT hZ (hw _ (ow 3 rfl))) (mvT hZ (hw _ (ow 4 rfl))) (by decide) (backOf (W := 0) (rm_set l Z a0 hw [] b1 (st + (1 : Int32)) (-69 : Int32) T56.heap n0 n Tq56 hst1 g_b1) hZ (hw _ (ow 4 rfl)) (hw _ (ow 3 rfl)) (by decide) (by decide)) (g := (mkF m 124 #[.val (.int p1), .val (.int p2), .val (.long q3), .second, .val (.int p4), .val (.int p5), .val (.int n), .val (.int st), .val (.ref b1), .unset, .unset] [(.int (-69 : Int32)), (.int (st + (1 : Int32))), (.ref b1)])) rfl (by rw [hml]; rfl) (argsL := [(.ref b1), (.int (st + (1 : Int32))), (.int (-69 : Int32))]) (rest := []) (lenOf pd_0 rfl) rfl (Nat.le_of_eq rfl) (hb hby at_124) (fun _ _ => ⟨rfl, (rfl : T56.heap = T56.heap), (by decide : 1 + 0 ≤ _), (by decide : 7 + 0 ≤ _)⟩)
    dsimp only [Pt.U, Pt.locs, Pt.cells, Pt.slots] at X57 l57 y57 z57 st57 hQ57
    subst l57 y57 z57
    obtain ⟨hv57, Nq57, Kq57, Tq57⟩ := hQ57
    obtain rfl : v57 = none := hv57
    have N57 := Fr.app N56 Nq57
    have EX57 : Ext h0 T57.heap := own_ext_keep EX56 Kq57 sz_b1
    obtain ⟨v58, _, ⟨T58, L58, k58, n58⟩, -, X58, ⟨Lc58, hQ58, l58, y58, z58⟩, st58⟩ := Jvm.LawKit.callS X57 hx (y := (⟨"com/example/falkirk/falkirk/loader/Utf8StartsWithByteOrderMarkPinLaw", "set", "([BIB)V"⟩ : MethodName)) hown (mvT hZ (hw _ (ow 1 rfl))) (mvT hZ (hw _ (ow 2 rfl))) (mvT hZ (hw _ (ow 3 rfl))) (mvT hZ (hw _ (ow 4 rfl))) (by decide) (backOf (W := 0) (rm_set l Z a0 hw [] b1 (st + (2 : Int32)) (-65 : Int32) T57.heap n0 n Tq57 hst2 g_b1) hZ (hw _ (ow 4 rfl)) (hw _ (ow 3 rfl)) (by decide) (by decide)) (g := (mkF m 135 #[.val (.int p1), .val (.int p2), .val (.long q3), .second, .val (.int p4), .val (.int p5), .val (.int n), .val (.int st), .val (.ref b1), .unset, .unset] [(.int (-65 : Int32)), (.int (st + (2 : Int32))), (.ref b1)])) rfl (by rw [hml]; rfl) (argsL := [(.ref b1), (.int (st + (2 : Int32))), (.int (-65 : Int32))]) (rest := []) (lenOf pd_0 rfl) rfl (Nat.le_of_eq rfl) (hb hby at_135) (fun _ _ => ⟨rfl, (rfl : T57.heap = T57.heap), (by decide : 1 + 0 ≤ _), (by decide : 7 + 0 ≤ _)⟩)
    dsimp only [Pt.U, Pt.locs, Pt.cells, Pt.slots] at X58 l58 y58 z58 st58 hQ58
    subst l58 y58 z58
    obtain ⟨hv58, Nq58, Kq58, Tq58⟩ := hQ58
    obtain rfl : v58 = none := hv58
    have N58 := Fr.app N57 Nq58
    have EX58 : Ext h0 T58.heap := own_ext_keep EX57 Kq58 sz_b1
    have pre60 : ∀ t, Steps p.tables e below (T58.setTop (mkF m 149 #[.val (.int p1), .val (.int p2), .val (.long q3), .second, .val (.int p4), .val (.int p5), .val (.int n), .val (.int st), .val (.ref b1), .val (.int wh), .unset] [(.int (3 : Int32)), (.int wh)])) t → Steps p.tables e below (s₁.setTop (entryFrame m #[(.int p1), (.int p2), (.long q3), (.int p4), (.int p5)] maxLocals)) t := fun t k => pre10 t (by
      show Steps p.tables e below (T8.setTop (mkF m 104 #[.val (.int p1), .val (.int p2), .val (.long q3), .second, .val (.int p4), .val (.int p5), .val (.int n), .val (.int st), .val (.ref b1), .unset, .unset] [(.int (p4 &&& (1 : Int32)))])) _
      refine XS.ifNo X8.here hx rfl (hb hby at_104) rfl ((if0 _ _).trans (feq hc104_9).1) ?_
      show Steps p.tables e below (T8.setTop (mkF m 107 #[.val (.int p1), .val (.int p2), .val (.long q3), .second, .val (.int p4), .val (.int p5), .val (.int n), .val (.int st), .val (.ref b1), .unset, .unset] [])) _
      refine XS.aload X8.here hx rfl (hb hby at_107) rfl rfl ?_
      show Steps p.tables e below (T8.setTop (mkF m 109 #[.val (.int p1), .val (.int p2), .val (.long q3), .second, .val (.int p4), .val (.int p5), .val (.int n), .val (.int st), .val (.ref b1), .unset, .unset] [(.ref b1)])) _
      refine XS.iload X8.here hx rfl (hb hby at_109) rfl ?_
      show Steps p.tables e below (T8.setTop (mkF m 111 #[.val (.int p1), .val (.int p2), .val (.long q3), .second, .val (.int p4), .val (.int p5), .val (.int n), .val (.int st), .val (.ref b1), .unset, .unset] [(.int st), (.ref b1)])) _
      refine XS.bipush X8.here hx rfl (hb hby at_111) ?_
      show Steps p.tables e below (T8.setTop (mkF m 113 #[.val (.int p1), .val (.int p2), .val (.long q3), .second, .val (.int p4), .val (.int p5), .val (.int n), .val (.int st), .val (.ref b1), .unset, .unset] [(.int (-17 : Int32)), (.int st), (.ref b1)])) _
      refine st56 _ ?_
      show Steps p.tables e below (T56.setTop (mkF m 116 #[.val (.int p1), .val (.int p2), .val (.long q3), .second, .val (.int p4), .val (.int p5), .val (.int n), .val (.int st), .val (.ref b1), .unset, .unset] [])) _
      refine XS.aload X56.here hx rfl (hb hby at_116) rfl rfl ?_
      show Steps p.tables e below (T56.setTop (mkF m 118 #[.val (.int p1), .val (.int p2), .val (.long q3), .second, .val (.int p4), .val (.int p5), .val (.int n), .val (.int st), .val (.ref b1), .unset, .unset] [(.ref b1)])) _
      refine XS.iload X56.here hx rfl (hb hby at_118) rfl ?_
      show Steps p.tables e below (T56.setTop (mkF m 120 #[.val (.int p1), .val (.int p2), .val (.long q3), .second, .val (.int p4), .val (.int p5), .val (.int n), .val (.int st), .val (.ref b1), .unset, .unset] [(.int st), (.ref b1)])) _
      refine XS.iconst X56.here hx rfl (hb hby at_120) ?_
      show Steps p.tables e below (T56.setTop (mkF m 121 #[.val (.int p1), .val (.int p2), .val (.long q3), .second, .val (.int p4), .val (.int p5), .val (.int n), .val (.int st), .val (.ref b1), .unset, .unset] [(.int (1 : Int32)), (.int st), (.ref b1)])) _
      refine XS.iadd X56.here hx rfl (hb hby at_121) rfl ?_
      show Steps p.tables e below (T56.setTop (mkF m 122 #[.val (.int p1), .val (.int p2), .val (.long q3), .second, .val (.int p4), .val (.int p5), .val (.int n), .val (.int st), .val (.ref b1), .unset, .unset] [(.int (st + (1 : Int32))), (.ref b1)])) _
      refine XS.bipush X56.here hx rfl (hb hby at_122) ?_
      show Steps p.tables e below (T56.setTop (mkF m 124 #[.val (.int p1), .val (.int p2), .val (.long q3), .second, .val (.int p4), .val (.int p5), .val (.int n), .val (.int st), .val (.ref b1), .unset, .unset] [(.int (-69 : Int32)), (.int (st + (1 : Int32))), (.ref b1)])) _
      refine st57 _ ?_
      show Steps p.tables e below (T57.setTop (mkF m 127 #[.val (.int p1), .val (.int p2), .val (.long q3), .second, .val (.int p4), .val (.int p5), .val (.int n), .val (.int st), .val (.ref b1), .unset, .unset] [])) _
      refine XS.aload X57.here hx rfl (hb hby at_127) rfl rfl ?_
      show Steps p.tables e below (T57.setTop (mkF m 129 #[.val (.int p1), .val (.int p2), .val (.long q3), .second, .val (.int p4), .val (.int p5), .val (.int n), .val (.int st), .val (.ref b1), .unset, .unset] [(.ref b1)])) _
      refine XS.iload X57.here hx rfl (hb hby at_129) rfl ?_
      show Steps p.tables e below (T57.setTop (mkF m 131 #[.val (.int p1), .val (.int p2), .val (.long q3), .second, .val (.int p4), .val (.int p5), .val (.int n), .val (.int st), .val (.ref b1), .unset, .unset] [(.int st), (.ref b1)])) _
      refine XS.iconst X57.here hx rfl (hb hby at_131) ?_
      show Steps p.tables e below (T57.setTop (mkF m 132 #[.val (.int p1), .val (.int p2), .val (.long q3), .second, .val (.int p4), .val (.int p5), .val (.int n), .val (.int st), .val (.ref b1), .unset, .unset] [(.int (2 : Int32)), (.int st), (.ref b1)])) _
      refine XS.iadd X57.here hx rfl (hb hby at_132) rfl ?_
      show Steps p.tables e below (T57.setTop (mkF m 133 #[.val (.int p1), .val (.int p2), .val (.long q3), .second, .val (.int p4), .val (.int p5), .val (.int n), .val (.int st), .val (.ref b1), .unset, .unset] [(.int (st + (2 : Int32))), (.ref b1)])) _
      refine XS.bipush X57.here hx rfl (hb hby at_133) ?_
      show Steps p.tables e below (T57.setTop (mkF m 135 #[.val (.int p1), .val (.int p2), .val (.long q3), .second, .val (.int p4), .val (.int p5), .val (.int n), .val (.int st), .val (.ref b1), .unset, .unset] [(.int (-65 : Int32)), (.int (st + (2 : Int32))), (.ref b1)])) _
      refine st58 _ ?_
      show Steps p.tables e below (T58.setTop (mkF m 138 #[.val (.int p1), .val (.int p2), .val (.long q3), .second, .val (.int p4), .val (.int p5), .val (.int n), .val (.int st), .val (.ref b1), .unset, .unset] [])) _
      refine XS.iload X58.here hx rfl (hb hby at_138) rfl ?_
      show Steps p.tables e below (T58.setTop (mkF m 140 #[.val (.int p1), .val (.int p2), .val (.long q3), .second, .val (.int p4), .val (.int p5), .val (.int n), .val (.int st), .val (.ref b1), .unset, .unset] [(.int p4)])) _
      refine XS.iconst X58.here hx rfl (hb hby at_140) ?_
      show Steps p.tables e below (T58.setTop (mkF m 141 #[.val (.int p1), .val (.int p2), .val (.long q3), .second, .val (.int p4), .val (.int p5), .val (.int n), .val (.int st), .val (.ref b1), .unset, .unset] [(.int (1 : Int32)), (.int p4)])) _
      refine XS.iushr X58.here hx rfl (hb hby at_141) rfl ?_
      show Steps p.tables e below (T58.setTop (mkF m 142 #[.val (.int p1), .val (.int p2), .val (.long q3), .second, .val (.int p4), .val (.int p5), .val (.int n), .val (.int st), .val (.ref b1), .unset, .unset] [(.int ((p4.toUInt32 >>> ((1 : Int32) &&& 31).toUInt32).toInt32))])) _
      refine XS.iconst X58.here hx rfl (hb hby at_142) ?_
      show Steps p.tables e below (T58.setTop (mkF m 143 #[.val (.int p1), .val (.int p2), .val (.long q3), .second, .val (.int p4), .val (.int p5), .val (.int n), .val (.int st), .val (.ref b1), .unset, .unset] [(.int (3 : Int32)), (.int ((p4.toUInt32 >>> ((1 : Int32) &&& 31).toUInt32).toInt32))])) _
      refine XS.iand X58.here hx rfl (hb hby at_143) rfl ?_
      show Steps p.tables e below (T58.setTop (mkF m 144 #[.val (.int p1), .val (.int p2), .val (.long q3), .second, .val (.int p4), .val (.int p5), .val (.int n), .val (.int st), .val (.ref b1), .unset, .unset] [(.int (((p4.toUInt32 >>> ((1 : Int32) &&& 31).toUInt32).toInt32) &&& (3 : Int32)))])) _
      rw [hwh]
      show Steps p.tables e below (T58.setTop (mkF m 144 #[.val (.int p1), .val (.int p2), .val (.long q3), .second, .val (.int p4), .val (.int p5), .val (.int n), .val (.int st), .val (.ref b1), .unset, .unset] [(.int wh)])) _
      refine XS.istore X58.here hx rfl (hb hby at_144) rfl (l' := #[.val (.int p1), .val (.int p2), .val (.long q3), .second, .val (.int p4), .val (.int p5), .val (.int n), .val (.int st), .val (.ref b1), .val (.int wh), .unset]) rfl ?_
      show Steps p.tables e below (T58.setTop (mkF m 146 #[.val (.int p1), .val (.int p2), .val (.long q3), .second, .val (.int p4), .val (.int p5), .val (.int n), .val (.int st), .val (.ref b1), .val (.int wh), .unset] [])) _
      refine XS.iload X58.here hx rfl (hb hby at_146) rfl ?_
      show Steps p.tables e below (T58.setTop (mkF m 148 #[.val (.int p1), .val (.int p2), .val (.long q3), .second, .val (.int p4), .val (.int p5), .val (.int n), .val (.int st), .val (.ref b1), .val (.int wh), .unset] [(.int wh)])) _
      refine XS.iconst X58.here hx rfl (hb hby at_148) ?_
      exact k)
    by_cases hc149_59 : wh < (3 : Int32)
    · obtain ⟨v61, _, ⟨T61, L61, k61, n61⟩, -, X61, ⟨Lc61, hQ61, l61, y61, z61⟩, st61⟩ := Jvm.LawKit.callS X58 hx (y := (⟨"com/example/falkirk/falkirk/loader/Utf8StartsWithByteOrderMarkPinLaw", "set", "([BIB)V"⟩ : MethodName)) hown (mvT hZ (hw _ (ow 1 rfl))) (mvT hZ (hw _ (ow 2 rfl))) (mvT hZ (hw _ (ow 3 rfl))) (mvT hZ (hw _ (ow 4 rfl))) (by decide) (backOf (W := 0) (rm_set l Z a0 hw [] b1 (st + wh) (p5.toInt8.toInt32) T58.heap n0 n Tq58 hst3 g_b1) hZ (hw _ (ow 4 rfl)) (hw _ (ow 3 rfl)) (by decide) (by decide)) (g := (mkF m 162 #[.val (.int p1), .val (.int p2), .val (.long q3), .second, .val (.int p4), .val (.int p5), .val (.int n), .val (.int st), .val (.ref b1), .val (.int wh), .unset] [(.int (p5.toInt8.toInt32)), (.int (st + wh)), (.ref b1)])) rfl (by rw [hml]; rfl) (argsL := [(.ref b1), (.int (st + wh)), (.int (p5.toInt8.toInt32))]) (rest := []) (lenOf pd_0 rfl) rfl (Nat.le_of_eq rfl) (hb hby at_162) (fun _ _ => ⟨rfl, (rfl : T58.heap = T58.heap), (by decide : 1 + 0 ≤ _), (by decide : 7 + 0 ≤ _)⟩)
      dsimp only [Pt.U, Pt.locs, Pt.cells, Pt.slots] at X61 l61 y61 z61 st61 hQ61
      subst l61 y61 z61
      obtain ⟨hv61, Nq61, Kq61, Tq61⟩ := hQ61
      obtain rfl : v61 = none := hv61
      have N61 := Fr.app N58 Nq61
      have EX61 : Ext h0 T61.heap := own_ext_keep EX58 Kq61 sz_b1
      have pre63 : ∀ t, Steps p.tables e below (T61.setTop (mkF m 171 #[.val (.int p1), .val (.int p2), .val (.long q3), .second, .val (.int p4), .val (.int p5), .val (.int n), .val (.int st), .val (.ref b1), .val (.int wh), .unset] [(.int n), (.int (st + (3 : Int32)))])) t → Steps p.tables e below (s₁.setTop (entryFrame m #[(.int p1), (.int p2), (.long q3), (.int p4), (.int p5)] maxLocals)) t := fun t k => pre60 t (by
        show Steps p.tables e below (T58.setTop (mkF m 149 #[.val (.int p1), .val (.int p2), .val (.long q3), .second, .val (.int p4), .val (.int p5), .val (.int n), .val (.int st), .val (.ref b1), .val (.int wh), .unset] [(.int (3 : Int32)), (.int wh)])) _
        refine XS.icmpNo X58.here hx rfl (hb hby at_149) rfl (tlt hc149_59).2.1 ?_
        show Steps p.tables e below (T58.setTop (mkF m 152 #[.val (.int p1), .val (.int p2), .val (.long q3), .second, .val (.int p4), .val (.int p5), .val (.int n), .val (.int st), .val (.ref b1), .val (.int wh), .unset] [])) _
        refine XS.aload X58.here hx rfl (hb hby at_152) rfl rfl ?_
        show Steps p.tables e below (T58.setTop (mkF m 154 #[.val (.int p1), .val (.int p2), .val (.long q3), .second, .val (.int p4), .val (.int p5), .val (.int n), .val (.int st), .val (.ref b1), .val (.int wh), .unset] [(.ref b1)])) _
        refine XS.iload X58.here hx rfl (hb hby at_154) rfl ?_
        show Steps p.tables e below (T58.setTop (mkF m 156 #[.val (.int p1), .val (.int p2), .val (.long q3), .second, .val (.int p4), .val (.int p5), .val (.int n), .val (.int st), .val (.ref b1), .val (.int wh), .unset] [(.int st), (.ref b1)])) _
        refine XS.iload X58.here hx rfl (hb hby at_156) rfl ?_
        show Steps p.tables e below (T58.setTop (mkF m 158 #[.val (.int p1), .val (.int p2), .val (.long q3), .second, .val (.int p4), .val (.int p5), .val (.int n), .val (.int st), .val (.ref b1), .val (.int wh), .unset] [(.int wh), (.int st), (.ref b1)])) _
        refine XS.iadd X58.here hx rfl (hb hby at_158) rfl ?_
        show Steps p.tables e below (T58.setTop (mkF m 159 #[.val (.int p1), .val (.int p2), .val (.long q3), .second, .val (.int p4), .val (.int p5), .val (.int n), .val (.int st), .val (.ref b1), .val (.int wh), .unset] [(.int (st + wh)), (.ref b1)])) _
        refine XS.iload X58.here hx rfl (hb hby at_159) rfl ?_
        show Steps p.tables e below (T58.setTop (mkF m 161 #[.val (.int p1), .val (.int p2), .val (.long q3), .second, .val (.int p4), .val (.int p5), .val (.int n), .val (.int st), .val (.ref b1), .val (.int wh), .unset] [(.int p5), (.int (st + wh)), (.ref b1)])) _
        refine XS.i2b X58.here hx rfl (hb hby at_161) rfl ?_
        show Steps p.tables e below (T58.setTop (mkF m 162 #[.val (.int p1), .val (.int p2), .val (.long q3), .second, .val (.int p4), .val (.int p5), .val (.int n), .val (.int st), .val (.ref b1), .val (.int wh), .unset] [(.int (p5.toInt8.toInt32)), (.int (st + wh)), (.ref b1)])) _
        refine st61 _ ?_
        show Steps p.tables e below (T61.setTop (mkF m 165 #[.val (.int p1), .val (.int p2), .val (.long q3), .second, .val (.int p4), .val (.int p5), .val (.int n), .val (.int st), .val (.ref b1), .val (.int wh), .unset] [])) _
        refine XS.iload X61.here hx rfl (hb hby at_165) rfl ?_
        show Steps p.tables e below (T61.setTop (mkF m 167 #[.val (.int p1), .val (.int p2), .val (.long q3), .second, .val (.int p4), .val (.int p5), .val (.int n), .val (.int st), .val (.ref b1), .val (.int wh), .unset] [(.int st)])) _
        refine XS.iconst X61.here hx rfl (hb hby at_167) ?_
        show Steps p.tables e below (T61.setTop (mkF m 168 #[.val (.int p1), .val (.int p2), .val (.long q3), .second, .val (.int p4), .val (.int p5), .val (.int n), .val (.int st), .val (.ref b1), .val (.int wh), .unset] [(.int (3 : Int32)), (.int st)])) _
        refine XS.iadd X61.here hx rfl (hb hby at_168) rfl ?_
        show Steps p.tables e below (T61.setTop (mkF m 169 #[.val (.int p1), .val (.int p2), .val (.long q3), .second, .val (.int p4), .val (.int p5), .val (.int n), .val (.int st), .val (.ref b1), .val (.int wh), .unset] [(.int (st + (3 : Int32)))])) _
        refine XS.iload X61.here hx rfl (hb hby at_169) rfl ?_
        exact k)
      by_cases hc171_62 : n < (st + (3 : Int32))
      · obtain ⟨cT, hTT⟩ := Tq61
        obtain ⟨v64, _, ⟨T64, L64, k64, n64⟩, -, X64, ⟨Lc64, hQ64, l64, y64, z64⟩, st64⟩ := Jvm.LawKit.callS X61 hx (y := (⟨"com/example/falkirk/falkirk/loader/Utf8", "startsWithByteOrderMark", "([BI)Z"⟩ : MethodName)) hown (mvT hZ (hw _ (ow 5 rfl))) (mvT hZ (hw _ (ow 6 rfl))) (mvT hZ (hw _ (ow 7 rfl))) (mvT hZ (hw _ (ow 8 rfl))) (by decide) (backOf (W := 0) (rm_sw l Z a0 hw [] b1 st T61.heap n0 w_BYTE_ORDER_MARK (own_K_ext EX61 hK) cT n hTT hc0 hc1 hc2) hZ (hw _ (ow 8 rfl)) (hw _ (ow 7 rfl)) (by decide) (by decide)) (g := (mkF m 234 #[.val (.int p1), .val (.int p2), .val (.long q3), .second, .val (.int p4), .val (.int p5), .val (.int n), .val (.int st), .val (.ref b1), .val (.int wh), .val (.int (0 : Int32))] [(.int st), (.ref b1)])) rfl (by rw [hml]; rfl) (argsL := [(.ref b1), (.int st)]) (rest := []) (lenOf pd_1 rfl) rfl (Nat.le_of_eq rfl) (hb hby at_234) (fun _ _ => ⟨rfl, (rfl : T61.heap = T61.heap), (by decide : 1 + 0 ≤ _), (by decide : 7 + 0 ≤ _)⟩)
        dsimp only [Pt.U, Pt.locs, Pt.cells, Pt.slots] at X64 l64 y64 z64 st64 hQ64
        subst l64 y64 z64
        obtain ⟨hv64, Nq64, e64⟩ := hQ64
        obtain rfl : v64 = some (.int (0 : Int32)) := hv64.trans (congrArg some (congrArg Value.int (if_pos (hlen.mpr hc171_62))))
        have N64 := Fr.app N61 Nq64
        have pre65 : ∀ t, Steps p.tables e below (T64.setTop (mkF m 247 #[.val (.int p1), .val (.int p2), .val (.long q3), .second, .val (.int p4), .val (.int p5), .val (.int n), .val (.int st), .val (.ref b1), .val (.int wh), .val (.int (0 : Int32))] [(.int (1 : Int32))])) t → Steps p.tables e below (s₁.setTop (entryFrame m #[(.int p1), (.int p2), (.long q3), (.int p4), (.int p5)] maxLocals)) t := fun t k => pre63 t (by
          show Steps p.tables e below (T61.setTop (mkF m 171 #[.val (.int p1), .val (.int p2), .val (.long q3), .second, .val (.int p4), .val (.int p5), .val (.int n), .val (.int st), .val (.ref b1), .val (.int wh), .unset] [(.int n), (.int (st + (3 : Int32)))])) _
          refine XS.icmpYes X61.here hx rfl (pc0 := 171) (pc' := 227) rfl (hb hby at_171) rfl (tlt hc171_62).2.2.1 (by decide) (by decide) ?_
          show Steps p.tables e below (T61.setTop (mkF m 227 #[.val (.int p1), .val (.int p2), .val (.long q3), .second, .val (.int p4), .val (.int p5), .val (.int n), .val (.int st), .val (.ref b1), .val (.int wh), .unset] [])) _
          refine XS.iconst X61.here hx rfl (hb hby at_227) ?_
          show Steps p.tables e below (T61.setTop (mkF m 228 #[.val (.int p1), .val (.int p2), .val (.long q3), .second, .val (.int p4), .val (.int p5), .val (.int n), .val (.int st), .val (.ref b1), .val (.int wh), .unset] [(.int (0 : Int32))])) _
          refine XS.istore X61.here hx rfl (hb hby at_228) rfl (l' := #[.val (.int p1), .val (.int p2), .val (.long q3), .second, .val (.int p4), .val (.int p5), .val (.int n), .val (.int st), .val (.ref b1), .val (.int wh), .val (.int (0 : Int32))]) rfl ?_
          show Steps p.tables e below (T61.setTop (mkF m 230 #[.val (.int p1), .val (.int p2), .val (.long q3), .second, .val (.int p4), .val (.int p5), .val (.int n), .val (.int st), .val (.ref b1), .val (.int wh), .val (.int (0 : Int32))] [])) _
          refine XS.aload X61.here hx rfl (hb hby at_230) rfl rfl ?_
          show Steps p.tables e below (T61.setTop (mkF m 232 #[.val (.int p1), .val (.int p2), .val (.long q3), .second, .val (.int p4), .val (.int p5), .val (.int n), .val (.int st), .val (.ref b1), .val (.int wh), .val (.int (0 : Int32))] [(.ref b1)])) _
          refine XS.iload X61.here hx rfl (hb hby at_232) rfl ?_
          show Steps p.tables e below (T61.setTop (mkF m 234 #[.val (.int p1), .val (.int p2), .val (.long q3), .second, .val (.int p4), .val (.int p5), .val (.int n), .val (.int st), .val (.ref b1), .val (.int wh), .val (.int (0 : Int32))] [(.int st), (.ref b1)])) _
          refine st64 _ ?_
          show Steps p.tables e below (T64.setTop (mkF m 237 #[.val (.int p1), .val (.int p2), .val (.long q3), .second, .val (.int p4), .val (.int p5), .val (.int n), .val (.int st), .val (.ref b1), .val (.int wh), .val (.int (0 : Int32))] [(.int (0 : Int32))])) _
          refine XS.iload X64.here hx rfl (hb hby at_237) rfl ?_
          show Steps p.tables e below (T64.setTop (mkF m 239 #[.val (.int p1), .val (.int p2), .val (.long q3), .second, .val (.int p4), .val (.int p5), .val (.int n), .val (.int st), .val (.ref b1), .val (.int wh), .val (.int (0 : Int32))] [(.int (0 : Int32)), (.int (0 : Int32))])) _
          refine XS.icmpNo X64.here hx rfl (hb hby at_239) rfl (teq (by decide)).2 ?_
          show Steps p.tables e below (T64.setTop (mkF m 242 #[.val (.int p1), .val (.int p2), .val (.long q3), .second, .val (.int p4), .val (.int p5), .val (.int n), .val (.int st), .val (.ref b1), .val (.int wh), .val (.int (0 : Int32))] [])) _
          refine XS.iconst X64.here hx rfl (hb hby at_242) ?_
          show Steps p.tables e below (T64.setTop (mkF m 243 #[.val (.int p1), .val (.int p2), .val (.long q3), .second, .val (.int p4), .val (.int p5), .val (.int n), .val (.int st), .val (.ref b1), .val (.int wh), .val (.int (0 : Int32))] [(.int (1 : Int32))])) _
          refine XS.goto X64.here hx rfl (pc0 := 243) (pc' := 247) rfl (hb hby at_243) (by decide) (by decide) ?_
          exact k)
        obtain ⟨fs, hr, hrun, hended, hW, hsame⟩ := X64.leave (v := some (.int (1 : Int32))) (fun h => by rw [Bd.returns] at h; cases h)
        refine ⟨_, _, pre65 _ ?_, hrun, hended, _, _, rfl, ?_, ⟨_, rfl⟩, hW, hsame.mono (by decide) (by decide)⟩
        · show Steps p.tables e below (T64.setTop (mkF m 247 #[.val (.int p1), .val (.int p2), .val (.long q3), .second, .val (.int p4), .val (.int p5), .val (.int n), .val (.int st), .val (.ref b1), .val (.int wh), .val (.int (0 : Int32))] [(.int (1 : Int32))])) _
          exact retN X64 hx (t := .boolean) Bd.returns (by simp) (hb hby at_247) hr
        · exact ⟨rfl, N64, trivial⟩
      · obtain ⟨cT, hTT⟩ := Tq61
        have hin0_66 : ¬ (st < 0 ∨ cT.slots.size ≤ (st).toNatClampNeg) := inb_of hTT.2.1 (hb0 hc171_62)
        have pre68 : ∀ t, Steps p.tables e below (T61.setTop (mkF m 186 #[.val (.int p1), .val (.int p2), .val (.long q3), .second, .val (.int p4), .val (.int p5), .val (.int n), .val (.int st), .val (.ref b1), .val (.int wh), .unset] [(.int (239 : Int32)), (.int ((atv cT st) &&& (255 : Int32)))])) t → Steps p.tables e below (s₁.setTop (entryFrame m #[(.int p1), (.int p2), (.long q3), (.int p4), (.int p5)] maxLocals)) t := fun t k => pre63 t (by
          show Steps p.tables e below (T61.setTop (mkF m 171 #[.val (.int p1), .val (.int p2), .val (.long q3), .second, .val (.int p4), .val (.int p5), .val (.int n), .val (.int st), .val (.ref b1), .val (.int wh), .unset] [(.int n), (.int (st + (3 : Int32)))])) _
          refine XS.icmpNo X61.here hx rfl (hb hby at_171) rfl (flt hc171_62).2.2.1 ?_
          show Steps p.tables e below (T61.setTop (mkF m 174 #[.val (.int p1), .val (.int p2), .val (.long q3), .second, .val (.int p4), .val (.int p5), .val (.int n), .val (.int st), .val (.ref b1), .val (.int wh), .unset] [])) _
          refine XS.aload X61.here hx rfl (hb hby at_174) rfl rfl ?_
          show Steps p.tables e below (T61.setTop (mkF m 176 #[.val (.int p1), .val (.int p2), .val (.long q3), .second, .val (.int p4), .val (.int p5), .val (.int n), .val (.int st), .val (.ref b1), .val (.int wh), .unset] [(.ref b1)])) _
          refine XS.iload X61.here hx rfl (hb hby at_176) rfl ?_
          show Steps p.tables e below (T61.setTop (mkF m 178 #[.val (.int p1), .val (.int p2), .val (.long q3), .second, .val (.int p4), .val (.int p5), .val (.int n), .val (.int st), .val (.ref b1), .val (.int wh), .unset] [(.int st), (.ref b1)])) _
          refine X61.baloadBytes hx (j := st) (v := .int (atv cT st)) (by rw [(rfl : T61.heap = T61.heap)]; exact hTT.1.1) (State.isArrayOf_alike hZ.alike hTT.1.2.1) hTT.1.2.2 hin0_66 (hTT.2.2.2 _ hin0_66).1 (g := (mkF m 178 #[.val (.int p1), .val (.int p2), .val (.long q3), .second, .val (.int p4), .val (.int p5), .val (.int n), .val (.int st), .val (.ref b1), .val (.int wh), .unset] [(.int st), (.ref b1)])) rfl rfl (hb hby at_178) _ ?_
          show Steps p.tables e below (T61.setTop (mkF m 179 #[.val (.int p1), .val (.int p2), .val (.long q3), .second, .val (.int p4), .val (.int p5), .val (.int n), .val (.int st), .val (.ref b1), .val (.int wh), .unset] [(.int (atv cT st))])) _
          refine XS.sipush X61.here hx rfl (hb hby at_179) ?_
          show Steps p.tables e below (T61.setTop (mkF m 182 #[.val (.int p1), .val (.int p2), .val (.long q3), .second, .val (.int p4), .val (.int p5), .val (.int n), .val (.int st), .val (.ref b1), .val (.int wh), .unset] [(.int (255 : Int32)), (.int (atv cT st))])) _
          refine XS.iand X61.here hx rfl (hb hby at_182) rfl ?_
          show Steps p.tables e below (T61.setTop (mkF m 183 #[.val (.int p1), .val (.int p2), .val (.long q3), .second, .val (.int p4), .val (.int p5), .val (.int n), .val (.int st), .val (.ref b1), .val (.int wh), .unset] [(.int ((atv cT st) &&& (255 : Int32)))])) _
          refine XS.sipush X61.here hx rfl (hb hby at_183) ?_
          exact k)
        by_cases hc186_67 : ((atv cT st) &&& (255 : Int32)) = (239 : Int32)
        · have hin1_69 : ¬ ((st + (1 : Int32)) < 0 ∨ cT.slots.size ≤ ((st + (1 : Int32))).toNatClampNeg) := inb_of hTT.2.1 (hb1 hc171_62)
          have pre71 : ∀ t, Steps p.tables e below (T61.setTop (mkF m 203 #[.val (.int p1), .val (.int p2), .val (.long q3), .second, .val (.int p4), .val (.int p5), .val (.int n), .val (.int st), .val (.ref b1), .val (.int wh), .unset] [(.int (187 : Int32)), (.int ((atv cT (st + (1 : Int32))) &&& (255 : Int32)))])) t → Steps p.tables e below (s₁.setTop (entryFrame m #[(.int p1), (.int p2), (.long q3), (.int p4), (.int p5)] maxLocals)) t := fun t k => pre68 t (by
            show Steps p.tables e below (T61.setTop (mkF m 186 #[.val (.int p1), .val (.int p2), .val (.long q3), .second, .val (.int p4), .val (.int p5), .val (.int n), .val (.int st), .val (.ref b1), .val (.int wh), .unset] [(.int (239 : Int32)), (.int ((atv cT st) &&& (255 : Int32)))])) _
            refine XS.icmpNo X61.here hx rfl (hb hby at_186) rfl (teq hc186_67).2 ?_
            show Steps p.tables e below (T61.setTop (mkF m 189 #[.val (.int p1), .val (.int p2), .val (.long q3), .second, .val (.int p4), .val (.int p5), .val (.int n), .val (.int st), .val (.ref b1), .val (.int wh), .unset] [])) _
            refine XS.aload X61.here hx rfl (hb hby at_189) rfl rfl ?_
            show Steps p.tables e below (T61.setTop (mkF m 191 #[.val (.int p1), .val (.int p2), .val (.long q3), .second, .val (.int p4), .val (.int p5), .val (.int n), .val (.int st), .val (.ref b1), .val (.int wh), .unset] [(.ref b1)])) _
            refine XS.iload X61.here hx rfl (hb hby at_191) rfl ?_
            show Steps p.tables e below (T61.setTop (mkF m 193 #[.val (.int p1), .val (.int p2), .val (.long q3), .second, .val (.int p4), .val (.int p5), .val (.int n), .val (.int st), .val (.ref b1), .val (.int wh), .unset] [(.int st), (.ref b1)])) _
            refine XS.iconst X61.here hx rfl (hb hby at_193) ?_
            show Steps p.tables e below (T61.setTop (mkF m 194 #[.val (.int p1), .val (.int p2), .val (.long q3), .second, .val (.int p4), .val (.int p5), .val (.int n), .val (.int st), .val (.ref b1), .val (.int wh), .unset] [(.int (1 : Int32)), (.int st), (.ref b1)])) _
            refine XS.iadd X61.here hx rfl (hb hby at_194) rfl ?_
            show Steps p.tables e below (T61.setTop (mkF m 195 #[.val (.int p1), .val (.int p2), .val (.long q3), .second, .val (.int p4), .val (.int p5), .val (.int n), .val (.int st), .val (.ref b1), .val (.int wh), .unset] [(.int (st + (1 : Int32))), (.ref b1)])) _
            refine X61.baloadBytes hx (j := (st + (1 : Int32))) (v := .int (atv cT (st + (1 : Int32)))) (by rw [(rfl : T61.heap = T61.heap)]; exact hTT.1.1) (State.isArrayOf_alike hZ.alike hTT.1.2.1) hTT.1.2.2 hin1_69 (hTT.2.2.2 _ hin1_69).1 (g := (mkF m 195 #[.val (.int p1), .val (.int p2), .val (.long q3), .second, .val (.int p4), .val (.int p5), .val (.int n), .val (.int st), .val (.ref b1), .val (.int wh), .unset] [(.int (st + (1 : Int32))), (.ref b1)])) rfl rfl (hb hby at_195) _ ?_
            show Steps p.tables e below (T61.setTop (mkF m 196 #[.val (.int p1), .val (.int p2), .val (.long q3), .second, .val (.int p4), .val (.int p5), .val (.int n), .val (.int st), .val (.ref b1), .val (.int wh), .unset] [(.int (atv cT (st + (1 : Int32))))])) _
            refine XS.sipush X61.here hx rfl (hb hby at_196) ?_
            show Steps p.tables e below (T61.setTop (mkF m 199 #[.val (.int p1), .val (.int p2), .val (.long q3), .second, .val (.int p4), .val (.int p5), .val (.int n), .val (.int st), .val (.ref b1), .val (.int wh), .unset] [(.int (255 : Int32)), (.int (atv cT (st + (1 : Int32))))])) _
            refine XS.iand X61.here hx rfl (hb hby at_199) rfl ?_
            show Steps p.tables e below (T61.setTop (mkF m 200 #[.val (.int p1), .val (.int p2), .val (.long q3), .second, .val (.int p4), .val (.int p5), .val (.int n), .val (.int st), .val (.ref b1), .val (.int wh), .unset] [(.int ((atv cT (st + (1 : Int32))) &&& (255 : Int32)))])) _
            refine XS.sipush X61.here hx rfl (hb hby at_200) ?_
            exact k)
          by_cases hc203_70 : ((atv cT (st + (1 : Int32))) &&& (255 : Int32)) = (187 : Int32)
          · have hin2_72 : ¬ ((st + (2 : Int32)) < 0 ∨ cT.slots.size ≤ ((st + (2 : Int32))).toNatClampNeg) := inb_of hTT.2.1 (hb2 hc171_62)
            have pre74 : ∀ t, Steps p.tables e below (T61.setTop (mkF m 220 #[.val (.int p1), .val (.int p2), .val (.long q3), .second, .val (.int p4), .val (.int p5), .val (.int n), .val (.int st), .val (.ref b1), .val (.int wh), .unset] [(.int (191 : Int32)), (.int ((atv cT (st + (2 : Int32))) &&& (255 : Int32)))])) t → Steps p.tables e below (s₁.setTop (entryFrame m #[(.int p1), (.int p2), (.long q3), (.int p4), (.int p5)] maxLocals)) t := fun t k => pre71 t (by
              show Steps p.tables e below (T61.setTop (mkF m 203 #[.val (.int p1), .val (.int p2), .val (.long q3), .second, .val (.int p4), .val (.int p5), .val (.int n), .val (.int st), .val (.ref b1), .val (.int wh), .unset] [(.int (187 : Int32)), (.int ((atv cT (st + (1 : Int32))) &&& (255 : Int32)))])) _
              refine XS.icmpNo X61.here hx rfl (hb hby at_203) rfl (teq hc203_70).2 ?_
              show Steps p.tables e below (T61.setTop (mkF m 206 #[.val (.int p1), .val (.int p2), .val (.long q3), .second, .val (.int p4), .val (.int p5), .val (.int n), .val (.int st), .val (.ref b1), .val (.int wh), .unset] [])) _
              refine XS.aload X61.here hx rfl (hb hby at_206) rfl rfl ?_
              show Steps p.tables e below (T61.setTop (mkF m 208 #[.val (.int p1), .val (.int p2), .val (.long q3), .second, .val (.int p4), .val (.int p5), .val (.int n), .val (.int st), .val (.ref b1), .val (.int wh), .unset] [(.ref b1)])) _
              refine XS.iload X61.here hx rfl (hb hby at_208) rfl ?_
              show Steps p.tables e below (T61.setTop (mkF m 210 #[.val (.int p1), .val (.int p2), .val (.long q3), .second, .val (.int p4), .val (.int p5), .val (.int n), .val (.int st), .val (.ref b1), .val (.int wh), .unset] [(.int st), (.ref b1)])) _
              refine XS.iconst X61.here hx rfl (hb hby at_210) ?_
              show Steps p.tables e below (T61.setTop (mkF m 211 #[.val (.int p1), .val (.int p2), .val (.long q3), .second, .val (.int p4), .val (.int p5), .val (.int n), .val (.int st), .val (.ref b1), .val (.int wh), .unset] [(.int (2 : Int32)), (.int st), (.ref b1)])) _
              refine XS.iadd X61.here hx rfl (hb hby at_211) rfl ?_
              show Steps p.tables e below (T61.setTop (mkF m 212 #[.val (.int p1), .val (.int p2), .val (.long q3), .second, .val (.int p4), .val (.int p5), .val (.int n), .val (.int st), .val (.ref b1), .val (.int wh), .unset] [(.int (st + (2 : Int32))), (.ref b1)])) _
              refine X61.baloadBytes hx (j := (st + (2 : Int32))) (v := .int (atv cT (st + (2 : Int32)))) (by rw [(rfl : T61.heap = T61.heap)]; exact hTT.1.1) (State.isArrayOf_alike hZ.alike hTT.1.2.1) hTT.1.2.2 hin2_72 (hTT.2.2.2 _ hin2_72).1 (g := (mkF m 212 #[.val (.int p1), .val (.int p2), .val (.long q3), .second, .val (.int p4), .val (.int p5), .val (.int n), .val (.int st), .val (.ref b1), .val (.int wh), .unset] [(.int (st + (2 : Int32))), (.ref b1)])) rfl rfl (hb hby at_212) _ ?_
              show Steps p.tables e below (T61.setTop (mkF m 213 #[.val (.int p1), .val (.int p2), .val (.long q3), .second, .val (.int p4), .val (.int p5), .val (.int n), .val (.int st), .val (.ref b1), .val (.int wh), .unset] [(.int (atv cT (st + (2 : Int32))))])) _
              refine XS.sipush X61.here hx rfl (hb hby at_213) ?_
              show Steps p.tables e below (T61.setTop (mkF m 216 #[.val (.int p1), .val (.int p2), .val (.long q3), .second, .val (.int p4), .val (.int p5), .val (.int n), .val (.int st), .val (.ref b1), .val (.int wh), .unset] [(.int (255 : Int32)), (.int (atv cT (st + (2 : Int32))))])) _
              refine XS.iand X61.here hx rfl (hb hby at_216) rfl ?_
              show Steps p.tables e below (T61.setTop (mkF m 217 #[.val (.int p1), .val (.int p2), .val (.long q3), .second, .val (.int p4), .val (.int p5), .val (.int n), .val (.int st), .val (.ref b1), .val (.int wh), .unset] [(.int ((atv cT (st + (2 : Int32))) &&& (255 : Int32)))])) _
              refine XS.sipush X61.here hx rfl (hb hby at_217) ?_
              exact k)
            by_cases hc220_73 : ((atv cT (st + (2 : Int32))) &&& (255 : Int32)) = (191 : Int32)
            · obtain ⟨v75, _, ⟨T75, L75, k75, n75⟩, -, X75, ⟨Lc75, hQ75, l75, y75, z75⟩, st75⟩ := Jvm.LawKit.callS X61 hx (y := (⟨"com/example/falkirk/falkirk/loader/Utf8", "startsWithByteOrderMark", "([BI)Z"⟩ : MethodName)) hown (mvT hZ (hw _ (ow 5 rfl))) (mvT hZ (hw _ (ow 6 rfl))) (mvT hZ (hw _ (ow 7 rfl))) (mvT hZ (hw _ (ow 8 rfl))) (by decide) (backOf (W := 0) (rm_sw l Z a0 hw [] b1 st T61.heap n0 w_BYTE_ORDER_MARK (own_K_ext EX61 hK) cT n hTT hc0 hc1 hc2) hZ (hw _ (ow 8 rfl)) (hw _ (ow 7 rfl)) (by decide) (by decide)) (g := (mkF m 234 #[.val (.int p1), .val (.int p2), .val (.long q3), .second, .val (.int p4), .val (.int p5), .val (.int n), .val (.int st), .val (.ref b1), .val (.int wh), .val (.int (1 : Int32))] [(.int st), (.ref b1)])) rfl (by rw [hml]; rfl) (argsL := [(.ref b1), (.int st)]) (rest := []) (lenOf pd_1 rfl) rfl (Nat.le_of_eq rfl) (hb hby at_234) (fun _ _ => ⟨rfl, (rfl : T61.heap = T61.heap), (by decide : 1 + 0 ≤ _), (by decide : 7 + 0 ≤ _)⟩)
              dsimp only [Pt.U, Pt.locs, Pt.cells, Pt.slots] at X75 l75 y75 z75 st75 hQ75
              subst l75 y75 z75
              obtain ⟨hv75, Nq75, e75⟩ := hQ75
              obtain rfl : v75 = some (.int (1 : Int32)) := hv75.trans (congrArg some (congrArg Value.int ((if_neg (mt hlen.mp hc171_62)).trans ((if_pos ((own_at0 cT st (-17 : Int32) (own_byte _ _ 239 (by decide) (by decide) (by decide) (hTT.2.2.2 _ hin0_66).2 (-17 : Int32) (by decide))).mpr hc186_67)).trans ((if_pos ((own_byte _ _ 187 (by decide) (by decide) (by decide) (hTT.2.2.2 _ hin1_69).2 (-69 : Int32) (by decide)).mpr hc203_70)).trans (if_pos ((own_byte _ _ 191 (by decide) (by decide) (by decide) (hTT.2.2.2 _ hin2_72).2 (-65 : Int32) (by decide)).mpr hc220_73)))))))
              have N75 := Fr.app N61 Nq75
              have pre76 : ∀ t, Steps p.tables e below (T75.setTop (mkF m 247 #[.val (.int p1), .val (.int p2), .val (.long q3), .second, .val (.int p4), .val (.int p5), .val (.int n), .val (.int st), .val (.ref b1), .val (.int wh), .val (.int (1 : Int32))] [(.int (1 : Int32))])) t → Steps p.tables e below (s₁.setTop (entryFrame m #[(.int p1), (.int p2), (.long q3), (.int p4), (.int p5)] maxLocals)) t := fun t k => pre74 t (by
                show Steps p.tables e below (T61.setTop (mkF m 220 #[.val (.int p1), .val (.int p2), .val (.long q3), .second, .val (.int p4), .val (.int p5), .val (.int n), .val (.int st), .val (.ref b1), .val (.int wh), .unset] [(.int (191 : Int32)), (.int ((atv cT (st + (2 : Int32))) &&& (255 : Int32)))])) _
                refine XS.icmpNo X61.here hx rfl (hb hby at_220) rfl (teq hc220_73).2 ?_
                show Steps p.tables e below (T61.setTop (mkF m 223 #[.val (.int p1), .val (.int p2), .val (.long q3), .second, .val (.int p4), .val (.int p5), .val (.int n), .val (.int st), .val (.ref b1), .val (.int wh), .unset] [])) _
                refine XS.iconst X61.here hx rfl (hb hby at_223) ?_
                show Steps p.tables e below (T61.setTop (mkF m 224 #[.val (.int p1), .val (.int p2), .val (.long q3), .second, .val (.int p4), .val (.int p5), .val (.int n), .val (.int st), .val (.ref b1), .val (.int wh), .unset] [(.int (1 : Int32))])) _
                refine XS.goto X61.here hx rfl (pc0 := 224) (pc' := 228) rfl (hb hby at_224) (by decide) (by decide) ?_
                show Steps p.tables e below (T61.setTop (mkF m 228 #[.val (.int p1), .val (.int p2), .val (.long q3), .second, .val (.int p4), .val (.int p5), .val (.int n), .val (.int st), .val (.ref b1), .val (.int wh), .unset] [(.int (1 : Int32))])) _
                refine XS.istore X61.here hx rfl (hb hby at_228) rfl (l' := #[.val (.int p1), .val (.int p2), .val (.long q3), .second, .val (.int p4), .val (.int p5), .val (.int n), .val (.int st), .val (.ref b1), .val (.int wh), .val (.int (1 : Int32))]) rfl ?_
                show Steps p.tables e below (T61.setTop (mkF m 230 #[.val (.int p1), .val (.int p2), .val (.long q3), .second, .val (.int p4), .val (.int p5), .val (.int n), .val (.int st), .val (.ref b1), .val (.int wh), .val (.int (1 : Int32))] [])) _
                refine XS.aload X61.here hx rfl (hb hby at_230) rfl rfl ?_
                show Steps p.tables e below (T61.setTop (mkF m 232 #[.val (.int p1), .val (.int p2), .val (.long q3), .second, .val (.int p4), .val (.int p5), .val (.int n), .val (.int st), .val (.ref b1), .val (.int wh), .val (.int (1 : Int32))] [(.ref b1)])) _
                refine XS.iload X61.here hx rfl (hb hby at_232) rfl ?_
                show Steps p.tables e below (T61.setTop (mkF m 234 #[.val (.int p1), .val (.int p2), .val (.long q3), .second, .val (.int p4), .val (.int p5), .val (.int n), .val (.int st), .val (.ref b1), .val (.int wh), .val (.int (1 : Int32))] [(.int st), (.ref b1)])) _
                refine st75 _ ?_
                show Steps p.tables e below (T75.setTop (mkF m 237 #[.val (.int p1), .val (.int p2), .val (.long q3), .second, .val (.int p4), .val (.int p5), .val (.int n), .val (.int st), .val (.ref b1), .val (.int wh), .val (.int (1 : Int32))] [(.int (1 : Int32))])) _
                refine XS.iload X75.here hx rfl (hb hby at_237) rfl ?_
                show Steps p.tables e below (T75.setTop (mkF m 239 #[.val (.int p1), .val (.int p2), .val (.long q3), .second, .val (.int p4), .val (.int p5), .val (.int n), .val (.int st), .val (.ref b1), .val (.int wh), .val (.int (1 : Int32))] [(.int (1 : Int32)), (.int (1 : Int32))])) _
                refine XS.icmpNo X75.here hx rfl (hb hby at_239) rfl (teq (by decide)).2 ?_
                show Steps p.tables e below (T75.setTop (mkF m 242 #[.val (.int p1), .val (.int p2), .val (.long q3), .second, .val (.int p4), .val (.int p5), .val (.int n), .val (.int st), .val (.ref b1), .val (.int wh), .val (.int (1 : Int32))] [])) _
                refine XS.iconst X75.here hx rfl (hb hby at_242) ?_
                show Steps p.tables e below (T75.setTop (mkF m 243 #[.val (.int p1), .val (.int p2), .val (.long q3), .second, .val (.int p4), .val (.int p5), .val (.int n), .val (.int st), .val (.ref b1), .val (.int wh), .val (.int (1 : Int32))] [(.int (1 : Int32))])) _
                refine XS.goto X75.here hx rfl (pc0 := 243) (pc' := 247) rfl (hb hby at_243) (by decide) (by decide) ?_
                exact k)
              obtain ⟨fs, hr, hrun, hended, hW, hsame⟩ := X75.leave (v := some (.int (1 : Int32))) (fun h => by rw [Bd.returns] at h; cases h)
              refine ⟨_, _, pre76 _ ?_, hrun, hended, _, _, rfl, ?_, ⟨_, rfl⟩, hW, hsame.mono (by decide) (by decide)⟩
              · show Steps p.tables e below (T75.setTop (mkF m 247 #[.val (.int p1), .val (.int p2), .val (.long q3), .second, .val (.int p4), .val (.int p5), .val (.int n), .val (.int st), .val (.ref b1), .val (.int wh), .val (.int (1 : Int32))] [(.int (1 : Int32))])) _
                exact retN X75 hx (t := .boolean) Bd.returns (by simp) (hb hby at_247) hr
              · exact ⟨rfl, N75, trivial⟩
            · obtain ⟨v77, _, ⟨T77, L77, k77, n77⟩, -, X77, ⟨Lc77, hQ77, l77, y77, z77⟩, st77⟩ := Jvm.LawKit.callS X61 hx (y := (⟨"com/example/falkirk/falkirk/loader/Utf8", "startsWithByteOrderMark", "([BI)Z"⟩ : MethodName)) hown (mvT hZ (hw _ (ow 5 rfl))) (mvT hZ (hw _ (ow 6 rfl))) (mvT hZ (hw _ (ow 7 rfl))) (mvT hZ (hw _ (ow 8 rfl))) (by decide) (backOf (W := 0) (rm_sw l Z a0 hw [] b1 st T61.heap n0 w_BYTE_ORDER_MARK (own_K_ext EX61 hK) cT n hTT hc0 hc1 hc2) hZ (hw _ (ow 8 rfl)) (hw _ (ow 7 rfl)) (by decide) (by decide)) (g := (mkF m 234 #[.val (.int p1), .val (.int p2), .val (.long q3), .second, .val (.int p4), .val (.int p5), .val (.int n), .val (.int st), .val (.ref b1), .val (.int wh), .val (.int (0 : Int32))] [(.int st), (.ref b1)])) rfl (by rw [hml]; rfl) (argsL := [(.ref b1), (.int st)]) (rest := []) (lenOf pd_1 rfl) rfl (Nat.le_of_eq rfl) (hb hby at_234) (fun _ _ => ⟨rfl, (rfl : T61.heap = T61.heap), (by decide : 1 + 0 ≤ _), (by decide : 7 + 0 ≤ _)⟩)
              dsimp only [Pt.U, Pt.locs, Pt.cells, Pt.slots] at X77 l77 y77 z77 st77 hQ77
              subst l77 y77 z77
              obtain ⟨hv77, Nq77, e77⟩ := hQ77
              obtain rfl : v77 = some (.int (0 : Int32)) := hv77.trans (congrArg some (congrArg Value.int ((if_neg (mt hlen.mp hc171_62)).trans ((if_pos ((own_at0 cT st (-17 : Int32) (own_byte _ _ 239 (by decide) (by decide) (by decide) (hTT.2.2.2 _ hin0_66).2 (-17 : Int32) (by decide))).mpr hc186_67)).trans ((if_pos ((own_byte _ _ 187 (by decide) (by decide) (by decide) (hTT.2.2.2 _ hin1_69).2 (-69 : Int32) (by decide)).mpr hc203_70)).trans (if_neg (mt (own_byte _ _ 191 (by decide) (by decide) (by decide) (hTT.2.2.2 _ hin2_72).2 (-65 : Int32) (by decide)).mp hc220_73)))))))
              have N77 := Fr.app N61 Nq77
              have pre78 : ∀ t, Steps p.tables e below (T77.setTop (mkF m 247 #[.val (.int p1), .val (.int p2), .val (.long q3), .second, .val (.int p4), .val (.int p5), .val (.int n), .val (.int st), .val (.ref b1), .val (.int wh), .val (.int (0 : Int32))] [(.int (1 : Int32))])) t → Steps p.tables e below (s₁.setTop (entryFrame m #[(.int p1), (.int p2), (.long q3), (.int p4), (.int p5)] maxLocals)) t := fun t k => pre74 t (by
                show Steps p.tables e below (T61.setTop (mkF m 220 #[.val (.int p1), .val (.int p2), .val (.long q3), .second, .val (.int p4), .val (.int p5), .val (.int n), .val (.int st), .val (.ref b1), .val (.int wh), .unset] [(.int (191 : Int32)), (.int ((atv cT (st + (2 : Int32))) &&& (255 : Int32)))])) _
                refine XS.icmpYes X61.here hx rfl (pc0 := 220) (pc' := 227) rfl (hb hby at_220) rfl (feq hc220_73).2 (by decide) (by decide) ?_
                show Steps p.tables e below (T61.setTop (mkF m 227 #[.val (.int p1), .val (.int p2), .val (.long q3), .second, .val (.int p4), .val (.int p5), .val (.int n), .val (.int st), .val (.ref b1), .val (.int wh), .unset] [])) _
                refine XS.iconst X61.here hx rfl (hb hby at_227) ?_
                show Steps p.tables e below (T61.setTop (mkF m 228 #[.val (.int p1), .val (.int p2), .val (.long q3), .second, .val (.int p4), .val (.int p5), .val (.int n), .val (.int st), .val (.ref b1), .val (.int wh), .unset] [(.int (0 : Int32))])) _
                refine XS.istore X61.here hx rfl (hb hby at_228) rfl (l' := #[.val (.int p1), .val (.int p2), .val (.long q3), .second, .val (.int p4), .val (.int p5), .val (.int n), .val (.int st), .val (.ref b1), .val (.int wh), .val (.int (0 : Int32))]) rfl ?_
                show Steps p.tables e below (T61.setTop (mkF m 230 #[.val (.int p1), .val (.int p2), .val (.long q3), .second, .val (.int p4), .val (.int p5), .val (.int n), .val (.int st), .val (.ref b1), .val (.int wh), .val (.int (0 : Int32))] [])) _
                refine XS.aload X61.here hx rfl (hb hby at_230) rfl rfl ?_
                show Steps p.tables e below (T61.setTop (mkF m 232 #[.val (.int p1), .val (.int p2), .val (.long q3), .second, .val (.int p4), .val (.int p5), .val (.int n), .val (.int st), .val (.ref b1), .val (.int wh), .val (.int (0 : Int32))] [(.ref b1)])) _
                refine XS.iload X61.here hx rfl (hb hby at_232) rfl ?_
                show Steps p.tables e below (T61.setTop (mkF m 234 #[.val (.int p1), .val (.int p2), .val (.long q3), .second, .val (.int p4), .val (.int p5), .val (.int n), .val (.int st), .val (.ref b1), .val (.int wh), .val (.int (0 : Int32))] [(.int st), (.ref b1)])) _
                refine st77 _ ?_
                show Steps p.tables e below (T77.setTop (mkF m 237 #[.val (.int p1), .val (.int p2), .val (.long q3), .second, .val (.int p4), .val (.int p5), .val (.int n), .val (.int st), .val (.ref b1), .val (.int wh), .val (.int (0 : Int32))] [(.int (0 : Int32))])) _
                refine XS.iload X77.here hx rfl (hb hby at_237) rfl ?_
                show Steps p.tables e below (T77.setTop (mkF m 239 #[.val (.int p1), .val (.int p2), .val (.long q3), .second, .val (.int p4), .val (.int p5), .val (.int n), .val (.int st), .val (.ref b1), .val (.int wh), .val (.int (0 : Int32))] [(.int (0 : Int32)), (.int (0 : Int32))])) _
                refine XS.icmpNo X77.here hx rfl (hb hby at_239) rfl (teq (by decide)).2 ?_
                show Steps p.tables e below (T77.setTop (mkF m 242 #[.val (.int p1), .val (.int p2), .val (.long q3), .second, .val (.int p4), .val (.int p5), .val (.int n), .val (.int st), .val (.ref b1), .val (.int wh), .val (.int (0 : Int32))] [])) _
                refine XS.iconst X77.here hx rfl (hb hby at_242) ?_
                show Steps p.tables e below (T77.setTop (mkF m 243 #[.val (.int p1), .val (.int p2), .val (.long q3), .second, .val (.int p4), .val (.int p5), .val (.int n), .val (.int st), .val (.ref b1), .val (.int wh), .val (.int (0 : Int32))] [(.int (1 : Int32))])) _
                refine XS.goto X77.here hx rfl (pc0 := 243) (pc' := 247) rfl (hb hby at_243) (by decide) (by decide) ?_
                exact k)
              obtain ⟨fs, hr, hrun, hended, hW, hsame⟩ := X77.leave (v := some (.int (1 : Int32))) (fun h => by rw [Bd.returns] at h; cases h)
              refine ⟨_, _, pre78 _ ?_, hrun, hended, _, _, rfl, ?_, ⟨_, rfl⟩, hW, hsame.mono (by decide) (by decide)⟩
              · show Steps p.tables e below (T77.setTop (mkF m 247 #[.val (.int p1), .val (.int p2), .val (.long q3), .second, .val (.int p4), .val (.int p5), .val (.int n), .val (.int st), .val (.ref b1), .val (.int wh), .val (.int (0 : Int32))] [(.int (1 : Int32))])) _
                exact retN X77 hx (t := .boolean) Bd.returns (by simp) (hb hby at_247) hr
              · exact ⟨rfl, N77, trivial⟩
          · obtain ⟨v79, _, ⟨T79, L79, k79, n79⟩, -, X79, ⟨Lc79, hQ79, l79, y79, z79⟩, st79⟩ := Jvm.LawKit.callS X61 hx (y := (⟨"com/example/falkirk/falkirk/loader/Utf8", "startsWithByteOrderMark", "([BI)Z"⟩ : MethodName)) hown (mvT hZ (hw _ (ow 5 rfl))) (mvT hZ (hw _ (ow 6 rfl))) (mvT hZ (hw _ (ow 7 rfl))) (mvT hZ (hw _ (ow 8 rfl))) (by decide) (backOf (W := 0) (rm_sw l Z a0 hw [] b1 st T61.heap n0 w_BYTE_ORDER_MARK (own_K_ext EX61 hK) cT n hTT hc0 hc1 hc2) hZ (hw _ (ow 8 rfl)) (hw _ (ow 7 rfl)) (by decide) (by decide)) (g := (mkF m 234 #[.val (.int p1), .val (.int p2), .val (.long q3), .second, .val (.int p4), .val (.int p5), .val (.int n), .val (.int st), .val (.ref b1), .val (.int wh), .val (.int (0 : Int32))] [(.int st), (.ref b1)])) rfl (by rw [hml]; rfl) (argsL := [(.ref b1), (.int st)]) (rest := []) (lenOf pd_1 rfl) rfl (Nat.le_of_eq rfl) (hb hby at_234) (fun _ _ => ⟨rfl, (rfl : T61.heap = T61.heap), (by decide : 1 + 0 ≤ _), (by decide : 7 + 0 ≤ _)⟩)
            dsimp only [Pt.U, Pt.locs, Pt.cells, Pt.slots] at X79 l79 y79 z79 st79 hQ79
            subst l79 y79 z79
            obtain ⟨hv79, Nq79, e79⟩ := hQ79
            obtain rfl : v79 = some (.int (0 : Int32)) := hv79.trans (congrArg some (congrArg Value.int ((if_neg (mt hlen.mp hc171_62)).trans ((if_pos ((own_at0 cT st (-17 : Int32) (own_byte _ _ 239 (by decide) (by decide) (by decide) (hTT.2.2.2 _ hin0_66).2 (-17 : Int32) (by decide))).mpr hc186_67)).trans (if_neg (mt (own_byte _ _ 187 (by decide) (by decide) (by decide) (hTT.2.2.2 _ hin1_69).2 (-69 : Int32) (by decide)).mp hc203_70))))))
            have N79 := Fr.app N61 Nq79
            have pre80 : ∀ t, Steps p.tables e below (T79.setTop (mkF m 247 #[.val (.int p1), .val (.int p2), .val (.long q3), .second, .val (.int p4), .val (.int p5), .val (.int n), .val (.int st), .val (.ref b1), .val (.int wh), .val (.int (0 : Int32))] [(.int (1 : Int32))])) t → Steps p.tables e below (s₁.setTop (entryFrame m #[(.int p1), (.int p2), (.long q3), (.int p4), (.int p5)] maxLocals)) t := fun t k => pre71 t (by
              show Steps p.tables e below (T61.setTop (mkF m 203 #[.val (.int p1), .val (.int p2), .val (.long q3), .second, .val (.int p4), .val (.int p5), .val (.int n), .val (.int st), .val (.ref b1), .val (.int wh), .unset] [(.int (187 : Int32)), (.int ((atv cT (st + (1 : Int32))) &&& (255 : Int32)))])) _
              refine XS.icmpYes X61.here hx rfl (pc0 := 203) (pc' := 227) rfl (hb hby at_203) rfl (feq hc203_70).2 (by decide) (by decide) ?_
              show Steps p.tables e below (T61.setTop (mkF m 227 #[.val (.int p1), .val (.int p2), .val (.long q3), .second, .val (.int p4), .val (.int p5), .val (.int n), .val (.int st), .val (.ref b1), .val (.int wh), .unset] [])) _
              refine XS.iconst X61.here hx rfl (hb hby at_227) ?_
              show Steps p.tables e below (T61.setTop (mkF m 228 #[.val (.int p1), .val (.int p2), .val (.long q3), .second, .val (.int p4), .val (.int p5), .val (.int n), .val (.int st), .val (.ref b1), .val (.int wh), .unset] [(.int (0 : Int32))])) _
              refine XS.istore X61.here hx rfl (hb hby at_228) rfl (l' := #[.val (.int p1), .val (.int p2), .val (.long q3), .second, .val (.int p4), .val (.int p5), .val (.int n), .val (.int st), .val (.ref b1), .val (.int wh), .val (.int (0 : Int32))]) rfl ?_
              show Steps p.tables e below (T61.setTop (mkF m 230 #[.val (.int p1), .val (.int p2), .val (.long q3), .second, .val (.int p4), .val (.int p5), .val (.int n), .val (.int st), .val (.ref b1), .val (.int wh), .val (.int (0 : Int32))] [])) _
              refine XS.aload X61.here hx rfl (hb hby at_230) rfl rfl ?_
              show Steps p.tables e below (T61.setTop (mkF m 232 #[.val (.int p1), .val (.int p2), .val (.long q3), .second, .val (.int p4), .val (.int p5), .val (.int n), .val (.int st), .val (.ref b1), .val (.int wh), .val (.int (0 : Int32))] [(.ref b1)])) _
              refine XS.iload X61.here hx rfl (hb hby at_232) rfl ?_
              show Steps p.tables e below (T61.setTop (mkF m 234 #[.val (.int p1), .val (.int p2), .val (.long q3), .second, .val (.int p4), .val (.int p5), .val (.int n), .val (.int st), .val (.ref b1), .val (.int wh), .val (.int (0 : Int32))] [(.int st), (.ref b1)])) _
              refine st79 _ ?_
              show Steps p.tables e below (T79.setTop (mkF m 237 #[.val (.int p1), .val (.int p2), .val (.long q3), .second, .val (.int p4), .val (.int p5), .val (.int n), .val (.int st), .val (.ref b1), .val (.int wh), .val (.int (0 : Int32))] [(.int (0 : Int32))])) _
              refine XS.iload X79.here hx rfl (hb hby at_237) rfl ?_
              show Steps p.tables e below (T79.setTop (mkF m 239 #[.val (.int p1), .val (.int p2), .val (.long q3), .second, .val (.int p4), .val (.int p5), .val (.int n), .val (.int st), .val (.ref b1), .val (.int wh), .val (.int (0 : Int32))] [(.int (0 : Int32)), (.int (0 : Int32))])) _
              refine XS.icmpNo X79.here hx rfl (hb hby at_239) rfl (teq (by decide)).2 ?_
              show Steps p.tables e below (T79.setTop (mkF m 242 #[.val (.int p1), .val (.int p2), .val (.long q3), .second, .val (.int p4), .val (.int p5), .val (.int n), .val (.int st), .val (.ref b1), .val (.int wh), .val (.int (0 : Int32))] [])) _
              refine XS.iconst X79.here hx rfl (hb hby at_242) ?_
              show Steps p.tables e below (T79.setTop (mkF m 243 #[.val (.int p1), .val (.int p2), .val (.long q3), .second, .val (.int p4), .val (.int p5), .val (.int n), .val (.int st), .val (.ref b1), .val (.int wh), .val (.int (0 : Int32))] [(.int (1 : Int32))])) _
              refine XS.goto X79.here hx rfl (pc0 := 243) (pc' := 247) rfl (hb hby at_243) (by decide) (by decide) ?_
              exact k)
            obtain ⟨fs, hr, hrun, hended, hW, hsame⟩ := X79.leave (v := some (.int (1 : Int32))) (fun h => by rw [Bd.returns] at h; cases h)
            refine ⟨_, _, pre80 _ ?_, hrun, hended, _, _, rfl, ?_, ⟨_, rfl⟩, hW, hsame.mono (by decide) (by decide)⟩
            · show Steps p.tables e below (T79.setTop (mkF m 247 #[.val (.int p1), .val (.int p2), .val (.long q3), .second, .val (.int p4), .val (.int p5), .val (.int n), .val (.int st), .val (.ref b1), .val (.int wh), .val (.int (0 : Int32))] [(.int (1 : Int32))])) _
              exact retN X79 hx (t := .boolean) Bd.returns (by simp) (hb hby at_247) hr
            · exact ⟨rfl, N79, trivial⟩
        · obtain ⟨v81, _, ⟨T81, L81, k81, n81⟩, -, X81, ⟨Lc81, hQ81, l81, y81, z81⟩, st81⟩ := Jvm.LawKit.callS X61 hx (y := (⟨"com/example/falkirk/falkirk/loader/Utf8", "startsWithByteOrderMark", "([BI)Z"⟩ : MethodName)) hown (mvT hZ (hw _ (ow 5 rfl))) (mvT hZ (hw _ (ow 6 rfl))) (mvT hZ (hw _ (ow 7 rfl))) (mvT hZ (hw _ (ow 8 rfl))) (by decide) (backOf (W := 0) (rm_sw l Z a0 hw [] b1 st T61.heap n0 w_BYTE_ORDER_MARK (own_K_ext EX61 hK) cT n hTT hc0 hc1 hc2) hZ (hw _ (ow 8 rfl)) (hw _ (ow 7 rfl)) (by decide) (by decide)) (g := (mkF m 234 #[.val (.int p1), .val (.int p2), .val (.long q3), .second, .val (.int p4), .val (.int p5), .val (.int n), .val (.int st), .val (.ref b1), .val (.int wh), .val (.int (0 : Int32))] [(.int st), (.ref b1)])) rfl (by rw [hml]; rfl) (argsL := [(.ref b1), (.int st)]) (rest := []) (lenOf pd_1 rfl) rfl (Nat.le_of_eq rfl) (hb hby at_234) (fun _ _ => ⟨rfl, (rfl : T61.heap = T61.heap), (by decide : 1 + 0 ≤ _), (by decide : 7 + 0 ≤ _)⟩)
          dsimp only [Pt.U, Pt.locs, Pt.cells, Pt.slots] at X81 l81 y81 z81 st81 hQ81
          subst l81 y81 z81
          obtain ⟨hv81, Nq81, e81⟩ := hQ81
          obtain rfl : v81 = some (.int (0 : Int32)) := hv81.trans (congrArg some (congrArg Value.int ((if_neg (mt hlen.mp hc171_62)).trans (if_neg (mt (own_at0 cT st (-17 : Int32) (own_byte _ _ 239 (by decide) (by decide) (by decide) (hTT.2.2.2 _ hin0_66).2 (-17 : Int32) (by decide))).mp hc186_67)))))
          have N81 := Fr.app N61 Nq81
          have pre82 : ∀ t, Steps p.tables e below (T81.setTop (mkF m 247 #[.val (.int p1), .val (.int p2), .val (.long q3), .second, .val (.int p4), .val (.int p5), .val (.int n), .val (.int st), .val (.ref b1), .val (.int wh), .val (.int (0 : Int32))] [(.int (1 : Int32))])) t → Steps p.tables e below (s₁.setTop (entryFrame m #[(.int p1), (.int p2), (.long q3), (.int p4), (.int p5)] maxLocals)) t := fun t k => pre68 t (by
            show Steps p.tables e below (T61.setTop (mkF m 186 #[.val (.int p1), .val (.int p2), .val (.long q3), .second, .val (.int p4), .val (.int p5), .val (.int n), .val (.int st), .val (.ref b1), .val (.int wh), .unset] [(.int (239 : Int32)), (.int ((atv cT st) &&& (255 : Int32)))])) _
            refine XS.icmpYes X61.here hx rfl (pc0 := 186) (pc' := 227) rfl (hb hby at_186) rfl (feq hc186_67).2 (by decide) (by decide) ?_
            show Steps p.tables e below (T61.setTop (mkF m 227 #[.val (.int p1), .val (.int p2), .val (.long q3), .second, .val (.int p4), .val (.int p5), .val (.int n), .val (.int st), .val (.ref b1), .val (.int wh), .unset] [])) _
            refine XS.iconst X61.here hx rfl (hb hby at_227) ?_
            show Steps p.tables e below (T61.setTop (mkF m 228 #[.val (.int p1), .val (.int p2), .val (.long q3), .second, .val (.int p4), .val (.int p5), .val (.int n), .val (.int st), .val (.ref b1), .val (.int wh), .unset] [(.int (0 : Int32))])) _
            refine XS.istore X61.here hx rfl (hb hby at_228) rfl (l' := #[.val (.int p1), .val (.int p2), .val (.long q3), .second, .val (.int p4), .val (.int p5), .val (.int n), .val (.int st), .val (.ref b1), .val (.int wh), .val (.int (0 : Int32))]) rfl ?_
            show Steps p.tables e below (T61.setTop (mkF m 230 #[.val (.int p1), .val (.int p2), .val (.long q3), .second, .val (.int p4), .val (.int p5), .val (.int n), .val (.int st), .val (.ref b1), .val (.int wh), .val (.int (0 : Int32))] [])) _
            refine XS.aload X61.here hx rfl (hb hby at_230) rfl rfl ?_
            show Steps p.tables e below (T61.setTop (mkF m 232 #[.val (.int p1), .val (.int p2), .val (.long q3), .second, .val (.int p4), .val (.int p5), .val (.int n), .val (.int st), .val (.ref b1), .val (.int wh), .val (.int (0 : Int32))] [(.ref b1)])) _
            refine XS.iload X61.here hx rfl (hb hby at_232) rfl ?_
            show Steps p.tables e below (T61.setTop (mkF m 234 #[.val (.int p1), .val (.int p2), .val (.long q3), .second, .val (.int p4), .val (.int p5), .val (.int n), .val (.int st), .val (.ref b1), .val (.int wh), .val (.int (0 : Int32))] [(.int st), (.ref b1)])) _
            refine st81 _ ?_
            show Steps p.tables e below (T81.setTop (mkF m 237 #[.val (.int p1), .val (.int p2), .val (.long q3), .second, .val (.int p4), .val (.int p5), .val (.int n), .val (.int st), .val (.ref b1), .val (.int wh), .val (.int (0 : Int32))] [(.int (0 : Int32))])) _
            refine XS.iload X81.here hx rfl (hb hby at_237) rfl ?_
            show Steps p.tables e below (T81.setTop (mkF m 239 #[.val (.int p1), .val (.int p2), .val (.long q3), .second, .val (.int p4), .val (.int p5), .val (.int n), .val (.int st), .val (.ref b1), .val (.int wh), .val (.int (0 : Int32))] [(.int (0 : Int32)), (.int (0 : Int32))])) _
            refine XS.icmpNo X81.here hx rfl (hb hby at_239) rfl (teq (by decide)).2 ?_
            show Steps p.tables e below (T81.setTop (mkF m 242 #[.val (.int p1), .val (.int p2), .val (.long q3), .second, .val (.int p4), .val (.int p5), .val (.int n), .val (.int st), .val (.ref b1), .val (.int wh), .val (.int (0 : Int32))] [])) _
            refine XS.iconst X81.here hx rfl (hb hby at_242) ?_
            show Steps p.tables e below (T81.setTop (mkF m 243 #[.val (.int p1), .val (.int p2), .val (.long q3), .second, .val (.int p4), .val (.int p5), .val (.int n), .val (.int st), .val (.ref b1), .val (.int wh), .val (.int (0 : Int32))] [(.int (1 : Int32))])) _
            refine XS.goto X81.here hx rfl (pc0 := 243) (pc' := 247) rfl (hb hby at_243) (by decide) (by decide) ?_
            exact k)
          obtain ⟨fs, hr, hrun, hended, hW, hsame⟩ := X81.leave (v := some (.int (1 : Int32))) (fun h => by rw [Bd.returns] at h; cases h)
          refine ⟨_, _, pre82 _ ?_, hrun, hended, _, _, rfl, ?_, ⟨_, rfl⟩, hW, hsame.mono (by decide) (by decide)⟩
          · show Steps p.tables e below (T81.setTop (mkF m 247 #[.val (.int p1), .val (.int p2), .val (.long q3), .second, .val (.int p4), .val (.int p5), .val (.int n), .val (.int st), .val (.ref b1), .val (.int wh), .val (.int (0 : Int32))] [(.int (1 : Int32))])) _
            exact retN X81 hx (t := .boolean) Bd.returns (by simp) (hb hby at_247) hr
          · exact ⟨rfl, N81, trivial⟩
    · have pre84 : ∀ t, Steps p.tables e below (T58.setTop (mkF m 171 #[.val (.int p1), .val (.int p2), .val (.long q3), .second, .val (.int p4), .val (.int p5), .val (.int n), .val (.int st), .val (.ref b1), .val (.int wh), .unset] [(.int n), (.int (st + (3 : Int32)))])) t → Steps p.tables e below (s₁.setTop (entryFrame m #[(.int p1), (.int p2), (.long q3), (.int p4), (.int p5)] maxLocals)) t := fun t k => pre60 t (by
        show Steps p.tables e below (T58.setTop (mkF m 149 #[.val (.int p1), .val (.int p2), .val (.long q3), .second, .val (.int p4), .val (.int p5), .val (.int n), .val (.int st), .val (.ref b1), .val (.int wh), .unset] [(.int (3 : Int32)), (.int wh)])) _
        refine XS.icmpYes X58.here hx rfl (pc0 := 149) (pc' := 165) rfl (hb hby at_149) rfl (flt hc149_59).2.1 (by decide) (by decide) ?_
        show Steps p.tables e below (T58.setTop (mkF m 165 #[.val (.int p1), .val (.int p2), .val (.long q3), .second, .val (.int p4), .val (.int p5), .val (.int n), .val (.int st), .val (.ref b1), .val (.int wh), .unset] [])) _
        refine XS.iload X58.here hx rfl (hb hby at_165) rfl ?_
        show Steps p.tables e below (T58.setTop (mkF m 167 #[.val (.int p1), .val (.int p2), .val (.long q3), .second, .val (.int p4), .val (.int p5), .val (.int n), .val (.int st), .val (.ref b1), .val (.int wh), .unset] [(.int st)])) _
        refine XS.iconst X58.here hx rfl (hb hby at_167) ?_
        show Steps p.tables e below (T58.setTop (mkF m 168 #[.val (.int p1), .val (.int p2), .val (.long q3), .second, .val (.int p4), .val (.int p5), .val (.int n), .val (.int st), .val (.ref b1), .val (.int wh), .unset] [(.int (3 : Int32)), (.int st)])) _
        refine XS.iadd X58.here hx rfl (hb hby at_168) rfl ?_
        show Steps p.tables e below (T58.setTop (mkF m 169 #[.val (.int p1), .val (.int p2), .val (.long q3), .second, .val (.int p4), .val (.int p5), .val (.int n), .val (.int st), .val (.ref b1), .val (.int wh), .unset] [(.int (st + (3 : Int32)))])) _
        refine XS.iload X58.here hx rfl (hb hby at_169) rfl ?_
        exact k)
      by_cases hc171_83 : n < (st + (3 : Int32))
      · obtain ⟨cT, hTT⟩ := Tq58
        obtain ⟨v85, _, ⟨T85, L85, k85, n85⟩, -, X85, ⟨Lc85, hQ85, l85, y85, z85⟩, st85⟩ := Jvm.LawKit.callS X58 hx (y := (⟨"com/example/falkirk/falkirk/loader/Utf8", "startsWithByteOrderMark", "([BI)Z"⟩ : MethodName)) hown (mvT hZ (hw _ (ow 5 rfl))) (mvT hZ (hw _ (ow 6 rfl))) (mvT hZ (hw _ (ow 7 rfl))) (mvT hZ (hw _ (ow 8 rfl))) (by decide) (backOf (W := 0) (rm_sw l Z a0 hw [] b1 st T58.heap n0 w_BYTE_ORDER_MARK (own_K_ext EX58 hK) cT n hTT hc0 hc1 hc2) hZ (hw _ (ow 8 rfl)) (hw _ (ow 7 rfl)) (by decide) (by decide)) (g := (mkF m 234 #[.val (.int p1), .val (.int p2), .val (.long q3), .second, .val (.int p4), .val (.int p5), .val (.int n), .val (.int st), .val (.ref b1), .val (.int wh), .val (.int (0 : Int32))] [(.int st), (.ref b1)])) rfl (by rw [hml]; rfl) (argsL := [(.ref b1), (.int st)]) (rest := []) (lenOf pd_1 rfl) rfl (Nat.le_of_eq rfl) (hb hby at_234) (fun _ _ => ⟨rfl, (rfl : T58.heap = T58.heap), (by decide : 1 + 0 ≤ _), (by decide : 7 + 0 ≤ _)⟩)
        dsimp only [Pt.U, Pt.locs, Pt.cells, Pt.slots] at X85 l85 y85 z85 st85 hQ85
        subst l85 y85 z85
        obtain ⟨hv85, Nq85, e85⟩ := hQ85
        obtain rfl : v85 = some (.int (0 : Int32)) := hv85.trans (congrArg some (congrArg Value.int (if_pos (hlen.mpr hc171_83))))
        have N85 := Fr.app N58 Nq85
        have pre86 : ∀ t, Steps p.tables e below (T85.setTop (mkF m 247 #[.val (.int p1), .val (.int p2), .val (.long q3), .second, .val (.int p4), .val (.int p5), .val (.int n), .val (.int st), .val (.ref b1), .val (.int wh), .val (.int (0 : Int32))] [(.int (1 : Int32))])) t → Steps p.tables e below (s₁.setTop (entryFrame m #[(.int p1), (.int p2), (.long q3), (.int p4), (.int p5)] maxLocals)) t := fun t k => pre84 t (by
          show Steps p.tables e below (T58.setTop (mkF m 171 #[.val (.int p1), .val (.int p2), .val (.long q3), .second, .val (.int p4), .val (.int p5), .val (.int n), .val (.int st), .val (.ref b1), .val (.int wh), .unset] [(.int n), (.int (st + (3 : Int32)))])) _
          refine XS.icmpYes X58.here hx rfl (pc0 := 171) (pc' := 227) rfl (hb hby at_171) rfl (tlt hc171_83).2.2.1 (by decide) (by decide) ?_
          show Steps p.tables e below (T58.setTop (mkF m 227 #[.val (.int p1), .val (.int p2), .val (.long q3), .second, .val (.int p4), .val (.int p5), .val (.int n), .val (.int st), .val (.ref b1), .val (.int wh), .unset] [])) _
          refine XS.iconst X58.here hx rfl (hb hby at_227) ?_
          show Steps p.tables e below (T58.setTop (mkF m 228 #[.val (.int p1), .val (.int p2), .val (.long q3), .second, .val (.int p4), .val (.int p5), .val (.int n), .val (.int st), .val (.ref b1), .val (.int wh), .unset] [(.int (0 : Int32))])) _
          refine XS.istore X58.here hx rfl (hb hby at_228) rfl (l' := #[.val (.int p1), .val (.int p2), .val (.long q3), .second, .val (.int p4), .val (.int p5), .val (.int n), .val (.int st), .val (.ref b1), .val (.int wh), .val (.int (0 : Int32))]) rfl ?_
          show Steps p.tables e below (T58.setTop (mkF m 230 #[.val (.int p1), .val (.int p2), .val (.long q3), .second, .val (.int p4), .val (.int p5), .val (.int n), .val (.int st), .val (.ref b1), .val (.int wh), .val (.int (0 : Int32))] [])) _
          refine XS.aload X58.here hx rfl (hb hby at_230) rfl rfl ?_
          show Steps p.tables e below (T58.setTop (mkF m 232 #[.val (.int p1), .val (.int p2), .val (.long q3), .second, .val (.int p4), .val (.int p5), .val (.int n), .val (.int st), .val (.ref b1), .val (.int wh), .val (.int (0 : Int32))] [(.ref b1)])) _
          refine XS.iload X58.here hx rfl (hb hby at_232) rfl ?_
          show Steps p.tables e below (T58.setTop (mkF m 234 #[.val (.int p1), .val (.int p2), .val (.long q3), .second, .val (.int p4), .val (.int p5), .val (.int n), .val (.int st), .val (.ref b1), .val (.int wh), .val (.int (0 : Int32))] [(.int st), (.ref b1)])) _
          refine st85 _ ?_
          show Steps p.tables e below (T85.setTop (mkF m 237 #[.val (.int p1), .val (.int p2), .val (.long q3), .second, .val (.int p4), .val (.int p5), .val (.int n), .val (.int st), .val (.ref b1), .val (.int wh), .val (.int (0 : Int32))] [(.int (0 : Int32))])) _
          refine XS.iload X85.here hx rfl (hb hby at_237) rfl ?_
          show Steps p.tables e below (T85.setTop (mkF m 239 #[.val (.int p1), .val (.int p2), .val (.long q3), .second, .val (.int p4), .val (.int p5), .val (.int n), .val (.int st), .val (.ref b1), .val (.int wh), .val (.int (0 : Int32))] [(.int (0 : Int32)), (.int (0 : Int32))])) _
          refine XS.icmpNo X85.here hx rfl (hb hby at_239) rfl (teq (by decide)).2 ?_
          show Steps p.tables e below (T85.setTop (mkF m 242 #[.val (.int p1), .val (.int p2), .val (.long q3), .second, .val (.int p4), .val (.int p5), .val (.int n), .val (.int st), .val (.ref b1), .val (.int wh), .val (.int (0 : Int32))] [])) _
          refine XS.iconst X85.here hx rfl (hb hby at_242) ?_
          show Steps p.tables e below (T85.setTop (mkF m 243 #[.val (.int p1), .val (.int p2), .val (.long q3), .second, .val (.int p4), .val (.int p5), .val (.int n), .val (.int st), .val (.ref b1), .val (.int wh), .val (.int (0 : Int32))] [(.int (1 : Int32))])) _
          refine XS.goto X85.here hx rfl (pc0 := 243) (pc' := 247) rfl (hb hby at_243) (by decide) (by decide) ?_
          exact k)
        obtain ⟨fs, hr, hrun, hended, hW, hsame⟩ := X85.leave (v := some (.int (1 : Int32))) (fun h => by rw [Bd.returns] at h; cases h)
        refine ⟨_, _, pre86 _ ?_, hrun, hended, _, _, rfl, ?_, ⟨_, rfl⟩, hW, hsame.mono (by decide) (by decide)⟩
        · show Steps p.tables e below (T85.setTop (mkF m 247 #[.val (.int p1), .val (.int p2), .val (.long q3), .second, .val (.int p4), .val (.int p5), .val (.int n), .val (.int st), .val (.ref b1), .val (.int wh), .val (.int (0 : Int32))] [(.int (1 : Int32))])) _
          exact retN X85 hx (t := .boolean) Bd.returns (by simp) (hb hby at_247) hr
        · exact ⟨rfl, N85, trivial⟩
      · obtain ⟨cT, hTT⟩ := Tq58
        have hin0_87 : ¬ (st < 0 ∨ cT.slots.size ≤ (st).toNatClampNeg) := inb_of hTT.2.1 (hb0 hc171_83)
        have pre89 : ∀ t, Steps p.tables e below (T58.setTop (mkF m 186 #[.val (.int p1), .val (.int p2), .val (.long q3), .second, .val (.int p4), .val (.int p5), .val (.int n), .val (.int st), .val (.ref b1), .val (.int wh), .unset] [(.int (239 : Int32)), (.int ((atv cT st) &&& (255 : Int32)))])) t → Steps p.tables e below (s₁.setTop (entryFrame m #[(.int p1), (.int p2), (.long q3), (.int p4), (.int p5)] maxLocals)) t := fun t k => pre84 t (by
          show Steps p.tables e below (T58.setTop (mkF m 171 #[.val (.int p1), .val (.int p2), .val (.long q3), .second, .val (.int p4), .val (.int p5), .val (.int n), .val (.int st), .val (.ref b1), .val (.int wh), .unset] [(.int n), (.int (st + (3 : Int32)))])) _
          refine XS.icmpNo X58.here hx rfl (hb hby at_171) rfl (flt hc171_83).2.2.1 ?_
          show Steps p.tables e below (T58.setTop (mkF m 174 #[.val (.int p1), .val (.int p2), .val (.long q3), .second, .val (.int p4), .val (.int p5), .val (.int n), .val (.int st), .val (.ref b1), .val (.int wh), .unset] [])) _
          refine XS.aload X58.here hx rfl (hb hby at_174) rfl rfl ?_
          show Steps p.tables e below (T58.setTop (mkF m 176 #[.val (.int p1), .val (.int p2), .val (.long q3), .second, .val (.int p4), .val (.int p5), .val (.int n), .val (.int st), .val (.ref b1), .val (.int wh), .unset] [(.ref b1)])) _
          refine XS.iload X58.here hx rfl (hb hby at_176) rfl ?_
          show Steps p.tables e below (T58.setTop (mkF m 178 #[.val (.int p1), .val (.int p2), .val (.long q3), .second, .val (.int p4), .val (.int p5), .val (.int n), .val (.int st), .val (.ref b1), .val (.int wh), .unset] [(.int st), (.ref b1)])) _
          refine X58.baloadBytes hx (j := st) (v := .int (atv cT st)) (by rw [(rfl : T58.heap = T58.heap)]; exact hTT.1.1) (State.isArrayOf_alike hZ.alike hTT.1.2.1) hTT.1.2.2 hin0_87 (hTT.2.2.2 _ hin0_87).1 (g := (mkF m 178 #[.val (.int p1), .val (.int p2), .val (.long q3), .second, .val (.int p4), .val (.int p5), .val (.int n), .val (.int st), .val (.ref b1), .val (.int wh), .unset] [(.int st), (.ref b1)])) rfl rfl (hb hby at_178) _ ?_
          show Steps p.tables e below (T58.setTop (mkF m 179 #[.val (.int p1), .val (.int p2), .val (.long q3), .second, .val (.int p4), .val (.int p5), .val (.int n), .val (.int st), .val (.ref b1), .val (.int wh), .unset] [(.int (atv cT st))])) _
          refine XS.sipush X58.here hx rfl (hb hby at_179) ?_
          show Steps p.tables e below (T58.setTop (mkF m 182 #[.val (.int p1), .val (.int p2), .val (.long q3), .second, .val (.int p4), .val (.int p5), .val (.int n), .val (.int st), .val (.ref b1), .val (.int wh), .unset] [(.int (255 : Int32)), (.int (atv cT st))])) _
          refine XS.iand X58.here hx rfl (hb hby at_182) rfl ?_
          show Steps p.tables e below (T58.setTop (mkF m 183 #[.val (.int p1), .val (.int p2), .val (.long q3), .second, .val (.int p4), .val (.int p5), .val (.int n), .val (.int st), .val (.ref b1), .val (.int wh), .unset] [(.int ((atv cT st) &&& (255 : Int32)))])) _
          refine XS.sipush X58.here hx rfl (hb hby at_183) ?_
          exact k)
        by_cases hc186_88 : ((atv cT st) &&& (255 : Int32)) = (239 : Int32)
        · have hin1_90 : ¬ ((st + (1 : Int32)) < 0 ∨ cT.slots.size ≤ ((st + (1 : Int32))).toNatClampNeg) := inb_of hTT.2.1 (hb1 hc171_83)
          have pre92 : ∀ t, Steps p.tables e below (T58.setTop (mkF m 203 #[.val (.int p1), .val (.int p2), .val (.long q3), .second, .val (.int p4), .val (.int p5), .val (.int n), .val (.int st), .val (.ref b1), .val (.int wh), .unset] [(.int (187 : Int32)), (.int ((atv cT (st + (1 : Int32))) &&& (255 : Int32)))])) t → Steps p.tables e below (s₁.setTop (entryFrame m #[(.int p1), (.int p2), (.long q3), (.int p4), (.int p5)] maxLocals)) t := fun t k => pre89 t (by
            show Steps p.tables e below (T58.setTop (mkF m 186 #[.val (.int p1), .val (.int p2), .val (.long q3), .second, .val (.int p4), .val (.int p5), .val (.int n), .val (.int st), .val (.ref b1), .val (.int wh), .unset] [(.int (239 : Int32)), (.int ((atv cT st) &&& (255 : Int32)))])) _
            refine XS.icmpNo X58.here hx rfl (hb hby at_186) rfl (teq hc186_88).2 ?_
            show Steps p.tables e below (T58.setTop (mkF m 189 #[.val (.int p1), .val (.int p2), .val (.long q3), .second, .val (.int p4), .val (.int p5), .val (.int n), .val (.int st), .val (.ref b1), .val (.int wh), .unset] [])) _
            refine XS.aload X58.here hx rfl (hb hby at_189) rfl rfl ?_
            show Steps p.tables e below (T58.setTop (mkF m 191 #[.val (.int p1), .val (.int p2), .val (.long q3), .second, .val (.int p4), .val (.int p5), .val (.int n), .val (.int st), .val (.ref b1), .val (.int wh), .unset] [(.ref b1)])) _
            refine XS.iload X58.here hx rfl (hb hby at_191) rfl ?_
            show Steps p.tables e below (T58.setTop (mkF m 193 #[.val (.int p1), .val (.int p2), .val (.long q3), .second, .val (.int p4), .val (.int p5), .val (.int n), .val (.int st), .val (.ref b1), .val (.int wh), .unset] [(.int st), (.ref b1)])) _
            refine XS.iconst X58.here hx rfl (hb hby at_193) ?_
            show Steps p.tables e below (T58.setTop (mkF m 194 #[.val (.int p1), .val (.int p2), .val (.long q3), .second, .val (.int p4), .val (.int p5), .val (.int n), .val (.int st), .val (.ref b1), .val (.int wh), .unset] [(.int (1 : Int32)), (.int st), (.ref b1)])) _
            refine XS.iadd X58.here hx rfl (hb hby at_194) rfl ?_
            show Steps p.tables e below (T58.setTop (mkF m 195 #[.val (.int p1), .val (.int p2), .val (.long q3), .second, .val (.int p4), .val (.int p5), .val (.int n), .val (.int st), .val (.ref b1), .val (.int wh), .unset] [(.int (st + (1 : Int32))), (.ref b1)])) _
            refine X58.baloadBytes hx (j := (st + (1 : Int32))) (v := .int (atv cT (st + (1 : Int32)))) (by rw [(rfl : T58.heap = T58.heap)]; exact hTT.1.1) (State.isArrayOf_alike hZ.alike hTT.1.2.1) hTT.1.2.2 hin1_90 (hTT.2.2.2 _ hin1_90).1 (g := (mkF m 195 #[.val (.int p1), .val (.int p2), .val (.long q3), .second, .val (.int p4), .val (.int p5), .val (.int n), .val (.int st), .val (.ref b1), .val (.int wh), .unset] [(.int (st + (1 : Int32))), (.ref b1)])) rfl rfl (hb hby at_195) _ ?_
            show Steps p.tables e below (T58.setTop (mkF m 196 #[.val (.int p1), .val (.int p2), .val (.long q3), .second, .val (.int p4), .val (.int p5), .val (.int n), .val (.int st), .val (.ref b1), .val (.int wh), .unset] [(.int (atv cT (st + (1 : Int32))))])) _
            refine XS.sipush X58.here hx rfl (hb hby at_196) ?_
            show Steps p.tables e below (T58.setTop (mkF m 199 #[.val (.int p1), .val (.int p2), .val (.long q3), .second, .val (.int p4), .val (.int p5), .val (.int n), .val (.int st), .val (.ref b1), .val (.int wh), .unset] [(.int (255 : Int32)), (.int (atv cT (st + (1 : Int32))))])) _
            refine XS.iand X58.here hx rfl (hb hby at_199) rfl ?_
            show Steps p.tables e below (T58.setTop (mkF m 200 #[.val (.int p1), .val (.int p2), .val (.long q3), .second, .val (.int p4), .val (.int p5), .val (.int n), .val (.int st), .val (.ref b1), .val (.int wh), .unset] [(.int ((atv cT (st + (1 : Int32))) &&& (255 : Int32)))])) _
            refine XS.sipush X58.here hx rfl (hb hby at_200) ?_
            exact k)
          by_cases hc203_91 : ((atv cT (st + (1 : Int32))) &&& (255 : Int32)) = (187 : Int32)
          · have hin2_93 : ¬ ((st + (2 : Int32)) < 0 ∨ cT.slots.size ≤ ((st + (2 : Int32))).toNatClampNeg) := inb_of hTT.2.1 (hb2 hc171_83)
            have pre95 : ∀ t, Steps p.tables e below (T58.setTop (mkF m 220 #[.val (.int p1), .val (.int p2), .val (.long q3), .second, .val (.int p4), .val (.int p5), .val (.int n), .val (.int st), .val (.ref b1), .val (.int wh), .unset] [(.int (191 : Int32)), (.int ((atv cT (st + (2 : Int32))) &&& (255 : Int32)))])) t → Steps p.tables e below (s₁.setTop (entryFrame m #[(.int p1), (.int p2), (.long q3), (.int p4), (.int p5)] maxLocals)) t := fun t k => pre92 t (by
              show Steps p.tables e below (T58.setTop (mkF m 203 #[.val (.int p1), .val (.int p2), .val (.long q3), .second, .val (.int p4), .val (.int p5), .val (.int n), .val (.int st), .val (.ref b1), .val (.int wh), .unset] [(.int (187 : Int32)), (.int ((atv cT (st + (1 : Int32))) &&& (255 : Int32)))])) _
              refine XS.icmpNo X58.here hx rfl (hb hby at_203) rfl (teq hc203_91).2 ?_
              show Steps p.tables e below (T58.setTop (mkF m 206 #[.val (.int p1), .val (.int p2), .val (.long q3), .second, .val (.int p4), .val (.int p5), .val (.int n), .val (.int st), .val (.ref b1), .val (.int wh), .unset] [])) _
              refine XS.aload X58.here hx rfl (hb hby at_206) rfl rfl ?_
              show Steps p.tables e below (T58.setTop (mkF m 208 #[.val (.int p1), .val (.int p2), .val (.long q3), .second, .val (.int p4), .val (.int p5), .val (.int n), .val (.int st), .val (.ref b1), .val (.int wh), .unset] [(.ref b1)])) _
              refine XS.iload X58.here hx rfl (hb hby at_208) rfl ?_
              show Steps p.tables e below (T58.setTop (mkF m 210 #[.val (.int p1), .val (.int p2), .val (.long q3), .second, .val (.int p4), .val (.int p5), .val (.int n), .val (.int st), .val (.ref b1), .val (.int wh), .unset] [(.int st), (.ref b1)])) _
              refine XS.iconst X58.here hx rfl (hb hby at_210) ?_
              show Steps p.tables e below (T58.setTop (mkF m 211 #[.val (.int p1), .val (.int p2), .val (.long q3), .second, .val (.int p4), .val (.int p5), .val (.int n), .val (.int st), .val (.ref b1), .val (.int wh), .unset] [(.int (2 : Int32)), (.int st), (.ref b1)])) _
              refine XS.iadd X58.here hx rfl (hb hby at_211) rfl ?_
              show Steps p.tables e below (T58.setTop (mkF m 212 #[.val (.int p1), .val (.int p2), .val (.long q3), .second, .val (.int p4), .val (.int p5), .val (.int n), .val (.int st), .val (.ref b1), .val (.int wh), .unset] [(.int (st + (2 : Int32))), (.ref b1)])) _
              refine X58.baloadBytes hx (j := (st + (2 : Int32))) (v := .int (atv cT (st + (2 : Int32)))) (by rw [(rfl : T58.heap = T58.heap)]; exact hTT.1.1) (State.isArrayOf_alike hZ.alike hTT.1.2.1) hTT.1.2.2 hin2_93 (hTT.2.2.2 _ hin2_93).1 (g := (mkF m 212 #[.val (.int p1), .val (.int p2), .val (.long q3), .second, .val (.int p4), .val (.int p5), .val (.int n), .val (.int st), .val (.ref b1), .val (.int wh), .unset] [(.int (st + (2 : Int32))), (.ref b1)])) rfl rfl (hb hby at_212) _ ?_
              show Steps p.tables e below (T58.setTop (mkF m 213 #[.val (.int p1), .val (.int p2), .val (.long q3), .second, .val (.int p4), .val (.int p5), .val (.int n), .val (.int st), .val (.ref b1), .val (.int wh), .unset] [(.int (atv cT (st + (2 : Int32))))])) _
              refine XS.sipush X58.here hx rfl (hb hby at_213) ?_
              show Steps p.tables e below (T58.setTop (mkF m 216 #[.val (.int p1), .val (.int p2), .val (.long q3), .second, .val (.int p4), .val (.int p5), .val (.int n), .val (.int st), .val (.ref b1), .val (.int wh), .unset] [(.int (255 : Int32)), (.int (atv cT (st + (2 : Int32))))])) _
              refine XS.iand X58.here hx rfl (hb hby at_216) rfl ?_
              show Steps p.tables e below (T58.setTop (mkF m 217 #[.val (.int p1), .val (.int p2), .val (.long q3), .second, .val (.int p4), .val (.int p5), .val (.int n), .val (.int st), .val (.ref b1), .val (.int wh), .unset] [(.int ((atv cT (st + (2 : Int32))) &&& (255 : Int32)))])) _
              refine XS.sipush X58.here hx rfl (hb hby at_217) ?_
              exact k)
            by_cases hc220_94 : ((atv cT (st + (2 : Int32))) &&& (255 : Int32)) = (191 : Int32)
            · obtain ⟨v96, _, ⟨T96, L96, k96, n96⟩, -, X96, ⟨Lc96, hQ96, l96, y96, z96⟩, st96⟩ := Jvm.LawKit.callS X58 hx (y := (⟨"com/example/falkirk/falkirk/loader/Utf8", "startsWithByteOrderMark", "([BI)Z"⟩ : MethodName)) hown (mvT hZ (hw _ (ow 5 rfl))) (mvT hZ (hw _ (ow 6 rfl))) (mvT hZ (hw _ (ow 7 rfl))) (mvT hZ (hw _ (ow 8 rfl))) (by decide) (backOf (W := 0) (rm_sw l Z a0 hw [] b1 st T58.heap n0 w_BYTE_ORDER_MARK (own_K_ext EX58 hK) cT n hTT hc0 hc1 hc2) hZ (hw _ (ow 8 rfl)) (hw _ (ow 7 rfl)) (by decide) (by decide)) (g := (mkF m 234 #[.val (.int p1), .val (.int p2), .val (.long q3), .second, .val (.int p4), .val (.int p5), .val (.int n), .val (.int st), .val (.ref b1), .val (.int wh), .val (.int (1 : Int32))] [(.int st), (.ref b1)])) rfl (by rw [hml]; rfl) (argsL := [(.ref b1), (.int st)]) (rest := []) (lenOf pd_1 rfl) rfl (Nat.le_of_eq rfl) (hb hby at_234) (fun _ _ => ⟨rfl, (rfl : T58.heap = T58.heap), (by decide : 1 + 0 ≤ _), (by decide : 7 + 0 ≤ _)⟩)
              dsimp only [Pt.U, Pt.locs, Pt.cells, Pt.slots] at X96 l96 y96 z96 st96 hQ96
              subst l96 y96 z96
              obtain ⟨hv96, Nq96, e96⟩ := hQ96
              obtain rfl : v96 = some (.int (1 : Int32)) := hv96.trans (congrArg some (congrArg Value.int ((if_neg (mt hlen.mp hc171_83)).trans ((if_pos ((own_at0 cT st (-17 : Int32) (own_byte _ _ 239 (by decide) (by decide) (by decide) (hTT.2.2.2 _ hin0_87).2 (-17 : Int32) (by decide))).mpr hc186_88)).trans ((if_pos ((own_byte _ _ 187 (by decide) (by decide) (by decide) (hTT.2.2.2 _ hin1_90).2 (-69 : Int32) (by decide)).mpr hc203_91)).trans (if_pos ((own_byte _ _ 191 (by decide) (by decide) (by decide) (hTT.2.2.2 _ hin2_93).2 (-65 : Int32) (by decide)).mpr hc220_94)))))))
              have N96 := Fr.app N58 Nq96
              have pre97 : ∀ t, Steps p.tables e below (T96.setTop (mkF m 247 #[.val (.int p1), .val (.int p2), .val (.long q3), .second, .val (.int p4), .val (.int p5), .val (.int n), .val (.int st), .val (.ref b1), .val (.int wh), .val (.int (1 : Int32))] [(.int (1 : Int32))])) t → Steps p.tables e below (s₁.setTop (entryFrame m #[(.int p1), (.int p2), (.long q3), (.int p4), (.int p5)] maxLocals)) t := fun t k => pre95 t (by
                show Steps p.tables e below (T58.setTop (mkF m 220 #[.val (.int p1), .val (.int p2), .val (.long q3), .second, .val (.int p4), .val (.int p5), .val (.int n), .val (.int st), .val (.ref b1), .val (.int wh), .unset] [(.int (191 : Int32)), (.int ((atv cT (st + (2 : Int32))) &&& (255 : Int32)))])) _
                refine XS.icmpNo X58.here hx rfl (hb hby at_220) rfl (teq hc220_94).2 ?_
                show Steps p.tables e below (T58.setTop (mkF m 223 #[.val (.int p1), .val (.int p2), .val (.long q3), .second, .val (.int p4), .val (.int p5), .val (.int n), .val (.int st), .val (.ref b1), .val (.int wh), .unset] [])) _
                refine XS.iconst X58.here hx rfl (hb hby at_223) ?_
                show Steps p.tables e below (T58.setTop (mkF m 224 #[.val (.int p1), .val (.int p2), .val (.long q3), .second, .val (.int p4), .val (.int p5), .val (.int n), .val (.int st), .val (.ref b1), .val (.int wh), .unset] [(.int (1 : Int32))])) _
                refine XS.goto X58.here hx rfl (pc0 := 224) (pc' := 228) rfl (hb hby at_224) (by decide) (by decide) ?_
                show Steps p.tables e below (T58.setTop (mkF m 228 #[.val (.int p1), .val (.int p2), .val (.long q3), .second, .val (.int p4), .val (.int p5), .val (.int n), .val (.int st), .val (.ref b1), .val (.int wh), .unset] [(.int (1 : Int32))])) _
                refine XS.istore X58.here hx rfl (hb hby at_228) rfl (l' := #[.val (.int p1), .val (.int p2), .val (.long q3), .second, .val (.int p4), .val (.int p5), .val (.int n), .val (.int st), .val (.ref b1), .val (.int wh), .val (.int (1 : Int32))]) rfl ?_
                show Steps p.tables e below (T58.setTop (mkF m 230 #[.val (.int p1), .val (.int p2), .val (.long q3), .second, .val (.int p4), .val (.int p5), .val (.int n), .val (.int st), .val (.ref b1), .val (.int wh), .val (.int (1 : Int32))] [])) _
                refine XS.aload X58.here hx rfl (hb hby at_230) rfl rfl ?_
                show Steps p.tables e below (T58.setTop (mkF m 232 #[.val (.int p1), .val (.int p2), .val (.long q3), .second, .val (.int p4), .val (.int p5), .val (.int n), .val (.int st), .val (.ref b1), .val (.int wh), .val (.int (1 : Int32))] [(.ref b1)])) _
                refine XS.iload X58.here hx rfl (hb hby at_232) rfl ?_
                show Steps p.tables e below (T58.setTop (mkF m 234 #[.val (.int p1), .val (.int p2), .val (.long q3), .second, .val (.int p4), .val (.int p5), .val (.int n), .val (.int st), .val (.ref b1), .val (.int wh), .val (.int (1 : Int32))] [(.int st), (.ref b1)])) _
                refine st96 _ ?_
                show Steps p.tables e below (T96.setTop (mkF m 237 #[.val (.int p1), .val (.int p2), .val (.long q3), .second, .val (.int p4), .val (.int p5), .val (.int n), .val (.int st), .val (.ref b1), .val (.int wh), .val (.int (1 : Int32))] [(.int (1 : Int32))])) _
                refine XS.iload X96.here hx rfl (hb hby at_237) rfl ?_
                show Steps p.tables e below (T96.setTop (mkF m 239 #[.val (.int p1), .val (.int p2), .val (.long q3), .second, .val (.int p4), .val (.int p5), .val (.int n), .val (.int st), .val (.ref b1), .val (.int wh), .val (.int (1 : Int32))] [(.int (1 : Int32)), (.int (1 : Int32))])) _
                refine XS.icmpNo X96.here hx rfl (hb hby at_239) rfl (teq (by decide)).2 ?_
                show Steps p.tables e below (T96.setTop (mkF m 242 #[.val (.int p1), .val (.int p2), .val (.long q3), .second, .val (.int p4), .val (.int p5), .val (.int n), .val (.int st), .val (.ref b1), .val (.int wh), .val (.int (1 : Int32))] [])) _
                refine XS.iconst X96.here hx rfl (hb hby at_242) ?_
                show Steps p.tables e below (T96.setTop (mkF m 243 #[.val (.int p1), .val (.int p2), .val (.long q3), .second, .val (.int p4), .val (.int p5), .val (.int n), .val (.int st), .val (.ref b1), .val (.int wh), .val (.int (1 : Int32))] [(.int (1 : Int32))])) _
                refine XS.goto X96.here hx rfl (pc0 := 243) (pc' := 247) rfl (hb hby at_243) (by decide) (by decide) ?_
                exact k)
              obtain ⟨fs, hr, hrun, hended, hW, hsame⟩ := X96.leave (v := some (.int (1 : Int32))) (fun h => by rw [Bd.returns] at h; cases h)
              refine ⟨_, _, pre97 _ ?_, hrun, hended, _, _, rfl, ?_, ⟨_, rfl⟩, hW, hsame.mono (by decide) (by decide)⟩
              · show Steps p.tables e below (T96.setTop (mkF m 247 #[.val (.int p1), .val (.int p2), .val (.long q3), .second, .val (.int p4), .val (.int p5), .val (.int n), .val (.int st), .val (.ref b1), .val (.int wh), .val (.int (1 : Int32))] [(.int (1 : Int32))])) _
                exact retN X96 hx (t := .boolean) Bd.returns (by simp) (hb hby at_247) hr
              · exact ⟨rfl, N96, trivial⟩
            · obtain ⟨v98, _, ⟨T98, L98, k98, n98⟩, -, X98, ⟨Lc98, hQ98, l98, y98, z98⟩, st98⟩ := Jvm.LawKit.callS X58 hx (y := (⟨"com/example/falkirk/falkirk/loader/Utf8", "startsWithByteOrderMark", "([BI)Z"⟩ : MethodName)) hown (mvT hZ (hw _ (ow 5 rfl))) (mvT hZ (hw _ (ow 6 rfl))) (mvT hZ (hw _ (ow 7 rfl))) (mvT hZ (hw _ (ow 8 rfl))) (by decide) (backOf (W := 0) (rm_sw l Z a0 hw [] b1 st T58.heap n0 w_BYTE_ORDER_MARK (own_K_ext EX58 hK) cT n hTT hc0 hc1 hc2) hZ (hw _ (ow 8 rfl)) (hw _ (ow 7 rfl)) (by decide) (by decide)) (g := (mkF m 234 #[.val (.int p1), .val (.int p2), .val (.long q3), .second, .val (.int p4), .val (.int p5), .val (.int n), .val (.int st), .val (.ref b1), .val (.int wh), .val (.int (0 : Int32))] [(.int st), (.ref b1)])) rfl (by rw [hml]; rfl) (argsL := [(.ref b1), (.int st)]) (rest := []) (lenOf pd_1 rfl) rfl (Nat.le_of_eq rfl) (hb hby at_234) (fun _ _ => ⟨rfl, (rfl : T58.heap = T58.heap), (by decide : 1 + 0 ≤ _), (by decide : 7 + 0 ≤ _)⟩)
              dsimp only [Pt.U, Pt.locs, Pt.cells, Pt.slots] at X98 l98 y98 z98 st98 hQ98
              subst l98 y98 z98
              obtain ⟨hv98, Nq98, e98⟩ := hQ98
              obtain rfl : v98 = some (.int (0 : Int32)) := hv98.trans (congrArg some (congrArg Value.int ((if_neg (mt hlen.mp hc171_83)).trans ((if_pos ((own_at0 cT st (-17 : Int32) (own_byte _ _ 239 (by decide) (by decide) (by decide) (hTT.2.2.2 _ hin0_87).2 (-17 : Int32) (by decide))).mpr hc186_88)).trans ((if_pos ((own_byte _ _ 187 (by decide) (by decide) (by decide) (hTT.2.2.2 _ hin1_90).2 (-69 : Int32) (by decide)).mpr hc203_91)).trans (if_neg (mt (own_byte _ _ 191 (by decide) (by decide) (by decide) (hTT.2.2.2 _ hin2_93).2 (-65 : Int32) (by decide)).mp hc220_94)))))))
              have N98 := Fr.app N58 Nq98
              have pre99 : ∀ t, Steps p.tables e below (T98.setTop (mkF m 247 #[.val (.int p1), .val (.int p2), .val (.long q3), .second, .val (.int p4), .val (.int p5), .val (.int n), .val (.int st), .val (.ref b1), .val (.int wh), .val (.int (0 : Int32))] [(.int (1 : Int32))])) t → Steps p.tables e below (s₁.setTop (entryFrame m #[(.int p1), (.int p2), (.long q3), (.int p4), (.int p5)] maxLocals)) t := fun t k => pre95 t (by
                show Steps p.tables e below (T58.setTop (mkF m 220 #[.val (.int p1), .val (.int p2), .val (.long q3), .second, .val (.int p4), .val (.int p5), .val (.int n), .val (.int st), .val (.ref b1), .val (.int wh), .unset] [(.int (191 : Int32)), (.int ((atv cT (st + (2 : Int32))) &&& (255 : Int32)))])) _
                refine XS.icmpYes X58.here hx rfl (pc0 := 220) (pc' := 227) rfl (hb hby at_220) rfl (feq hc220_94).2 (by decide) (by decide) ?_
                show Steps p.tables e below (T58.setTop (mkF m 227 #[.val (.int p1), .val (.int p2), .val (.long q3), .second, .val (.int p4), .val (.int p5), .val (.int n), .val (.int st), .val (.ref b1), .val (.int wh), .unset] [])) _
                refine XS.iconst X58.here hx rfl (hb hby at_227) ?_
                show Steps p.tables e below (T58.setTop (mkF m 228 #[.val (.int p1), .val (.int p2), .val (.long q3), .second, .val (.int p4), .val (.int p5), .val (.int n), .val (.int st), .val (.ref b1), .val (.int wh), .unset] [(.int (0 : Int32))])) _
                refine XS.istore X58.here hx rfl (hb hby at_228) rfl (l' := #[.val (.int p1), .val (.int p2), .val (.long q3), .second, .val (.int p4), .val (.int p5), .val (.int n), .val (.int st), .val (.ref b1), .val (.int wh), .val (.int (0 : Int32))]) rfl ?_
                show Steps p.tables e below (T58.setTop (mkF m 230 #[.val (.int p1), .val (.int p2), .val (.long q3), .second, .val (.int p4), .val (.int p5), .val (.int n), .val (.int st), .val (.ref b1), .val (.int wh), .val (.int (0 : Int32))] [])) _
                refine XS.aload X58.here hx rfl (hb hby at_230) rfl rfl ?_
                show Steps p.tables e below (T58.setTop (mkF m 232 #[.val (.int p1), .val (.int p2), .val (.long q3), .second, .val (.int p4), .val (.int p5), .val (.int n), .val (.int st), .val (.ref b1), .val (.int wh), .val (.int (0 : Int32))] [(.ref b1)])) _
                refine XS.iload X58.here hx rfl (hb hby at_232) rfl ?_
                show Steps p.tables e below (T58.setTop (mkF m 234 #[.val (.int p1), .val (.int p2), .val (.long q3), .second, .val (.int p4), .val (.int p5), .val (.int n), .val (.int st), .val (.ref b1), .val (.int wh), .val (.int (0 : Int32))] [(.int st), (.ref b1)])) _
                refine st98 _ ?_
                show Steps p.tables e below (T98.setTop (mkF m 237 #[.val (.int p1), .val (.int p2), .val (.long q3), .second, .val (.int p4), .val (.int p5), .val (.int n), .val (.int st), .val (.ref b1), .val (.int wh), .val (.int (0 : Int32))] [(.int (0 : Int32))])) _
                refine XS.iload X98.here hx rfl (hb hby at_237) rfl ?_
                show Steps p.tables e below (T98.setTop (mkF m 239 #[.val (.int p1), .val (.int p2), .val (.long q3), .second, .val (.int p4), .val (.int p5), .val (.int n), .val (.int st), .val (.ref b1), .val (.int wh), .val (.int (0 : Int32))] [(.int (0 : Int32)), (.int (0 : Int32))])) _
                refine XS.icmpNo X98.here hx rfl (hb hby at_239) rfl (teq (by decide)).2 ?_
                show Steps p.tables e below (T98.setTop (mkF m 242 #[.val (.int p1), .val (.int p2), .val (.long q3), .second, .val (.int p4), .val (.int p5), .val (.int n), .val (.int st), .val (.ref b1), .val (.int wh), .val (.int (0 : Int32))] [])) _
                refine XS.iconst X98.here hx rfl (hb hby at_242) ?_
                show Steps p.tables e below (T98.setTop (mkF m 243 #[.val (.int p1), .val (.int p2), .val (.long q3), .second, .val (.int p4), .val (.int p5), .val (.int n), .val (.int st), .val (.ref b1), .val (.int wh), .val (.int (0 : Int32))] [(.int (1 : Int32))])) _
                refine XS.goto X98.here hx rfl (pc0 := 243) (pc' := 247) rfl (hb hby at_243) (by decide) (by decide) ?_
                exact k)
              obtain ⟨fs, hr, hrun, hended, hW, hsame⟩ := X98.leave (v := some (.int (1 : Int32))) (fun h => by rw [Bd.returns] at h; cases h)
              refine ⟨_, _, pre99 _ ?_, hrun, hended, _, _, rfl, ?_, ⟨_, rfl⟩, hW, hsame.mono (by decide) (by decide)⟩
              · show Steps p.tables e below (T98.setTop (mkF m 247 #[.val (.int p1), .val (.int p2), .val (.long q3), .second, .val (.int p4), .val (.int p5), .val (.int n), .val (.int st), .val (.ref b1), .val (.int wh), .val (.int (0 : Int32))] [(.int (1 : Int32))])) _
                exact retN X98 hx (t := .boolean) Bd.returns (by simp) (hb hby at_247) hr
              · exact ⟨rfl, N98, trivial⟩
          · obtain ⟨v100, _, ⟨T100, L100, k100, n100⟩, -, X100, ⟨Lc100, hQ100, l100, y100, z100⟩, st100⟩ := Jvm.LawKit.callS X58 hx (y := (⟨"com/example/falkirk/falkirk/loader/Utf8", "startsWithByteOrderMark", "([BI)Z"⟩ : MethodName)) hown (mvT hZ (hw _ (ow 5 rfl))) (mvT hZ (hw _ (ow 6 rfl))) (mvT hZ (hw _ (ow 7 rfl))) (mvT hZ (hw _ (ow 8 rfl))) (by decide) (backOf (W := 0) (rm_sw l Z a0 hw [] b1 st T58.heap n0 w_BYTE_ORDER_MARK (own_K_ext EX58 hK) cT n hTT hc0 hc1 hc2) hZ (hw _ (ow 8 rfl)) (hw _ (ow 7 rfl)) (by decide) (by decide)) (g := (mkF m 234 #[.val (.int p1), .val (.int p2), .val (.long q3), .second, .val (.int p4), .val (.int p5), .val (.int n), .val (.int st), .val (.ref b1), .val (.int wh), .val (.int (0 : Int32))] [(.int st), (.ref b1)])) rfl (by rw [hml]; rfl) (argsL := [(.ref b1), (.int st)]) (rest := []) (lenOf pd_1 rfl) rfl (Nat.le_of_eq rfl) (hb hby at_234) (fun _ _ => ⟨rfl, (rfl : T58.heap = T58.heap), (by decide : 1 + 0 ≤ _), (by decide : 7 + 0 ≤ _)⟩)
            dsimp only [Pt.U, Pt.locs, Pt.cells, Pt.slots] at X100 l100 y100 z100 st100 hQ100
            subst l100 y100 z100
            obtain ⟨hv100, Nq100, e100⟩ := hQ100
            obtain rfl : v100 = some (.int (0 : Int32)) := hv100.trans (congrArg some (congrArg Value.int ((if_neg (mt hlen.mp hc171_83)).trans ((if_pos ((own_at0 cT st (-17 : Int32) (own_byte _ _ 239 (by decide) (by decide) (by decide) (hTT.2.2.2 _ hin0_87).2 (-17 : Int32) (by decide))).mpr hc186_88)).trans (if_neg (mt (own_byte _ _ 187 (by decide) (by decide) (by decide) (hTT.2.2.2 _ hin1_90).2 (-69 : Int32) (by decide)).mp hc203_91))))))
            have N100 := Fr.app N58 Nq100
            have pre101 : ∀ t, Steps p.tables e below (T100.setTop (mkF m 247 #[.val (.int p1), .val (.int p2), .val (.long q3), .second, .val (.int p4), .val (.int p5), .val (.int n), .val (.int st), .val (.ref b1), .val (.int wh), .val (.int (0 : Int32))] [(.int (1 : Int32))])) t → Steps p.tables e below (s₁.setTop (entryFrame m #[(.int p1), (.int p2), (.long q3), (.int p4), (.int p5)] maxLocals)) t := fun t k => pre92 t (by
              show Steps p.tables e below (T58.setTop (mkF m 203 #[.val (.int p1), .val (.int p2), .val (.long q3), .second, .val (.int p4), .val (.int p5), .val (.int n), .val (.int st), .val (.ref b1), .val (.int wh), .unset] [(.int (187 : Int32)), (.int ((atv cT (st + (1 : Int32))) &&& (255 : Int32)))])) _
              refine XS.icmpYes X58.here hx rfl (pc0 := 203) (pc' := 227) rfl (hb hby at_203) rfl (feq hc203_91).2 (by decide) (by decide) ?_
              show Steps p.tables e below (T58.setTop (mkF m 227 #[.val (.int p1), .val (.int p2), .val (.long q3), .second, .val (.int p4), .val (.int p5), .val (.int n), .val (.int st), .val (.ref b1), .val (.int wh), .unset] [])) _
              refine XS.iconst X58.here hx rfl (hb hby at_227) ?_
              show Steps p.tables e below (T58.setTop (mkF m 228 #[.val (.int p1), .val (.int p2), .val (.long q3), .second, .val (.int p4), .val (.int p5), .val (.int n), .val (.int st), .val (.ref b1), .val (.int wh), .unset] [(.int (0 : Int32))])) _
              refine XS.istore X58.here hx rfl (hb hby at_228) rfl (l' := #[.val (.int p1), .val (.int p2), .val (.long q3), .second, .val (.int p4), .val (.int p5), .val (.int n), .val (.int st), .val (.ref b1), .val (.int wh), .val (.int (0 : Int32))]) rfl ?_
              show Steps p.tables e below (T58.setTop (mkF m 230 #[.val (.int p1), .val (.int p2), .val (.long q3), .second, .val (.int p4), .val (.int p5), .val (.int n), .val (.int st), .val (.ref b1), .val (.int wh), .val (.int (0 : Int32))] [])) _
              refine XS.aload X58.here hx rfl (hb hby at_230) rfl rfl ?_
              show Steps p.tables e below (T58.setTop (mkF m 232 #[.val (.int p1), .val (.int p2), .val (.long q3), .second, .val (.int p4), .val (.int p5), .val (.int n), .val (.int st), .val (.ref b1), .val (.int wh), .val (.int (0 : Int32))] [(.ref b1)])) _
              refine XS.iload X58.here hx rfl (hb hby at_232) rfl ?_
              show Steps p.tables e below (T58.setTop (mkF m 234 #[.val (.int p1), .val (.int p2), .val (.long q3), .second, .val (.int p4), .val (.int p5), .val (.int n), .val (.int st), .val (.ref b1), .val (.int wh), .val (.int (0 : Int32))] [(.int st), (.ref b1)])) _
              refine st100 _ ?_
              show Steps p.tables e below (T100.setTop (mkF m 237 #[.val (.int p1), .val (.int p2), .val (.long q3), .second, .val (.int p4), .val (.int p5), .val (.int n), .val (.int st), .val (.ref b1), .val (.int wh), .val (.int (0 : Int32))] [(.int (0 : Int32))])) _
              refine XS.iload X100.here hx rfl (hb hby at_237) rfl ?_
              show Steps p.tables e below (T100.setTop (mkF m 239 #[.val (.int p1), .val (.int p2), .val (.long q3), .second, .val (.int p4), .val (.int p5), .val (.int n), .val (.int st), .val (.ref b1), .val (.int wh), .val (.int (0 : Int32))] [(.int (0 : Int32)), (.int (0 : Int32))])) _
              refine XS.icmpNo X100.here hx rfl (hb hby at_239) rfl (teq (by decide)).2 ?_
              show Steps p.tables e below (T100.setTop (mkF m 242 #[.val (.int p1), .val (.int p2), .val (.long q3), .second, .val (.int p4), .val (.int p5), .val (.int n), .val (.int st), .val (.ref b1), .val (.int wh), .val (.int (0 : Int32))] [])) _
              refine XS.iconst X100.here hx rfl (hb hby at_242) ?_
              show Steps p.tables e below (T100.setTop (mkF m 243 #[.val (.int p1), .val (.int p2), .val (.long q3), .second, .val (.int p4), .val (.int p5), .val (.int n), .val (.int st), .val (.ref b1), .val (.int wh), .val (.int (0 : Int32))] [(.int (1 : Int32))])) _
              refine XS.goto X100.here hx rfl (pc0 := 243) (pc' := 247) rfl (hb hby at_243) (by decide) (by decide) ?_
              exact k)
            obtain ⟨fs, hr, hrun, hended, hW, hsame⟩ := X100.leave (v := some (.int (1 : Int32))) (fun h => by rw [Bd.returns] at h; cases h)
            refine ⟨_, _, pre101 _ ?_, hrun, hended, _, _, rfl, ?_, ⟨_, rfl⟩, hW, hsame.mono (by decide) (by decide)⟩
            · show Steps p.tables e below (T100.setTop (mkF m 247 #[.val (.int p1), .val (.int p2), .val (.long q3), .second, .val (.int p4), .val (.int p5), .val (.int n), .val (.int st), .val (.ref b1), .val (.int wh), .val (.int (0 : Int32))] [(.int (1 : Int32))])) _
              exact retN X100 hx (t := .boolean) Bd.returns (by simp) (hb hby at_247) hr
            · exact ⟨rfl, N100, trivial⟩
        · obtain ⟨v102, _, ⟨T102, L102, k102, n102⟩, -, X102, ⟨Lc102, hQ102, l102, y102, z102⟩, st102⟩ := Jvm.LawKit.callS X58 hx (y := (⟨"com/example/falkirk/falkirk/loader/Utf8", "startsWithByteOrderMark", "([BI)Z"⟩ : MethodName)) hown (mvT hZ (hw _ (ow 5 rfl))) (mvT hZ (hw _ (ow 6 rfl))) (mvT hZ (hw _ (ow 7 rfl))) (mvT hZ (hw _ (ow 8 rfl))) (by decide) (backOf (W := 0) (rm_sw l Z a0 hw [] b1 st T58.heap n0 w_BYTE_ORDER_MARK (own_K_ext EX58 hK) cT n hTT hc0 hc1 hc2) hZ (hw _ (ow 8 rfl)) (hw _ (ow 7 rfl)) (by decide) (by decide)) (g := (mkF m 234 #[.val (.int p1), .val (.int p2), .val (.long q3), .second, .val (.int p4), .val (.int p5), .val (.int n), .val (.int st), .val (.ref b1), .val (.int wh), .val (.int (0 : Int32))] [(.int st), (.ref b1)])) rfl (by rw [hml]; rfl) (argsL := [(.ref b1), (.int st)]) (rest := []) (lenOf pd_1 rfl) rfl (Nat.le_of_eq rfl) (hb hby at_234) (fun _ _ => ⟨rfl, (rfl : T58.heap = T58.heap), (by decide : 1 + 0 ≤ _), (by decide : 7 + 0 ≤ _)⟩)
          dsimp only [Pt.U, Pt.locs, Pt.cells, Pt.slots] at X102 l102 y102 z102 st102 hQ102
          subst l102 y102 z102
          obtain ⟨hv102, Nq102, e102⟩ := hQ102
          obtain rfl : v102 = some (.int (0 : Int32)) := hv102.trans (congrArg some (congrArg Value.int ((if_neg (mt hlen.mp hc171_83)).trans (if_neg (mt (own_at0 cT st (-17 : Int32) (own_byte _ _ 239 (by decide) (by decide) (by decide) (hTT.2.2.2 _ hin0_87).2 (-17 : Int32) (by decide))).mp hc186_88)))))
          have N102 := Fr.app N58 Nq102
          have pre103 : ∀ t, Steps p.tables e below (T102.setTop (mkF m 247 #[.val (.int p1), .val (.int p2), .val (.long q3), .second, .val (.int p4), .val (.int p5), .val (.int n), .val (.int st), .val (.ref b1), .val (.int wh), .val (.int (0 : Int32))] [(.int (1 : Int32))])) t → Steps p.tables e below (s₁.setTop (entryFrame m #[(.int p1), (.int p2), (.long q3), (.int p4), (.int p5)] maxLocals)) t := fun t k => pre89 t (by
            show Steps p.tables e below (T58.setTop (mkF m 186 #[.val (.int p1), .val (.int p2), .val (.long q3), .second, .val (.int p4), .val (.int p5), .val (.int n), .val (.int st), .val (.ref b1), .val (.int wh), .unset] [(.int (239 : Int32)), (.int ((atv cT st) &&& (255 : Int32)))])) _
            refine XS.icmpYes X58.here hx rfl (pc0 := 186) (pc' := 227) rfl (hb hby at_186) rfl (feq hc186_88).2 (by decide) (by decide) ?_
            show Steps p.tables e below (T58.setTop (mkF m 227 #[.val (.int p1), .val (.int p2), .val (.long q3), .second, .val (.int p4), .val (.int p5), .val (.int n), .val (.int st), .val (.ref b1), .val (.int wh), .unset] [])) _
            refine XS.iconst X58.here hx rfl (hb hby at_227) ?_
            show Steps p.tables e below (T58.setTop (mkF m 228 #[.val (.int p1), .val (.int p2), .val (.long q3), .second, .val (.int p4), .val (.int p5), .val (.int n), .val (.int st), .val (.ref b1), .val (.int wh), .unset] [(.int (0 : Int32))])) _
            refine XS.istore X58.here hx rfl (hb hby at_228) rfl (l' := #[.val (.int p1), .val (.int p2), .val (.long q3), .second, .val (.int p4), .val (.int p5), .val (.int n), .val (.int st), .val (.ref b1), .val (.int wh), .val (.int (0 : Int32))]) rfl ?_
            show Steps p.tables e below (T58.setTop (mkF m 230 #[.val (.int p1), .val (.int p2), .val (.long q3), .second, .val (.int p4), .val (.int p5), .val (.int n), .val (.int st), .val (.ref b1), .val (.int wh), .val (.int (0 : Int32))] [])) _
            refine XS.aload X58.here hx rfl (hb hby at_230) rfl rfl ?_
            show Steps p.tables e below (T58.setTop (mkF m 232 #[.val (.int p1), .val (.int p2), .val (.long q3), .second, .val (.int p4), .val (.int p5), .val (.int n), .val (.int st), .val (.ref b1), .val (.int wh), .val (.int (0 : Int32))] [(.ref b1)])) _
            refine XS.iload X58.here hx rfl (hb hby at_232) rfl ?_
            show Steps p.tables e below (T58.setTop (mkF m 234 #[.val (.int p1), .val (.int p2), .val (.long q3), .second, .val (.int p4), .val (.int p5), .val (.int n), .val (.int st), .val (.ref b1), .val (.int wh), .val (.int (0 : Int32))] [(.int st), (.ref b1)])) _
            refine st102 _ ?_
            show Steps p.tables e below (T102.setTop (mkF m 237 #[.val (.int p1), .val (.int p2), .val (.long q3), .second, .val (.int p4), .val (.int p5), .val (.int n), .val (.int st), .val (.ref b1), .val (.int wh), .val (.int (0 : Int32))] [(.int (0 : Int32))])) _
            refine XS.iload X102.here hx rfl (hb hby at_237) rfl ?_
            show Steps p.tables e below (T102.setTop (mkF m 239 #[.val (.int p1), .val (.int p2), .val (.long q3), .second, .val (.int p4), .val (.int p5), .val (.int n), .val (.int st), .val (.ref b1), .val (.int wh), .val (.int (0 : Int32))] [(.int (0 : Int32)), (.int (0 : Int32))])) _
            refine XS.icmpNo X102.here hx rfl (hb hby at_239) rfl (teq (by decide)).2 ?_
            show Steps p.tables e below (T102.setTop (mkF m 242 #[.val (.int p1), .val (.int p2), .val (.long q3), .second, .val (.int p4), .val (.int p5), .val (.int n), .val (.int st), .val (.ref b1), .val (.int wh), .val (.int (0 : Int32))] [])) _
            refine XS.iconst X102.here hx rfl (hb hby at_242) ?_
            show Steps p.tables e below (T102.setTop (mkF m 243 #[.val (.int p1), .val (.int p2), .val (.long q3), .second, .val (.int p4), .val (.int p5), .val (.int n), .val (.int st), .val (.ref b1), .val (.int wh), .val (.int (0 : Int32))] [(.int (1 : Int32))])) _
            refine XS.goto X102.here hx rfl (pc0 := 243) (pc' := 247) rfl (hb hby at_243) (by decide) (by decide) ?_
            exact k)
          obtain ⟨fs, hr, hrun, hended, hW, hsame⟩ := X102.leave (v := some (.int (1 : Int32))) (fun h => by rw [Bd.returns] at h; cases h)
          refine ⟨_, _, pre103 _ ?_, hrun, hended, _, _, rfl, ?_, ⟨_, rfl⟩, hW, hsame.mono (by decide) (by decide)⟩
          · show Steps p.tables e below (T102.setTop (mkF m 247 #[.val (.int p1), .val (.int p2), .val (.long q3), .second, .val (.int p4), .val (.int p5), .val (.int n), .val (.int st), .val (.ref b1), .val (.int wh), .val (.int (0 : Int32))] [(.int (1 : Int32))])) _
            exact retN X102 hx (t := .boolean) Bd.returns (by simp) (hb hby at_247) hr
          · exact ⟨rfl, N102, trivial⟩
theorem rm_law (l : Launch) (Z : State) (a0 : Array Value) (hw : ∀ d ∈ tables_1, d.before a0 Z = true) (ws : List Jvm.Cond) (p1 : Int32) (p2 : Int32) (q3 : Int64) (p4 : Int32) (p5 : Int32) (h0 : Heap) (n0 : Nat) (Z0 : n0 ≤ h0.size) (w_BYTE_ORDER_MARK : Addr) (hK : own_K Z h0 w_BYTE_ORDER_MARK) :
    MetFree l x (head1 (Jvm.Cond.code x code maxLocals ret :: ws) room_1) (fun a U => a = #[(.int p1), (.int p2), (.long q3), (.int p4), (.int p5)] ∧ Z.Warmed39 U.vm ∧ U.heap = h0) (fun _ _ _ _ _ => True) (fun _ U o U' => ∃ v L, o = .returned v ∧ own_QH (some (.int (1 : Int32))) n0 v U'.heap L ∧ FrameEnd U o U' L room_1.cells room_1.slots) := by
  have qn := c_mask p1 7 3 (by decide) (by decide)
  have qs := c_mask p2 7 3 (by decide) (by decide)
  have qw := c_mask ((p4.toUInt32 >>> ((1 : Int32) &&& 31).toUInt32).toInt32) 3 2 (by decide) (by decide)
  have e0 : (0 : Int32).toInt = 0 := by decide
  have e1 : (1 : Int32).toInt = 1 := by decide
  have e2 : (2 : Int32).toInt = 2 := by decide
  have e3 : (3 : Int32).toInt = 3 := by decide
  refine rm_lawS l Z a0 hw ws p1 p2 q3 p4 p5 h0 n0 Z0 w_BYTE_ORDER_MARK hK (p1 &&& (7 : Int32)) (p2 &&& (7 : Int32)) (((p4.toUInt32 >>> ((1 : Int32) &&& 31).toUInt32).toInt32) &&& (3 : Int32)) rfl rfl rfl ?_ ?_ ?_ ?_ ?_ ?_ ?_ ?_ ?_ ?_ ?_ ?_ ?_
  all_goals generalize (p1 &&& (7 : Int32)) = n at *
  all_goals generalize (p2 &&& (7 : Int32)) = st at *
  all_goals generalize (((p4.toUInt32 >>> ((1 : Int32) &&& 31).toUInt32).toInt32) &&& (3 : Int32)) = wh at *
  all_goals have a0 := c_iadd st 0
  all_goals have a1 := c_iadd st 1
  all_goals have a2 := c_iadd st 2
  all_goals have a3 := c_iadd st 3
  all_goals have aw := c_iadd st wh
  all_goals have sb := c_isub n st
  all_goals have r0 := rng32 (st + 0)
  all_goals have r1 := rng32 (st + 1)
  all_goals have r2 := rng32 (st + 2)
  all_goals have r3 := rng32 (st + 3)
  all_goals have rw_ := rng32 (st + wh)
  all_goals have rs := rng32 (n - st)
  all_goals (try simp only [Int32.lt_iff_toInt_lt])
  all_goals first | omega | (simp only [Int32.toNatClampNeg]; omega)
set_option maxRecDepth 65536 in
set_option maxHeartbeats 40000000 in
theorem comes_1 {Post : Tables → Env → Array Value → State → Outcome → State → Prop} (hpost : ∀ tb e args s v u, (limb_1_1.after args s (.returned v) u = true ∧ limb_1_2.after args s (.returned v) u = true ∧ True) → FrameEnd s (.returned v) u (Jvm.fieldLocs frame_1_writes args s ++ Jvm.arrayLocs frame_1_arrays args s ++ Jvm.staticLocs frame_1_statics s) 16 128 → Post tb e args s (.returned v) u) :
    ArmFor flags0 classFile x code maxLocals ret World_1 tables_1 room_1 Calls_1 rest_1 Pre_1 Post := by
  intro l hfl _ _ p e ha hc hk s m args below hf hA hF happ hP
  obtain ⟨hcalls, hrest, hpre⟩ := hP
  obtain ⟨-, -, -, hnamed, -, -, -, hat⟩ := (Spec.applies_iff hf).mp happ
  obtain ⟨hg, hn⟩ := and_e (Cond.before_iff.mp (show (Jvm.Cond.and given_1 narrow_1).before args s = true from hpre))
  obtain ⟨g0, hg⟩ := and_e hg
  obtain ⟨g1, hg⟩ := and_e hg
  obtain ⟨g2, hg⟩ := and_e hg
  obtain ⟨g3, hg⟩ := and_e hg
  obtain ⟨g4, hg⟩ := and_e hg
  obtain ⟨w0, w1, w2, w3, w4, rfl⟩ : ∃ w0 w1 w2 w3 w4 : Value, args = #[w0, w1, w2, w3, w4] := by
    have hs : args.size = 5 := by simpa [Cond.value, given_1] using g0
    obtain ⟨L⟩ := args
    match L, hs with
    | [w0, w1, w2, w3, w4], _ => exact ⟨w0, w1, w2, w3, w4, rfl⟩
  have hw := fun d (hd : d ∈ tables_1) => atoms_spec (ws := Jvm.Cond.code x code maxLocals ret :: tables_1) hat d (List.mem_cons_of_mem _ hd)
  have hfit : Fit s := fun {y c} hc i hi => by
    obtain ⟨ha, rfl⟩ := Array.getElem?_eq_some_iff.mp hc
    have q := List.all_eq_true.mp ((Array.all_eq_true_iff_forall_mem.mp hF) _ (Array.getElem_mem ha)) i (List.mem_range.mpr hi)
    simpa [Array.getElem?_eq_getElem hi] using q
  obtain ⟨i0, ei0⟩ := is_v g1
  obtain rfl : w0 = (.int i0) := Option.some.inj ei0
  obtain ⟨i1, ei1⟩ := is_v g2
  obtain rfl : w1 = (.int i1) := Option.some.inj ei1
  obtain ⟨i2, ei2⟩ := isL_v g3
  obtain rfl : w2 = (.long i2) := Option.some.inj ei2
  obtain ⟨i3, ei3⟩ := is_v g4
  obtain rfl : w3 = (.int i3) := Option.some.inj ei3
  obtain ⟨i4, ei4⟩ := is_v hg
  obtain rfl : w4 = (.int i4) := Option.some.inj ei4
  obtain ⟨c0, hn⟩ := and_e hn
  obtain ⟨w_BYTE_ORDER_MARK, v_w_BYTE_ORDER_MARK⟩ := arr_v c0
  have S_w_BYTE_ORDER_MARK := Sta.start v_w_BYTE_ORDER_MARK (Or.inr ⟨(hw _ (ow 7 rfl)), (hw _ (ow 10 rfl))⟩)
  obtain ⟨cl_w_BYTE_ORDER_MARK, A_w_BYTE_ORDER_MARK⟩ := Arr.start v_w_BYTE_ORDER_MARK c0
  obtain ⟨c1, hn⟩ := and_e hn
  have n_w_BYTE_ORDER_MARK := own_len (own_eqI c1) v_w_BYTE_ORDER_MARK A_w_BYTE_ORDER_MARK.1
  obtain ⟨c2, hn⟩ := and_e hn
  have a0_w_BYTE_ORDER_MARK := (elem_in (own_eqI c2) v_w_BYTE_ORDER_MARK rfl A_w_BYTE_ORDER_MARK.1).2
  obtain ⟨c3, hn⟩ := and_e hn
  have a1_w_BYTE_ORDER_MARK := (elem_in (own_eqI c3) v_w_BYTE_ORDER_MARK rfl A_w_BYTE_ORDER_MARK.1).2
  have a2_w_BYTE_ORDER_MARK := (elem_in (own_eqI hn) v_w_BYTE_ORDER_MARK rfl A_w_BYTE_ORDER_MARK.1).2
  have B_w_BYTE_ORDER_MARK : own_Arr s s.heap w_BYTE_ORDER_MARK .byte [(.int (-17 : Int32)), (.int (-69 : Int32)), (.int (-65 : Int32))] := ⟨cl_w_BYTE_ORDER_MARK, A_w_BYTE_ORDER_MARK, own_ext_w_BYTE_ORDER_MARK n_w_BYTE_ORDER_MARK a0_w_BYTE_ORDER_MARK a1_w_BYTE_ORDER_MARK a2_w_BYTE_ORDER_MARK⟩
  have hK : own_K s s.heap w_BYTE_ORDER_MARK := ⟨S_w_BYTE_ORDER_MARK, B_w_BYTE_ORDER_MARK⟩
  obtain ⟨n, o, h1, h2, h3, _, L, rfl, ⟨rfl, N, -⟩, hq⟩ := rm_law l s _ hw tables_1 i0 i1 i2 i3 i4 s.heap s.heap.size (Nat.le_refl _) w_BYTE_ORDER_MARK hK p e ha hc hk s m _ below hf ((Spec.applies_iff_loose hf).mp happ).1 ⟨rfl, State.Warmed39.refl s, rfl⟩ trivial
  refine ⟨n, _, h1, h2, h3, hpost _ _ _ _ _ _ ⟨Cond.after_iff.mpr rfl, Cond.after_iff.mpr (eq_i res_at (Term.int_eval (1)) rfl), trivial⟩ ⟨hq.1, hq.2.1, (hq.2.2.sift fun y hy => Or.inr (N y hy)).mono (by decide) (by decide)⟩⟩
theorem main_1_1 : Claimed_1_1 := comes_1 fun _ _ _ _ _ _ h hF => ⟨h.1, hF⟩
theorem main_1_2 : Claimed_1_2 := comes_1 fun _ _ _ _ _ _ h hF => ⟨h.2.1, hF⟩
end Jvm.Pilot.@@N@@
namespace Jvm.Pilot.@@N@@
open Jvm Jvm.ClassFile Sem Op Lib Jvm.Free Jvm.Stand Jvm.Pilot.@@N@@.Jvm.D
/-! MADE BY PROGRAM (witnessworld.py) out of the Statement's table words and the real class files: 9 classes; the members and pool entries that the words name. The judged class is class 1, her method 2. -/
namespace start1
open Jvm.ClassFile
def u (s : String) : CpInfo := .utf8 (stringToUtf16 s)
/-- a pool by its gaps: so many unusable entries, then the entry; so many at the end -/
def gap : Nat → List CpInfo → List CpInfo
  | 0, r => r
  | n + 1, r => .unusable :: gap n r
def poolList (es : List (Nat × CpInfo)) (last : Nat) : List CpInfo := es.foldr (fun e r => gap e.1 (e.2 :: r)) (gap last [])
def pool (es : List (Nat × CpInfo)) (last : Nat) : Array CpInfo := ⟨poolList es last⟩
def fileOf (pool : Array CpInfo) (this : Nat) (attrs : Array Attribute := #[]) (ms : Array MethodInfo := #[]) (fl : Nat := 33) (sup : Nat := 0) (ifs : Array Nat := #[]) (fds : Array FieldInfo := #[]) : ClassFile where
  minorVersion := 0
  majorVersion := 65
  constantPool := pool
  accessFlags := fl
  thisClass := this
  superClass := sup
  interfaces := ifs
  fields := fds
  methods := ms
  attributes := attrs
def plain (name : String) (sup : Option ClassId) : Class where
  name := name
  kind := .ordinary
  loader := none
  accessFlags := 33
  super := sup
  interfaces := #[]
  cf := none
  fields := #[]
  methods := #[]
  instanceTypes := #[]
  staticTypes := #[]
  resolved := #[]
  callSites := []
  init := .initialized
  statics := none
  mirror := none

def pool0 : Array CpInfo := pool [(5, u "<init>"), (0, u "()V"), (1, .class_ 10), (1, u "java/lang/Object")] 113

def k0m0 : Method := { name := "<init>", desc := "()V", sig := { parameters := [], returnType := none }, accessFlags := 1, code := none }
/-- java/lang/Object -/
def k0 : Class := { plain "java/lang/Object" none with
  accessFlags := 33
  interfaces := #[]
  cf := some (fileOf pool0 8 #[] #[{ accessFlags := 1, nameIndex := 5, descriptorIndex := 6, attributes := #[] }] 33 0 #[] #[])
  fields := #[]
  methods := #[k0m0]
  instanceTypes := #[]
  staticTypes := #[]
  resolved := Array.replicate 124 none
  statics := none }

def pool1 : Array CpInfo := pool [(2, .class_ 4), (1, u "java/lang/Object"), (0, u "<init>"), (0, u "()V"), (0, .methodref 8 9), (0, .class_ 10), (0, .nameAndType 11 12), (0, u "com/example/falkirk/falkirk/loader/Utf8StartsWithByteOrderMarkPinLaw"), (0, u "set"), (0, u "([BIB)V"), (0, .methodref 14 15), (0, .class_ 16), (0, .nameAndType 17 18), (0, u "com/example/falkirk/falkirk/loader/Utf8"), (0, u "startsWithByteOrderMark"), (0, u "([BI)Z"), (3, u "law"), (0, u "(IIJII)Z")] 4

def k1m0 : Method := { name := "<init>", desc := "()V", sig := { parameters := [], returnType := none }, accessFlags := 2, code := none }
def k1c1 : Code := { maxStack := 3, maxLocals := 3, code := method_2_code, exceptionTable := #[], attributes := #[] }
def k1m1 : Method := { name := "set", desc := "([BIB)V", sig := { parameters := [(.array .byte), .int, .byte], returnType := none }, accessFlags := 10, code := some k1c1 }
def k1c2 : Code := { maxStack := 5, maxLocals := 11, code := code, exceptionTable := #[], attributes := #[] }
def k1m2 : Method := { name := "law", desc := "(IIJII)Z", sig := { parameters := [.int, .int, .long, .int, .int], returnType := some .boolean }, accessFlags := 9, code := some k1c2 }
/-- com/example/falkirk/falkirk/loader/Utf8StartsWithByteOrderMarkPinLaw -/
def k1 : Class := { plain "com/example/falkirk/falkirk/loader/Utf8StartsWithByteOrderMarkPinLaw" (some 0) with
  accessFlags := 49
  interfaces := #[]
  cf := some (fileOf pool1 8 #[] #[{ accessFlags := 2, nameIndex := 5, descriptorIndex := 6, attributes := #[] }, { accessFlags := 10, nameIndex := 11, descriptorIndex := 12, attributes := #[] }, { accessFlags := 9, nameIndex := 22, descriptorIndex := 23, attributes := #[] }] 49 2 #[] #[])
  fields := #[]
  methods := #[k1m0, k1m1, k1m2]
  instanceTypes := #[]
  staticTypes := #[]
  resolved := Array.replicate 28 none
  statics := none }

def pool2 : Array CpInfo := pool [(2, .class_ 4), (1, u "java/lang/Object"), (0, u "<init>"), (0, u "()V"), (1, .class_ 10), (1, u "com/example/falkirk/falkirk/loader/Utf8"), (0, u "startsWithByteOrderMark"), (0, u "([BI)Z"), (0, .fieldref 8 14), (0, .nameAndType 15 16), (0, u "BYTE_ORDER_MARK"), (0, u "[B"), (69, u "INVALID"), (0, u "Ljava/lang/String;")] 16

def k2m0 : Method := { name := "<init>", desc := "()V", sig := { parameters := [], returnType := none }, accessFlags := 2, code := none }
def k2c1 : Code := { maxStack := 3, maxLocals := 3, code := prog_14_method_3_code, exceptionTable := #[], attributes := #[] }
def k2m1 : Method := { name := "startsWithByteOrderMark", desc := "([BI)Z", sig := { parameters := [(.array .byte), .int], returnType := some .boolean }, accessFlags := 8, code := some k2c1 }
/-- com/example/falkirk/falkirk/loader/Utf8 -/
def k2 : Class := { plain "com/example/falkirk/falkirk/loader/Utf8" (some 0) with
  accessFlags := 32
  interfaces := #[]
  cf := some (fileOf pool2 8 #[] #[{ accessFlags := 2, nameIndex := 5, descriptorIndex := 6, attributes := #[] }, { accessFlags := 8, nameIndex := 11, descriptorIndex := 12, attributes := #[] }] 32 2 #[] #[{ accessFlags := 24, nameIndex := 86, descriptorIndex := 87, attributes := #[] }, { accessFlags := 26, nameIndex := 15, descriptorIndex := 16, attributes := #[] }])
  fields := #[{ name := "INVALID", type := (.object "java/lang/String"), accessFlags := 24, slot := 0, constantValue := 0 }, { name := "BYTE_ORDER_MARK", type := (.array .byte), accessFlags := 26, slot := 1, constantValue := 0 }]
  methods := #[k2m0, k2m1]
  instanceTypes := #[]
  staticTypes := #[(.object "java/lang/String"), (.array .byte)]
  resolved := Array.replicate 104 none
  statics := some 0 }

def pool3 : Array CpInfo := pool [(1, u "java/lang/Cloneable"), (0, .class_ 1), (0, u "java/lang/Object"), (0, .class_ 3)] 3

/-- java/lang/Cloneable -/
def k3 : Class := { plain "java/lang/Cloneable" (some 0) with
  accessFlags := 1537
  interfaces := #[]
  cf := some (fileOf pool3 2 #[] #[] 1537 4 #[] #[])
  fields := #[]
  methods := #[]
  instanceTypes := #[]
  staticTypes := #[]
  resolved := Array.replicate 8 none
  statics := none }

def pool4 : Array CpInfo := pool [(1, u "java/io/Serializable"), (0, .class_ 1), (0, u "java/lang/Object"), (0, .class_ 3)] 3

/-- java/io/Serializable -/
def k4 : Class := { plain "java/io/Serializable" (some 0) with
  accessFlags := 1537
  interfaces := #[]
  cf := some (fileOf pool4 2 #[] #[] 1537 4 #[] #[])
  fields := #[]
  methods := #[]
  instanceTypes := #[]
  staticTypes := #[]
  resolved := Array.replicate 8 none
  statics := none }

/-- the primitive byte -/
def k5 : Class := { plain "byte" none with kind := .primitive 'B', accessFlags := 0x411 }
/-- [B -/
def k6 : Class := { plain "[B" (some 0) with kind := .array 5 .byte, interfaces := #[3, 4], accessFlags := 1041 }

/-- the primitive int -/
def k7 : Class := { plain "int" none with kind := .primitive 'I', accessFlags := 0x411 }
/-- [I -/
def k8 : Class := { plain "[I" (some 0) with kind := .array 7 .int, interfaces := #[3, 4], accessFlags := 1041 }

def heap : Heap := #[{ cls := 2, slots := #[.null, .ref 1], vm := .statics 2 },
  { cls := 6, slots := #[.int (-17), .int (-69), .int (-65)], vm := .none }]
def classes : Array Class := #[k0, k1, k2, k3, k4, k5, k6, k7, k8]
def interned : List (Array UInt16 × Addr) := []
def slotsUsed : Nat := 5
def theMethod : MethodId := ⟨1, 2⟩
def args0 : Array Value := #[.int 5, .int 4, .long 3, .int 1, .int 2]
def aboutOver (below : List Frame) : State where
  vm := { classes := classes, interned := interned.toArray }
  heap := heap
  slotsUsed := slotsUsed
  threads := #[{ frames := .invoking theMethod args0 :: below }]
def below0 : List Frame := [.native { method := ⟨0, 0⟩, args := #[] }]
def about1 : State := aboutOver below0
def p0 : Program := .bare "" "" ""
def e0 : Env := launch0.env 0 0 0
theorem w_frames : about1.frames = Frame.invoking theMethod args0 :: below0 := rfl
set_option maxRecDepth 65536 in
theorem w_args : argsFit about1.vm theMethod args0 = true := by decide +kernel
set_option maxRecDepth 65536 in
theorem w_heap : heapFits about1 = true := by decide +kernel
set_option maxRecDepth 65536 in
theorem w_runnable : about1.curStatus? = some .runnable := by decide +kernel
set_option maxRecDepth 65536 in
theorem w_alone : about1.alone = true := by decide +kernel
set_option maxRecDepth 65536 in
theorem w_named : about1.methodNamed? x = some theMethod := by decide +kernel
set_option maxRecDepth 65536 in
theorem w_hears : about1.hears theMethod below0 = true := by decide +kernel
set_option maxRecDepth 65536 in
theorem w_ripe : about1.ripe theMethod args0 below0 = true := by decide +kernel
theorem w_running : about1.status = .running := rfl
set_option maxRecDepth 65536 in
theorem w_room : about1.hasRoom e0.platform room_1 = true :=
  launch0.hasRoom_least _ room_1 (by decide +kernel) (by decide +kernel) (by decide +kernel) (by decide +kernel) (by decide +kernel) (by decide +kernel)
theorem allAtoms_all (ts : List Jvm.Cond) (a : Array Jvm.Value) (st : Jvm.State) : (allAtoms ts).before a st = ts.all (fun c => c.before a st) := by
  induction ts with
  | nil => rfl
  | cons c t ih =>
    show (Jvm.Cond.and c (allAtoms t)).before a st = _
    rw [Jvm.Cond.before_and, ih, List.all_cons]
def words1 : List Jvm.Cond := Jvm.Cond.code x code maxLocals ret :: tables_1
/-- a 'code' word, met by the world's own term for the bytes: nothing is compared byte by byte -/
theorem code_word {y : MethodName} {bytes : ByteArray} {mx : Nat} {rt : Option FieldType} {a : Array Value} {s : State} {m : MethodId} {meth : Method} {c : Code} (h1 : s.methodNamed? y = some m) (h2 : s.vm.method? m = some meth) (h3 : meth.code = some c) (h4 : c.code = bytes)
    (h5 : (c.maxLocals == mx && c.exceptionTable.isEmpty && decide (c.maxStack ≤ mostOperands) && decide (meth.sig.returnType = rt) && !meth.locks && decide (parseMethodDescriptor y.desc = some meth.sig)) = true) : (Jvm.Cond.code y bytes mx rt).before a s = true := by
  simp only [Bool.and_eq_true, beq_iff_eq, Bool.not_eq_true', decide_eq_true_eq] at h5
  obtain ⟨⟨⟨⟨⟨g1, g2⟩, g3⟩, g4⟩, g5⟩, g6⟩ := h5
  simp [Cond.before, Cond.holds, Cond.value, h1, h2, h3, h4, g1, g2, g3, g4, g5, g6]
def isCode : Jvm.Cond → Bool
  | .code _ _ _ _ => true
  | _ => false
theorem all_split {L : List Jvm.Cond} {P : Jvm.Cond → Bool} (h1 : L.all (fun c => isCode c || P c) = true) (h2 : ∀ c ∈ L.filter isCode, P c = true) : L.all P = true := by
  refine List.all_eq_true.mpr fun c hc => ?_
  have h := List.all_eq_true.mp h1 c hc
  rcases Bool.eq_false_or_eq_true (isCode c) with hi | hi
  · exact h2 c (List.mem_filter.mpr ⟨hc, hi⟩)
  · simpa [hi] using h
set_option maxRecDepth 65536 in
theorem w_c0 : (Jvm.Cond.code x code maxLocals ret).before args0 about1 = true := code_word (m := ⟨1, 2⟩) (meth := k1m2) (c := k1c2) (by decide +kernel) rfl rfl rfl (by decide +kernel)
set_option maxRecDepth 65536 in
theorem w_c1 : (Jvm.Cond.code ({ cls := "com/example/falkirk/falkirk/loader/Utf8StartsWithByteOrderMarkPinLaw", name := "set", desc := "([BIB)V" } : Jvm.MethodName) method_2_code (3 : Nat) (Option.none : Option Jvm.ClassFile.FieldType)).before args0 about1 = true := code_word (m := ⟨1, 1⟩) (meth := k1m1) (c := k1c1) (by decide +kernel) rfl rfl rfl (by decide +kernel)
set_option maxRecDepth 65536 in
theorem w_c2 : (Jvm.Cond.code ({ cls := "com/example/falkirk/falkirk/loader/Utf8", name := "startsWithByteOrderMark", desc := "([BI)Z" } : Jvm.MethodName) prog_14_method_3_code (3 : Nat) (Option.some Jvm.ClassFile.FieldType.boolean)).before args0 about1 = true := code_word (m := ⟨2, 1⟩) (meth := k2m1) (c := k2c1) (by decide +kernel) rfl rfl rfl (by decide +kernel)
def codes1 : List Jvm.Cond := [Jvm.Cond.code x code maxLocals ret, Jvm.Cond.code ({ cls := "com/example/falkirk/falkirk/loader/Utf8StartsWithByteOrderMarkPinLaw", name := "set", desc := "([BIB)V" } : Jvm.MethodName) method_2_code (3 : Nat) (Option.none : Option Jvm.ClassFile.FieldType), Jvm.Cond.code ({ cls := "com/example/falkirk/falkirk/loader/Utf8", name := "startsWithByteOrderMark", desc := "([BI)Z" } : Jvm.MethodName) prog_14_method_3_code (3 : Nat) (Option.some Jvm.ClassFile.FieldType.boolean)]
set_option maxRecDepth 65536 in
theorem codes_eq : words1.filter isCode = codes1 := rfl
theorem w_codes : ∀ c ∈ words1.filter isCode, c.before args0 about1 = true := by
  rw [codes_eq]
  intro c hc
  simp only [codes1, List.mem_cons, List.not_mem_nil, or_false] at hc
  rcases hc with rfl | rfl | rfl
  · exact w_c0
  · exact w_c1
  · exact w_c2
set_option maxRecDepth 65536 in
theorem w_t1 : words1.all (fun c => isCode c || c.before args0 about1) = true := by decide +kernel
theorem w_tables : (allAtoms (Jvm.Cond.code x code maxLocals ret :: tables_1)).before args0 about1 = true := by
  rw [allAtoms_all]
  show words1.all (fun c => c.before args0 about1) = true
  refine all_split ?_ w_codes
  rw [w_t1]
set_option maxRecDepth 65536 in
theorem w_case : (Jvm.Cond.and given_1 narrow_1).before args0 about1 = true := by decide +kernel
theorem w_applies : (headSpec (Jvm.Cond.code x code maxLocals ret :: tables_1) room_1).applies x e0.platform about1 = true :=
  (Spec.applies_iff w_frames).mpr ⟨w_running, w_runnable, w_alone, w_named, w_hears, w_ripe, w_room, w_tables⟩
theorem atStart : AtStart classFile x code maxLocals ret World_1 tables_1 room_1 Calls_1 rest_1 Pre_1 launch0 p0 e0 about1 theMethod args0 below0 :=
  ⟨lists_1, trivial, launch0.admits_env _ _ _, launch0.least_env, fairChoices_fair.cas, fairChoices_fair.clock, w_frames, w_args, w_heap, w_applies, trivial, trivial, w_case⟩
end start1
theorem witness_1 : WitnessClaimed_1 := ⟨start1.p0, start1.e0, start1.about1, start1.theMethod, start1.args0, start1.below0, start1.atStart⟩
end Jvm.Pilot.@@N@@
