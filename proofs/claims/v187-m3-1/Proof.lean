import JvmDerived
import JvmDerived.Pilot.@@N@@Statement
import JvmDerived.Pilot.@@N@@Code
set_option linter.unusedVariables false
set_option linter.unusedSimpArgs false
namespace Jvm.RoadKit
open Sem ClassFile Op Lib Jvm.Stand Jvm.Free Jvm.LawKit
section New
variable {p : Program} {l : Launch} {e : Env} {R : Room} {s : State} {m : MethodId} {args : Array Value} {below : List Frame} {meth : Method} {c : Code} {T : State} {locs : List Loc} {cells slots : Nat}
theorem retI (X : Stand p l e R s m args below meth c T locs cells slots) (hx : p.tables.exec = Jvm.exec) {pc : Nat} {Ls : Array Slot} {z : Int32} {rest : List Value} (hret : meth.sig.returnType = some .int) (hd : decode c.code pc = .ok (.ireturn, 1)) {fs : List Frame}
    (hl : ∀ (f : JFrame) (acts : List Action), f.method = m → f.locked = none → f.entered = [] → (doReturn e (T.setTop f) acts (some (.int z))).1 = T.setFrames fs) : Steps p.tables e below (T.setTop (mkF m pc Ls (.int z :: rest))) (T.setFrames fs) :=
  retOut X hx hret rfl (Or.inl ⟨rfl, Or.inl rfl, z, rfl⟩) hd hl
end New
end Jvm.RoadKit
namespace Jvm.Pilot.@@N@@
open Jvm Jvm.ClassFile Sem Op Lib Jvm.Free Jvm.Stand Jvm.LawKit Jvm.RoadKit Bundle Jvm.Pilot.@@N@@.Jvm.D
theorem ow {d : Jvm.Cond} (i : Nat) (h : tables_1[i]? = some d) : d ∈ tables_1 := List.mem_of_getElem? h
/-- what a body that only reads leaves: its answer, nothing written, the heap as it was -/
def own_Q (r : Option Value) (h0 : Heap) (n0 : Nat) (v : Option Value) (h : Heap) (L : List Loc) : Prop := v = r ∧ Fr n0 L ∧ h = h0
section OwnWords
variable {args : Array Value} {first s : State} {o : Option Outcome} {idx : List Nat} {a b : Term}
theorem own_eqI {k : Int32} (h : (Jvm.Cond.eq a (.int k)).value args first o s idx = some true) : a.eval args first o idx s = some (.int k) := by
  obtain ⟨x, y, hx, hy, k1, -⟩ := cmp_v (r := true) (Or.inl h)
  have hy' : y = .int k := (Option.some.inj hy).symm
  subst hy'
  cases x <;> simp [Kin, Value.isRef] at k1
  simp [Jvm.Cond.value, hx, Term.eval] at h
  rw [hx, h]
theorem own_eqR {y : Addr} (h : (Jvm.Cond.eq a b).value args first o s idx = some true) (hb : b.eval args first o idx s = some (.ref y)) : a.eval args first o idx s = some (.ref y) := by
  obtain ⟨x, z, hx, hy, k1, -⟩ := cmp_v (r := true) (Or.inl h)
  cases hb.symm.trans hy
  cases x <;> simp [Kin, Value.isRef] at k1
  · simp [Jvm.Cond.value, hx, hb] at h
  · simp [Jvm.Cond.value, hx, hb] at h
    rw [hx, h]
theorem own_len {y : Addr} {c : Cell} {n : Int32} (h : (Term.length a).eval args first o idx s = some (.int n)) (ht : a.eval args first o idx s = some (.ref y)) (hc : s.heap[y]? = some c) : (c.slots.size : Int) = n.toInt := by
  simp only [Term.eval, Option.bind_eq_bind, ht, Option.bind_some] at h
  obtain ⟨cell, hcell, h⟩ := Option.bind_eq_some_iff.mp h
  cases hc.symm.trans (State.arrayAt?_spec hcell).1
  by_cases hn : c.slots.size < 2147483648
  · rw [if_pos hn] at h; cases h; exact (len_toInt hn).symm
  · rw [if_neg hn] at h; cases h
end OwnWords
/-- an array that stands in the heap, with all that lies in it -/
def own_Arr (Z : State) (h : Heap) (a : Addr) (ty : FieldType) (vs : List Value) : Prop := ∃ c : Cell, Arr Z h a c ty ∧ c.slots = vs.toArray
/-- what a law leaves that makes arrays of its own -/
def own_QH (r : Option Value) (n0 : Nat) (v : Option Value) (h : Heap) (L : List Loc) : Prop := v = r ∧ Fr n0 L ∧ True
/-- the same of an array whose class is known -/
def own_ArrK (Z : State) (h : Heap) (a : Addr) (k : ClassId) (ty : FieldType) (vs : List Value) : Prop := ∃ c : Cell, Arr Z h a c ty ∧ c.cls = k ∧ c.slots = vs.toArray
section OwnArr
variable {Z : State} {h0 h h' : Heap} {a b : Addr} {k : ClassId} {ty : FieldType} {vs : List Value} {v : Value} {sl : Nat} {c : Cell}
theorem own_Arr.ext (F : own_Arr Z h a ty vs) (E : Ext h h') : own_Arr Z h' a ty vs := by obtain ⟨c, A, r⟩ := F; exact ⟨c, A.ext E, r⟩
theorem own_ArrK.lt (F : own_ArrK Z h a k ty vs) : a < h.size := by obtain ⟨c, A, -⟩ := F; exact A.lt
theorem own_ArrK.ext (F : own_ArrK Z h a k ty vs) (E : Ext h h') : own_ArrK Z h' a k ty vs := by obtain ⟨c, A, r⟩ := F; exact ⟨c, A.ext E, r⟩
theorem own_ArrK.other (F : own_ArrK Z h b k ty vs) (W : Wr h h' a sl v) (q : b ≠ a) : own_ArrK Z h' b k ty vs := by obtain ⟨c, A, r⟩ := F; exact ⟨c, A.other W q, r⟩
theorem own_set (W : Wr h h' a sl v) (A : Arr Z h a c ty) (q : c.cls = k) (e : c.slots = vs.toArray) : own_ArrK Z h' a k ty (vs.set sl v) := ⟨_, A.same W, q, by simp [Cell.setSlot, e]⟩
theorem own_get {j : Int32} (e : c.slots = vs.toArray) (hj : ¬ j < 0) (q : vs[j.toNatClampNeg]? = some v) : (¬ (j < 0 ∨ c.slots.size ≤ j.toNatClampNeg)) ∧ c.slots[j.toNatClampNeg]? = some v := by
  have hl := (List.getElem?_eq_some_iff.mp q).1
  rw [e]
  refine ⟨?_, by simpa using q⟩
  rintro (h | h)
  · exact hj h
  · simp at h; omega
theorem own_ext_trans {h'' : Heap} (E : Ext h h') (E' : Ext h' h'') : Ext h h'' := ⟨Nat.le_trans E.1 E'.1, fun x y q => E'.2 x y (E.2 x y q)⟩
theorem own_ext_wr (E : Ext h0 h) (W : Wr h h' a sl v) (q : h0.size ≤ a) : Ext h0 h' := by
  refine ⟨Nat.le_trans E.1 (Nat.le_of_eq W.size.symm), fun x y hx => ?_⟩
  have hlt := (Array.getElem?_eq_some_iff.mp hx).1
  obtain ⟨c', e1, -, -, -, e5, -⟩ := wr_at W (E.2 x y hx)
  rw [← e5 (Nat.ne_of_lt (Nat.lt_of_lt_of_le hlt q))]; exact e1
theorem own_ext_keep (E : Ext h0 h) (K : Keep h h' [a]) (q : h0.size ≤ a) : Ext h0 h' := ⟨Nat.le_trans E.1 K.1, fun x y hx => K.2.1 x y (E.2 x y hx) (ninS (Nat.ne_of_lt (Nat.lt_of_lt_of_le (Array.getElem?_eq_some_iff.mp hx).1 q)) nin0)⟩
end OwnArr
def own_K (Z : State) (h : Heap) (w_BLOB w_STRUCTURE w_UNION w_ENUM w_INT_ENUM w_BIG_INTEGER w_BIG_DECIMAL w_SHORT w_STRING w_BYTE w_LONG w_BOOLEAN w_RESOURCE w_MAP w_DOUBLE w_FLOAT w_MEMBER w_SERVICE w_LIST w_OPERATION w_DOCUMENT w_INTEGER w_TIMESTAMP : Addr) : Prop := Sta Z h "com/example/falkirk/falkirk/model/ShapeType" "BLOB" "Lcom/example/falkirk/falkirk/model/ShapeType;" (.ref w_BLOB) ∧ Exa Z h w_BLOB "com/example/falkirk/falkirk/model/ShapeType" ∧ Sta Z h "com/example/falkirk/falkirk/model/ShapeType" "STRUCTURE" "Lcom/example/falkirk/falkirk/model/ShapeType;" (.ref w_STRUCTURE) ∧ Exa Z h w_STRUCTURE "com/example/falkirk/falkirk/model/ShapeType" ∧ Fld Z h w_BLOB "java/lang/Enum" "ordinal" "I" (.int (0 : Int32)) ∧ Fld Z h w_STRUCTURE "java/lang/Enum" "ordinal" "I" (.int (17 : Int32)) ∧ Sta Z h "com/example/falkirk/falkirk/model/ShapeType" "UNION" "Lcom/example/falkirk/falkirk/model/ShapeType;" (.ref w_UNION) ∧ Exa Z h w_UNION "com/example/falkirk/falkirk/model/ShapeType" ∧ Fld Z h w_UNION "java/lang/Enum" "ordinal" "I" (.int (18 : Int32)) ∧ Sta Z h "com/example/falkirk/falkirk/model/ShapeType" "ENUM" "Lcom/example/falkirk/falkirk/model/ShapeType;" (.ref w_ENUM) ∧ Exa Z h w_ENUM "com/example/falkirk/falkirk/model/ShapeType" ∧ Fld Z h w_ENUM "java/lang/Enum" "ordinal" "I" (.int (3 : Int32)) ∧ Sta Z h "com/example/falkirk/falkirk/model/ShapeType" "INT_ENUM" "Lcom/example/falkirk/falkirk/model/ShapeType;" (.ref w_INT_ENUM) ∧ Exa Z h w_INT_ENUM "com/example/falkirk/falkirk/model/ShapeType" ∧ Fld Z h w_INT_ENUM "java/lang/Enum" "ordinal" "I" (.int (7 : Int32)) ∧ Sta Z h "com/example/falkirk/falkirk/model/ShapeType" "BIG_INTEGER" "Lcom/example/falkirk/falkirk/model/ShapeType;" (.ref w_BIG_INTEGER) ∧ Exa Z h w_BIG_INTEGER "com/example/falkirk/falkirk/model/ShapeType" ∧ Fld Z h w_BIG_INTEGER "java/lang/Enum" "ordinal" "I" (.int (11 : Int32)) ∧ Sta Z h "com/example/falkirk/falkirk/model/ShapeType" "BIG_DECIMAL" "Lcom/example/falkirk/falkirk/model/ShapeType;" (.ref w_BIG_DECIMAL) ∧ Exa Z h w_BIG_DECIMAL "com/example/falkirk/falkirk/model/ShapeType" ∧ Fld Z h w_BIG_DECIMAL "java/lang/Enum" "ordinal" "I" (.int (12 : Int32)) ∧ Sta Z h "com/example/falkirk/falkirk/model/ShapeType" "SHORT" "Lcom/example/falkirk/falkirk/model/ShapeType;" (.ref w_SHORT) ∧ Exa Z h w_SHORT "com/example/falkirk/falkirk/model/ShapeType" ∧ Fld Z h w_SHORT "java/lang/Enum" "ordinal" "I" (.int (5 : Int32)) ∧ Sta Z h "com/example/falkirk/falkirk/model/ShapeType" "STRING" "Lcom/example/falkirk/falkirk/model/ShapeType;" (.ref w_STRING) ∧ Exa Z h w_STRING "com/example/falkirk/falkirk/model/ShapeType" ∧ Fld Z h w_STRING "java/lang/Enum" "ordinal" "I" (.int (2 : Int32)) ∧ Sta Z h "com/example/falkirk/falkirk/model/ShapeType" "BYTE" "Lcom/example/falkirk/falkirk/model/ShapeType;" (.ref w_BYTE) ∧ Exa Z h w_BYTE "com/example/falkirk/falkirk/model/ShapeType" ∧ Fld Z h w_BYTE "java/lang/Enum" "ordinal" "I" (.int (4 : Int32)) ∧ Sta Z h "com/example/falkirk/falkirk/model/ShapeType" "LONG" "Lcom/example/falkirk/falkirk/model/ShapeType;" (.ref w_LONG) ∧ Exa Z h w_LONG "com/example/falkirk/falkirk/model/ShapeType" ∧ Fld Z h w_LONG "java/lang/Enum" "ordinal" "I" (.int (8 : Int32)) ∧ Sta Z h "com/example/falkirk/falkirk/model/ShapeType" "BOOLEAN" "Lcom/example/falkirk/falkirk/model/ShapeType;" (.ref w_BOOLEAN) ∧ Exa Z h w_BOOLEAN "com/example/falkirk/falkirk/model/ShapeType" ∧ Fld Z h w_BOOLEAN "java/lang/Enum" "ordinal" "I" (.int (1 : Int32)) ∧ Sta Z h "com/example/falkirk/falkirk/model/ShapeType" "RESOURCE" "Lcom/example/falkirk/falkirk/model/ShapeType;" (.ref w_RESOURCE) ∧ Exa Z h w_RESOURCE "com/example/falkirk/falkirk/model/ShapeType" ∧ Fld Z h w_RESOURCE "java/lang/Enum" "ordinal" "I" (.int (21 : Int32)) ∧ Sta Z h "com/example/falkirk/falkirk/model/ShapeType" "MAP" "Lcom/example/falkirk/falkirk/model/ShapeType;" (.ref w_MAP) ∧ Exa Z h w_MAP "com/example/falkirk/falkirk/model/ShapeType" ∧ Fld Z h w_MAP "java/lang/Enum" "ordinal" "I" (.int (16 : Int32)) ∧ Sta Z h "com/example/falkirk/falkirk/model/ShapeType" "DOUBLE" "Lcom/example/falkirk/falkirk/model/ShapeType;" (.ref w_DOUBLE) ∧ Exa Z h w_DOUBLE "com/example/falkirk/falkirk/model/ShapeType" ∧ Fld Z h w_DOUBLE "java/lang/Enum" "ordinal" "I" (.int (10 : Int32)) ∧ Sta Z h "com/example/falkirk/falkirk/model/ShapeType" "FLOAT" "Lcom/example/falkirk/falkirk/model/ShapeType;" (.ref w_FLOAT) ∧ Exa Z h w_FLOAT "com/example/falkirk/falkirk/model/ShapeType" ∧ Fld Z h w_FLOAT "java/lang/Enum" "ordinal" "I" (.int (9 : Int32)) ∧ Sta Z h "com/example/falkirk/falkirk/model/ShapeType" "MEMBER" "Lcom/example/falkirk/falkirk/model/ShapeType;" (.ref w_MEMBER) ∧ Exa Z h w_MEMBER "com/example/falkirk/falkirk/model/ShapeType" ∧ Fld Z h w_MEMBER "java/lang/Enum" "ordinal" "I" (.int (22 : Int32)) ∧ Sta Z h "com/example/falkirk/falkirk/model/ShapeType" "SERVICE" "Lcom/example/falkirk/falkirk/model/ShapeType;" (.ref w_SERVICE) ∧ Exa Z h w_SERVICE "com/example/falkirk/falkirk/model/ShapeType" ∧ Fld Z h w_SERVICE "java/lang/Enum" "ordinal" "I" (.int (19 : Int32)) ∧ Sta Z h "com/example/falkirk/falkirk/model/ShapeType" "LIST" "Lcom/example/falkirk/falkirk/model/ShapeType;" (.ref w_LIST) ∧ Exa Z h w_LIST "com/example/falkirk/falkirk/model/ShapeType" ∧ Fld Z h w_LIST "java/lang/Enum" "ordinal" "I" (.int (15 : Int32)) ∧ Sta Z h "com/example/falkirk/falkirk/model/ShapeType" "OPERATION" "Lcom/example/falkirk/falkirk/model/ShapeType;" (.ref w_OPERATION) ∧ Exa Z h w_OPERATION "com/example/falkirk/falkirk/model/ShapeType" ∧ Fld Z h w_OPERATION "java/lang/Enum" "ordinal" "I" (.int (20 : Int32)) ∧ Sta Z h "com/example/falkirk/falkirk/model/ShapeType" "DOCUMENT" "Lcom/example/falkirk/falkirk/model/ShapeType;" (.ref w_DOCUMENT) ∧ Exa Z h w_DOCUMENT "com/example/falkirk/falkirk/model/ShapeType" ∧ Fld Z h w_DOCUMENT "java/lang/Enum" "ordinal" "I" (.int (14 : Int32)) ∧ Sta Z h "com/example/falkirk/falkirk/model/ShapeType" "INTEGER" "Lcom/example/falkirk/falkirk/model/ShapeType;" (.ref w_INTEGER) ∧ Exa Z h w_INTEGER "com/example/falkirk/falkirk/model/ShapeType" ∧ Fld Z h w_INTEGER "java/lang/Enum" "ordinal" "I" (.int (6 : Int32)) ∧ Sta Z h "com/example/falkirk/falkirk/model/ShapeType" "TIMESTAMP" "Lcom/example/falkirk/falkirk/model/ShapeType;" (.ref w_TIMESTAMP) ∧ Exa Z h w_TIMESTAMP "com/example/falkirk/falkirk/model/ShapeType" ∧ Fld Z h w_TIMESTAMP "java/lang/Enum" "ordinal" "I" (.int (13 : Int32))
theorem d_method_2_0 : decode method_2_code 0 = .ok (.iload_n 0, 1) := by decide +kernel
theorem d_method_2_1 : decode method_2_code 1 = .ok (.ifCond .ne 7, 3) := by decide +kernel
theorem d_method_2_4 : decode method_2_code 4 = .ok (.getstatic 7, 3) := by decide +kernel
theorem d_method_2_7 : decode method_2_code 7 = .ok (.areturn, 1) := by decide +kernel
theorem d_method_2_8 : decode method_2_code 8 = .ok (.iload_n 0, 1) := by decide +kernel
theorem d_method_2_9 : decode method_2_code 9 = .ok (.iconst 1, 1) := by decide +kernel
theorem d_method_2_10 : decode method_2_code 10 = .ok (.if_icmp .ne 7, 3) := by decide +kernel
theorem d_method_2_13 : decode method_2_code 13 = .ok (.getstatic 13, 3) := by decide +kernel
theorem d_method_2_16 : decode method_2_code 16 = .ok (.areturn, 1) := by decide +kernel
theorem d_method_2_17 : decode method_2_code 17 = .ok (.iload_n 0, 1) := by decide +kernel
theorem d_method_2_18 : decode method_2_code 18 = .ok (.iconst 2, 1) := by decide +kernel
theorem d_method_2_19 : decode method_2_code 19 = .ok (.if_icmp .ne 7, 3) := by decide +kernel
theorem d_method_2_22 : decode method_2_code 22 = .ok (.getstatic 16, 3) := by decide +kernel
theorem d_method_2_25 : decode method_2_code 25 = .ok (.areturn, 1) := by decide +kernel
theorem d_method_2_26 : decode method_2_code 26 = .ok (.iload_n 0, 1) := by decide +kernel
theorem d_method_2_27 : decode method_2_code 27 = .ok (.iconst 3, 1) := by decide +kernel
theorem d_method_2_28 : decode method_2_code 28 = .ok (.if_icmp .ne 7, 3) := by decide +kernel
theorem d_method_2_31 : decode method_2_code 31 = .ok (.getstatic 19, 3) := by decide +kernel
theorem d_method_2_34 : decode method_2_code 34 = .ok (.areturn, 1) := by decide +kernel
theorem d_method_2_35 : decode method_2_code 35 = .ok (.iload_n 0, 1) := by decide +kernel
theorem d_method_2_36 : decode method_2_code 36 = .ok (.iconst 4, 1) := by decide +kernel
theorem d_method_2_37 : decode method_2_code 37 = .ok (.if_icmp .ne 7, 3) := by decide +kernel
theorem d_method_2_40 : decode method_2_code 40 = .ok (.getstatic 22, 3) := by decide +kernel
theorem d_method_2_43 : decode method_2_code 43 = .ok (.areturn, 1) := by decide +kernel
theorem d_method_2_44 : decode method_2_code 44 = .ok (.iload_n 0, 1) := by decide +kernel
theorem d_method_2_45 : decode method_2_code 45 = .ok (.iconst 5, 1) := by decide +kernel
theorem d_method_2_46 : decode method_2_code 46 = .ok (.if_icmp .ne 7, 3) := by decide +kernel
theorem d_method_2_49 : decode method_2_code 49 = .ok (.getstatic 25, 3) := by decide +kernel
theorem d_method_2_52 : decode method_2_code 52 = .ok (.areturn, 1) := by decide +kernel
theorem d_method_2_53 : decode method_2_code 53 = .ok (.iload_n 0, 1) := by decide +kernel
theorem d_method_2_54 : decode method_2_code 54 = .ok (.bipush 6, 2) := by decide +kernel
theorem d_method_2_56 : decode method_2_code 56 = .ok (.if_icmp .ne 7, 3) := by decide +kernel
theorem d_method_2_59 : decode method_2_code 59 = .ok (.getstatic 28, 3) := by decide +kernel
theorem d_method_2_62 : decode method_2_code 62 = .ok (.areturn, 1) := by decide +kernel
theorem d_method_2_63 : decode method_2_code 63 = .ok (.iload_n 0, 1) := by decide +kernel
theorem d_method_2_64 : decode method_2_code 64 = .ok (.bipush 7, 2) := by decide +kernel
theorem d_method_2_66 : decode method_2_code 66 = .ok (.if_icmp .ne 7, 3) := by decide +kernel
theorem d_method_2_69 : decode method_2_code 69 = .ok (.getstatic 31, 3) := by decide +kernel
theorem d_method_2_72 : decode method_2_code 72 = .ok (.areturn, 1) := by decide +kernel
theorem d_method_2_73 : decode method_2_code 73 = .ok (.iload_n 0, 1) := by decide +kernel
theorem d_method_2_74 : decode method_2_code 74 = .ok (.bipush 8, 2) := by decide +kernel
theorem d_method_2_76 : decode method_2_code 76 = .ok (.if_icmp .ne 7, 3) := by decide +kernel
theorem d_method_2_79 : decode method_2_code 79 = .ok (.getstatic 34, 3) := by decide +kernel
theorem d_method_2_82 : decode method_2_code 82 = .ok (.areturn, 1) := by decide +kernel
theorem d_method_2_83 : decode method_2_code 83 = .ok (.iload_n 0, 1) := by decide +kernel
theorem d_method_2_84 : decode method_2_code 84 = .ok (.bipush 9, 2) := by decide +kernel
theorem d_method_2_86 : decode method_2_code 86 = .ok (.if_icmp .ne 7, 3) := by decide +kernel
theorem d_method_2_89 : decode method_2_code 89 = .ok (.getstatic 37, 3) := by decide +kernel
theorem d_method_2_92 : decode method_2_code 92 = .ok (.areturn, 1) := by decide +kernel
theorem d_method_2_93 : decode method_2_code 93 = .ok (.iload_n 0, 1) := by decide +kernel
theorem d_method_2_94 : decode method_2_code 94 = .ok (.bipush 10, 2) := by decide +kernel
theorem d_method_2_96 : decode method_2_code 96 = .ok (.if_icmp .ne 7, 3) := by decide +kernel
theorem d_method_2_99 : decode method_2_code 99 = .ok (.getstatic 40, 3) := by decide +kernel
theorem d_method_2_102 : decode method_2_code 102 = .ok (.areturn, 1) := by decide +kernel
theorem d_method_2_103 : decode method_2_code 103 = .ok (.iload_n 0, 1) := by decide +kernel
theorem d_method_2_104 : decode method_2_code 104 = .ok (.bipush 11, 2) := by decide +kernel
theorem d_method_2_106 : decode method_2_code 106 = .ok (.if_icmp .ne 7, 3) := by decide +kernel
theorem d_method_2_109 : decode method_2_code 109 = .ok (.getstatic 43, 3) := by decide +kernel
theorem d_method_2_112 : decode method_2_code 112 = .ok (.areturn, 1) := by decide +kernel
theorem d_method_2_113 : decode method_2_code 113 = .ok (.iload_n 0, 1) := by decide +kernel
theorem d_method_2_114 : decode method_2_code 114 = .ok (.bipush 12, 2) := by decide +kernel
theorem d_method_2_116 : decode method_2_code 116 = .ok (.if_icmp .ne 7, 3) := by decide +kernel
theorem d_method_2_119 : decode method_2_code 119 = .ok (.getstatic 46, 3) := by decide +kernel
theorem d_method_2_122 : decode method_2_code 122 = .ok (.areturn, 1) := by decide +kernel
theorem d_method_2_123 : decode method_2_code 123 = .ok (.iload_n 0, 1) := by decide +kernel
theorem d_method_2_124 : decode method_2_code 124 = .ok (.bipush 13, 2) := by decide +kernel
theorem d_method_2_126 : decode method_2_code 126 = .ok (.if_icmp .ne 7, 3) := by decide +kernel
theorem d_method_2_129 : decode method_2_code 129 = .ok (.getstatic 49, 3) := by decide +kernel
theorem d_method_2_132 : decode method_2_code 132 = .ok (.areturn, 1) := by decide +kernel
theorem d_method_2_133 : decode method_2_code 133 = .ok (.iload_n 0, 1) := by decide +kernel
theorem d_method_2_134 : decode method_2_code 134 = .ok (.bipush 14, 2) := by decide +kernel
theorem d_method_2_136 : decode method_2_code 136 = .ok (.if_icmp .ne 7, 3) := by decide +kernel
theorem d_method_2_139 : decode method_2_code 139 = .ok (.getstatic 52, 3) := by decide +kernel
theorem d_method_2_142 : decode method_2_code 142 = .ok (.areturn, 1) := by decide +kernel
theorem d_method_2_143 : decode method_2_code 143 = .ok (.iload_n 0, 1) := by decide +kernel
theorem d_method_2_144 : decode method_2_code 144 = .ok (.bipush 15, 2) := by decide +kernel
theorem d_method_2_146 : decode method_2_code 146 = .ok (.if_icmp .ne 7, 3) := by decide +kernel
theorem d_method_2_149 : decode method_2_code 149 = .ok (.getstatic 55, 3) := by decide +kernel
theorem d_method_2_152 : decode method_2_code 152 = .ok (.areturn, 1) := by decide +kernel
theorem d_method_2_153 : decode method_2_code 153 = .ok (.iload_n 0, 1) := by decide +kernel
theorem d_method_2_154 : decode method_2_code 154 = .ok (.bipush 16, 2) := by decide +kernel
theorem d_method_2_156 : decode method_2_code 156 = .ok (.if_icmp .ne 7, 3) := by decide +kernel
theorem d_method_2_159 : decode method_2_code 159 = .ok (.getstatic 58, 3) := by decide +kernel
theorem d_method_2_162 : decode method_2_code 162 = .ok (.areturn, 1) := by decide +kernel
theorem d_method_2_163 : decode method_2_code 163 = .ok (.iload_n 0, 1) := by decide +kernel
theorem d_method_2_164 : decode method_2_code 164 = .ok (.bipush 17, 2) := by decide +kernel
theorem d_method_2_166 : decode method_2_code 166 = .ok (.if_icmp .ne 7, 3) := by decide +kernel
theorem d_method_2_169 : decode method_2_code 169 = .ok (.getstatic 61, 3) := by decide +kernel
theorem d_method_2_172 : decode method_2_code 172 = .ok (.areturn, 1) := by decide +kernel
theorem d_method_2_173 : decode method_2_code 173 = .ok (.iload_n 0, 1) := by decide +kernel
theorem d_method_2_174 : decode method_2_code 174 = .ok (.bipush 18, 2) := by decide +kernel
theorem d_method_2_176 : decode method_2_code 176 = .ok (.if_icmp .ne 7, 3) := by decide +kernel
theorem d_method_2_179 : decode method_2_code 179 = .ok (.getstatic 64, 3) := by decide +kernel
theorem d_method_2_182 : decode method_2_code 182 = .ok (.areturn, 1) := by decide +kernel
theorem d_method_2_183 : decode method_2_code 183 = .ok (.iload_n 0, 1) := by decide +kernel
theorem d_method_2_184 : decode method_2_code 184 = .ok (.bipush 19, 2) := by decide +kernel
theorem d_method_2_186 : decode method_2_code 186 = .ok (.if_icmp .ne 7, 3) := by decide +kernel
theorem d_method_2_189 : decode method_2_code 189 = .ok (.getstatic 67, 3) := by decide +kernel
theorem d_method_2_192 : decode method_2_code 192 = .ok (.areturn, 1) := by decide +kernel
theorem d_method_2_193 : decode method_2_code 193 = .ok (.iload_n 0, 1) := by decide +kernel
theorem d_method_2_194 : decode method_2_code 194 = .ok (.bipush 20, 2) := by decide +kernel
theorem d_method_2_196 : decode method_2_code 196 = .ok (.if_icmp .ne 7, 3) := by decide +kernel
theorem d_method_2_199 : decode method_2_code 199 = .ok (.getstatic 70, 3) := by decide +kernel
theorem d_method_2_202 : decode method_2_code 202 = .ok (.areturn, 1) := by decide +kernel
theorem d_method_2_203 : decode method_2_code 203 = .ok (.iload_n 0, 1) := by decide +kernel
theorem d_method_2_204 : decode method_2_code 204 = .ok (.bipush 21, 2) := by decide +kernel
theorem d_method_2_206 : decode method_2_code 206 = .ok (.if_icmp .ne 7, 3) := by decide +kernel
theorem d_method_2_209 : decode method_2_code 209 = .ok (.getstatic 73, 3) := by decide +kernel
theorem d_method_2_212 : decode method_2_code 212 = .ok (.areturn, 1) := by decide +kernel
theorem d_method_2_213 : decode method_2_code 213 = .ok (.getstatic 76, 3) := by decide +kernel
theorem d_method_2_216 : decode method_2_code 216 = .ok (.areturn, 1) := by decide +kernel
theorem pn_0 : plainName "com/example/falkirk/falkirk/model/ShapeTypeHasNamedMembersPinLaw" = true := by first | (simp [plainName, overriddenIn]; done) | decide +kernel
theorem ef_pick (m : MethodId) (x0 : Int32) : entryFrame m #[(.int x0)] 1 = mkF m 0 #[.val (.int x0)] [] := by first | (simp [entryFrame, mkF, argsToLocals, Value.category]; done) | rfl
set_option maxRecDepth 65536 in
set_option maxHeartbeats 40000000 in
theorem rm_pick (l : Launch) (Z : State) (a0 : Array Value) (hw : ∀ d ∈ tables_1, d.before a0 Z = true) (ws : List Jvm.Cond) (p0 : Int32) (h0 : Heap) (n0 : Nat) (w_BLOB w_STRUCTURE w_UNION w_ENUM w_INT_ENUM w_BIG_INTEGER w_BIG_DECIMAL w_SHORT w_STRING w_BYTE w_LONG w_BOOLEAN w_RESOURCE w_MAP w_DOUBLE w_FLOAT w_MEMBER w_SERVICE w_LIST w_OPERATION w_DOCUMENT w_INTEGER w_TIMESTAMP : Addr) (hK : own_K Z h0 w_BLOB w_STRUCTURE w_UNION w_ENUM w_INT_ENUM w_BIG_INTEGER w_BIG_DECIMAL w_SHORT w_STRING w_BYTE w_LONG w_BOOLEAN w_RESOURCE w_MAP w_DOUBLE w_FLOAT w_MEMBER w_SERVICE w_LIST w_OPERATION w_DOCUMENT w_INTEGER w_TIMESTAMP) :
    MetFree l (⟨"com/example/falkirk/falkirk/model/ShapeTypeHasNamedMembersPinLaw", "pick", "(I)Lcom/example/falkirk/falkirk/model/ShapeType;"⟩ : MethodName) (head1 (Jvm.Cond.code (⟨"com/example/falkirk/falkirk/model/ShapeTypeHasNamedMembersPinLaw", "pick", "(I)Lcom/example/falkirk/falkirk/model/ShapeType;"⟩ : MethodName) method_2_code 1 (some (.object "com/example/falkirk/falkirk/model/ShapeType")) :: ws) ({ frames := 0, cells := 0, slots := 0, locals := 0 } : Room)) (fun a U => a = #[(.int p0)] ∧ Z.Warmed39 U.vm ∧ U.heap = h0) (fun _ _ _ _ _ => True) (fun _ U o U' => ∃ v L, o = .returned v ∧ own_Q (some (.ref (if p0 = (0 : Int32) then w_BLOB else (if p0 = (1 : Int32) then w_BOOLEAN else (if p0 = (2 : Int32) then w_STRING else (if p0 = (3 : Int32) then w_ENUM else (if p0 = (4 : Int32) then w_BYTE else (if p0 = (5 : Int32) then w_SHORT else (if p0 = (6 : Int32) then w_INTEGER else (if p0 = (7 : Int32) then w_INT_ENUM else (if p0 = (8 : Int32) then w_LONG else (if p0 = (9 : Int32) then w_FLOAT else (if p0 = (10 : Int32) then w_DOUBLE else (if p0 = (11 : Int32) then w_BIG_INTEGER else (if p0 = (12 : Int32) then w_BIG_DECIMAL else (if p0 = (13 : Int32) then w_TIMESTAMP else (if p0 = (14 : Int32) then w_DOCUMENT else (if p0 = (15 : Int32) then w_LIST else (if p0 = (16 : Int32) then w_MAP else (if p0 = (17 : Int32) then w_STRUCTURE else (if p0 = (18 : Int32) then w_UNION else (if p0 = (19 : Int32) then w_SERVICE else (if p0 = (20 : Int32) then w_OPERATION else (if p0 = (21 : Int32) then w_RESOURCE else w_MEMBER)))))))))))))))))))))))) h0 n0 v U'.heap L ∧ FrameEnd U o U' L ({ frames := 0, cells := 0, slots := 0, locals := 0 } : Room).cells ({ frames := 0, cells := 0, slots := 0, locals := 0 } : Room).slots) := by
  refine MetFree.of_bodySF (plainFor_of_name pn_0) hisR ?_
  intro p e s m args below meth c s₁ Bd hml0 hP hK0
  obtain ⟨rfl, hZ, hh⟩ := hP
  have hx := Bd.exec
  have hby := Bd.bytes
  have hml : c.maxLocals = 1 := hml0
  have hown : s.vm.findClass "com/example/falkirk/falkirk/model/ShapeTypeHasNamedMembersPinLaw" = some m.cls := findClass_of_methodNamed Bd.named
  have hnm := (name_of_methodNamed Bd.named Bd.method).1
  have X0 : Stand p l e ({ frames := 0, cells := 0, slots := 0, locals := 0 } : Room) s m #[(.int p0)] below meth c s₁ [] 0 0 := Stand.of_body Bd
  have e0 : s₁.heap = h0 := by rw [← hh, Bd.state]; rfl
  have N0 := Fr.nil n0
  have pre0 : ∀ t, Steps p.tables e below (s₁.setTop (mkF m 0 #[.val (.int p0)] [])) t → Steps p.tables e below (s₁.setTop (entryFrame m #[(.int p0)] 1)) t := fun t k => castTop (ef_pick m p0) k
  have hK' := hK
  obtain ⟨S_w_BLOB, E_w_BLOB, S_w_STRUCTURE, E_w_STRUCTURE, F_ordinal_w_BLOB, F_ordinal_w_STRUCTURE, S_w_UNION, E_w_UNION, F_ordinal_w_UNION, S_w_ENUM, E_w_ENUM, F_ordinal_w_ENUM, S_w_INT_ENUM, E_w_INT_ENUM, F_ordinal_w_INT_ENUM, S_w_BIG_INTEGER, E_w_BIG_INTEGER, F_ordinal_w_BIG_INTEGER, S_w_BIG_DECIMAL, E_w_BIG_DECIMAL, F_ordinal_w_BIG_DECIMAL, S_w_SHORT, E_w_SHORT, F_ordinal_w_SHORT, S_w_STRING, E_w_STRING, F_ordinal_w_STRING, S_w_BYTE, E_w_BYTE, F_ordinal_w_BYTE, S_w_LONG, E_w_LONG, F_ordinal_w_LONG, S_w_BOOLEAN, E_w_BOOLEAN, F_ordinal_w_BOOLEAN, S_w_RESOURCE, E_w_RESOURCE, F_ordinal_w_RESOURCE, S_w_MAP, E_w_MAP, F_ordinal_w_MAP, S_w_DOUBLE, E_w_DOUBLE, F_ordinal_w_DOUBLE, S_w_FLOAT, E_w_FLOAT, F_ordinal_w_FLOAT, S_w_MEMBER, E_w_MEMBER, F_ordinal_w_MEMBER, S_w_SERVICE, E_w_SERVICE, F_ordinal_w_SERVICE, S_w_LIST, E_w_LIST, F_ordinal_w_LIST, S_w_OPERATION, E_w_OPERATION, F_ordinal_w_OPERATION, S_w_DOCUMENT, E_w_DOCUMENT, F_ordinal_w_DOCUMENT, S_w_INTEGER, E_w_INTEGER, F_ordinal_w_INTEGER, S_w_TIMESTAMP, E_w_TIMESTAMP, F_ordinal_w_TIMESTAMP⟩ := hK'
  have pre2 : ∀ t, Steps p.tables e below (s₁.setTop (mkF m 1 #[.val (.int p0)] [(.int p0)])) t → Steps p.tables e below (s₁.setTop (entryFrame m #[(.int p0)] 1)) t := fun t k => pre0 t (by
    show Steps p.tables e below (s₁.setTop (mkF m 0 #[.val (.int p0)] [])) _
    refine XS.iloadN X0.here hx rfl (hb hby d_method_2_0) rfl ?_
    exact k)
  by_cases hc1_1 : p0 = (0 : Int32)
  · obtain ⟨T3, X3, e3, st3⟩ := getS2 X0 hx hZ hown (host := "") (Or.inl (hw _ (ow 5 rfl))) Via.refl e0 S_w_BLOB (g := (mkF m 4 #[.val (.int p0)] [])) rfl (hb hby d_method_2_4)
    have pre4 : ∀ t, Steps p.tables e below (T3.setTop (mkF m 7 #[.val (.int p0)] [(.ref w_BLOB)])) t → Steps p.tables e below (s₁.setTop (entryFrame m #[(.int p0)] 1)) t := fun t k => pre2 t (by
      show Steps p.tables e below (s₁.setTop (mkF m 1 #[.val (.int p0)] [(.int p0)])) _
      refine XS.ifNo X0.here hx rfl (hb hby d_method_2_1) rfl ((if0 _ _).trans (teq hc1_1).2) ?_
      show Steps p.tables e below (s₁.setTop (mkF m 4 #[.val (.int p0)] [])) _
      refine st3 _ ?_
      exact k)
    obtain ⟨fs, hr, hrun, hended, hW, hsame⟩ := X3.leave (v := some (.ref w_BLOB)) (fun h => by rw [Bd.returns] at h; cases h)
    refine ⟨_, _, pre4 _ ?_, hrun, hended, _, _, rfl, ?_, ⟨_, rfl⟩, hW, hsame.mono (by decide) (by decide)⟩
    · show Steps p.tables e below (T3.setTop (mkF m 7 #[.val (.int p0)] [(.ref w_BLOB)])) _
      exact retOut X3 hx Bd.returns rfl (Or.inr (Or.inr (Or.inr (Or.inr ⟨rfl, rfl, rfl⟩)))) (hb hby d_method_2_7) hr
    · exact ⟨congrArg (fun z => some (Value.ref z)) (Eq.symm (if_pos hc1_1)), N0, e3⟩
  · have pre6 : ∀ t, Steps p.tables e below (s₁.setTop (mkF m 10 #[.val (.int p0)] [(.int (1 : Int32)), (.int p0)])) t → Steps p.tables e below (s₁.setTop (entryFrame m #[(.int p0)] 1)) t := fun t k => pre2 t (by
      show Steps p.tables e below (s₁.setTop (mkF m 1 #[.val (.int p0)] [(.int p0)])) _
      refine XS.ifYes X0.here hx rfl (pc0 := 1) (pc' := 8) rfl (hb hby d_method_2_1) rfl ((if0 _ _).trans (feq hc1_1).2) (by decide) (by decide) ?_
      show Steps p.tables e below (s₁.setTop (mkF m 8 #[.val (.int p0)] [])) _
      refine XS.iloadN X0.here hx rfl (hb hby d_method_2_8) rfl ?_
      show Steps p.tables e below (s₁.setTop (mkF m 9 #[.val (.int p0)] [(.int p0)])) _
      refine XS.iconst X0.here hx rfl (hb hby d_method_2_9) ?_
      exact k)
    by_cases hc10_5 : p0 = (1 : Int32)
    · obtain ⟨T7, X7, e7, st7⟩ := getS2 X0 hx hZ hown (host := "") (Or.inl (hw _ (ow 36 rfl))) Via.refl e0 S_w_BOOLEAN (g := (mkF m 13 #[.val (.int p0)] [])) rfl (hb hby d_method_2_13)
      have pre8 : ∀ t, Steps p.tables e below (T7.setTop (mkF m 16 #[.val (.int p0)] [(.ref w_BOOLEAN)])) t → Steps p.tables e below (s₁.setTop (entryFrame m #[(.int p0)] 1)) t := fun t k => pre6 t (by
        show Steps p.tables e below (s₁.setTop (mkF m 10 #[.val (.int p0)] [(.int (1 : Int32)), (.int p0)])) _
        refine XS.icmpNo X0.here hx rfl (hb hby d_method_2_10) rfl (teq hc10_5).2 ?_
        show Steps p.tables e below (s₁.setTop (mkF m 13 #[.val (.int p0)] [])) _
        refine st7 _ ?_
        exact k)
      obtain ⟨fs, hr, hrun, hended, hW, hsame⟩ := X7.leave (v := some (.ref w_BOOLEAN)) (fun h => by rw [Bd.returns] at h; cases h)
      refine ⟨_, _, pre8 _ ?_, hrun, hended, _, _, rfl, ?_, ⟨_, rfl⟩, hW, hsame.mono (by decide) (by decide)⟩
      · show Steps p.tables e below (T7.setTop (mkF m 16 #[.val (.int p0)] [(.ref w_BOOLEAN)])) _
        exact retOut X7 hx Bd.returns rfl (Or.inr (Or.inr (Or.inr (Or.inr ⟨rfl, rfl, rfl⟩)))) (hb hby d_method_2_16) hr
      · exact ⟨congrArg (fun z => some (Value.ref z)) (Eq.symm ((if_neg hc1_1).trans (if_pos hc10_5))), N0, e7⟩
    · have pre10 : ∀ t, Steps p.tables e below (s₁.setTop (mkF m 19 #[.val (.int p0)] [(.int (2 : Int32)), (.int p0)])) t → Steps p.tables e below (s₁.setTop (entryFrame m #[(.int p0)] 1)) t := fun t k => pre6 t (by
        show Steps p.tables e below (s₁.setTop (mkF m 10 #[.val (.int p0)] [(.int (1 : Int32)), (.int p0)])) _
        refine XS.icmpYes X0.here hx rfl (pc0 := 10) (pc' := 17) rfl (hb hby d_method_2_10) rfl (feq hc10_5).2 (by decide) (by decide) ?_
        show Steps p.tables e below (s₁.setTop (mkF m 17 #[.val (.int p0)] [])) _
        refine XS.iloadN X0.here hx rfl (hb hby d_method_2_17) rfl ?_
        show Steps p.tables e below (s₁.setTop (mkF m 18 #[.val (.int p0)] [(.int p0)])) _
        refine XS.iconst X0.here hx rfl (hb hby d_method_2_18) ?_
        exact k)
      by_cases hc19_9 : p0 = (2 : Int32)
      · obtain ⟨T11, X11, e11, st11⟩ := getS2 X0 hx hZ hown (host := "") (Or.inl (hw _ (ow 30 rfl))) Via.refl e0 S_w_STRING (g := (mkF m 22 #[.val (.int p0)] [])) rfl (hb hby d_method_2_22)
        have pre12 : ∀ t, Steps p.tables e below (T11.setTop (mkF m 25 #[.val (.int p0)] [(.ref w_STRING)])) t → Steps p.tables e below (s₁.setTop (entryFrame m #[(.int p0)] 1)) t := fun t k => pre10 t (by
          show Steps p.tables e below (s₁.setTop (mkF m 19 #[.val (.int p0)] [(.int (2 : Int32)), (.int p0)])) _
          refine XS.icmpNo X0.here hx rfl (hb hby d_method_2_19) rfl (teq hc19_9).2 ?_
          show Steps p.tables e below (s₁.setTop (mkF m 22 #[.val (.int p0)] [])) _
          refine st11 _ ?_
          exact k)
        obtain ⟨fs, hr, hrun, hended, hW, hsame⟩ := X11.leave (v := some (.ref w_STRING)) (fun h => by rw [Bd.returns] at h; cases h)
        refine ⟨_, _, pre12 _ ?_, hrun, hended, _, _, rfl, ?_, ⟨_, rfl⟩, hW, hsame.mono (by decide) (by decide)⟩
        · show Steps p.tables e below (T11.setTop (mkF m 25 #[.val (.int p0)] [(.ref w_STRING)])) _
          exact retOut X11 hx Bd.returns rfl (Or.inr (Or.inr (Or.inr (Or.inr ⟨rfl, rfl, rfl⟩)))) (hb hby d_method_2_25) hr
        · exact ⟨congrArg (fun z => some (Value.ref z)) (Eq.symm ((if_neg hc1_1).trans ((if_neg hc10_5).trans (if_pos hc19_9)))), N0, e11⟩
      · have pre14 : ∀ t, Steps p.tables e below (s₁.setTop (mkF m 28 #[.val (.int p0)] [(.int (3 : Int32)), (.int p0)])) t → Steps p.tables e below (s₁.setTop (entryFrame m #[(.int p0)] 1)) t := fun t k => pre10 t (by
          show Steps p.tables e below (s₁.setTop (mkF m 19 #[.val (.int p0)] [(.int (2 : Int32)), (.int p0)])) _
          refine XS.icmpYes X0.here hx rfl (pc0 := 19) (pc' := 26) rfl (hb hby d_method_2_19) rfl (feq hc19_9).2 (by decide) (by decide) ?_
          show Steps p.tables e below (s₁.setTop (mkF m 26 #[.val (.int p0)] [])) _
          refine XS.iloadN X0.here hx rfl (hb hby d_method_2_26) rfl ?_
          show Steps p.tables e below (s₁.setTop (mkF m 27 #[.val (.int p0)] [(.int p0)])) _
          refine XS.iconst X0.here hx rfl (hb hby d_method_2_27) ?_
          exact k)
        by_cases hc28_13 : p0 = (3 : Int32)
        · obtain ⟨T15, X15, e15, st15⟩ := getS2 X0 hx hZ hown (host := "") (Or.inl (hw _ (ow 21 rfl))) Via.refl e0 S_w_ENUM (g := (mkF m 31 #[.val (.int p0)] [])) rfl (hb hby d_method_2_31)
          have pre16 : ∀ t, Steps p.tables e below (T15.setTop (mkF m 34 #[.val (.int p0)] [(.ref w_ENUM)])) t → Steps p.tables e below (s₁.setTop (entryFrame m #[(.int p0)] 1)) t := fun t k => pre14 t (by
            show Steps p.tables e below (s₁.setTop (mkF m 28 #[.val (.int p0)] [(.int (3 : Int32)), (.int p0)])) _
            refine XS.icmpNo X0.here hx rfl (hb hby d_method_2_28) rfl (teq hc28_13).2 ?_
            show Steps p.tables e below (s₁.setTop (mkF m 31 #[.val (.int p0)] [])) _
            refine st15 _ ?_
            exact k)
          obtain ⟨fs, hr, hrun, hended, hW, hsame⟩ := X15.leave (v := some (.ref w_ENUM)) (fun h => by rw [Bd.returns] at h; cases h)
          refine ⟨_, _, pre16 _ ?_, hrun, hended, _, _, rfl, ?_, ⟨_, rfl⟩, hW, hsame.mono (by decide) (by decide)⟩
          · show Steps p.tables e below (T15.setTop (mkF m 34 #[.val (.int p0)] [(.ref w_ENUM)])) _
            exact retOut X15 hx Bd.returns rfl (Or.inr (Or.inr (Or.inr (Or.inr ⟨rfl, rfl, rfl⟩)))) (hb hby d_method_2_34) hr
          · exact ⟨congrArg (fun z => some (Value.ref z)) (Eq.symm ((if_neg hc1_1).trans ((if_neg hc10_5).trans ((if_neg hc19_9).trans (if_pos hc28_13))))), N0, e15⟩
        · have pre18 : ∀ t, Steps p.tables e below (s₁.setTop (mkF m 37 #[.val (.int p0)] [(.int (4 : Int32)), (.int p0)])) t → Steps p.tables e below (s₁.setTop (entryFrame m #[(.int p0)] 1)) t := fun t k => pre14 t (by
            show Steps p.tables e below (s₁.setTop (mkF m 28 #[.val (.int p0)] [(.int (3 : Int32)), (.int p0)])) _
            refine XS.icmpYes X0.here hx rfl (pc0 := 28) (pc' := 35) rfl (hb hby d_method_2_28) rfl (feq hc28_13).2 (by decide) (by decide) ?_
            show Steps p.tables e below (s₁.setTop (mkF m 35 #[.val (.int p0)] [])) _
            refine XS.iloadN X0.here hx rfl (hb hby d_method_2_35) rfl ?_
            show Steps p.tables e below (s₁.setTop (mkF m 36 #[.val (.int p0)] [(.int p0)])) _
            refine XS.iconst X0.here hx rfl (hb hby d_method_2_36) ?_
            exact k)
          by_cases hc37_17 : p0 = (4 : Int32)
          · obtain ⟨T19, X19, e19, st19⟩ := getS2 X0 hx hZ hown (host := "") (Or.inl (hw _ (ow 32 rfl))) Via.refl e0 S_w_BYTE (g := (mkF m 40 #[.val (.int p0)] [])) rfl (hb hby d_method_2_40)
            have pre20 : ∀ t, Steps p.tables e below (T19.setTop (mkF m 43 #[.val (.int p0)] [(.ref w_BYTE)])) t → Steps p.tables e below (s₁.setTop (entryFrame m #[(.int p0)] 1)) t := fun t k => pre18 t (by
              show Steps p.tables e below (s₁.setTop (mkF m 37 #[.val (.int p0)] [(.int (4 : Int32)), (.int p0)])) _
              refine XS.icmpNo X0.here hx rfl (hb hby d_method_2_37) rfl (teq hc37_17).2 ?_
              show Steps p.tables e below (s₁.setTop (mkF m 40 #[.val (.int p0)] [])) _
              refine st19 _ ?_
              exact k)
            obtain ⟨fs, hr, hrun, hended, hW, hsame⟩ := X19.leave (v := some (.ref w_BYTE)) (fun h => by rw [Bd.returns] at h; cases h)
            refine ⟨_, _, pre20 _ ?_, hrun, hended, _, _, rfl, ?_, ⟨_, rfl⟩, hW, hsame.mono (by decide) (by decide)⟩
            · show Steps p.tables e below (T19.setTop (mkF m 43 #[.val (.int p0)] [(.ref w_BYTE)])) _
              exact retOut X19 hx Bd.returns rfl (Or.inr (Or.inr (Or.inr (Or.inr ⟨rfl, rfl, rfl⟩)))) (hb hby d_method_2_43) hr
            · exact ⟨congrArg (fun z => some (Value.ref z)) (Eq.symm ((if_neg hc1_1).trans ((if_neg hc10_5).trans ((if_neg hc19_9).trans ((if_neg hc28_13).trans (if_pos hc37_17)))))), N0, e19⟩
          · have pre22 : ∀ t, Steps p.tables e below (s₁.setTop (mkF m 46 #[.val (.int p0)] [(.int (5 : Int32)), (.int p0)])) t → Steps p.tables e below (s₁.setTop (entryFrame m #[(.int p0)] 1)) t := fun t k => pre18 t (by
              show Steps p.tables e below (s₁.setTop (mkF m 37 #[.val (.int p0)] [(.int (4 : Int32)), (.int p0)])) _
              refine XS.icmpYes X0.here hx rfl (pc0 := 37) (pc' := 44) rfl (hb hby d_method_2_37) rfl (feq hc37_17).2 (by decide) (by decide) ?_
              show Steps p.tables e below (s₁.setTop (mkF m 44 #[.val (.int p0)] [])) _
              refine XS.iloadN X0.here hx rfl (hb hby d_method_2_44) rfl ?_
              show Steps p.tables e below (s₁.setTop (mkF m 45 #[.val (.int p0)] [(.int p0)])) _
              refine XS.iconst X0.here hx rfl (hb hby d_method_2_45) ?_
              exact k)
            by_cases hc46_21 : p0 = (5 : Int32)
            · obtain ⟨T23, X23, e23, st23⟩ := getS2 X0 hx hZ hown (host := "") (Or.inl (hw _ (ow 27 rfl))) Via.refl e0 S_w_SHORT (g := (mkF m 49 #[.val (.int p0)] [])) rfl (hb hby d_method_2_49)
              have pre24 : ∀ t, Steps p.tables e below (T23.setTop (mkF m 52 #[.val (.int p0)] [(.ref w_SHORT)])) t → Steps p.tables e below (s₁.setTop (entryFrame m #[(.int p0)] 1)) t := fun t k => pre22 t (by
                show Steps p.tables e below (s₁.setTop (mkF m 46 #[.val (.int p0)] [(.int (5 : Int32)), (.int p0)])) _
                refine XS.icmpNo X0.here hx rfl (hb hby d_method_2_46) rfl (teq hc46_21).2 ?_
                show Steps p.tables e below (s₁.setTop (mkF m 49 #[.val (.int p0)] [])) _
                refine st23 _ ?_
                exact k)
              obtain ⟨fs, hr, hrun, hended, hW, hsame⟩ := X23.leave (v := some (.ref w_SHORT)) (fun h => by rw [Bd.returns] at h; cases h)
              refine ⟨_, _, pre24 _ ?_, hrun, hended, _, _, rfl, ?_, ⟨_, rfl⟩, hW, hsame.mono (by decide) (by decide)⟩
              · show Steps p.tables e below (T23.setTop (mkF m 52 #[.val (.int p0)] [(.ref w_SHORT)])) _
                exact retOut X23 hx Bd.returns rfl (Or.inr (Or.inr (Or.inr (Or.inr ⟨rfl, rfl, rfl⟩)))) (hb hby d_method_2_52) hr
              · exact ⟨congrArg (fun z => some (Value.ref z)) (Eq.symm ((if_neg hc1_1).trans ((if_neg hc10_5).trans ((if_neg hc19_9).trans ((if_neg hc28_13).trans ((if_neg hc37_17).trans (if_pos hc46_21))))))), N0, e23⟩
            · have pre26 : ∀ t, Steps p.tables e below (s₁.setTop (mkF m 56 #[.val (.int p0)] [(.int (6 : Int32)), (.int p0)])) t → Steps p.tables e below (s₁.setTop (entryFrame m #[(.int p0)] 1)) t := fun t k => pre22 t (by
                show Steps p.tables e below (s₁.setTop (mkF m 46 #[.val (.int p0)] [(.int (5 : Int32)), (.int p0)])) _
                refine XS.icmpYes X0.here hx rfl (pc0 := 46) (pc' := 53) rfl (hb hby d_method_2_46) rfl (feq hc46_21).2 (by decide) (by decide) ?_
                show Steps p.tables e below (s₁.setTop (mkF m 53 #[.val (.int p0)] [])) _
                refine XS.iloadN X0.here hx rfl (hb hby d_method_2_53) rfl ?_
                show Steps p.tables e below (s₁.setTop (mkF m 54 #[.val (.int p0)] [(.int p0)])) _
                refine XS.bipush X0.here hx rfl (hb hby d_method_2_54) ?_
                exact k)
              by_cases hc56_25 : p0 = (6 : Int32)
              · obtain ⟨T27, X27, e27, st27⟩ := getS2 X0 hx hZ hown (host := "") (Or.inl (hw _ (ow 57 rfl))) Via.refl e0 S_w_INTEGER (g := (mkF m 59 #[.val (.int p0)] [])) rfl (hb hby d_method_2_59)
                have pre28 : ∀ t, Steps p.tables e below (T27.setTop (mkF m 62 #[.val (.int p0)] [(.ref w_INTEGER)])) t → Steps p.tables e below (s₁.setTop (entryFrame m #[(.int p0)] 1)) t := fun t k => pre26 t (by
                  show Steps p.tables e below (s₁.setTop (mkF m 56 #[.val (.int p0)] [(.int (6 : Int32)), (.int p0)])) _
                  refine XS.icmpNo X0.here hx rfl (hb hby d_method_2_56) rfl (teq hc56_25).2 ?_
                  show Steps p.tables e below (s₁.setTop (mkF m 59 #[.val (.int p0)] [])) _
                  refine st27 _ ?_
                  exact k)
                obtain ⟨fs, hr, hrun, hended, hW, hsame⟩ := X27.leave (v := some (.ref w_INTEGER)) (fun h => by rw [Bd.returns] at h; cases h)
                refine ⟨_, _, pre28 _ ?_, hrun, hended, _, _, rfl, ?_, ⟨_, rfl⟩, hW, hsame.mono (by decide) (by decide)⟩
                · show Steps p.tables e below (T27.setTop (mkF m 62 #[.val (.int p0)] [(.ref w_INTEGER)])) _
                  exact retOut X27 hx Bd.returns rfl (Or.inr (Or.inr (Or.inr (Or.inr ⟨rfl, rfl, rfl⟩)))) (hb hby d_method_2_62) hr
                · exact ⟨congrArg (fun z => some (Value.ref z)) (Eq.symm ((if_neg hc1_1).trans ((if_neg hc10_5).trans ((if_neg hc19_9).trans ((if_neg hc28_13).trans ((if_neg hc37_17).trans ((if_neg hc46_21).trans (if_pos hc56_25)))))))), N0, e27⟩
              · have pre30 : ∀ t, Steps p.tables e below (s₁.setTop (mkF m 66 #[.val (.int p0)] [(.int (7 : Int32)), (.int p0)])) t → Steps p.tables e below (s₁.setTop (entryFrame m #[(.int p0)] 1)) t := fun t k => pre26 t (by
                  show Steps p.tables e below (s₁.setTop (mkF m 56 #[.val (.int p0)] [(.int (6 : Int32)), (.int p0)])) _
                  refine XS.icmpYes X0.here hx rfl (pc0 := 56) (pc' := 63) rfl (hb hby d_method_2_56) rfl (feq hc56_25).2 (by decide) (by decide) ?_
                  show Steps p.tables e below (s₁.setTop (mkF m 63 #[.val (.int p0)] [])) _
                  refine XS.iloadN X0.here hx rfl (hb hby d_method_2_63) rfl ?_
                  show Steps p.tables e below (s₁.setTop (mkF m 64 #[.val (.int p0)] [(.int p0)])) _
                  refine XS.bipush X0.here hx rfl (hb hby d_method_2_64) ?_
                  exact k)
                by_cases hc66_29 : p0 = (7 : Int32)
                · obtain ⟨T31, X31, e31, st31⟩ := getS2 X0 hx hZ hown (host := "") (Or.inl (hw _ (ow 29 rfl))) Via.refl e0 S_w_INT_ENUM (g := (mkF m 69 #[.val (.int p0)] [])) rfl (hb hby d_method_2_69)
                  have pre32 : ∀ t, Steps p.tables e below (T31.setTop (mkF m 72 #[.val (.int p0)] [(.ref w_INT_ENUM)])) t → Steps p.tables e below (s₁.setTop (entryFrame m #[(.int p0)] 1)) t := fun t k => pre30 t (by
                    show Steps p.tables e below (s₁.setTop (mkF m 66 #[.val (.int p0)] [(.int (7 : Int32)), (.int p0)])) _
                    refine XS.icmpNo X0.here hx rfl (hb hby d_method_2_66) rfl (teq hc66_29).2 ?_
                    show Steps p.tables e below (s₁.setTop (mkF m 69 #[.val (.int p0)] [])) _
                    refine st31 _ ?_
                    exact k)
                  obtain ⟨fs, hr, hrun, hended, hW, hsame⟩ := X31.leave (v := some (.ref w_INT_ENUM)) (fun h => by rw [Bd.returns] at h; cases h)
                  refine ⟨_, _, pre32 _ ?_, hrun, hended, _, _, rfl, ?_, ⟨_, rfl⟩, hW, hsame.mono (by decide) (by decide)⟩
                  · show Steps p.tables e below (T31.setTop (mkF m 72 #[.val (.int p0)] [(.ref w_INT_ENUM)])) _
                    exact retOut X31 hx Bd.returns rfl (Or.inr (Or.inr (Or.inr (Or.inr ⟨rfl, rfl, rfl⟩)))) (hb hby d_method_2_72) hr
                  · exact ⟨congrArg (fun z => some (Value.ref z)) (Eq.symm ((if_neg hc1_1).trans ((if_neg hc10_5).trans ((if_neg hc19_9).trans ((if_neg hc28_13).trans ((if_neg hc37_17).trans ((if_neg hc46_21).trans ((if_neg hc56_25).trans (if_pos hc66_29))))))))), N0, e31⟩
                · have pre34 : ∀ t, Steps p.tables e below (s₁.setTop (mkF m 76 #[.val (.int p0)] [(.int (8 : Int32)), (.int p0)])) t → Steps p.tables e below (s₁.setTop (entryFrame m #[(.int p0)] 1)) t := fun t k => pre30 t (by
                    show Steps p.tables e below (s₁.setTop (mkF m 66 #[.val (.int p0)] [(.int (7 : Int32)), (.int p0)])) _
                    refine XS.icmpYes X0.here hx rfl (pc0 := 66) (pc' := 73) rfl (hb hby d_method_2_66) rfl (feq hc66_29).2 (by decide) (by decide) ?_
                    show Steps p.tables e below (s₁.setTop (mkF m 73 #[.val (.int p0)] [])) _
                    refine XS.iloadN X0.here hx rfl (hb hby d_method_2_73) rfl ?_
                    show Steps p.tables e below (s₁.setTop (mkF m 74 #[.val (.int p0)] [(.int p0)])) _
                    refine XS.bipush X0.here hx rfl (hb hby d_method_2_74) ?_
                    exact k)
                  by_cases hc76_33 : p0 = (8 : Int32)
                  · obtain ⟨T35, X35, e35, st35⟩ := getS2 X0 hx hZ hown (host := "") (Or.inl (hw _ (ow 34 rfl))) Via.refl e0 S_w_LONG (g := (mkF m 79 #[.val (.int p0)] [])) rfl (hb hby d_method_2_79)
                    have pre36 : ∀ t, Steps p.tables e below (T35.setTop (mkF m 82 #[.val (.int p0)] [(.ref w_LONG)])) t → Steps p.tables e below (s₁.setTop (entryFrame m #[(.int p0)] 1)) t := fun t k => pre34 t (by
                      show Steps p.tables e below (s₁.setTop (mkF m 76 #[.val (.int p0)] [(.int (8 : Int32)), (.int p0)])) _
                      refine XS.icmpNo X0.here hx rfl (hb hby d_method_2_76) rfl (teq hc76_33).2 ?_
                      show Steps p.tables e below (s₁.setTop (mkF m 79 #[.val (.int p0)] [])) _
                      refine st35 _ ?_
                      exact k)
                    obtain ⟨fs, hr, hrun, hended, hW, hsame⟩ := X35.leave (v := some (.ref w_LONG)) (fun h => by rw [Bd.returns] at h; cases h)
                    refine ⟨_, _, pre36 _ ?_, hrun, hended, _, _, rfl, ?_, ⟨_, rfl⟩, hW, hsame.mono (by decide) (by decide)⟩
                    · show Steps p.tables e below (T35.setTop (mkF m 82 #[.val (.int p0)] [(.ref w_LONG)])) _
                      exact retOut X35 hx Bd.returns rfl (Or.inr (Or.inr (Or.inr (Or.inr ⟨rfl, rfl, rfl⟩)))) (hb hby d_method_2_82) hr
                    · exact ⟨congrArg (fun z => some (Value.ref z)) (Eq.symm ((if_neg hc1_1).trans ((if_neg hc10_5).trans ((if_neg hc19_9).trans ((if_neg hc28_13).trans ((if_neg hc37_17).trans ((if_neg hc46_21).trans ((if_neg hc56_25).trans ((if_neg hc66_29).trans (if_pos hc76_33)))))))))), N0, e35⟩
                  · have pre38 : ∀ t, Steps p.tables e below (s₁.setTop (mkF m 86 #[.val (.int p0)] [(.int (9 : Int32)), (.int p0)])) t → Steps p.tables e below (s₁.setTop (entryFrame m #[(.int p0)] 1)) t := fun t k => pre34 t (by
                      show Steps p.tables e below (s₁.setTop (mkF m 76 #[.val (.int p0)] [(.int (8 : Int32)), (.int p0)])) _
                      refine XS.icmpYes X0.here hx rfl (pc0 := 76) (pc' := 83) rfl (hb hby d_method_2_76) rfl (feq hc76_33).2 (by decide) (by decide) ?_
                      show Steps p.tables e below (s₁.setTop (mkF m 83 #[.val (.int p0)] [])) _
                      refine XS.iloadN X0.here hx rfl (hb hby d_method_2_83) rfl ?_
                      show Steps p.tables e below (s₁.setTop (mkF m 84 #[.val (.int p0)] [(.int p0)])) _
                      refine XS.bipush X0.here hx rfl (hb hby d_method_2_84) ?_
                      exact k)
                    by_cases hc86_37 : p0 = (9 : Int32)
                    · obtain ⟨T39, X39, e39, st39⟩ := getS2 X0 hx hZ hown (host := "") (Or.inl (hw _ (ow 44 rfl))) Via.refl e0 S_w_FLOAT (g := (mkF m 89 #[.val (.int p0)] [])) rfl (hb hby d_method_2_89)
                      have pre40 : ∀ t, Steps p.tables e below (T39.setTop (mkF m 92 #[.val (.int p0)] [(.ref w_FLOAT)])) t → Steps p.tables e below (s₁.setTop (entryFrame m #[(.int p0)] 1)) t := fun t k => pre38 t (by
                        show Steps p.tables e below (s₁.setTop (mkF m 86 #[.val (.int p0)] [(.int (9 : Int32)), (.int p0)])) _
                        refine XS.icmpNo X0.here hx rfl (hb hby d_method_2_86) rfl (teq hc86_37).2 ?_
                        show Steps p.tables e below (s₁.setTop (mkF m 89 #[.val (.int p0)] [])) _
                        refine st39 _ ?_
                        exact k)
                      obtain ⟨fs, hr, hrun, hended, hW, hsame⟩ := X39.leave (v := some (.ref w_FLOAT)) (fun h => by rw [Bd.returns] at h; cases h)
                      refine ⟨_, _, pre40 _ ?_, hrun, hended, _, _, rfl, ?_, ⟨_, rfl⟩, hW, hsame.mono (by decide) (by decide)⟩
                      · show Steps p.tables e below (T39.setTop (mkF m 92 #[.val (.int p0)] [(.ref w_FLOAT)])) _
                        exact retOut X39 hx Bd.returns rfl (Or.inr (Or.inr (Or.inr (Or.inr ⟨rfl, rfl, rfl⟩)))) (hb hby d_method_2_92) hr
                      · exact ⟨congrArg (fun z => some (Value.ref z)) (Eq.symm ((if_neg hc1_1).trans ((if_neg hc10_5).trans ((if_neg hc19_9).trans ((if_neg hc28_13).trans ((if_neg hc37_17).trans ((if_neg hc46_21).trans ((if_neg hc56_25).trans ((if_neg hc66_29).trans ((if_neg hc76_33).trans (if_pos hc86_37))))))))))), N0, e39⟩
                    · have pre42 : ∀ t, Steps p.tables e below (s₁.setTop (mkF m 96 #[.val (.int p0)] [(.int (10 : Int32)), (.int p0)])) t → Steps p.tables e below (s₁.setTop (entryFrame m #[(.int p0)] 1)) t := fun t k => pre38 t (by
                        show Steps p.tables e below (s₁.setTop (mkF m 86 #[.val (.int p0)] [(.int (9 : Int32)), (.int p0)])) _
                        refine XS.icmpYes X0.here hx rfl (pc0 := 86) (pc' := 93) rfl (hb hby d_method_2_86) rfl (feq hc86_37).2 (by decide) (by decide) ?_
                        show Steps p.tables e below (s₁.setTop (mkF m 93 #[.val (.int p0)] [])) _
                        refine XS.iloadN X0.here hx rfl (hb hby d_method_2_93) rfl ?_
                        show Steps p.tables e below (s₁.setTop (mkF m 94 #[.val (.int p0)] [(.int p0)])) _
                        refine XS.bipush X0.here hx rfl (hb hby d_method_2_94) ?_
                        exact k)
                      by_cases hc96_41 : p0 = (10 : Int32)
                      · obtain ⟨T43, X43, e43, st43⟩ := getS2 X0 hx hZ hown (host := "") (Or.inl (hw _ (ow 42 rfl))) Via.refl e0 S_w_DOUBLE (g := (mkF m 99 #[.val (.int p0)] [])) rfl (hb hby d_method_2_99)
                        have pre44 : ∀ t, Steps p.tables e below (T43.setTop (mkF m 102 #[.val (.int p0)] [(.ref w_DOUBLE)])) t → Steps p.tables e below (s₁.setTop (entryFrame m #[(.int p0)] 1)) t := fun t k => pre42 t (by
                          show Steps p.tables e below (s₁.setTop (mkF m 96 #[.val (.int p0)] [(.int (10 : Int32)), (.int p0)])) _
                          refine XS.icmpNo X0.here hx rfl (hb hby d_method_2_96) rfl (teq hc96_41).2 ?_
                          show Steps p.tables e below (s₁.setTop (mkF m 99 #[.val (.int p0)] [])) _
                          refine st43 _ ?_
                          exact k)
                        obtain ⟨fs, hr, hrun, hended, hW, hsame⟩ := X43.leave (v := some (.ref w_DOUBLE)) (fun h => by rw [Bd.returns] at h; cases h)
                        refine ⟨_, _, pre44 _ ?_, hrun, hended, _, _, rfl, ?_, ⟨_, rfl⟩, hW, hsame.mono (by decide) (by decide)⟩
                        · show Steps p.tables e below (T43.setTop (mkF m 102 #[.val (.int p0)] [(.ref w_DOUBLE)])) _
                          exact retOut X43 hx Bd.returns rfl (Or.inr (Or.inr (Or.inr (Or.inr ⟨rfl, rfl, rfl⟩)))) (hb hby d_method_2_102) hr
                        · exact ⟨congrArg (fun z => some (Value.ref z)) (Eq.symm ((if_neg hc1_1).trans ((if_neg hc10_5).trans ((if_neg hc19_9).trans ((if_neg hc28_13).trans ((if_neg hc37_17).trans ((if_neg hc46_21).trans ((if_neg hc56_25).trans ((if_neg hc66_29).trans ((if_neg hc76_33).trans ((if_neg hc86_37).trans (if_pos hc96_41)))))))))))), N0, e43⟩
                      · have pre46 : ∀ t, Steps p.tables e below (s₁.setTop (mkF m 106 #[.val (.int p0)] [(.int (11 : Int32)), (.int p0)])) t → Steps p.tables e below (s₁.setTop (entryFrame m #[(.int p0)] 1)) t := fun t k => pre42 t (by
                          show Steps p.tables e below (s₁.setTop (mkF m 96 #[.val (.int p0)] [(.int (10 : Int32)), (.int p0)])) _
                          refine XS.icmpYes X0.here hx rfl (pc0 := 96) (pc' := 103) rfl (hb hby d_method_2_96) rfl (feq hc96_41).2 (by decide) (by decide) ?_
                          show Steps p.tables e below (s₁.setTop (mkF m 103 #[.val (.int p0)] [])) _
                          refine XS.iloadN X0.here hx rfl (hb hby d_method_2_103) rfl ?_
                          show Steps p.tables e below (s₁.setTop (mkF m 104 #[.val (.int p0)] [(.int p0)])) _
                          refine XS.bipush X0.here hx rfl (hb hby d_method_2_104) ?_
                          exact k)
                        by_cases hc106_45 : p0 = (11 : Int32)
                        · obtain ⟨T47, X47, e47, st47⟩ := getS2 X0 hx hZ hown (host := "") (Or.inl (hw _ (ow 23 rfl))) Via.refl e0 S_w_BIG_INTEGER (g := (mkF m 109 #[.val (.int p0)] [])) rfl (hb hby d_method_2_109)
                          have pre48 : ∀ t, Steps p.tables e below (T47.setTop (mkF m 112 #[.val (.int p0)] [(.ref w_BIG_INTEGER)])) t → Steps p.tables e below (s₁.setTop (entryFrame m #[(.int p0)] 1)) t := fun t k => pre46 t (by
                            show Steps p.tables e below (s₁.setTop (mkF m 106 #[.val (.int p0)] [(.int (11 : Int32)), (.int p0)])) _
                            refine XS.icmpNo X0.here hx rfl (hb hby d_method_2_106) rfl (teq hc106_45).2 ?_
                            show Steps p.tables e below (s₁.setTop (mkF m 109 #[.val (.int p0)] [])) _
                            refine st47 _ ?_
                            exact k)
                          obtain ⟨fs, hr, hrun, hended, hW, hsame⟩ := X47.leave (v := some (.ref w_BIG_INTEGER)) (fun h => by rw [Bd.returns] at h; cases h)
                          refine ⟨_, _, pre48 _ ?_, hrun, hended, _, _, rfl, ?_, ⟨_, rfl⟩, hW, hsame.mono (by decide) (by decide)⟩
                          · show Steps p.tables e below (T47.setTop (mkF m 112 #[.val (.int p0)] [(.ref w_BIG_INTEGER)])) _
                            exact retOut X47 hx Bd.returns rfl (Or.inr (Or.inr (Or.inr (Or.inr ⟨rfl, rfl, rfl⟩)))) (hb hby d_method_2_112) hr
                          · exact ⟨congrArg (fun z => some (Value.ref z)) (Eq.symm ((if_neg hc1_1).trans ((if_neg hc10_5).trans ((if_neg hc19_9).trans ((if_neg hc28_13).trans ((if_neg hc37_17).trans ((if_neg hc46_21).trans ((if_neg hc56_25).trans ((if_neg hc66_29).trans ((if_neg hc76_33).trans ((if_neg hc86_37).trans ((if_neg hc96_41).trans (if_pos hc106_45))))))))))))), N0, e47⟩
                        · have pre50 : ∀ t, Steps p.tables e below (s₁.setTop (mkF m 116 #[.val (.int p0)] [(.int (12 : Int32)), (.int p0)])) t → Steps p.tables e below (s₁.setTop (entryFrame m #[(.int p0)] 1)) t := fun t k => pre46 t (by
                            show Steps p.tables e below (s₁.setTop (mkF m 106 #[.val (.int p0)] [(.int (11 : Int32)), (.int p0)])) _
                            refine XS.icmpYes X0.here hx rfl (pc0 := 106) (pc' := 113) rfl (hb hby d_method_2_106) rfl (feq hc106_45).2 (by decide) (by decide) ?_
                            show Steps p.tables e below (s₁.setTop (mkF m 113 #[.val (.int p0)] [])) _
                            refine XS.iloadN X0.here hx rfl (hb hby d_method_2_113) rfl ?_
                            show Steps p.tables e below (s₁.setTop (mkF m 114 #[.val (.int p0)] [(.int p0)])) _
                            refine XS.bipush X0.here hx rfl (hb hby d_method_2_114) ?_
                            exact k)
                          by_cases hc116_49 : p0 = (12 : Int32)
                          · obtain ⟨T51, X51, e51, st51⟩ := getS2 X0 hx hZ hown (host := "") (Or.inl (hw _ (ow 25 rfl))) Via.refl e0 S_w_BIG_DECIMAL (g := (mkF m 119 #[.val (.int p0)] [])) rfl (hb hby d_method_2_119)
                            have pre52 : ∀ t, Steps p.tables e below (T51.setTop (mkF m 122 #[.val (.int p0)] [(.ref w_BIG_DECIMAL)])) t → Steps p.tables e below (s₁.setTop (entryFrame m #[(.int p0)] 1)) t := fun t k => pre50 t (by
                              show Steps p.tables e below (s₁.setTop (mkF m 116 #[.val (.int p0)] [(.int (12 : Int32)), (.int p0)])) _
                              refine XS.icmpNo X0.here hx rfl (hb hby d_method_2_116) rfl (teq hc116_49).2 ?_
                              show Steps p.tables e below (s₁.setTop (mkF m 119 #[.val (.int p0)] [])) _
                              refine st51 _ ?_
                              exact k)
                            obtain ⟨fs, hr, hrun, hended, hW, hsame⟩ := X51.leave (v := some (.ref w_BIG_DECIMAL)) (fun h => by rw [Bd.returns] at h; cases h)
                            refine ⟨_, _, pre52 _ ?_, hrun, hended, _, _, rfl, ?_, ⟨_, rfl⟩, hW, hsame.mono (by decide) (by decide)⟩
                            · show Steps p.tables e below (T51.setTop (mkF m 122 #[.val (.int p0)] [(.ref w_BIG_DECIMAL)])) _
                              exact retOut X51 hx Bd.returns rfl (Or.inr (Or.inr (Or.inr (Or.inr ⟨rfl, rfl, rfl⟩)))) (hb hby d_method_2_122) hr
                            · exact ⟨congrArg (fun z => some (Value.ref z)) (Eq.symm ((if_neg hc1_1).trans ((if_neg hc10_5).trans ((if_neg hc19_9).trans ((if_neg hc28_13).trans ((if_neg hc37_17).trans ((if_neg hc46_21).trans ((if_neg hc56_25).trans ((if_neg hc66_29).trans ((if_neg hc76_33).trans ((if_neg hc86_37).trans ((if_neg hc96_41).trans ((if_neg hc106_45).trans (if_pos hc116_49)))))))))))))), N0, e51⟩
                          · have pre54 : ∀ t, Steps p.tables e below (s₁.setTop (mkF m 126 #[.val (.int p0)] [(.int (13 : Int32)), (.int p0)])) t → Steps p.tables e below (s₁.setTop (entryFrame m #[(.int p0)] 1)) t := fun t k => pre50 t (by
                              show Steps p.tables e below (s₁.setTop (mkF m 116 #[.val (.int p0)] [(.int (12 : Int32)), (.int p0)])) _
                              refine XS.icmpYes X0.here hx rfl (pc0 := 116) (pc' := 123) rfl (hb hby d_method_2_116) rfl (feq hc116_49).2 (by decide) (by decide) ?_
                              show Steps p.tables e below (s₁.setTop (mkF m 123 #[.val (.int p0)] [])) _
                              refine XS.iloadN X0.here hx rfl (hb hby d_method_2_123) rfl ?_
                              show Steps p.tables e below (s₁.setTop (mkF m 124 #[.val (.int p0)] [(.int p0)])) _
                              refine XS.bipush X0.here hx rfl (hb hby d_method_2_124) ?_
                              exact k)
                            by_cases hc126_53 : p0 = (13 : Int32)
                            · obtain ⟨T55, X55, e55, st55⟩ := getS2 X0 hx hZ hown (host := "") (Or.inl (hw _ (ow 59 rfl))) Via.refl e0 S_w_TIMESTAMP (g := (mkF m 129 #[.val (.int p0)] [])) rfl (hb hby d_method_2_129)
                              have pre56 : ∀ t, Steps p.tables e below (T55.setTop (mkF m 132 #[.val (.int p0)] [(.ref w_TIMESTAMP)])) t → Steps p.tables e below (s₁.setTop (entryFrame m #[(.int p0)] 1)) t := fun t k => pre54 t (by
                                show Steps p.tables e below (s₁.setTop (mkF m 126 #[.val (.int p0)] [(.int (13 : Int32)), (.int p0)])) _
                                refine XS.icmpNo X0.here hx rfl (hb hby d_method_2_126) rfl (teq hc126_53).2 ?_
                                show Steps p.tables e below (s₁.setTop (mkF m 129 #[.val (.int p0)] [])) _
                                refine st55 _ ?_
                                exact k)
                              obtain ⟨fs, hr, hrun, hended, hW, hsame⟩ := X55.leave (v := some (.ref w_TIMESTAMP)) (fun h => by rw [Bd.returns] at h; cases h)
                              refine ⟨_, _, pre56 _ ?_, hrun, hended, _, _, rfl, ?_, ⟨_, rfl⟩, hW, hsame.mono (by decide) (by decide)⟩
                              · show Steps p.tables e below (T55.setTop (mkF m 132 #[.val (.int p0)] [(.ref w_TIMESTAMP)])) _
                                exact retOut X55 hx Bd.returns rfl (Or.inr (Or.inr (Or.inr (Or.inr ⟨rfl, rfl, rfl⟩)))) (hb hby d_method_2_132) hr
                              · exact ⟨congrArg (fun z => some (Value.ref z)) (Eq.symm ((if_neg hc1_1).trans ((if_neg hc10_5).trans ((if_neg hc19_9).trans ((if_neg hc28_13).trans ((if_neg hc37_17).trans ((if_neg hc46_21).trans ((if_neg hc56_25).trans ((if_neg hc66_29).trans ((if_neg hc76_33).trans ((if_neg hc86_37).trans ((if_neg hc96_41).trans ((if_neg hc106_45).trans ((if_neg hc116_49).trans (if_pos hc126_53))))))))))))))), N0, e55⟩
                            · have pre58 : ∀ t, Steps p.tables e below (s₁.setTop (mkF m 136 #[.val (.int p0)] [(.int (14 : Int32)), (.int p0)])) t → Steps p.tables e below (s₁.setTop (entryFrame m #[(.int p0)] 1)) t := fun t k => pre54 t (by
                                show Steps p.tables e below (s₁.setTop (mkF m 126 #[.val (.int p0)] [(.int (13 : Int32)), (.int p0)])) _
                                refine XS.icmpYes X0.here hx rfl (pc0 := 126) (pc' := 133) rfl (hb hby d_method_2_126) rfl (feq hc126_53).2 (by decide) (by decide) ?_
                                show Steps p.tables e below (s₁.setTop (mkF m 133 #[.val (.int p0)] [])) _
                                refine XS.iloadN X0.here hx rfl (hb hby d_method_2_133) rfl ?_
                                show Steps p.tables e below (s₁.setTop (mkF m 134 #[.val (.int p0)] [(.int p0)])) _
                                refine XS.bipush X0.here hx rfl (hb hby d_method_2_134) ?_
                                exact k)
                              by_cases hc136_57 : p0 = (14 : Int32)
                              · obtain ⟨T59, X59, e59, st59⟩ := getS2 X0 hx hZ hown (host := "") (Or.inl (hw _ (ow 55 rfl))) Via.refl e0 S_w_DOCUMENT (g := (mkF m 139 #[.val (.int p0)] [])) rfl (hb hby d_method_2_139)
                                have pre60 : ∀ t, Steps p.tables e below (T59.setTop (mkF m 142 #[.val (.int p0)] [(.ref w_DOCUMENT)])) t → Steps p.tables e below (s₁.setTop (entryFrame m #[(.int p0)] 1)) t := fun t k => pre58 t (by
                                  show Steps p.tables e below (s₁.setTop (mkF m 136 #[.val (.int p0)] [(.int (14 : Int32)), (.int p0)])) _
                                  refine XS.icmpNo X0.here hx rfl (hb hby d_method_2_136) rfl (teq hc136_57).2 ?_
                                  show Steps p.tables e below (s₁.setTop (mkF m 139 #[.val (.int p0)] [])) _
                                  refine st59 _ ?_
                                  exact k)
                                obtain ⟨fs, hr, hrun, hended, hW, hsame⟩ := X59.leave (v := some (.ref w_DOCUMENT)) (fun h => by rw [Bd.returns] at h; cases h)
                                refine ⟨_, _, pre60 _ ?_, hrun, hended, _, _, rfl, ?_, ⟨_, rfl⟩, hW, hsame.mono (by decide) (by decide)⟩
                                · show Steps p.tables e below (T59.setTop (mkF m 142 #[.val (.int p0)] [(.ref w_DOCUMENT)])) _
                                  exact retOut X59 hx Bd.returns rfl (Or.inr (Or.inr (Or.inr (Or.inr ⟨rfl, rfl, rfl⟩)))) (hb hby d_method_2_142) hr
                                · exact ⟨congrArg (fun z => some (Value.ref z)) (Eq.symm ((if_neg hc1_1).trans ((if_neg hc10_5).trans ((if_neg hc19_9).trans ((if_neg hc28_13).trans ((if_neg hc37_17).trans ((if_neg hc46_21).trans ((if_neg hc56_25).trans ((if_neg hc66_29).trans ((if_neg hc76_33).trans ((if_neg hc86_37).trans ((if_neg hc96_41).trans ((if_neg hc106_45).trans ((if_neg hc116_49).trans ((if_neg hc126_53).trans (if_pos hc136_57)))))))))))))))), N0, e59⟩
                              · have pre62 : ∀ t, Steps p.tables e below (s₁.setTop (mkF m 146 #[.val (.int p0)] [(.int (15 : Int32)), (.int p0)])) t → Steps p.tables e below (s₁.setTop (entryFrame m #[(.int p0)] 1)) t := fun t k => pre58 t (by
                                  show Steps p.tables e below (s₁.setTop (mkF m 136 #[.val (.int p0)] [(.int (14 : Int32)), (.int p0)])) _
                                  refine XS.icmpYes X0.here hx rfl (pc0 := 136) (pc' := 143) rfl (hb hby d_method_2_136) rfl (feq hc136_57).2 (by decide) (by decide) ?_
                                  show Steps p.tables e below (s₁.setTop (mkF m 143 #[.val (.int p0)] [])) _
                                  refine XS.iloadN X0.here hx rfl (hb hby d_method_2_143) rfl ?_
                                  show Steps p.tables e below (s₁.setTop (mkF m 144 #[.val (.int p0)] [(.int p0)])) _
                                  refine XS.bipush X0.here hx rfl (hb hby d_method_2_144) ?_
                                  exact k)
                                by_cases hc146_61 : p0 = (15 : Int32)
                                · obtain ⟨T63, X63, e63, st63⟩ := getS2 X0 hx hZ hown (host := "") (Or.inl (hw _ (ow 50 rfl))) Via.refl e0 S_w_LIST (g := (mkF m 149 #[.val (.int p0)] [])) rfl (hb hby d_method_2_149)
                                  have pre64 : ∀ t, Steps p.tables e below (T63.setTop (mkF m 152 #[.val (.int p0)] [(.ref w_LIST)])) t → Steps p.tables e below (s₁.setTop (entryFrame m #[(.int p0)] 1)) t := fun t k => pre62 t (by
                                    show Steps p.tables e below (s₁.setTop (mkF m 146 #[.val (.int p0)] [(.int (15 : Int32)), (.int p0)])) _
                                    refine XS.icmpNo X0.here hx rfl (hb hby d_method_2_146) rfl (teq hc146_61).2 ?_
                                    show Steps p.tables e below (s₁.setTop (mkF m 149 #[.val (.int p0)] [])) _
                                    refine st63 _ ?_
                                    exact k)
                                  obtain ⟨fs, hr, hrun, hended, hW, hsame⟩ := X63.leave (v := some (.ref w_LIST)) (fun h => by rw [Bd.returns] at h; cases h)
                                  refine ⟨_, _, pre64 _ ?_, hrun, hended, _, _, rfl, ?_, ⟨_, rfl⟩, hW, hsame.mono (by decide) (by decide)⟩
                                  · show Steps p.tables e below (T63.setTop (mkF m 152 #[.val (.int p0)] [(.ref w_LIST)])) _
                                    exact retOut X63 hx Bd.returns rfl (Or.inr (Or.inr (Or.inr (Or.inr ⟨rfl, rfl, rfl⟩)))) (hb hby d_method_2_152) hr
                                  · exact ⟨congrArg (fun z => some (Value.ref z)) (Eq.symm ((if_neg hc1_1).trans ((if_neg hc10_5).trans ((if_neg hc19_9).trans ((if_neg hc28_13).trans ((if_neg hc37_17).trans ((if_neg hc46_21).trans ((if_neg hc56_25).trans ((if_neg hc66_29).trans ((if_neg hc76_33).trans ((if_neg hc86_37).trans ((if_neg hc96_41).trans ((if_neg hc106_45).trans ((if_neg hc116_49).trans ((if_neg hc126_53).trans ((if_neg hc136_57).trans (if_pos hc146_61))))))))))))))))), N0, e63⟩
                                · have pre66 : ∀ t, Steps p.tables e below (s₁.setTop (mkF m 156 #[.val (.int p0)] [(.int (16 : Int32)), (.int p0)])) t → Steps p.tables e below (s₁.setTop (entryFrame m #[(.int p0)] 1)) t := fun t k => pre62 t (by
                                    show Steps p.tables e below (s₁.setTop (mkF m 146 #[.val (.int p0)] [(.int (15 : Int32)), (.int p0)])) _
                                    refine XS.icmpYes X0.here hx rfl (pc0 := 146) (pc' := 153) rfl (hb hby d_method_2_146) rfl (feq hc146_61).2 (by decide) (by decide) ?_
                                    show Steps p.tables e below (s₁.setTop (mkF m 153 #[.val (.int p0)] [])) _
                                    refine XS.iloadN X0.here hx rfl (hb hby d_method_2_153) rfl ?_
                                    show Steps p.tables e below (s₁.setTop (mkF m 154 #[.val (.int p0)] [(.int p0)])) _
                                    refine XS.bipush X0.here hx rfl (hb hby d_method_2_154) ?_
                                    exact k)
                                  by_cases hc156_65 : p0 = (16 : Int32)
                                  · obtain ⟨T67, X67, e67, st67⟩ := getS2 X0 hx hZ hown (host := "") (Or.inl (hw _ (ow 40 rfl))) Via.refl e0 S_w_MAP (g := (mkF m 159 #[.val (.int p0)] [])) rfl (hb hby d_method_2_159)
                                    have pre68 : ∀ t, Steps p.tables e below (T67.setTop (mkF m 162 #[.val (.int p0)] [(.ref w_MAP)])) t → Steps p.tables e below (s₁.setTop (entryFrame m #[(.int p0)] 1)) t := fun t k => pre66 t (by
                                      show Steps p.tables e below (s₁.setTop (mkF m 156 #[.val (.int p0)] [(.int (16 : Int32)), (.int p0)])) _
                                      refine XS.icmpNo X0.here hx rfl (hb hby d_method_2_156) rfl (teq hc156_65).2 ?_
                                      show Steps p.tables e below (s₁.setTop (mkF m 159 #[.val (.int p0)] [])) _
                                      refine st67 _ ?_
                                      exact k)
                                    obtain ⟨fs, hr, hrun, hended, hW, hsame⟩ := X67.leave (v := some (.ref w_MAP)) (fun h => by rw [Bd.returns] at h; cases h)
                                    refine ⟨_, _, pre68 _ ?_, hrun, hended, _, _, rfl, ?_, ⟨_, rfl⟩, hW, hsame.mono (by decide) (by decide)⟩
                                    · show Steps p.tables e below (T67.setTop (mkF m 162 #[.val (.int p0)] [(.ref w_MAP)])) _
                                      exact retOut X67 hx Bd.returns rfl (Or.inr (Or.inr (Or.inr (Or.inr ⟨rfl, rfl, rfl⟩)))) (hb hby d_method_2_162) hr
                                    · exact ⟨congrArg (fun z => some (Value.ref z)) (Eq.symm ((if_neg hc1_1).trans ((if_neg hc10_5).trans ((if_neg hc19_9).trans ((if_neg hc28_13).trans ((if_neg hc37_17).trans ((if_neg hc46_21).trans ((if_neg hc56_25).trans ((if_neg hc66_29).trans ((if_neg hc76_33).trans ((if_neg hc86_37).trans ((if_neg hc96_41).trans ((if_neg hc106_45).trans ((if_neg hc116_49).trans ((if_neg hc126_53).trans ((if_neg hc136_57).trans ((if_neg hc146_61).trans (if_pos hc156_65)))))))))))))))))), N0, e67⟩
                                  · have pre70 : ∀ t, Steps p.tables e below (s₁.setTop (mkF m 166 #[.val (.int p0)] [(.int (17 : Int32)), (.int p0)])) t → Steps p.tables e below (s₁.setTop (entryFrame m #[(.int p0)] 1)) t := fun t k => pre66 t (by
                                      show Steps p.tables e below (s₁.setTop (mkF m 156 #[.val (.int p0)] [(.int (16 : Int32)), (.int p0)])) _
                                      refine XS.icmpYes X0.here hx rfl (pc0 := 156) (pc' := 163) rfl (hb hby d_method_2_156) rfl (feq hc156_65).2 (by decide) (by decide) ?_
                                      show Steps p.tables e below (s₁.setTop (mkF m 163 #[.val (.int p0)] [])) _
                                      refine XS.iloadN X0.here hx rfl (hb hby d_method_2_163) rfl ?_
                                      show Steps p.tables e below (s₁.setTop (mkF m 164 #[.val (.int p0)] [(.int p0)])) _
                                      refine XS.bipush X0.here hx rfl (hb hby d_method_2_164) ?_
                                      exact k)
                                    by_cases hc166_69 : p0 = (17 : Int32)
                                    · obtain ⟨T71, X71, e71, st71⟩ := getS2 X0 hx hZ hown (host := "") (Or.inl (hw _ (ow 52 rfl))) Via.refl e0 S_w_STRUCTURE (g := (mkF m 169 #[.val (.int p0)] [])) rfl (hb hby d_method_2_169)
                                      have pre72 : ∀ t, Steps p.tables e below (T71.setTop (mkF m 172 #[.val (.int p0)] [(.ref w_STRUCTURE)])) t → Steps p.tables e below (s₁.setTop (entryFrame m #[(.int p0)] 1)) t := fun t k => pre70 t (by
                                        show Steps p.tables e below (s₁.setTop (mkF m 166 #[.val (.int p0)] [(.int (17 : Int32)), (.int p0)])) _
                                        refine XS.icmpNo X0.here hx rfl (hb hby d_method_2_166) rfl (teq hc166_69).2 ?_
                                        show Steps p.tables e below (s₁.setTop (mkF m 169 #[.val (.int p0)] [])) _
                                        refine st71 _ ?_
                                        exact k)
                                      obtain ⟨fs, hr, hrun, hended, hW, hsame⟩ := X71.leave (v := some (.ref w_STRUCTURE)) (fun h => by rw [Bd.returns] at h; cases h)
                                      refine ⟨_, _, pre72 _ ?_, hrun, hended, _, _, rfl, ?_, ⟨_, rfl⟩, hW, hsame.mono (by decide) (by decide)⟩
                                      · show Steps p.tables e below (T71.setTop (mkF m 172 #[.val (.int p0)] [(.ref w_STRUCTURE)])) _
                                        exact retOut X71 hx Bd.returns rfl (Or.inr (Or.inr (Or.inr (Or.inr ⟨rfl, rfl, rfl⟩)))) (hb hby d_method_2_172) hr
                                      · exact ⟨congrArg (fun z => some (Value.ref z)) (Eq.symm ((if_neg hc1_1).trans ((if_neg hc10_5).trans ((if_neg hc19_9).trans ((if_neg hc28_13).trans ((if_neg hc37_17).trans ((if_neg hc46_21).trans ((if_neg hc56_25).trans ((if_neg hc66_29).trans ((if_neg hc76_33).trans ((if_neg hc86_37).trans ((if_neg hc96_41).trans ((if_neg hc106_45).trans ((if_neg hc116_49).trans ((if_neg hc126_53).trans ((if_neg hc136_57).trans ((if_neg hc146_61).trans ((if_neg hc156_65).trans (if_pos hc166_69))))))))))))))))))), N0, e71⟩
                                    · have pre74 : ∀ t, Steps p.tables e below (s₁.setTop (mkF m 176 #[.val (.int p0)] [(.int (18 : Int32)), (.int p0)])) t → Steps p.tables e below (s₁.setTop (entryFrame m #[(.int p0)] 1)) t := fun t k => pre70 t (by
                                        show Steps p.tables e below (s₁.setTop (mkF m 166 #[.val (.int p0)] [(.int (17 : Int32)), (.int p0)])) _
                                        refine XS.icmpYes X0.here hx rfl (pc0 := 166) (pc' := 173) rfl (hb hby d_method_2_166) rfl (feq hc166_69).2 (by decide) (by decide) ?_
                                        show Steps p.tables e below (s₁.setTop (mkF m 173 #[.val (.int p0)] [])) _
                                        refine XS.iloadN X0.here hx rfl (hb hby d_method_2_173) rfl ?_
                                        show Steps p.tables e below (s₁.setTop (mkF m 174 #[.val (.int p0)] [(.int p0)])) _
                                        refine XS.bipush X0.here hx rfl (hb hby d_method_2_174) ?_
                                        exact k)
                                      by_cases hc176_73 : p0 = (18 : Int32)
                                      · obtain ⟨T75, X75, e75, st75⟩ := getS2 X0 hx hZ hown (host := "") (Or.inl (hw _ (ow 22 rfl))) Via.refl e0 S_w_UNION (g := (mkF m 179 #[.val (.int p0)] [])) rfl (hb hby d_method_2_179)
                                        have pre76 : ∀ t, Steps p.tables e below (T75.setTop (mkF m 182 #[.val (.int p0)] [(.ref w_UNION)])) t → Steps p.tables e below (s₁.setTop (entryFrame m #[(.int p0)] 1)) t := fun t k => pre74 t (by
                                          show Steps p.tables e below (s₁.setTop (mkF m 176 #[.val (.int p0)] [(.int (18 : Int32)), (.int p0)])) _
                                          refine XS.icmpNo X0.here hx rfl (hb hby d_method_2_176) rfl (teq hc176_73).2 ?_
                                          show Steps p.tables e below (s₁.setTop (mkF m 179 #[.val (.int p0)] [])) _
                                          refine st75 _ ?_
                                          exact k)
                                        obtain ⟨fs, hr, hrun, hended, hW, hsame⟩ := X75.leave (v := some (.ref w_UNION)) (fun h => by rw [Bd.returns] at h; cases h)
                                        refine ⟨_, _, pre76 _ ?_, hrun, hended, _, _, rfl, ?_, ⟨_, rfl⟩, hW, hsame.mono (by decide) (by decide)⟩
                                        · show Steps p.tables e below (T75.setTop (mkF m 182 #[.val (.int p0)] [(.ref w_UNION)])) _
                                          exact retOut X75 hx Bd.returns rfl (Or.inr (Or.inr (Or.inr (Or.inr ⟨rfl, rfl, rfl⟩)))) (hb hby d_method_2_182) hr
                                        · exact ⟨congrArg (fun z => some (Value.ref z)) (Eq.symm ((if_neg hc1_1).trans ((if_neg hc10_5).trans ((if_neg hc19_9).trans ((if_neg hc28_13).trans ((if_neg hc37_17).trans ((if_neg hc46_21).trans ((if_neg hc56_25).trans ((if_neg hc66_29).trans ((if_neg hc76_33).trans ((if_neg hc86_37).trans ((if_neg hc96_41).trans ((if_neg hc106_45).trans ((if_neg hc116_49).trans ((if_neg hc126_53).trans ((if_neg hc136_57).trans ((if_neg hc146_61).trans ((if_neg hc156_65).trans ((if_neg hc166_69).trans (if_pos hc176_73)))))))))))))))))))), N0, e75⟩
                                      · have pre78 : ∀ t, Steps p.tables e below (s₁.setTop (mkF m 186 #[.val (.int p0)] [(.int (19 : Int32)), (.int p0)])) t → Steps p.tables e below (s₁.setTop (entryFrame m #[(.int p0)] 1)) t := fun t k => pre74 t (by
                                          show Steps p.tables e below (s₁.setTop (mkF m 176 #[.val (.int p0)] [(.int (18 : Int32)), (.int p0)])) _
                                          refine XS.icmpYes X0.here hx rfl (pc0 := 176) (pc' := 183) rfl (hb hby d_method_2_176) rfl (feq hc176_73).2 (by decide) (by decide) ?_
                                          show Steps p.tables e below (s₁.setTop (mkF m 183 #[.val (.int p0)] [])) _
                                          refine XS.iloadN X0.here hx rfl (hb hby d_method_2_183) rfl ?_
                                          show Steps p.tables e below (s₁.setTop (mkF m 184 #[.val (.int p0)] [(.int p0)])) _
                                          refine XS.bipush X0.here hx rfl (hb hby d_method_2_184) ?_
                                          exact k)
                                        by_cases hc186_77 : p0 = (19 : Int32)
                                        · obtain ⟨T79, X79, e79, st79⟩ := getS2 X0 hx hZ hown (host := "") (Or.inl (hw _ (ow 48 rfl))) Via.refl e0 S_w_SERVICE (g := (mkF m 189 #[.val (.int p0)] [])) rfl (hb hby d_method_2_189)
                                          have pre80 : ∀ t, Steps p.tables e below (T79.setTop (mkF m 192 #[.val (.int p0)] [(.ref w_SERVICE)])) t → Steps p.tables e below (s₁.setTop (entryFrame m #[(.int p0)] 1)) t := fun t k => pre78 t (by
                                            show Steps p.tables e below (s₁.setTop (mkF m 186 #[.val (.int p0)] [(.int (19 : Int32)), (.int p0)])) _
                                            refine XS.icmpNo X0.here hx rfl (hb hby d_method_2_186) rfl (teq hc186_77).2 ?_
                                            show Steps p.tables e below (s₁.setTop (mkF m 189 #[.val (.int p0)] [])) _
                                            refine st79 _ ?_
                                            exact k)
                                          obtain ⟨fs, hr, hrun, hended, hW, hsame⟩ := X79.leave (v := some (.ref w_SERVICE)) (fun h => by rw [Bd.returns] at h; cases h)
                                          refine ⟨_, _, pre80 _ ?_, hrun, hended, _, _, rfl, ?_, ⟨_, rfl⟩, hW, hsame.mono (by decide) (by decide)⟩
                                          · show Steps p.tables e below (T79.setTop (mkF m 192 #[.val (.int p0)] [(.ref w_SERVICE)])) _
                                            exact retOut X79 hx Bd.returns rfl (Or.inr (Or.inr (Or.inr (Or.inr ⟨rfl, rfl, rfl⟩)))) (hb hby d_method_2_192) hr
                                          · exact ⟨congrArg (fun z => some (Value.ref z)) (Eq.symm ((if_neg hc1_1).trans ((if_neg hc10_5).trans ((if_neg hc19_9).trans ((if_neg hc28_13).trans ((if_neg hc37_17).trans ((if_neg hc46_21).trans ((if_neg hc56_25).trans ((if_neg hc66_29).trans ((if_neg hc76_33).trans ((if_neg hc86_37).trans ((if_neg hc96_41).trans ((if_neg hc106_45).trans ((if_neg hc116_49).trans ((if_neg hc126_53).trans ((if_neg hc136_57).trans ((if_neg hc146_61).trans ((if_neg hc156_65).trans ((if_neg hc166_69).trans ((if_neg hc176_73).trans (if_pos hc186_77))))))))))))))))))))), N0, e79⟩
                                        · have pre82 : ∀ t, Steps p.tables e below (s₁.setTop (mkF m 196 #[.val (.int p0)] [(.int (20 : Int32)), (.int p0)])) t → Steps p.tables e below (s₁.setTop (entryFrame m #[(.int p0)] 1)) t := fun t k => pre78 t (by
                                            show Steps p.tables e below (s₁.setTop (mkF m 186 #[.val (.int p0)] [(.int (19 : Int32)), (.int p0)])) _
                                            refine XS.icmpYes X0.here hx rfl (pc0 := 186) (pc' := 193) rfl (hb hby d_method_2_186) rfl (feq hc186_77).2 (by decide) (by decide) ?_
                                            show Steps p.tables e below (s₁.setTop (mkF m 193 #[.val (.int p0)] [])) _
                                            refine XS.iloadN X0.here hx rfl (hb hby d_method_2_193) rfl ?_
                                            show Steps p.tables e below (s₁.setTop (mkF m 194 #[.val (.int p0)] [(.int p0)])) _
                                            refine XS.bipush X0.here hx rfl (hb hby d_method_2_194) ?_
                                            exact k)
                                          by_cases hc196_81 : p0 = (20 : Int32)
                                          · obtain ⟨T83, X83, e83, st83⟩ := getS2 X0 hx hZ hown (host := "") (Or.inl (hw _ (ow 53 rfl))) Via.refl e0 S_w_OPERATION (g := (mkF m 199 #[.val (.int p0)] [])) rfl (hb hby d_method_2_199)
                                            have pre84 : ∀ t, Steps p.tables e below (T83.setTop (mkF m 202 #[.val (.int p0)] [(.ref w_OPERATION)])) t → Steps p.tables e below (s₁.setTop (entryFrame m #[(.int p0)] 1)) t := fun t k => pre82 t (by
                                              show Steps p.tables e below (s₁.setTop (mkF m 196 #[.val (.int p0)] [(.int (20 : Int32)), (.int p0)])) _
                                              refine XS.icmpNo X0.here hx rfl (hb hby d_method_2_196) rfl (teq hc196_81).2 ?_
                                              show Steps p.tables e below (s₁.setTop (mkF m 199 #[.val (.int p0)] [])) _
                                              refine st83 _ ?_
                                              exact k)
                                            obtain ⟨fs, hr, hrun, hended, hW, hsame⟩ := X83.leave (v := some (.ref w_OPERATION)) (fun h => by rw [Bd.returns] at h; cases h)
                                            refine ⟨_, _, pre84 _ ?_, hrun, hended, _, _, rfl, ?_, ⟨_, rfl⟩, hW, hsame.mono (by decide) (by decide)⟩
                                            · show Steps p.tables e below (T83.setTop (mkF m 202 #[.val (.int p0)] [(.ref w_OPERATION)])) _
                                              exact retOut X83 hx Bd.returns rfl (Or.inr (Or.inr (Or.inr (Or.inr ⟨rfl, rfl, rfl⟩)))) (hb hby d_method_2_202) hr
                                            · exact ⟨congrArg (fun z => some (Value.ref z)) (Eq.symm ((if_neg hc1_1).trans ((if_neg hc10_5).trans ((if_neg hc19_9).trans ((if_neg hc28_13).trans ((if_neg hc37_17).trans ((if_neg hc46_21).trans ((if_neg hc56_25).trans ((if_neg hc66_29).trans ((if_neg hc76_33).trans ((if_neg hc86_37).trans ((if_neg hc96_41).trans ((if_neg hc106_45).trans ((if_neg hc116_49).trans ((if_neg hc126_53).trans ((if_neg hc136_57).trans ((if_neg hc146_61).trans ((if_neg hc156_65).trans ((if_neg hc166_69).trans ((if_neg hc176_73).trans ((if_neg hc186_77).trans (if_pos hc196_81)))))))))))))))))))))), N0, e83⟩
                                          · have pre86 : ∀ t, Steps p.tables e below (s₁.setTop (mkF m 206 #[.val (.int p0)] [(.int (21 : Int32)), (.int p0)])) t → Steps p.tables e below (s₁.setTop (entryFrame m #[(.int p0)] 1)) t := fun t k => pre82 t (by
                                              show Steps p.tables e below (s₁.setTop (mkF m 196 #[.val (.int p0)] [(.int (20 : Int32)), (.int p0)])) _
                                              refine XS.icmpYes X0.here hx rfl (pc0 := 196) (pc' := 203) rfl (hb hby d_method_2_196) rfl (feq hc196_81).2 (by decide) (by decide) ?_
                                              show Steps p.tables e below (s₁.setTop (mkF m 203 #[.val (.int p0)] [])) _
                                              refine XS.iloadN X0.here hx rfl (hb hby d_method_2_203) rfl ?_
                                              show Steps p.tables e below (s₁.setTop (mkF m 204 #[.val (.int p0)] [(.int p0)])) _
                                              refine XS.bipush X0.here hx rfl (hb hby d_method_2_204) ?_
                                              exact k)
                                            by_cases hc206_85 : p0 = (21 : Int32)
                                            · obtain ⟨T87, X87, e87, st87⟩ := getS2 X0 hx hZ hown (host := "") (Or.inl (hw _ (ow 38 rfl))) Via.refl e0 S_w_RESOURCE (g := (mkF m 209 #[.val (.int p0)] [])) rfl (hb hby d_method_2_209)
                                              have pre88 : ∀ t, Steps p.tables e below (T87.setTop (mkF m 212 #[.val (.int p0)] [(.ref w_RESOURCE)])) t → Steps p.tables e below (s₁.setTop (entryFrame m #[(.int p0)] 1)) t := fun t k => pre86 t (by
                                                show Steps p.tables e below (s₁.setTop (mkF m 206 #[.val (.int p0)] [(.int (21 : Int32)), (.int p0)])) _
                                                refine XS.icmpNo X0.here hx rfl (hb hby d_method_2_206) rfl (teq hc206_85).2 ?_
                                                show Steps p.tables e below (s₁.setTop (mkF m 209 #[.val (.int p0)] [])) _
                                                refine st87 _ ?_
                                                exact k)
                                              obtain ⟨fs, hr, hrun, hended, hW, hsame⟩ := X87.leave (v := some (.ref w_RESOURCE)) (fun h => by rw [Bd.returns] at h; cases h)
                                              refine ⟨_, _, pre88 _ ?_, hrun, hended, _, _, rfl, ?_, ⟨_, rfl⟩, hW, hsame.mono (by decide) (by decide)⟩
                                              · show Steps p.tables e below (T87.setTop (mkF m 212 #[.val (.int p0)] [(.ref w_RESOURCE)])) _
                                                exact retOut X87 hx Bd.returns rfl (Or.inr (Or.inr (Or.inr (Or.inr ⟨rfl, rfl, rfl⟩)))) (hb hby d_method_2_212) hr
                                              · exact ⟨congrArg (fun z => some (Value.ref z)) (Eq.symm ((if_neg hc1_1).trans ((if_neg hc10_5).trans ((if_neg hc19_9).trans ((if_neg hc28_13).trans ((if_neg hc37_17).trans ((if_neg hc46_21).trans ((if_neg hc56_25).trans ((if_neg hc66_29).trans ((if_neg hc76_33).trans ((if_neg hc86_37).trans ((if_neg hc96_41).trans ((if_neg hc106_45).trans ((if_neg hc116_49).trans ((if_neg hc126_53).trans ((if_neg hc136_57).trans ((if_neg hc146_61).trans ((if_neg hc156_65).trans ((if_neg hc166_69).trans ((if_neg hc176_73).trans ((if_neg hc186_77).trans ((if_neg hc196_81).trans (if_pos hc206_85))))))))))))))))))))))), N0, e87⟩
                                            · obtain ⟨T89, X89, e89, st89⟩ := getS2 X0 hx hZ hown (host := "") (Or.inl (hw _ (ow 46 rfl))) Via.refl e0 S_w_MEMBER (g := (mkF m 213 #[.val (.int p0)] [])) rfl (hb hby d_method_2_213)
                                              have pre90 : ∀ t, Steps p.tables e below (T89.setTop (mkF m 216 #[.val (.int p0)] [(.ref w_MEMBER)])) t → Steps p.tables e below (s₁.setTop (entryFrame m #[(.int p0)] 1)) t := fun t k => pre86 t (by
                                                show Steps p.tables e below (s₁.setTop (mkF m 206 #[.val (.int p0)] [(.int (21 : Int32)), (.int p0)])) _
                                                refine XS.icmpYes X0.here hx rfl (pc0 := 206) (pc' := 213) rfl (hb hby d_method_2_206) rfl (feq hc206_85).2 (by decide) (by decide) ?_
                                                show Steps p.tables e below (s₁.setTop (mkF m 213 #[.val (.int p0)] [])) _
                                                refine st89 _ ?_
                                                exact k)
                                              obtain ⟨fs, hr, hrun, hended, hW, hsame⟩ := X89.leave (v := some (.ref w_MEMBER)) (fun h => by rw [Bd.returns] at h; cases h)
                                              refine ⟨_, _, pre90 _ ?_, hrun, hended, _, _, rfl, ?_, ⟨_, rfl⟩, hW, hsame.mono (by decide) (by decide)⟩
                                              · show Steps p.tables e below (T89.setTop (mkF m 216 #[.val (.int p0)] [(.ref w_MEMBER)])) _
                                                exact retOut X89 hx Bd.returns rfl (Or.inr (Or.inr (Or.inr (Or.inr ⟨rfl, rfl, rfl⟩)))) (hb hby d_method_2_216) hr
                                              · exact ⟨congrArg (fun z => some (Value.ref z)) (Eq.symm ((if_neg hc1_1).trans ((if_neg hc10_5).trans ((if_neg hc19_9).trans ((if_neg hc28_13).trans ((if_neg hc37_17).trans ((if_neg hc46_21).trans ((if_neg hc56_25).trans ((if_neg hc66_29).trans ((if_neg hc76_33).trans ((if_neg hc86_37).trans ((if_neg hc96_41).trans ((if_neg hc106_45).trans ((if_neg hc116_49).trans ((if_neg hc126_53).trans ((if_neg hc136_57).trans ((if_neg hc146_61).trans ((if_neg hc156_65).trans ((if_neg hc166_69).trans ((if_neg hc176_73).trans ((if_neg hc186_77).trans ((if_neg hc196_81).trans (if_neg hc206_85))))))))))))))))))))))), N0, e89⟩
theorem d_prog_48_method_7_0 : decode prog_48_method_7_code 0 = .ok (.aload_n 0, 1) := by decide +kernel
theorem d_prog_48_method_7_1 : decode prog_48_method_7_code 1 = .ok (.getstatic 55, 3) := by decide +kernel
theorem d_prog_48_method_7_4 : decode prog_48_method_7_code 4 = .ok (.if_acmp .eq 24, 3) := by decide +kernel
theorem d_prog_48_method_7_28 : decode prog_48_method_7_code 28 = .ok (.iconst 1, 1) := by decide +kernel
theorem d_prog_48_method_7_29 : decode prog_48_method_7_code 29 = .ok (.goto 4, 3) := by decide +kernel
theorem d_prog_48_method_7_33 : decode prog_48_method_7_code 33 = .ok (.ireturn, 1) := by decide +kernel
theorem d_prog_48_method_7_7 : decode prog_48_method_7_code 7 = .ok (.aload_n 0, 1) := by decide +kernel
theorem d_prog_48_method_7_8 : decode prog_48_method_7_code 8 = .ok (.getstatic 58, 3) := by decide +kernel
theorem d_prog_48_method_7_11 : decode prog_48_method_7_code 11 = .ok (.if_acmp .eq 17, 3) := by decide +kernel
theorem d_prog_48_method_7_14 : decode prog_48_method_7_code 14 = .ok (.aload_n 0, 1) := by decide +kernel
theorem d_prog_48_method_7_15 : decode prog_48_method_7_code 15 = .ok (.getstatic 13, 3) := by decide +kernel
theorem d_prog_48_method_7_18 : decode prog_48_method_7_code 18 = .ok (.if_acmp .eq 10, 3) := by decide +kernel
theorem d_prog_48_method_7_21 : decode prog_48_method_7_code 21 = .ok (.aload_n 0, 1) := by decide +kernel
theorem d_prog_48_method_7_22 : decode prog_48_method_7_code 22 = .ok (.getstatic 25, 3) := by decide +kernel
theorem d_prog_48_method_7_25 : decode prog_48_method_7_code 25 = .ok (.if_acmp .ne 7, 3) := by decide +kernel
theorem d_prog_48_method_7_32 : decode prog_48_method_7_code 32 = .ok (.iconst 0, 1) := by decide +kernel
theorem pn_1 : plainName "com/example/falkirk/falkirk/model/ShapeType" = true := by first | (simp [plainName, overriddenIn]; done) | decide +kernel
theorem ef_hasNamedMembers (m : MethodId) (x0 : Addr) : entryFrame m #[(.ref x0)] 1 = mkF m 0 #[.val (.ref x0)] [] := by first | (simp [entryFrame, mkF, argsToLocals, Value.category]; done) | rfl
set_option maxRecDepth 65536 in
set_option maxHeartbeats 40000000 in
theorem rm_hasNamedMembers (l : Launch) (Z : State) (a0 : Array Value) (hw : ∀ d ∈ tables_1, d.before a0 Z = true) (ws : List Jvm.Cond) (a1 : Addr) (h0 : Heap) (n0 : Nat) (w_BLOB w_STRUCTURE w_UNION w_ENUM w_INT_ENUM w_BIG_INTEGER w_BIG_DECIMAL w_SHORT w_STRING w_BYTE w_LONG w_BOOLEAN w_RESOURCE w_MAP w_DOUBLE w_FLOAT w_MEMBER w_SERVICE w_LIST w_OPERATION w_DOCUMENT w_INTEGER w_TIMESTAMP : Addr) (hK : own_K Z h0 w_BLOB w_STRUCTURE w_UNION w_ENUM w_INT_ENUM w_BIG_INTEGER w_BIG_DECIMAL w_SHORT w_STRING w_BYTE w_LONG w_BOOLEAN w_RESOURCE w_MAP w_DOUBLE w_FLOAT w_MEMBER w_SERVICE w_LIST w_OPERATION w_DOCUMENT w_INTEGER w_TIMESTAMP) :
    MetFree l (⟨"com/example/falkirk/falkirk/model/ShapeType", "hasNamedMembers", "()Z"⟩ : MethodName) (head1 (Jvm.Cond.code (⟨"com/example/falkirk/falkirk/model/ShapeType", "hasNamedMembers", "()Z"⟩ : MethodName) prog_48_method_7_code 1 (some .boolean) :: ws) ({ frames := 0, cells := 0, slots := 0, locals := 0 } : Room)) (fun a U => a = #[(.ref a1)] ∧ Z.Warmed39 U.vm ∧ U.heap = h0) (fun _ _ _ _ _ => True) (fun _ U o U' => ∃ v L, o = .returned v ∧ own_Q (some (.int (if a1 = w_STRUCTURE then (1 : Int32) else (if a1 = w_UNION then (1 : Int32) else (if a1 = w_ENUM then (1 : Int32) else (if a1 = w_INT_ENUM then (1 : Int32) else (0 : Int32))))))) h0 n0 v U'.heap L ∧ FrameEnd U o U' L ({ frames := 0, cells := 0, slots := 0, locals := 0 } : Room).cells ({ frames := 0, cells := 0, slots := 0, locals := 0 } : Room).slots) := by
  refine MetFree.of_bodySF (plainFor_of_name pn_1) hisR ?_
  intro p e s m args below meth c s₁ Bd hml0 hP hK0
  obtain ⟨rfl, hZ, hh⟩ := hP
  have hx := Bd.exec
  have hby := Bd.bytes
  have hml : c.maxLocals = 1 := hml0
  have hown : s.vm.findClass "com/example/falkirk/falkirk/model/ShapeType" = some m.cls := findClass_of_methodNamed Bd.named
  have hnm := (name_of_methodNamed Bd.named Bd.method).1
  have X0 : Stand p l e ({ frames := 0, cells := 0, slots := 0, locals := 0 } : Room) s m #[(.ref a1)] below meth c s₁ [] 0 0 := Stand.of_body Bd
  have e0 : s₁.heap = h0 := by rw [← hh, Bd.state]; rfl
  have N0 := Fr.nil n0
  have pre0 : ∀ t, Steps p.tables e below (s₁.setTop (mkF m 0 #[.val (.ref a1)] [])) t → Steps p.tables e below (s₁.setTop (entryFrame m #[(.ref a1)] 1)) t := fun t k => castTop (ef_hasNamedMembers m a1) k
  have hK' := hK
  obtain ⟨S_w_BLOB, E_w_BLOB, S_w_STRUCTURE, E_w_STRUCTURE, F_ordinal_w_BLOB, F_ordinal_w_STRUCTURE, S_w_UNION, E_w_UNION, F_ordinal_w_UNION, S_w_ENUM, E_w_ENUM, F_ordinal_w_ENUM, S_w_INT_ENUM, E_w_INT_ENUM, F_ordinal_w_INT_ENUM, S_w_BIG_INTEGER, E_w_BIG_INTEGER, F_ordinal_w_BIG_INTEGER, S_w_BIG_DECIMAL, E_w_BIG_DECIMAL, F_ordinal_w_BIG_DECIMAL, S_w_SHORT, E_w_SHORT, F_ordinal_w_SHORT, S_w_STRING, E_w_STRING, F_ordinal_w_STRING, S_w_BYTE, E_w_BYTE, F_ordinal_w_BYTE, S_w_LONG, E_w_LONG, F_ordinal_w_LONG, S_w_BOOLEAN, E_w_BOOLEAN, F_ordinal_w_BOOLEAN, S_w_RESOURCE, E_w_RESOURCE, F_ordinal_w_RESOURCE, S_w_MAP, E_w_MAP, F_ordinal_w_MAP, S_w_DOUBLE, E_w_DOUBLE, F_ordinal_w_DOUBLE, S_w_FLOAT, E_w_FLOAT, F_ordinal_w_FLOAT, S_w_MEMBER, E_w_MEMBER, F_ordinal_w_MEMBER, S_w_SERVICE, E_w_SERVICE, F_ordinal_w_SERVICE, S_w_LIST, E_w_LIST, F_ordinal_w_LIST, S_w_OPERATION, E_w_OPERATION, F_ordinal_w_OPERATION, S_w_DOCUMENT, E_w_DOCUMENT, F_ordinal_w_DOCUMENT, S_w_INTEGER, E_w_INTEGER, F_ordinal_w_INTEGER, S_w_TIMESTAMP, E_w_TIMESTAMP, F_ordinal_w_TIMESTAMP⟩ := hK'
  obtain ⟨T1, X1, e1, st1⟩ := getS2 X0 hx hZ hown (host := "") (Or.inl (hw _ (ow 13 rfl))) Via.refl e0 S_w_STRUCTURE (g := (mkF m 1 #[.val (.ref a1)] [(.ref a1)])) rfl (hb hby d_prog_48_method_7_1)
  have pre3 : ∀ t, Steps p.tables e below (T1.setTop (mkF m 4 #[.val (.ref a1)] [(.ref w_STRUCTURE), (.ref a1)])) t → Steps p.tables e below (s₁.setTop (entryFrame m #[(.ref a1)] 1)) t := fun t k => pre0 t (by
    show Steps p.tables e below (s₁.setTop (mkF m 0 #[.val (.ref a1)] [])) _
    refine XS.aloadN X0.here hx rfl (hb hby d_prog_48_method_7_0) rfl rfl ?_
    show Steps p.tables e below (s₁.setTop (mkF m 1 #[.val (.ref a1)] [(.ref a1)])) _
    refine st1 _ ?_
    exact k)
  by_cases hc4_2 : a1 = w_STRUCTURE
  · have pre4 : ∀ t, Steps p.tables e below (T1.setTop (mkF m 33 #[.val (.ref a1)] [(.int (1 : Int32))])) t → Steps p.tables e below (s₁.setTop (entryFrame m #[(.ref a1)] 1)) t := fun t k => pre3 t (by
      show Steps p.tables e below (T1.setTop (mkF m 4 #[.val (.ref a1)] [(.ref w_STRUCTURE), (.ref a1)])) _
      refine Jvm.RoadKit.acmp (g := (mkF m 4 #[.val (.ref a1)] [(.ref w_STRUCTURE), (.ref a1)])) X1 hx rfl rfl rfl (pc0 := 4) (pc' := 28) (same := true) rfl (hb hby d_prog_48_method_7_4) rfl (decide_eq_true (congrArg Value.ref hc4_2)) (by decide) (by decide) ?_
      show Steps p.tables e below (T1.setTop (mkF m 28 #[.val (.ref a1)] [])) _
      refine XS.iconst X1.here hx rfl (hb hby d_prog_48_method_7_28) ?_
      show Steps p.tables e below (T1.setTop (mkF m 29 #[.val (.ref a1)] [(.int (1 : Int32))])) _
      refine XS.goto X1.here hx rfl (pc0 := 29) (pc' := 33) rfl (hb hby d_prog_48_method_7_29) (by decide) (by decide) ?_
      exact k)
    obtain ⟨fs, hr, hrun, hended, hW, hsame⟩ := X1.leave (v := some (.int (1 : Int32))) (fun h => by rw [Bd.returns] at h; cases h)
    refine ⟨_, _, pre4 _ ?_, hrun, hended, _, _, rfl, ?_, ⟨_, rfl⟩, hW, hsame.mono (by decide) (by decide)⟩
    · show Steps p.tables e below (T1.setTop (mkF m 33 #[.val (.ref a1)] [(.int (1 : Int32))])) _
      exact retN X1 hx (t := .boolean) Bd.returns (by simp) (hb hby d_prog_48_method_7_33) hr
    · exact ⟨congrArg (fun z => some (Value.int z)) (Eq.symm (if_pos hc4_2)), N0, e1⟩
  · obtain ⟨T5, X5, e5, st5⟩ := getS2 X1 hx hZ hown (host := "") (Or.inl (hw _ (ow 15 rfl))) Via.refl e1 S_w_UNION (g := (mkF m 8 #[.val (.ref a1)] [(.ref a1)])) rfl (hb hby d_prog_48_method_7_8)
    have pre7 : ∀ t, Steps p.tables e below (T5.setTop (mkF m 11 #[.val (.ref a1)] [(.ref w_UNION), (.ref a1)])) t → Steps p.tables e below (s₁.setTop (entryFrame m #[(.ref a1)] 1)) t := fun t k => pre3 t (by
      show Steps p.tables e below (T1.setTop (mkF m 4 #[.val (.ref a1)] [(.ref w_STRUCTURE), (.ref a1)])) _
      refine Jvm.RoadKit.acmp (g := (mkF m 4 #[.val (.ref a1)] [(.ref w_STRUCTURE), (.ref a1)])) X1 hx rfl rfl rfl (pc0 := 4) (pc' := 7) (same := false) rfl (hb hby d_prog_48_method_7_4) rfl (decide_eq_false fun q => hc4_2 (Value.ref.inj q)) (by decide) (by decide) ?_
      show Steps p.tables e below (T1.setTop (mkF m 7 #[.val (.ref a1)] [])) _
      refine XS.aloadN X1.here hx rfl (hb hby d_prog_48_method_7_7) rfl rfl ?_
      show Steps p.tables e below (T1.setTop (mkF m 8 #[.val (.ref a1)] [(.ref a1)])) _
      refine st5 _ ?_
      exact k)
    by_cases hc11_6 : a1 = w_UNION
    · have pre8 : ∀ t, Steps p.tables e below (T5.setTop (mkF m 33 #[.val (.ref a1)] [(.int (1 : Int32))])) t → Steps p.tables e below (s₁.setTop (entryFrame m #[(.ref a1)] 1)) t := fun t k => pre7 t (by
        show Steps p.tables e below (T5.setTop (mkF m 11 #[.val (.ref a1)] [(.ref w_UNION), (.ref a1)])) _
        refine Jvm.RoadKit.acmp (g := (mkF m 11 #[.val (.ref a1)] [(.ref w_UNION), (.ref a1)])) X5 hx rfl rfl rfl (pc0 := 11) (pc' := 28) (same := true) rfl (hb hby d_prog_48_method_7_11) rfl (decide_eq_true (congrArg Value.ref hc11_6)) (by decide) (by decide) ?_
        show Steps p.tables e below (T5.setTop (mkF m 28 #[.val (.ref a1)] [])) _
        refine XS.iconst X5.here hx rfl (hb hby d_prog_48_method_7_28) ?_
        show Steps p.tables e below (T5.setTop (mkF m 29 #[.val (.ref a1)] [(.int (1 : Int32))])) _
        refine XS.goto X5.here hx rfl (pc0 := 29) (pc' := 33) rfl (hb hby d_prog_48_method_7_29) (by decide) (by decide) ?_
        exact k)
      obtain ⟨fs, hr, hrun, hended, hW, hsame⟩ := X5.leave (v := some (.int (1 : Int32))) (fun h => by rw [Bd.returns] at h; cases h)
      refine ⟨_, _, pre8 _ ?_, hrun, hended, _, _, rfl, ?_, ⟨_, rfl⟩, hW, hsame.mono (by decide) (by decide)⟩
      · show Steps p.tables e below (T5.setTop (mkF m 33 #[.val (.ref a1)] [(.int (1 : Int32))])) _
        exact retN X5 hx (t := .boolean) Bd.returns (by simp) (hb hby d_prog_48_method_7_33) hr
      · exact ⟨congrArg (fun z => some (Value.int z)) (Eq.symm ((if_neg hc4_2).trans (if_pos hc11_6))), N0, e5⟩
    · obtain ⟨T9, X9, e9, st9⟩ := getS2 X5 hx hZ hown (host := "") (Or.inl (hw _ (ow 17 rfl))) Via.refl e5 S_w_ENUM (g := (mkF m 15 #[.val (.ref a1)] [(.ref a1)])) rfl (hb hby d_prog_48_method_7_15)
      have pre11 : ∀ t, Steps p.tables e below (T9.setTop (mkF m 18 #[.val (.ref a1)] [(.ref w_ENUM), (.ref a1)])) t → Steps p.tables e below (s₁.setTop (entryFrame m #[(.ref a1)] 1)) t := fun t k => pre7 t (by
        show Steps p.tables e below (T5.setTop (mkF m 11 #[.val (.ref a1)] [(.ref w_UNION), (.ref a1)])) _
        refine Jvm.RoadKit.acmp (g := (mkF m 11 #[.val (.ref a1)] [(.ref w_UNION), (.ref a1)])) X5 hx rfl rfl rfl (pc0 := 11) (pc' := 14) (same := false) rfl (hb hby d_prog_48_method_7_11) rfl (decide_eq_false fun q => hc11_6 (Value.ref.inj q)) (by decide) (by decide) ?_
        show Steps p.tables e below (T5.setTop (mkF m 14 #[.val (.ref a1)] [])) _
        refine XS.aloadN X5.here hx rfl (hb hby d_prog_48_method_7_14) rfl rfl ?_
        show Steps p.tables e below (T5.setTop (mkF m 15 #[.val (.ref a1)] [(.ref a1)])) _
        refine st9 _ ?_
        exact k)
      by_cases hc18_10 : a1 = w_ENUM
      · have pre12 : ∀ t, Steps p.tables e below (T9.setTop (mkF m 33 #[.val (.ref a1)] [(.int (1 : Int32))])) t → Steps p.tables e below (s₁.setTop (entryFrame m #[(.ref a1)] 1)) t := fun t k => pre11 t (by
          show Steps p.tables e below (T9.setTop (mkF m 18 #[.val (.ref a1)] [(.ref w_ENUM), (.ref a1)])) _
          refine Jvm.RoadKit.acmp (g := (mkF m 18 #[.val (.ref a1)] [(.ref w_ENUM), (.ref a1)])) X9 hx rfl rfl rfl (pc0 := 18) (pc' := 28) (same := true) rfl (hb hby d_prog_48_method_7_18) rfl (decide_eq_true (congrArg Value.ref hc18_10)) (by decide) (by decide) ?_
          show Steps p.tables e below (T9.setTop (mkF m 28 #[.val (.ref a1)] [])) _
          refine XS.iconst X9.here hx rfl (hb hby d_prog_48_method_7_28) ?_
          show Steps p.tables e below (T9.setTop (mkF m 29 #[.val (.ref a1)] [(.int (1 : Int32))])) _
          refine XS.goto X9.here hx rfl (pc0 := 29) (pc' := 33) rfl (hb hby d_prog_48_method_7_29) (by decide) (by decide) ?_
          exact k)
        obtain ⟨fs, hr, hrun, hended, hW, hsame⟩ := X9.leave (v := some (.int (1 : Int32))) (fun h => by rw [Bd.returns] at h; cases h)
        refine ⟨_, _, pre12 _ ?_, hrun, hended, _, _, rfl, ?_, ⟨_, rfl⟩, hW, hsame.mono (by decide) (by decide)⟩
        · show Steps p.tables e below (T9.setTop (mkF m 33 #[.val (.ref a1)] [(.int (1 : Int32))])) _
          exact retN X9 hx (t := .boolean) Bd.returns (by simp) (hb hby d_prog_48_method_7_33) hr
        · exact ⟨congrArg (fun z => some (Value.int z)) (Eq.symm ((if_neg hc4_2).trans ((if_neg hc11_6).trans (if_pos hc18_10)))), N0, e9⟩
      · obtain ⟨T13, X13, e13, st13⟩ := getS2 X9 hx hZ hown (host := "") (Or.inl (hw _ (ow 19 rfl))) Via.refl e9 S_w_INT_ENUM (g := (mkF m 22 #[.val (.ref a1)] [(.ref a1)])) rfl (hb hby d_prog_48_method_7_22)
        have pre15 : ∀ t, Steps p.tables e below (T13.setTop (mkF m 25 #[.val (.ref a1)] [(.ref w_INT_ENUM), (.ref a1)])) t → Steps p.tables e below (s₁.setTop (entryFrame m #[(.ref a1)] 1)) t := fun t k => pre11 t (by
          show Steps p.tables e below (T9.setTop (mkF m 18 #[.val (.ref a1)] [(.ref w_ENUM), (.ref a1)])) _
          refine Jvm.RoadKit.acmp (g := (mkF m 18 #[.val (.ref a1)] [(.ref w_ENUM), (.ref a1)])) X9 hx rfl rfl rfl (pc0 := 18) (pc' := 21) (same := false) rfl (hb hby d_prog_48_method_7_18) rfl (decide_eq_false fun q => hc18_10 (Value.ref.inj q)) (by decide) (by decide) ?_
          show Steps p.tables e below (T9.setTop (mkF m 21 #[.val (.ref a1)] [])) _
          refine XS.aloadN X9.here hx rfl (hb hby d_prog_48_method_7_21) rfl rfl ?_
          show Steps p.tables e below (T9.setTop (mkF m 22 #[.val (.ref a1)] [(.ref a1)])) _
          refine st13 _ ?_
          exact k)
        by_cases hc25_14 : a1 = w_INT_ENUM
        · have pre16 : ∀ t, Steps p.tables e below (T13.setTop (mkF m 33 #[.val (.ref a1)] [(.int (1 : Int32))])) t → Steps p.tables e below (s₁.setTop (entryFrame m #[(.ref a1)] 1)) t := fun t k => pre15 t (by
            show Steps p.tables e below (T13.setTop (mkF m 25 #[.val (.ref a1)] [(.ref w_INT_ENUM), (.ref a1)])) _
            refine Jvm.RoadKit.acmp (g := (mkF m 25 #[.val (.ref a1)] [(.ref w_INT_ENUM), (.ref a1)])) X13 hx rfl rfl rfl (pc0 := 25) (pc' := 28) (same := true) rfl (hb hby d_prog_48_method_7_25) rfl (decide_eq_true (congrArg Value.ref hc25_14)) (by decide) (by decide) ?_
            show Steps p.tables e below (T13.setTop (mkF m 28 #[.val (.ref a1)] [])) _
            refine XS.iconst X13.here hx rfl (hb hby d_prog_48_method_7_28) ?_
            show Steps p.tables e below (T13.setTop (mkF m 29 #[.val (.ref a1)] [(.int (1 : Int32))])) _
            refine XS.goto X13.here hx rfl (pc0 := 29) (pc' := 33) rfl (hb hby d_prog_48_method_7_29) (by decide) (by decide) ?_
            exact k)
          obtain ⟨fs, hr, hrun, hended, hW, hsame⟩ := X13.leave (v := some (.int (1 : Int32))) (fun h => by rw [Bd.returns] at h; cases h)
          refine ⟨_, _, pre16 _ ?_, hrun, hended, _, _, rfl, ?_, ⟨_, rfl⟩, hW, hsame.mono (by decide) (by decide)⟩
          · show Steps p.tables e below (T13.setTop (mkF m 33 #[.val (.ref a1)] [(.int (1 : Int32))])) _
            exact retN X13 hx (t := .boolean) Bd.returns (by simp) (hb hby d_prog_48_method_7_33) hr
          · exact ⟨congrArg (fun z => some (Value.int z)) (Eq.symm ((if_neg hc4_2).trans ((if_neg hc11_6).trans ((if_neg hc18_10).trans (if_pos hc25_14))))), N0, e13⟩
        · have pre17 : ∀ t, Steps p.tables e below (T13.setTop (mkF m 33 #[.val (.ref a1)] [(.int (0 : Int32))])) t → Steps p.tables e below (s₁.setTop (entryFrame m #[(.ref a1)] 1)) t := fun t k => pre15 t (by
            show Steps p.tables e below (T13.setTop (mkF m 25 #[.val (.ref a1)] [(.ref w_INT_ENUM), (.ref a1)])) _
            refine Jvm.RoadKit.acmp (g := (mkF m 25 #[.val (.ref a1)] [(.ref w_INT_ENUM), (.ref a1)])) X13 hx rfl rfl rfl (pc0 := 25) (pc' := 32) (same := false) rfl (hb hby d_prog_48_method_7_25) rfl (decide_eq_false fun q => hc25_14 (Value.ref.inj q)) (by decide) (by decide) ?_
            show Steps p.tables e below (T13.setTop (mkF m 32 #[.val (.ref a1)] [])) _
            refine XS.iconst X13.here hx rfl (hb hby d_prog_48_method_7_32) ?_
            exact k)
          obtain ⟨fs, hr, hrun, hended, hW, hsame⟩ := X13.leave (v := some (.int (0 : Int32))) (fun h => by rw [Bd.returns] at h; cases h)
          refine ⟨_, _, pre17 _ ?_, hrun, hended, _, _, rfl, ?_, ⟨_, rfl⟩, hW, hsame.mono (by decide) (by decide)⟩
          · show Steps p.tables e below (T13.setTop (mkF m 33 #[.val (.ref a1)] [(.int (0 : Int32))])) _
            exact retN X13 hx (t := .boolean) Bd.returns (by simp) (hb hby d_prog_48_method_7_33) hr
          · exact ⟨congrArg (fun z => some (Value.int z)) (Eq.symm ((if_neg hc4_2).trans ((if_neg hc11_6).trans ((if_neg hc18_10).trans (if_neg hc25_14))))), N0, e13⟩
theorem pd_0 : parseMethodDescriptor "(I)Lcom/example/falkirk/falkirk/model/ShapeType;" = some ⟨[.int], some (.object "com/example/falkirk/falkirk/model/ShapeType")⟩ := by decide +kernel
theorem pd_1 : parseMethodDescriptor "()Z" = some ⟨[], some .boolean⟩ := by decide +kernel
theorem ef_law0 (m : MethodId) (x0 : Int32) : entryFrame m #[(.int x0)] maxLocals = mkF m 0 #[.val (.int x0), .unset, .unset, .unset, .unset, .unset] [] := by first | (simp [entryFrame, mkF, argsToLocals, Value.category, maxLocals]; done) | rfl
set_option maxRecDepth 65536 in
set_option maxHeartbeats 40000000 in
theorem rm_law0 (l : Launch) (Z : State) (a0 : Array Value) (hw : ∀ d ∈ tables_1, d.before a0 Z = true) (ws : List Jvm.Cond) (p1 : Int32) (h0 : Heap) (n0 : Nat) (w_BLOB w_STRUCTURE w_UNION w_ENUM w_INT_ENUM w_BIG_INTEGER w_BIG_DECIMAL w_SHORT w_STRING w_BYTE w_LONG w_BOOLEAN w_RESOURCE w_MAP w_DOUBLE w_FLOAT w_MEMBER w_SERVICE w_LIST w_OPERATION w_DOCUMENT w_INTEGER w_TIMESTAMP : Addr) (hK : own_K Z h0 w_BLOB w_STRUCTURE w_UNION w_ENUM w_INT_ENUM w_BIG_INTEGER w_BIG_DECIMAL w_SHORT w_STRING w_BYTE w_LONG w_BOOLEAN w_RESOURCE w_MAP w_DOUBLE w_FLOAT w_MEMBER w_SERVICE w_LIST w_OPERATION w_DOCUMENT w_INTEGER w_TIMESTAMP) (hk : ((p1 &&& (2147483647 : Int32)) % (23 : Int32)) = (0 : Int32)) :
    MetFree l x (head1 (Jvm.Cond.code x code maxLocals ret :: ws) room_1) (fun a U => a = #[(.int p1)] ∧ Z.Warmed39 U.vm ∧ U.heap = h0) (fun _ _ _ _ _ => True) (fun _ U o U' => ∃ v L, o = .returned v ∧ own_Q (some (.int (1 : Int32))) h0 n0 v U'.heap L ∧ FrameEnd U o U' L room_1.cells room_1.slots) := by
  refine MetFree.of_bodySF (plainFor_of_name pn_0) hisR ?_
  intro p e s m args below meth c s₁ Bd hml0 hP hK0
  obtain ⟨rfl, hZ, hh⟩ := hP
  have hx := Bd.exec
  have hby := Bd.bytes
  have hml : c.maxLocals = 6 := hml0
  have hown : s.vm.findClass "com/example/falkirk/falkirk/model/ShapeTypeHasNamedMembersPinLaw" = some m.cls := findClass_of_methodNamed Bd.named
  have hnm := (name_of_methodNamed Bd.named Bd.method).1
  have X0 : Stand p l e room_1 s m #[(.int p1)] below meth c s₁ [] 0 0 := Stand.of_body Bd
  have e0 : s₁.heap = h0 := by rw [← hh, Bd.state]; rfl
  have N0 := Fr.nil n0
  have pre0 : ∀ t, Steps p.tables e below (s₁.setTop (mkF m 0 #[.val (.int p1), .unset, .unset, .unset, .unset, .unset] [])) t → Steps p.tables e below (s₁.setTop (entryFrame m #[(.int p1)] maxLocals)) t := fun t k => castTop (ef_law0 m p1) k
  have hK' := hK
  obtain ⟨S_w_BLOB, E_w_BLOB, S_w_STRUCTURE, E_w_STRUCTURE, F_ordinal_w_BLOB, F_ordinal_w_STRUCTURE, S_w_UNION, E_w_UNION, F_ordinal_w_UNION, S_w_ENUM, E_w_ENUM, F_ordinal_w_ENUM, S_w_INT_ENUM, E_w_INT_ENUM, F_ordinal_w_INT_ENUM, S_w_BIG_INTEGER, E_w_BIG_INTEGER, F_ordinal_w_BIG_INTEGER, S_w_BIG_DECIMAL, E_w_BIG_DECIMAL, F_ordinal_w_BIG_DECIMAL, S_w_SHORT, E_w_SHORT, F_ordinal_w_SHORT, S_w_STRING, E_w_STRING, F_ordinal_w_STRING, S_w_BYTE, E_w_BYTE, F_ordinal_w_BYTE, S_w_LONG, E_w_LONG, F_ordinal_w_LONG, S_w_BOOLEAN, E_w_BOOLEAN, F_ordinal_w_BOOLEAN, S_w_RESOURCE, E_w_RESOURCE, F_ordinal_w_RESOURCE, S_w_MAP, E_w_MAP, F_ordinal_w_MAP, S_w_DOUBLE, E_w_DOUBLE, F_ordinal_w_DOUBLE, S_w_FLOAT, E_w_FLOAT, F_ordinal_w_FLOAT, S_w_MEMBER, E_w_MEMBER, F_ordinal_w_MEMBER, S_w_SERVICE, E_w_SERVICE, F_ordinal_w_SERVICE, S_w_LIST, E_w_LIST, F_ordinal_w_LIST, S_w_OPERATION, E_w_OPERATION, F_ordinal_w_OPERATION, S_w_DOCUMENT, E_w_DOCUMENT, F_ordinal_w_DOCUMENT, S_w_INTEGER, E_w_INTEGER, F_ordinal_w_INTEGER, S_w_TIMESTAMP, E_w_TIMESTAMP, F_ordinal_w_TIMESTAMP⟩ := hK'
  obtain ⟨v1, _, ⟨T1, L1, k1, n1⟩, -, X1, ⟨Lc1, hQ1, l1, y1, z1⟩, st1⟩ := Jvm.LawKit.callS X0 hx (y := (⟨"com/example/falkirk/falkirk/model/ShapeTypeHasNamedMembersPinLaw", "pick", "(I)Lcom/example/falkirk/falkirk/model/ShapeType;"⟩ : MethodName)) hown (mvT hZ (hw _ (ow 1 rfl))) (mvT hZ (hw _ (ow 2 rfl))) (mvT hZ (hw _ (ow 3 rfl))) (mvT hZ (hw _ (ow 4 rfl))) (by decide) (backOf (W := 0) (rm_pick l Z a0 hw [] (0 : Int32) h0 n0 w_BLOB w_STRUCTURE w_UNION w_ENUM w_INT_ENUM w_BIG_INTEGER w_BIG_DECIMAL w_SHORT w_STRING w_BYTE w_LONG w_BOOLEAN w_RESOURCE w_MAP w_DOUBLE w_FLOAT w_MEMBER w_SERVICE w_LIST w_OPERATION w_DOCUMENT w_INTEGER w_TIMESTAMP hK) hZ (hw _ (ow 4 rfl)) (hw _ (ow 3 rfl)) (by decide) (by decide)) (g := (mkF m 9 #[.val (.int p1), .val (.int (0 : Int32)), .unset, .unset, .unset, .unset] [(.int (0 : Int32))])) rfl (by rw [hml]; rfl) (argsL := [(.int (0 : Int32))]) (rest := []) (lenOf pd_0 rfl) rfl (Nat.le_of_eq rfl) (hb hby at_9) (fun _ _ => ⟨rfl, e0, (by decide : 0 + 0 ≤ _), (by decide : 0 + 0 ≤ _)⟩)
  dsimp only [Pt.U, Pt.locs, Pt.cells, Pt.slots] at X1 l1 y1 z1 st1 hQ1
  subst l1 y1 z1
  obtain ⟨hv1, Nq1, e1⟩ := hQ1
  obtain rfl : v1 = some (.ref w_BLOB) := hv1.trans (congrArg some (congrArg Value.ref (if_pos (by decide))))
  have N1 := Fr.app N0 Nq1
  obtain ⟨cq2, kq2, q2a, q2b, q2c⟩ := isOf hZ e1 E_w_BLOB
  obtain ⟨v2, _, ⟨T2, L2, k2, n2⟩, -, X2, ⟨Lc2, hQ2, l2, y2, z2⟩, st2⟩ := X1.virtualBack hx (y := (⟨"com/example/falkirk/falkirk/model/ShapeType", "hasNamedMembers", "()Z"⟩ : MethodName)) (z := (⟨"com/example/falkirk/falkirk/model/ShapeType", "hasNamedMembers", "()Z"⟩ : MethodName)) hown (mvT hZ (hw _ (ow 8 rfl))) (mvT hZ (hw _ (ow 9 rfl))) (notFace_of_selects (args := #[]) (mvT hZ (hw _ (ow 11 rfl)))) (mvT hZ (hw _ (ow 11 rfl))) (mvT hZ (hw _ (ow 10 rfl))) (by decide) (backOf (W := 0) (rm_hasNamedMembers l Z a0 hw [] w_BLOB h0 n0 w_BLOB w_STRUCTURE w_UNION w_ENUM w_INT_ENUM w_BIG_INTEGER w_BIG_DECIMAL w_SHORT w_STRING w_BYTE w_LONG w_BOOLEAN w_RESOURCE w_MAP w_DOUBLE w_FLOAT w_MEMBER w_SERVICE w_LIST w_OPERATION w_DOCUMENT w_INTEGER w_TIMESTAMP hK) hZ (hw _ (ow 12 rfl)) (hw _ (ow 6 rfl)) (by decide) (by decide)) q2a q2c (g := (mkF m 66 #[.val (.int p1), .val (.int (0 : Int32)), .val (.ref w_BLOB), .val (.int (0 : Int32)), .val (.int (0 : Int32)), .val (.int (0 : Int32))] [(.ref w_BLOB)])) rfl (by rw [hml]; rfl) (Steps.refl _) (argsL := []) (rest := []) (lenOf pd_1 rfl) rfl (Nat.le_of_eq rfl) (hb hby at_66) (fun _ _ => ⟨rfl, e1, (by decide : 0 + 0 ≤ _), (by decide : 0 + 0 ≤ _)⟩)
  dsimp only [Pt.U, Pt.locs, Pt.cells, Pt.slots] at X2 l2 y2 z2 st2 hQ2
  subst l2 y2 z2
  obtain ⟨hv2, Nq2, e2⟩ := hQ2
  obtain rfl : v2 = some (.int (0 : Int32)) := hv2.trans (congrArg some (congrArg Value.int ((if_neg (Fld.ne F_ordinal_w_BLOB F_ordinal_w_STRUCTURE (by decide))).trans ((if_neg (Fld.ne F_ordinal_w_BLOB F_ordinal_w_UNION (by decide))).trans ((if_neg (Fld.ne F_ordinal_w_BLOB F_ordinal_w_ENUM (by decide))).trans (if_neg (Fld.ne F_ordinal_w_BLOB F_ordinal_w_INT_ENUM (by decide))))))))
  have N2 := Fr.app N1 Nq2
  have pre3 : ∀ t, Steps p.tables e below (T2.setTop (mkF m 79 #[.val (.int p1), .val (.int (0 : Int32)), .val (.ref w_BLOB), .val (.int (0 : Int32)), .val (.int (0 : Int32)), .val (.int (0 : Int32))] [(.int (1 : Int32))])) t → Steps p.tables e below (s₁.setTop (entryFrame m #[(.int p1)] maxLocals)) t := fun t k => pre0 t (by
    show Steps p.tables e below (s₁.setTop (mkF m 0 #[.val (.int p1), .unset, .unset, .unset, .unset, .unset] [])) _
    refine XS.iloadN X0.here hx rfl (hb hby at_0) rfl ?_
    show Steps p.tables e below (s₁.setTop (mkF m 1 #[.val (.int p1), .unset, .unset, .unset, .unset, .unset] [(.int p1)])) _
    refine X0.ldcInt hx hown (mvT hZ (hw _ (ow 0 rfl))) (g := (mkF m 1 #[.val (.int p1), .unset, .unset, .unset, .unset, .unset] [(.int p1)])) rfl (hb hby at_1) _ ?_
    show Steps p.tables e below (s₁.setTop (mkF m 3 #[.val (.int p1), .unset, .unset, .unset, .unset, .unset] [(.int (2147483647 : Int32)), (.int p1)])) _
    refine XS.iand X0.here hx rfl (hb hby at_3) rfl ?_
    show Steps p.tables e below (s₁.setTop (mkF m 4 #[.val (.int p1), .unset, .unset, .unset, .unset, .unset] [(.int (p1 &&& (2147483647 : Int32)))])) _
    refine XS.bipush X0.here hx rfl (hb hby at_4) ?_
    show Steps p.tables e below (s₁.setTop (mkF m 6 #[.val (.int p1), .unset, .unset, .unset, .unset, .unset] [(.int (23 : Int32)), (.int (p1 &&& (2147483647 : Int32)))])) _
    refine iremM X0 hx rfl (hb hby at_6) rfl (by decide) ?_
    show Steps p.tables e below (s₁.setTop (mkF m 7 #[.val (.int p1), .unset, .unset, .unset, .unset, .unset] [(.int ((p1 &&& (2147483647 : Int32)) % (23 : Int32)))])) _
    rw [hk]
    show Steps p.tables e below (s₁.setTop (mkF m 7 #[.val (.int p1), .unset, .unset, .unset, .unset, .unset] [(.int (0 : Int32))])) _
    refine XS.istoreN X0.here hx rfl (hb hby at_7) rfl (l' := #[.val (.int p1), .val (.int (0 : Int32)), .unset, .unset, .unset, .unset]) rfl ?_
    show Steps p.tables e below (s₁.setTop (mkF m 8 #[.val (.int p1), .val (.int (0 : Int32)), .unset, .unset, .unset, .unset] [])) _
    refine XS.iloadN X0.here hx rfl (hb hby at_8) rfl ?_
    show Steps p.tables e below (s₁.setTop (mkF m 9 #[.val (.int p1), .val (.int (0 : Int32)), .unset, .unset, .unset, .unset] [(.int (0 : Int32))])) _
    refine st1 _ ?_
    show Steps p.tables e below (T1.setTop (mkF m 12 #[.val (.int p1), .val (.int (0 : Int32)), .unset, .unset, .unset, .unset] [(.ref w_BLOB)])) _
    refine XS.astoreN X1.here hx rfl (hb hby at_12) rfl rfl (l' := #[.val (.int p1), .val (.int (0 : Int32)), .val (.ref w_BLOB), .unset, .unset, .unset]) rfl ?_
    show Steps p.tables e below (T1.setTop (mkF m 13 #[.val (.int p1), .val (.int (0 : Int32)), .val (.ref w_BLOB), .unset, .unset, .unset] [])) _
    refine XS.iloadN X1.here hx rfl (hb hby at_13) rfl ?_
    show Steps p.tables e below (T1.setTop (mkF m 14 #[.val (.int p1), .val (.int (0 : Int32)), .val (.ref w_BLOB), .unset, .unset, .unset] [(.int (0 : Int32))])) _
    refine XS.bipush X1.here hx rfl (hb hby at_14) ?_
    show Steps p.tables e below (T1.setTop (mkF m 16 #[.val (.int p1), .val (.int (0 : Int32)), .val (.ref w_BLOB), .unset, .unset, .unset] [(.int (17 : Int32)), (.int (0 : Int32))])) _
    refine XS.icmpNo X1.here hx rfl (hb hby at_16) rfl (feq (by decide)).1 ?_
    show Steps p.tables e below (T1.setTop (mkF m 19 #[.val (.int p1), .val (.int (0 : Int32)), .val (.ref w_BLOB), .unset, .unset, .unset] [])) _
    refine XS.iloadN X1.here hx rfl (hb hby at_19) rfl ?_
    show Steps p.tables e below (T1.setTop (mkF m 20 #[.val (.int p1), .val (.int (0 : Int32)), .val (.ref w_BLOB), .unset, .unset, .unset] [(.int (0 : Int32))])) _
    refine XS.bipush X1.here hx rfl (hb hby at_20) ?_
    show Steps p.tables e below (T1.setTop (mkF m 22 #[.val (.int p1), .val (.int (0 : Int32)), .val (.ref w_BLOB), .unset, .unset, .unset] [(.int (18 : Int32)), (.int (0 : Int32))])) _
    refine XS.icmpYes X1.here hx rfl (pc0 := 22) (pc' := 29) rfl (hb hby at_22) rfl (feq (by decide)).2 (by decide) (by decide) ?_
    show Steps p.tables e below (T1.setTop (mkF m 29 #[.val (.int p1), .val (.int (0 : Int32)), .val (.ref w_BLOB), .unset, .unset, .unset] [])) _
    refine XS.iconst X1.here hx rfl (hb hby at_29) ?_
    show Steps p.tables e below (T1.setTop (mkF m 30 #[.val (.int p1), .val (.int (0 : Int32)), .val (.ref w_BLOB), .unset, .unset, .unset] [(.int (0 : Int32))])) _
    refine XS.istoreN X1.here hx rfl (hb hby at_30) rfl (l' := #[.val (.int p1), .val (.int (0 : Int32)), .val (.ref w_BLOB), .val (.int (0 : Int32)), .unset, .unset]) rfl ?_
    show Steps p.tables e below (T1.setTop (mkF m 31 #[.val (.int p1), .val (.int (0 : Int32)), .val (.ref w_BLOB), .val (.int (0 : Int32)), .unset, .unset] [])) _
    refine XS.iloadN X1.here hx rfl (hb hby at_31) rfl ?_
    show Steps p.tables e below (T1.setTop (mkF m 32 #[.val (.int p1), .val (.int (0 : Int32)), .val (.ref w_BLOB), .val (.int (0 : Int32)), .unset, .unset] [(.int (0 : Int32))])) _
    refine XS.iconst X1.here hx rfl (hb hby at_32) ?_
    show Steps p.tables e below (T1.setTop (mkF m 33 #[.val (.int p1), .val (.int (0 : Int32)), .val (.ref w_BLOB), .val (.int (0 : Int32)), .unset, .unset] [(.int (3 : Int32)), (.int (0 : Int32))])) _
    refine XS.icmpNo X1.here hx rfl (hb hby at_33) rfl (feq (by decide)).1 ?_
    show Steps p.tables e below (T1.setTop (mkF m 36 #[.val (.int p1), .val (.int (0 : Int32)), .val (.ref w_BLOB), .val (.int (0 : Int32)), .unset, .unset] [])) _
    refine XS.iloadN X1.here hx rfl (hb hby at_36) rfl ?_
    show Steps p.tables e below (T1.setTop (mkF m 37 #[.val (.int p1), .val (.int (0 : Int32)), .val (.ref w_BLOB), .val (.int (0 : Int32)), .unset, .unset] [(.int (0 : Int32))])) _
    refine XS.bipush X1.here hx rfl (hb hby at_37) ?_
    show Steps p.tables e below (T1.setTop (mkF m 39 #[.val (.int p1), .val (.int (0 : Int32)), .val (.ref w_BLOB), .val (.int (0 : Int32)), .unset, .unset] [(.int (7 : Int32)), (.int (0 : Int32))])) _
    refine XS.icmpYes X1.here hx rfl (pc0 := 39) (pc' := 46) rfl (hb hby at_39) rfl (feq (by decide)).2 (by decide) (by decide) ?_
    show Steps p.tables e below (T1.setTop (mkF m 46 #[.val (.int p1), .val (.int (0 : Int32)), .val (.ref w_BLOB), .val (.int (0 : Int32)), .unset, .unset] [])) _
    refine XS.iconst X1.here hx rfl (hb hby at_46) ?_
    show Steps p.tables e below (T1.setTop (mkF m 47 #[.val (.int p1), .val (.int (0 : Int32)), .val (.ref w_BLOB), .val (.int (0 : Int32)), .unset, .unset] [(.int (0 : Int32))])) _
    refine XS.istore X1.here hx rfl (hb hby at_47) rfl (l' := #[.val (.int p1), .val (.int (0 : Int32)), .val (.ref w_BLOB), .val (.int (0 : Int32)), .val (.int (0 : Int32)), .unset]) rfl ?_
    show Steps p.tables e below (T1.setTop (mkF m 49 #[.val (.int p1), .val (.int (0 : Int32)), .val (.ref w_BLOB), .val (.int (0 : Int32)), .val (.int (0 : Int32)), .unset] [])) _
    refine XS.iloadN X1.here hx rfl (hb hby at_49) rfl ?_
    show Steps p.tables e below (T1.setTop (mkF m 50 #[.val (.int p1), .val (.int (0 : Int32)), .val (.ref w_BLOB), .val (.int (0 : Int32)), .val (.int (0 : Int32)), .unset] [(.int (0 : Int32))])) _
    refine XS.ifNo X1.here hx rfl (hb hby at_50) rfl ((if0 _ _).trans (teq (by decide)).2) ?_
    show Steps p.tables e below (T1.setTop (mkF m 53 #[.val (.int p1), .val (.int (0 : Int32)), .val (.ref w_BLOB), .val (.int (0 : Int32)), .val (.int (0 : Int32)), .unset] [])) _
    refine XS.iload X1.here hx rfl (hb hby at_53) rfl ?_
    show Steps p.tables e below (T1.setTop (mkF m 55 #[.val (.int p1), .val (.int (0 : Int32)), .val (.ref w_BLOB), .val (.int (0 : Int32)), .val (.int (0 : Int32)), .unset] [(.int (0 : Int32))])) _
    refine XS.ifYes X1.here hx rfl (pc0 := 55) (pc' := 62) rfl (hb hby at_55) rfl ((if0 _ _).trans (teq (by decide)).1) (by decide) (by decide) ?_
    show Steps p.tables e below (T1.setTop (mkF m 62 #[.val (.int p1), .val (.int (0 : Int32)), .val (.ref w_BLOB), .val (.int (0 : Int32)), .val (.int (0 : Int32)), .unset] [])) _
    refine XS.iconst X1.here hx rfl (hb hby at_62) ?_
    show Steps p.tables e below (T1.setTop (mkF m 63 #[.val (.int p1), .val (.int (0 : Int32)), .val (.ref w_BLOB), .val (.int (0 : Int32)), .val (.int (0 : Int32)), .unset] [(.int (0 : Int32))])) _
    refine XS.istore X1.here hx rfl (hb hby at_63) rfl (l' := #[.val (.int p1), .val (.int (0 : Int32)), .val (.ref w_BLOB), .val (.int (0 : Int32)), .val (.int (0 : Int32)), .val (.int (0 : Int32))]) rfl ?_
    show Steps p.tables e below (T1.setTop (mkF m 65 #[.val (.int p1), .val (.int (0 : Int32)), .val (.ref w_BLOB), .val (.int (0 : Int32)), .val (.int (0 : Int32)), .val (.int (0 : Int32))] [])) _
    refine XS.aloadN X1.here hx rfl (hb hby at_65) rfl rfl ?_
    show Steps p.tables e below (T1.setTop (mkF m 66 #[.val (.int p1), .val (.int (0 : Int32)), .val (.ref w_BLOB), .val (.int (0 : Int32)), .val (.int (0 : Int32)), .val (.int (0 : Int32))] [(.ref w_BLOB)])) _
    refine st2.trans ?_
    show Steps p.tables e below (T2.setTop (mkF m 69 #[.val (.int p1), .val (.int (0 : Int32)), .val (.ref w_BLOB), .val (.int (0 : Int32)), .val (.int (0 : Int32)), .val (.int (0 : Int32))] [(.int (0 : Int32))])) _
    refine XS.iload X2.here hx rfl (hb hby at_69) rfl ?_
    show Steps p.tables e below (T2.setTop (mkF m 71 #[.val (.int p1), .val (.int (0 : Int32)), .val (.ref w_BLOB), .val (.int (0 : Int32)), .val (.int (0 : Int32)), .val (.int (0 : Int32))] [(.int (0 : Int32)), (.int (0 : Int32))])) _
    refine XS.icmpNo X2.here hx rfl (hb hby at_71) rfl (teq (by decide)).2 ?_
    show Steps p.tables e below (T2.setTop (mkF m 74 #[.val (.int p1), .val (.int (0 : Int32)), .val (.ref w_BLOB), .val (.int (0 : Int32)), .val (.int (0 : Int32)), .val (.int (0 : Int32))] [])) _
    refine XS.iconst X2.here hx rfl (hb hby at_74) ?_
    show Steps p.tables e below (T2.setTop (mkF m 75 #[.val (.int p1), .val (.int (0 : Int32)), .val (.ref w_BLOB), .val (.int (0 : Int32)), .val (.int (0 : Int32)), .val (.int (0 : Int32))] [(.int (1 : Int32))])) _
    refine XS.goto X2.here hx rfl (pc0 := 75) (pc' := 79) rfl (hb hby at_75) (by decide) (by decide) ?_
    exact k)
  obtain ⟨fs, hr, hrun, hended, hW, hsame⟩ := X2.leave (v := some (.int (1 : Int32))) (fun h => by rw [Bd.returns] at h; cases h)
  refine ⟨_, _, pre3 _ ?_, hrun, hended, _, _, rfl, ?_, ⟨_, rfl⟩, hW, hsame.mono (by decide) (by decide)⟩
  · show Steps p.tables e below (T2.setTop (mkF m 79 #[.val (.int p1), .val (.int (0 : Int32)), .val (.ref w_BLOB), .val (.int (0 : Int32)), .val (.int (0 : Int32)), .val (.int (0 : Int32))] [(.int (1 : Int32))])) _
    exact retN X2 hx (t := .boolean) Bd.returns (by simp) (hb hby at_79) hr
  · exact ⟨rfl, N2, e2⟩
theorem ef_law1 (m : MethodId) (x0 : Int32) : entryFrame m #[(.int x0)] maxLocals = mkF m 0 #[.val (.int x0), .unset, .unset, .unset, .unset, .unset] [] := by first | (simp [entryFrame, mkF, argsToLocals, Value.category, maxLocals]; done) | rfl
set_option maxRecDepth 65536 in
set_option maxHeartbeats 40000000 in
theorem rm_law1 (l : Launch) (Z : State) (a0 : Array Value) (hw : ∀ d ∈ tables_1, d.before a0 Z = true) (ws : List Jvm.Cond) (p1 : Int32) (h0 : Heap) (n0 : Nat) (w_BLOB w_STRUCTURE w_UNION w_ENUM w_INT_ENUM w_BIG_INTEGER w_BIG_DECIMAL w_SHORT w_STRING w_BYTE w_LONG w_BOOLEAN w_RESOURCE w_MAP w_DOUBLE w_FLOAT w_MEMBER w_SERVICE w_LIST w_OPERATION w_DOCUMENT w_INTEGER w_TIMESTAMP : Addr) (hK : own_K Z h0 w_BLOB w_STRUCTURE w_UNION w_ENUM w_INT_ENUM w_BIG_INTEGER w_BIG_DECIMAL w_SHORT w_STRING w_BYTE w_LONG w_BOOLEAN w_RESOURCE w_MAP w_DOUBLE w_FLOAT w_MEMBER w_SERVICE w_LIST w_OPERATION w_DOCUMENT w_INTEGER w_TIMESTAMP) (hk : ((p1 &&& (2147483647 : Int32)) % (23 : Int32)) = (1 : Int32)) :
    MetFree l x (head1 (Jvm.Cond.code x code maxLocals ret :: ws) room_1) (fun a U => a = #[(.int p1)] ∧ Z.Warmed39 U.vm ∧ U.heap = h0) (fun _ _ _ _ _ => True) (fun _ U o U' => ∃ v L, o = .returned v ∧ own_Q (some (.int (1 : Int32))) h0 n0 v U'.heap L ∧ FrameEnd U o U' L room_1.cells room_1.slots) := by
  refine MetFree.of_bodySF (plainFor_of_name pn_0) hisR ?_
  intro p e s m args below meth c s₁ Bd hml0 hP hK0
  obtain ⟨rfl, hZ, hh⟩ := hP
  have hx := Bd.exec
  have hby := Bd.bytes
  have hml : c.maxLocals = 6 := hml0
  have hown : s.vm.findClass "com/example/falkirk/falkirk/model/ShapeTypeHasNamedMembersPinLaw" = some m.cls := findClass_of_methodNamed Bd.named
  have hnm := (name_of_methodNamed Bd.named Bd.method).1
  have X0 : Stand p l e room_1 s m #[(.int p1)] below meth c s₁ [] 0 0 := Stand.of_body Bd
  have e0 : s₁.heap = h0 := by rw [← hh, Bd.state]; rfl
  have N0 := Fr.nil n0
  have pre0 : ∀ t, Steps p.tables e below (s₁.setTop (mkF m 0 #[.val (.int p1), .unset, .unset, .unset, .unset, .unset] [])) t → Steps p.tables e below (s₁.setTop (entryFrame m #[(.int p1)] maxLocals)) t := fun t k => castTop (ef_law1 m p1) k
  have hK' := hK
  obtain ⟨S_w_BLOB, E_w_BLOB, S_w_STRUCTURE, E_w_STRUCTURE, F_ordinal_w_BLOB, F_ordinal_w_STRUCTURE, S_w_UNION, E_w_UNION, F_ordinal_w_UNION, S_w_ENUM, E_w_ENUM, F_ordinal_w_ENUM, S_w_INT_ENUM, E_w_INT_ENUM, F_ordinal_w_INT_ENUM, S_w_BIG_INTEGER, E_w_BIG_INTEGER, F_ordinal_w_BIG_INTEGER, S_w_BIG_DECIMAL, E_w_BIG_DECIMAL, F_ordinal_w_BIG_DECIMAL, S_w_SHORT, E_w_SHORT, F_ordinal_w_SHORT, S_w_STRING, E_w_STRING, F_ordinal_w_STRING, S_w_BYTE, E_w_BYTE, F_ordinal_w_BYTE, S_w_LONG, E_w_LONG, F_ordinal_w_LONG, S_w_BOOLEAN, E_w_BOOLEAN, F_ordinal_w_BOOLEAN, S_w_RESOURCE, E_w_RESOURCE, F_ordinal_w_RESOURCE, S_w_MAP, E_w_MAP, F_ordinal_w_MAP, S_w_DOUBLE, E_w_DOUBLE, F_ordinal_w_DOUBLE, S_w_FLOAT, E_w_FLOAT, F_ordinal_w_FLOAT, S_w_MEMBER, E_w_MEMBER, F_ordinal_w_MEMBER, S_w_SERVICE, E_w_SERVICE, F_ordinal_w_SERVICE, S_w_LIST, E_w_LIST, F_ordinal_w_LIST, S_w_OPERATION, E_w_OPERATION, F_ordinal_w_OPERATION, S_w_DOCUMENT, E_w_DOCUMENT, F_ordinal_w_DOCUMENT, S_w_INTEGER, E_w_INTEGER, F_ordinal_w_INTEGER, S_w_TIMESTAMP, E_w_TIMESTAMP, F_ordinal_w_TIMESTAMP⟩ := hK'
  obtain ⟨v1, _, ⟨T1, L1, k1, n1⟩, -, X1, ⟨Lc1, hQ1, l1, y1, z1⟩, st1⟩ := Jvm.LawKit.callS X0 hx (y := (⟨"com/example/falkirk/falkirk/model/ShapeTypeHasNamedMembersPinLaw", "pick", "(I)Lcom/example/falkirk/falkirk/model/ShapeType;"⟩ : MethodName)) hown (mvT hZ (hw _ (ow 1 rfl))) (mvT hZ (hw _ (ow 2 rfl))) (mvT hZ (hw _ (ow 3 rfl))) (mvT hZ (hw _ (ow 4 rfl))) (by decide) (backOf (W := 0) (rm_pick l Z a0 hw [] (1 : Int32) h0 n0 w_BLOB w_STRUCTURE w_UNION w_ENUM w_INT_ENUM w_BIG_INTEGER w_BIG_DECIMAL w_SHORT w_STRING w_BYTE w_LONG w_BOOLEAN w_RESOURCE w_MAP w_DOUBLE w_FLOAT w_MEMBER w_SERVICE w_LIST w_OPERATION w_DOCUMENT w_INTEGER w_TIMESTAMP hK) hZ (hw _ (ow 4 rfl)) (hw _ (ow 3 rfl)) (by decide) (by decide)) (g := (mkF m 9 #[.val (.int p1), .val (.int (1 : Int32)), .unset, .unset, .unset, .unset] [(.int (1 : Int32))])) rfl (by rw [hml]; rfl) (argsL := [(.int (1 : Int32))]) (rest := []) (lenOf pd_0 rfl) rfl (Nat.le_of_eq rfl) (hb hby at_9) (fun _ _ => ⟨rfl, e0, (by decide : 0 + 0 ≤ _), (by decide : 0 + 0 ≤ _)⟩)
  dsimp only [Pt.U, Pt.locs, Pt.cells, Pt.slots] at X1 l1 y1 z1 st1 hQ1
  subst l1 y1 z1
  obtain ⟨hv1, Nq1, e1⟩ := hQ1
  obtain rfl : v1 = some (.ref w_BOOLEAN) := hv1.trans (congrArg some (congrArg Value.ref ((if_neg (by decide)).trans (if_pos (by decide)))))
  have N1 := Fr.app N0 Nq1
  obtain ⟨cq2, kq2, q2a, q2b, q2c⟩ := isOf hZ e1 E_w_BOOLEAN
  obtain ⟨v2, _, ⟨T2, L2, k2, n2⟩, -, X2, ⟨Lc2, hQ2, l2, y2, z2⟩, st2⟩ := X1.virtualBack hx (y := (⟨"com/example/falkirk/falkirk/model/ShapeType", "hasNamedMembers", "()Z"⟩ : MethodName)) (z := (⟨"com/example/falkirk/falkirk/model/ShapeType", "hasNamedMembers", "()Z"⟩ : MethodName)) hown (mvT hZ (hw _ (ow 8 rfl))) (mvT hZ (hw _ (ow 9 rfl))) (notFace_of_selects (args := #[]) (mvT hZ (hw _ (ow 11 rfl)))) (mvT hZ (hw _ (ow 11 rfl))) (mvT hZ (hw _ (ow 10 rfl))) (by decide) (backOf (W := 0) (rm_hasNamedMembers l Z a0 hw [] w_BOOLEAN h0 n0 w_BLOB w_STRUCTURE w_UNION w_ENUM w_INT_ENUM w_BIG_INTEGER w_BIG_DECIMAL w_SHORT w_STRING w_BYTE w_LONG w_BOOLEAN w_RESOURCE w_MAP w_DOUBLE w_FLOAT w_MEMBER w_SERVICE w_LIST w_OPERATION w_DOCUMENT w_INTEGER w_TIMESTAMP hK) hZ (hw _ (ow 12 rfl)) (hw _ (ow 6 rfl)) (by decide) (by decide)) q2a q2c (g := (mkF m 66 #[.val (.int p1), .val (.int (1 : Int32)), .val (.ref w_BOOLEAN), .val (.int (0 : Int32)), .val (.int (0 : Int32)), .val (.int (0 : Int32))] [(.ref w_BOOLEAN)])) rfl (by rw [hml]; rfl) (Steps.refl _) (argsL := []) (rest := []) (lenOf pd_1 rfl) rfl (Nat.le_of_eq rfl) (hb hby at_66) (fun _ _ => ⟨rfl, e1, (by decide : 0 + 0 ≤ _), (by decide : 0 + 0 ≤ _)⟩)
  dsimp only [Pt.U, Pt.locs, Pt.cells, Pt.slots] at X2 l2 y2 z2 st2 hQ2
  subst l2 y2 z2
  obtain ⟨hv2, Nq2, e2⟩ := hQ2
  obtain rfl : v2 = some (.int (0 : Int32)) := hv2.trans (congrArg some (congrArg Value.int ((if_neg (Fld.ne F_ordinal_w_BOOLEAN F_ordinal_w_STRUCTURE (by decide))).trans ((if_neg (Fld.ne F_ordinal_w_BOOLEAN F_ordinal_w_UNION (by decide))).trans ((if_neg (Fld.ne F_ordinal_w_BOOLEAN F_ordinal_w_ENUM (by decide))).trans (if_neg (Fld.ne F_ordinal_w_BOOLEAN F_ordinal_w_INT_ENUM (by decide))))))))
  have N2 := Fr.app N1 Nq2
  have pre3 : ∀ t, Steps p.tables e below (T2.setTop (mkF m 79 #[.val (.int p1), .val (.int (1 : Int32)), .val (.ref w_BOOLEAN), .val (.int (0 : Int32)), .val (.int (0 : Int32)), .val (.int (0 : Int32))] [(.int (1 : Int32))])) t → Steps p.tables e below (s₁.setTop (entryFrame m #[(.int p1)] maxLocals)) t := fun t k => pre0 t (by
    show Steps p.tables e below (s₁.setTop (mkF m 0 #[.val (.int p1), .unset, .unset, .unset, .unset, .unset] [])) _
    refine XS.iloadN X0.here hx rfl (hb hby at_0) rfl ?_
    show Steps p.tables e below (s₁.setTop (mkF m 1 #[.val (.int p1), .unset, .unset, .unset, .unset, .unset] [(.int p1)])) _
    refine X0.ldcInt hx hown (mvT hZ (hw _ (ow 0 rfl))) (g := (mkF m 1 #[.val (.int p1), .unset, .unset, .unset, .unset, .unset] [(.int p1)])) rfl (hb hby at_1) _ ?_
    show Steps p.tables e below (s₁.setTop (mkF m 3 #[.val (.int p1), .unset, .unset, .unset, .unset, .unset] [(.int (2147483647 : Int32)), (.int p1)])) _
    refine XS.iand X0.here hx rfl (hb hby at_3) rfl ?_
    show Steps p.tables e below (s₁.setTop (mkF m 4 #[.val (.int p1), .unset, .unset, .unset, .unset, .unset] [(.int (p1 &&& (2147483647 : Int32)))])) _
    refine XS.bipush X0.here hx rfl (hb hby at_4) ?_
    show Steps p.tables e below (s₁.setTop (mkF m 6 #[.val (.int p1), .unset, .unset, .unset, .unset, .unset] [(.int (23 : Int32)), (.int (p1 &&& (2147483647 : Int32)))])) _
    refine iremM X0 hx rfl (hb hby at_6) rfl (by decide) ?_
    show Steps p.tables e below (s₁.setTop (mkF m 7 #[.val (.int p1), .unset, .unset, .unset, .unset, .unset] [(.int ((p1 &&& (2147483647 : Int32)) % (23 : Int32)))])) _
    rw [hk]
    show Steps p.tables e below (s₁.setTop (mkF m 7 #[.val (.int p1), .unset, .unset, .unset, .unset, .unset] [(.int (1 : Int32))])) _
    refine XS.istoreN X0.here hx rfl (hb hby at_7) rfl (l' := #[.val (.int p1), .val (.int (1 : Int32)), .unset, .unset, .unset, .unset]) rfl ?_
    show Steps p.tables e below (s₁.setTop (mkF m 8 #[.val (.int p1), .val (.int (1 : Int32)), .unset, .unset, .unset, .unset] [])) _
    refine XS.iloadN X0.here hx rfl (hb hby at_8) rfl ?_
    show Steps p.tables e below (s₁.setTop (mkF m 9 #[.val (.int p1), .val (.int (1 : Int32)), .unset, .unset, .unset, .unset] [(.int (1 : Int32))])) _
    refine st1 _ ?_
    show Steps p.tables e below (T1.setTop (mkF m 12 #[.val (.int p1), .val (.int (1 : Int32)), .unset, .unset, .unset, .unset] [(.ref w_BOOLEAN)])) _
    refine XS.astoreN X1.here hx rfl (hb hby at_12) rfl rfl (l' := #[.val (.int p1), .val (.int (1 : Int32)), .val (.ref w_BOOLEAN), .unset, .unset, .unset]) rfl ?_
    show Steps p.tables e below (T1.setTop (mkF m 13 #[.val (.int p1), .val (.int (1 : Int32)), .val (.ref w_BOOLEAN), .unset, .unset, .unset] [])) _
    refine XS.iloadN X1.here hx rfl (hb hby at_13) rfl ?_
    show Steps p.tables e below (T1.setTop (mkF m 14 #[.val (.int p1), .val (.int (1 : Int32)), .val (.ref w_BOOLEAN), .unset, .unset, .unset] [(.int (1 : Int32))])) _
    refine XS.bipush X1.here hx rfl (hb hby at_14) ?_
    show Steps p.tables e below (T1.setTop (mkF m 16 #[.val (.int p1), .val (.int (1 : Int32)), .val (.ref w_BOOLEAN), .unset, .unset, .unset] [(.int (17 : Int32)), (.int (1 : Int32))])) _
    refine XS.icmpNo X1.here hx rfl (hb hby at_16) rfl (feq (by decide)).1 ?_
    show Steps p.tables e below (T1.setTop (mkF m 19 #[.val (.int p1), .val (.int (1 : Int32)), .val (.ref w_BOOLEAN), .unset, .unset, .unset] [])) _
    refine XS.iloadN X1.here hx rfl (hb hby at_19) rfl ?_
    show Steps p.tables e below (T1.setTop (mkF m 20 #[.val (.int p1), .val (.int (1 : Int32)), .val (.ref w_BOOLEAN), .unset, .unset, .unset] [(.int (1 : Int32))])) _
    refine XS.bipush X1.here hx rfl (hb hby at_20) ?_
    show Steps p.tables e below (T1.setTop (mkF m 22 #[.val (.int p1), .val (.int (1 : Int32)), .val (.ref w_BOOLEAN), .unset, .unset, .unset] [(.int (18 : Int32)), (.int (1 : Int32))])) _
    refine XS.icmpYes X1.here hx rfl (pc0 := 22) (pc' := 29) rfl (hb hby at_22) rfl (feq (by decide)).2 (by decide) (by decide) ?_
    show Steps p.tables e below (T1.setTop (mkF m 29 #[.val (.int p1), .val (.int (1 : Int32)), .val (.ref w_BOOLEAN), .unset, .unset, .unset] [])) _
    refine XS.iconst X1.here hx rfl (hb hby at_29) ?_
    show Steps p.tables e below (T1.setTop (mkF m 30 #[.val (.int p1), .val (.int (1 : Int32)), .val (.ref w_BOOLEAN), .unset, .unset, .unset] [(.int (0 : Int32))])) _
    refine XS.istoreN X1.here hx rfl (hb hby at_30) rfl (l' := #[.val (.int p1), .val (.int (1 : Int32)), .val (.ref w_BOOLEAN), .val (.int (0 : Int32)), .unset, .unset]) rfl ?_
    show Steps p.tables e below (T1.setTop (mkF m 31 #[.val (.int p1), .val (.int (1 : Int32)), .val (.ref w_BOOLEAN), .val (.int (0 : Int32)), .unset, .unset] [])) _
    refine XS.iloadN X1.here hx rfl (hb hby at_31) rfl ?_
    show Steps p.tables e below (T1.setTop (mkF m 32 #[.val (.int p1), .val (.int (1 : Int32)), .val (.ref w_BOOLEAN), .val (.int (0 : Int32)), .unset, .unset] [(.int (1 : Int32))])) _
    refine XS.iconst X1.here hx rfl (hb hby at_32) ?_
    show Steps p.tables e below (T1.setTop (mkF m 33 #[.val (.int p1), .val (.int (1 : Int32)), .val (.ref w_BOOLEAN), .val (.int (0 : Int32)), .unset, .unset] [(.int (3 : Int32)), (.int (1 : Int32))])) _
    refine XS.icmpNo X1.here hx rfl (hb hby at_33) rfl (feq (by decide)).1 ?_
    show Steps p.tables e below (T1.setTop (mkF m 36 #[.val (.int p1), .val (.int (1 : Int32)), .val (.ref w_BOOLEAN), .val (.int (0 : Int32)), .unset, .unset] [])) _
    refine XS.iloadN X1.here hx rfl (hb hby at_36) rfl ?_
    show Steps p.tables e below (T1.setTop (mkF m 37 #[.val (.int p1), .val (.int (1 : Int32)), .val (.ref w_BOOLEAN), .val (.int (0 : Int32)), .unset, .unset] [(.int (1 : Int32))])) _
    refine XS.bipush X1.here hx rfl (hb hby at_37) ?_
    show Steps p.tables e below (T1.setTop (mkF m 39 #[.val (.int p1), .val (.int (1 : Int32)), .val (.ref w_BOOLEAN), .val (.int (0 : Int32)), .unset, .unset] [(.int (7 : Int32)), (.int (1 : Int32))])) _
    refine XS.icmpYes X1.here hx rfl (pc0 := 39) (pc' := 46) rfl (hb hby at_39) rfl (feq (by decide)).2 (by decide) (by decide) ?_
    show Steps p.tables e below (T1.setTop (mkF m 46 #[.val (.int p1), .val (.int (1 : Int32)), .val (.ref w_BOOLEAN), .val (.int (0 : Int32)), .unset, .unset] [])) _
    refine XS.iconst X1.here hx rfl (hb hby at_46) ?_
    show Steps p.tables e below (T1.setTop (mkF m 47 #[.val (.int p1), .val (.int (1 : Int32)), .val (.ref w_BOOLEAN), .val (.int (0 : Int32)), .unset, .unset] [(.int (0 : Int32))])) _
    refine XS.istore X1.here hx rfl (hb hby at_47) rfl (l' := #[.val (.int p1), .val (.int (1 : Int32)), .val (.ref w_BOOLEAN), .val (.int (0 : Int32)), .val (.int (0 : Int32)), .unset]) rfl ?_
    show Steps p.tables e below (T1.setTop (mkF m 49 #[.val (.int p1), .val (.int (1 : Int32)), .val (.ref w_BOOLEAN), .val (.int (0 : Int32)), .val (.int (0 : Int32)), .unset] [])) _
    refine XS.iloadN X1.here hx rfl (hb hby at_49) rfl ?_
    show Steps p.tables e below (T1.setTop (mkF m 50 #[.val (.int p1), .val (.int (1 : Int32)), .val (.ref w_BOOLEAN), .val (.int (0 : Int32)), .val (.int (0 : Int32)), .unset] [(.int (0 : Int32))])) _
    refine XS.ifNo X1.here hx rfl (hb hby at_50) rfl ((if0 _ _).trans (teq (by decide)).2) ?_
    show Steps p.tables e below (T1.setTop (mkF m 53 #[.val (.int p1), .val (.int (1 : Int32)), .val (.ref w_BOOLEAN), .val (.int (0 : Int32)), .val (.int (0 : Int32)), .unset] [])) _
    refine XS.iload X1.here hx rfl (hb hby at_53) rfl ?_
    show Steps p.tables e below (T1.setTop (mkF m 55 #[.val (.int p1), .val (.int (1 : Int32)), .val (.ref w_BOOLEAN), .val (.int (0 : Int32)), .val (.int (0 : Int32)), .unset] [(.int (0 : Int32))])) _
    refine XS.ifYes X1.here hx rfl (pc0 := 55) (pc' := 62) rfl (hb hby at_55) rfl ((if0 _ _).trans (teq (by decide)).1) (by decide) (by decide) ?_
    show Steps p.tables e below (T1.setTop (mkF m 62 #[.val (.int p1), .val (.int (1 : Int32)), .val (.ref w_BOOLEAN), .val (.int (0 : Int32)), .val (.int (0 : Int32)), .unset] [])) _
    refine XS.iconst X1.here hx rfl (hb hby at_62) ?_
    show Steps p.tables e below (T1.setTop (mkF m 63 #[.val (.int p1), .val (.int (1 : Int32)), .val (.ref w_BOOLEAN), .val (.int (0 : Int32)), .val (.int (0 : Int32)), .unset] [(.int (0 : Int32))])) _
    refine XS.istore X1.here hx rfl (hb hby at_63) rfl (l' := #[.val (.int p1), .val (.int (1 : Int32)), .val (.ref w_BOOLEAN), .val (.int (0 : Int32)), .val (.int (0 : Int32)), .val (.int (0 : Int32))]) rfl ?_
    show Steps p.tables e below (T1.setTop (mkF m 65 #[.val (.int p1), .val (.int (1 : Int32)), .val (.ref w_BOOLEAN), .val (.int (0 : Int32)), .val (.int (0 : Int32)), .val (.int (0 : Int32))] [])) _
    refine XS.aloadN X1.here hx rfl (hb hby at_65) rfl rfl ?_
    show Steps p.tables e below (T1.setTop (mkF m 66 #[.val (.int p1), .val (.int (1 : Int32)), .val (.ref w_BOOLEAN), .val (.int (0 : Int32)), .val (.int (0 : Int32)), .val (.int (0 : Int32))] [(.ref w_BOOLEAN)])) _
    refine st2.trans ?_
    show Steps p.tables e below (T2.setTop (mkF m 69 #[.val (.int p1), .val (.int (1 : Int32)), .val (.ref w_BOOLEAN), .val (.int (0 : Int32)), .val (.int (0 : Int32)), .val (.int (0 : Int32))] [(.int (0 : Int32))])) _
    refine XS.iload X2.here hx rfl (hb hby at_69) rfl ?_
    show Steps p.tables e below (T2.setTop (mkF m 71 #[.val (.int p1), .val (.int (1 : Int32)), .val (.ref w_BOOLEAN), .val (.int (0 : Int32)), .val (.int (0 : Int32)), .val (.int (0 : Int32))] [(.int (0 : Int32)), (.int (0 : Int32))])) _
    refine XS.icmpNo X2.here hx rfl (hb hby at_71) rfl (teq (by decide)).2 ?_
    show Steps p.tables e below (T2.setTop (mkF m 74 #[.val (.int p1), .val (.int (1 : Int32)), .val (.ref w_BOOLEAN), .val (.int (0 : Int32)), .val (.int (0 : Int32)), .val (.int (0 : Int32))] [])) _
    refine XS.iconst X2.here hx rfl (hb hby at_74) ?_
    show Steps p.tables e below (T2.setTop (mkF m 75 #[.val (.int p1), .val (.int (1 : Int32)), .val (.ref w_BOOLEAN), .val (.int (0 : Int32)), .val (.int (0 : Int32)), .val (.int (0 : Int32))] [(.int (1 : Int32))])) _
    refine XS.goto X2.here hx rfl (pc0 := 75) (pc' := 79) rfl (hb hby at_75) (by decide) (by decide) ?_
    exact k)
  obtain ⟨fs, hr, hrun, hended, hW, hsame⟩ := X2.leave (v := some (.int (1 : Int32))) (fun h => by rw [Bd.returns] at h; cases h)
  refine ⟨_, _, pre3 _ ?_, hrun, hended, _, _, rfl, ?_, ⟨_, rfl⟩, hW, hsame.mono (by decide) (by decide)⟩
  · show Steps p.tables e below (T2.setTop (mkF m 79 #[.val (.int p1), .val (.int (1 : Int32)), .val (.ref w_BOOLEAN), .val (.int (0 : Int32)), .val (.int (0 : Int32)), .val (.int (0 : Int32))] [(.int (1 : Int32))])) _
    exact retN X2 hx (t := .boolean) Bd.returns (by simp) (hb hby at_79) hr
  · exact ⟨rfl, N2, e2⟩
theorem ef_law2 (m : MethodId) (x0 : Int32) : entryFrame m #[(.int x0)] maxLocals = mkF m 0 #[.val (.int x0), .unset, .unset, .unset, .unset, .unset] [] := by first | (simp [entryFrame, mkF, argsToLocals, Value.category, maxLocals]; done) | rfl
set_option maxRecDepth 65536 in
set_option maxHeartbeats 40000000 in
theorem rm_law2 (l : Launch) (Z : State) (a0 : Array Value) (hw : ∀ d ∈ tables_1, d.before a0 Z = true) (ws : List Jvm.Cond) (p1 : Int32) (h0 : Heap) (n0 : Nat) (w_BLOB w_STRUCTURE w_UNION w_ENUM w_INT_ENUM w_BIG_INTEGER w_BIG_DECIMAL w_SHORT w_STRING w_BYTE w_LONG w_BOOLEAN w_RESOURCE w_MAP w_DOUBLE w_FLOAT w_MEMBER w_SERVICE w_LIST w_OPERATION w_DOCUMENT w_INTEGER w_TIMESTAMP : Addr) (hK : own_K Z h0 w_BLOB w_STRUCTURE w_UNION w_ENUM w_INT_ENUM w_BIG_INTEGER w_BIG_DECIMAL w_SHORT w_STRING w_BYTE w_LONG w_BOOLEAN w_RESOURCE w_MAP w_DOUBLE w_FLOAT w_MEMBER w_SERVICE w_LIST w_OPERATION w_DOCUMENT w_INTEGER w_TIMESTAMP) (hk : ((p1 &&& (2147483647 : Int32)) % (23 : Int32)) = (2 : Int32)) :
    MetFree l x (head1 (Jvm.Cond.code x code maxLocals ret :: ws) room_1) (fun a U => a = #[(.int p1)] ∧ Z.Warmed39 U.vm ∧ U.heap = h0) (fun _ _ _ _ _ => True) (fun _ U o U' => ∃ v L, o = .returned v ∧ own_Q (some (.int (1 : Int32))) h0 n0 v U'.heap L ∧ FrameEnd U o U' L room_1.cells room_1.slots) := by
  refine MetFree.of_bodySF (plainFor_of_name pn_0) hisR ?_
  intro p e s m args below meth c s₁ Bd hml0 hP hK0
  obtain ⟨rfl, hZ, hh⟩ := hP
  have hx := Bd.exec
  have hby := Bd.bytes
  have hml : c.maxLocals = 6 := hml0
  have hown : s.vm.findClass "com/example/falkirk/falkirk/model/ShapeTypeHasNamedMembersPinLaw" = some m.cls := findClass_of_methodNamed Bd.named
  have hnm := (name_of_methodNamed Bd.named Bd.method).1
  have X0 : Stand p l e room_1 s m #[(.int p1)] below meth c s₁ [] 0 0 := Stand.of_body Bd
  have e0 : s₁.heap = h0 := by rw [← hh, Bd.state]; rfl
  have N0 := Fr.nil n0
  have pre0 : ∀ t, Steps p.tables e below (s₁.setTop (mkF m 0 #[.val (.int p1), .unset, .unset, .unset, .unset, .unset] [])) t → Steps p.tables e below (s₁.setTop (entryFrame m #[(.int p1)] maxLocals)) t := fun t k => castTop (ef_law2 m p1) k
  have hK' := hK
  obtain ⟨S_w_BLOB, E_w_BLOB, S_w_STRUCTURE, E_w_STRUCTURE, F_ordinal_w_BLOB, F_ordinal_w_STRUCTURE, S_w_UNION, E_w_UNION, F_ordinal_w_UNION, S_w_ENUM, E_w_ENUM, F_ordinal_w_ENUM, S_w_INT_ENUM, E_w_INT_ENUM, F_ordinal_w_INT_ENUM, S_w_BIG_INTEGER, E_w_BIG_INTEGER, F_ordinal_w_BIG_INTEGER, S_w_BIG_DECIMAL, E_w_BIG_DECIMAL, F_ordinal_w_BIG_DECIMAL, S_w_SHORT, E_w_SHORT, F_ordinal_w_SHORT, S_w_STRING, E_w_STRING, F_ordinal_w_STRING, S_w_BYTE, E_w_BYTE, F_ordinal_w_BYTE, S_w_LONG, E_w_LONG, F_ordinal_w_LONG, S_w_BOOLEAN, E_w_BOOLEAN, F_ordinal_w_BOOLEAN, S_w_RESOURCE, E_w_RESOURCE, F_ordinal_w_RESOURCE, S_w_MAP, E_w_MAP, F_ordinal_w_MAP, S_w_DOUBLE, E_w_DOUBLE, F_ordinal_w_DOUBLE, S_w_FLOAT, E_w_FLOAT, F_ordinal_w_FLOAT, S_w_MEMBER, E_w_MEMBER, F_ordinal_w_MEMBER, S_w_SERVICE, E_w_SERVICE, F_ordinal_w_SERVICE, S_w_LIST, E_w_LIST, F_ordinal_w_LIST, S_w_OPERATION, E_w_OPERATION, F_ordinal_w_OPERATION, S_w_DOCUMENT, E_w_DOCUMENT, F_ordinal_w_DOCUMENT, S_w_INTEGER, E_w_INTEGER, F_ordinal_w_INTEGER, S_w_TIMESTAMP, E_w_TIMESTAMP, F_ordinal_w_TIMESTAMP⟩ := hK'
  obtain ⟨v1, _, ⟨T1, L1, k1, n1⟩, -, X1, ⟨Lc1, hQ1, l1, y1, z1⟩, st1⟩ := Jvm.LawKit.callS X0 hx (y := (⟨"com/example/falkirk/falkirk/model/ShapeTypeHasNamedMembersPinLaw", "pick", "(I)Lcom/example/falkirk/falkirk/model/ShapeType;"⟩ : MethodName)) hown (mvT hZ (hw _ (ow 1 rfl))) (mvT hZ (hw _ (ow 2 rfl))) (mvT hZ (hw _ (ow 3 rfl))) (mvT hZ (hw _ (ow 4 rfl))) (by decide) (backOf (W := 0) (rm_pick l Z a0 hw [] (2 : Int32) h0 n0 w_BLOB w_STRUCTURE w_UNION w_ENUM w_INT_ENUM w_BIG_INTEGER w_BIG_DECIMAL w_SHORT w_STRING w_BYTE w_LONG w_BOOLEAN w_RESOURCE w_MAP w_DOUBLE w_FLOAT w_MEMBER w_SERVICE w_LIST w_OPERATION w_DOCUMENT w_INTEGER w_TIMESTAMP hK) hZ (hw _ (ow 4 rfl)) (hw _ (ow 3 rfl)) (by decide) (by decide)) (g := (mkF m 9 #[.val (.int p1), .val (.int (2 : Int32)), .unset, .unset, .unset, .unset] [(.int (2 : Int32))])) rfl (by rw [hml]; rfl) (argsL := [(.int (2 : Int32))]) (rest := []) (lenOf pd_0 rfl) rfl (Nat.le_of_eq rfl) (hb hby at_9) (fun _ _ => ⟨rfl, e0, (by decide : 0 + 0 ≤ _), (by decide : 0 + 0 ≤ _)⟩)
  dsimp only [Pt.U, Pt.locs, Pt.cells, Pt.slots] at X1 l1 y1 z1 st1 hQ1
  subst l1 y1 z1
  obtain ⟨hv1, Nq1, e1⟩ := hQ1
  obtain rfl : v1 = some (.ref w_STRING) := hv1.trans (congrArg some (congrArg Value.ref ((if_neg (by decide)).trans ((if_neg (by decide)).trans (if_pos (by decide))))))
  have N1 := Fr.app N0 Nq1
  obtain ⟨cq2, kq2, q2a, q2b, q2c⟩ := isOf hZ e1 E_w_STRING
  obtain ⟨v2, _, ⟨T2, L2, k2, n2⟩, -, X2, ⟨Lc2, hQ2, l2, y2, z2⟩, st2⟩ := X1.virtualBack hx (y := (⟨"com/example/falkirk/falkirk/model/ShapeType", "hasNamedMembers", "()Z"⟩ : MethodName)) (z := (⟨"com/example/falkirk/falkirk/model/ShapeType", "hasNamedMembers", "()Z"⟩ : MethodName)) hown (mvT hZ (hw _ (ow 8 rfl))) (mvT hZ (hw _ (ow 9 rfl))) (notFace_of_selects (args := #[]) (mvT hZ (hw _ (ow 11 rfl)))) (mvT hZ (hw _ (ow 11 rfl))) (mvT hZ (hw _ (ow 10 rfl))) (by decide) (backOf (W := 0) (rm_hasNamedMembers l Z a0 hw [] w_STRING h0 n0 w_BLOB w_STRUCTURE w_UNION w_ENUM w_INT_ENUM w_BIG_INTEGER w_BIG_DECIMAL w_SHORT w_STRING w_BYTE w_LONG w_BOOLEAN w_RESOURCE w_MAP w_DOUBLE w_FLOAT w_MEMBER w_SERVICE w_LIST w_OPERATION w_DOCUMENT w_INTEGER w_TIMESTAMP hK) hZ (hw _ (ow 12 rfl)) (hw _ (ow 6 rfl)) (by decide) (by decide)) q2a q2c (g := (mkF m 66 #[.val (.int p1), .val (.int (2 : Int32)), .val (.ref w_STRING), .val (.int (0 : Int32)), .val (.int (0 : Int32)), .val (.int (0 : Int32))] [(.ref w_STRING)])) rfl (by rw [hml]; rfl) (Steps.refl _) (argsL := []) (rest := []) (lenOf pd_1 rfl) rfl (Nat.le_of_eq rfl) (hb hby at_66) (fun _ _ => ⟨rfl, e1, (by decide : 0 + 0 ≤ _), (by decide : 0 + 0 ≤ _)⟩)
  dsimp only [Pt.U, Pt.locs, Pt.cells, Pt.slots] at X2 l2 y2 z2 st2 hQ2
  subst l2 y2 z2
  obtain ⟨hv2, Nq2, e2⟩ := hQ2
  obtain rfl : v2 = some (.int (0 : Int32)) := hv2.trans (congrArg some (congrArg Value.int ((if_neg (Fld.ne F_ordinal_w_STRING F_ordinal_w_STRUCTURE (by decide))).trans ((if_neg (Fld.ne F_ordinal_w_STRING F_ordinal_w_UNION (by decide))).trans ((if_neg (Fld.ne F_ordinal_w_STRING F_ordinal_w_ENUM (by decide))).trans (if_neg (Fld.ne F_ordinal_w_STRING F_ordinal_w_INT_ENUM (by decide))))))))
  have N2 := Fr.app N1 Nq2
  have pre3 : ∀ t, Steps p.tables e below (T2.setTop (mkF m 79 #[.val (.int p1), .val (.int (2 : Int32)), .val (.ref w_STRING), .val (.int (0 : Int32)), .val (.int (0 : Int32)), .val (.int (0 : Int32))] [(.int (1 : Int32))])) t → Steps p.tables e below (s₁.setTop (entryFrame m #[(.int p1)] maxLocals)) t := fun t k => pre0 t (by
    show Steps p.tables e below (s₁.setTop (mkF m 0 #[.val (.int p1), .unset, .unset, .unset, .unset, .unset] [])) _
    refine XS.iloadN X0.here hx rfl (hb hby at_0) rfl ?_
    show Steps p.tables e below (s₁.setTop (mkF m 1 #[.val (.int p1), .unset, .unset, .unset, .unset, .unset] [(.int p1)])) _
    refine X0.ldcInt hx hown (mvT hZ (hw _ (ow 0 rfl))) (g := (mkF m 1 #[.val (.int p1), .unset, .unset, .unset, .unset, .unset] [(.int p1)])) rfl (hb hby at_1) _ ?_
    show Steps p.tables e below (s₁.setTop (mkF m 3 #[.val (.int p1), .unset, .unset, .unset, .unset, .unset] [(.int (2147483647 : Int32)), (.int p1)])) _
    refine XS.iand X0.here hx rfl (hb hby at_3) rfl ?_
    show Steps p.tables e below (s₁.setTop (mkF m 4 #[.val (.int p1), .unset, .unset, .unset, .unset, .unset] [(.int (p1 &&& (2147483647 : Int32)))])) _
    refine XS.bipush X0.here hx rfl (hb hby at_4) ?_
    show Steps p.tables e below (s₁.setTop (mkF m 6 #[.val (.int p1), .unset, .unset, .unset, .unset, .unset] [(.int (23 : Int32)), (.int (p1 &&& (2147483647 : Int32)))])) _
    refine iremM X0 hx rfl (hb hby at_6) rfl (by decide) ?_
    show Steps p.tables e below (s₁.setTop (mkF m 7 #[.val (.int p1), .unset, .unset, .unset, .unset, .unset] [(.int ((p1 &&& (2147483647 : Int32)) % (23 : Int32)))])) _
    rw [hk]
    show Steps p.tables e below (s₁.setTop (mkF m 7 #[.val (.int p1), .unset, .unset, .unset, .unset, .unset] [(.int (2 : Int32))])) _
    refine XS.istoreN X0.here hx rfl (hb hby at_7) rfl (l' := #[.val (.int p1), .val (.int (2 : Int32)), .unset, .unset, .unset, .unset]) rfl ?_
    show Steps p.tables e below (s₁.setTop (mkF m 8 #[.val (.int p1), .val (.int (2 : Int32)), .unset, .unset, .unset, .unset] [])) _
    refine XS.iloadN X0.here hx rfl (hb hby at_8) rfl ?_
    show Steps p.tables e below (s₁.setTop (mkF m 9 #[.val (.int p1), .val (.int (2 : Int32)), .unset, .unset, .unset, .unset] [(.int (2 : Int32))])) _
    refine st1 _ ?_
    show Steps p.tables e below (T1.setTop (mkF m 12 #[.val (.int p1), .val (.int (2 : Int32)), .unset, .unset, .unset, .unset] [(.ref w_STRING)])) _
    refine XS.astoreN X1.here hx rfl (hb hby at_12) rfl rfl (l' := #[.val (.int p1), .val (.int (2 : Int32)), .val (.ref w_STRING), .unset, .unset, .unset]) rfl ?_
    show Steps p.tables e below (T1.setTop (mkF m 13 #[.val (.int p1), .val (.int (2 : Int32)), .val (.ref w_STRING), .unset, .unset, .unset] [])) _
    refine XS.iloadN X1.here hx rfl (hb hby at_13) rfl ?_
    show Steps p.tables e below (T1.setTop (mkF m 14 #[.val (.int p1), .val (.int (2 : Int32)), .val (.ref w_STRING), .unset, .unset, .unset] [(.int (2 : Int32))])) _
    refine XS.bipush X1.here hx rfl (hb hby at_14) ?_
    show Steps p.tables e below (T1.setTop (mkF m 16 #[.val (.int p1), .val (.int (2 : Int32)), .val (.ref w_STRING), .unset, .unset, .unset] [(.int (17 : Int32)), (.int (2 : Int32))])) _
    refine XS.icmpNo X1.here hx rfl (hb hby at_16) rfl (feq (by decide)).1 ?_
    show Steps p.tables e below (T1.setTop (mkF m 19 #[.val (.int p1), .val (.int (2 : Int32)), .val (.ref w_STRING), .unset, .unset, .unset] [])) _
    refine XS.iloadN X1.here hx rfl (hb hby at_19) rfl ?_
    show Steps p.tables e below (T1.setTop (mkF m 20 #[.val (.int p1), .val (.int (2 : Int32)), .val (.ref w_STRING), .unset, .unset, .unset] [(.int (2 : Int32))])) _
    refine XS.bipush X1.here hx rfl (hb hby at_20) ?_
    show Steps p.tables e below (T1.setTop (mkF m 22 #[.val (.int p1), .val (.int (2 : Int32)), .val (.ref w_STRING), .unset, .unset, .unset] [(.int (18 : Int32)), (.int (2 : Int32))])) _
    refine XS.icmpYes X1.here hx rfl (pc0 := 22) (pc' := 29) rfl (hb hby at_22) rfl (feq (by decide)).2 (by decide) (by decide) ?_
    show Steps p.tables e below (T1.setTop (mkF m 29 #[.val (.int p1), .val (.int (2 : Int32)), .val (.ref w_STRING), .unset, .unset, .unset] [])) _
    refine XS.iconst X1.here hx rfl (hb hby at_29) ?_
    show Steps p.tables e below (T1.setTop (mkF m 30 #[.val (.int p1), .val (.int (2 : Int32)), .val (.ref w_STRING), .unset, .unset, .unset] [(.int (0 : Int32))])) _
    refine XS.istoreN X1.here hx rfl (hb hby at_30) rfl (l' := #[.val (.int p1), .val (.int (2 : Int32)), .val (.ref w_STRING), .val (.int (0 : Int32)), .unset, .unset]) rfl ?_
    show Steps p.tables e below (T1.setTop (mkF m 31 #[.val (.int p1), .val (.int (2 : Int32)), .val (.ref w_STRING), .val (.int (0 : Int32)), .unset, .unset] [])) _
    refine XS.iloadN X1.here hx rfl (hb hby at_31) rfl ?_
    show Steps p.tables e below (T1.setTop (mkF m 32 #[.val (.int p1), .val (.int (2 : Int32)), .val (.ref w_STRING), .val (.int (0 : Int32)), .unset, .unset] [(.int (2 : Int32))])) _
    refine XS.iconst X1.here hx rfl (hb hby at_32) ?_
    show Steps p.tables e below (T1.setTop (mkF m 33 #[.val (.int p1), .val (.int (2 : Int32)), .val (.ref w_STRING), .val (.int (0 : Int32)), .unset, .unset] [(.int (3 : Int32)), (.int (2 : Int32))])) _
    refine XS.icmpNo X1.here hx rfl (hb hby at_33) rfl (feq (by decide)).1 ?_
    show Steps p.tables e below (T1.setTop (mkF m 36 #[.val (.int p1), .val (.int (2 : Int32)), .val (.ref w_STRING), .val (.int (0 : Int32)), .unset, .unset] [])) _
    refine XS.iloadN X1.here hx rfl (hb hby at_36) rfl ?_
    show Steps p.tables e below (T1.setTop (mkF m 37 #[.val (.int p1), .val (.int (2 : Int32)), .val (.ref w_STRING), .val (.int (0 : Int32)), .unset, .unset] [(.int (2 : Int32))])) _
    refine XS.bipush X1.here hx rfl (hb hby at_37) ?_
    show Steps p.tables e below (T1.setTop (mkF m 39 #[.val (.int p1), .val (.int (2 : Int32)), .val (.ref w_STRING), .val (.int (0 : Int32)), .unset, .unset] [(.int (7 : Int32)), (.int (2 : Int32))])) _
    refine XS.icmpYes X1.here hx rfl (pc0 := 39) (pc' := 46) rfl (hb hby at_39) rfl (feq (by decide)).2 (by decide) (by decide) ?_
    show Steps p.tables e below (T1.setTop (mkF m 46 #[.val (.int p1), .val (.int (2 : Int32)), .val (.ref w_STRING), .val (.int (0 : Int32)), .unset, .unset] [])) _
    refine XS.iconst X1.here hx rfl (hb hby at_46) ?_
    show Steps p.tables e below (T1.setTop (mkF m 47 #[.val (.int p1), .val (.int (2 : Int32)), .val (.ref w_STRING), .val (.int (0 : Int32)), .unset, .unset] [(.int (0 : Int32))])) _
    refine XS.istore X1.here hx rfl (hb hby at_47) rfl (l' := #[.val (.int p1), .val (.int (2 : Int32)), .val (.ref w_STRING), .val (.int (0 : Int32)), .val (.int (0 : Int32)), .unset]) rfl ?_
    show Steps p.tables e below (T1.setTop (mkF m 49 #[.val (.int p1), .val (.int (2 : Int32)), .val (.ref w_STRING), .val (.int (0 : Int32)), .val (.int (0 : Int32)), .unset] [])) _
    refine XS.iloadN X1.here hx rfl (hb hby at_49) rfl ?_
    show Steps p.tables e below (T1.setTop (mkF m 50 #[.val (.int p1), .val (.int (2 : Int32)), .val (.ref w_STRING), .val (.int (0 : Int32)), .val (.int (0 : Int32)), .unset] [(.int (0 : Int32))])) _
    refine XS.ifNo X1.here hx rfl (hb hby at_50) rfl ((if0 _ _).trans (teq (by decide)).2) ?_
    show Steps p.tables e below (T1.setTop (mkF m 53 #[.val (.int p1), .val (.int (2 : Int32)), .val (.ref w_STRING), .val (.int (0 : Int32)), .val (.int (0 : Int32)), .unset] [])) _
    refine XS.iload X1.here hx rfl (hb hby at_53) rfl ?_
    show Steps p.tables e below (T1.setTop (mkF m 55 #[.val (.int p1), .val (.int (2 : Int32)), .val (.ref w_STRING), .val (.int (0 : Int32)), .val (.int (0 : Int32)), .unset] [(.int (0 : Int32))])) _
    refine XS.ifYes X1.here hx rfl (pc0 := 55) (pc' := 62) rfl (hb hby at_55) rfl ((if0 _ _).trans (teq (by decide)).1) (by decide) (by decide) ?_
    show Steps p.tables e below (T1.setTop (mkF m 62 #[.val (.int p1), .val (.int (2 : Int32)), .val (.ref w_STRING), .val (.int (0 : Int32)), .val (.int (0 : Int32)), .unset] [])) _
    refine XS.iconst X1.here hx rfl (hb hby at_62) ?_
    show Steps p.tables e below (T1.setTop (mkF m 63 #[.val (.int p1), .val (.int (2 : Int32)), .val (.ref w_STRING), .val (.int (0 : Int32)), .val (.int (0 : Int32)), .unset] [(.int (0 : Int32))])) _
    refine XS.istore X1.here hx rfl (hb hby at_63) rfl (l' := #[.val (.int p1), .val (.int (2 : Int32)), .val (.ref w_STRING), .val (.int (0 : Int32)), .val (.int (0 : Int32)), .val (.int (0 : Int32))]) rfl ?_
    show Steps p.tables e below (T1.setTop (mkF m 65 #[.val (.int p1), .val (.int (2 : Int32)), .val (.ref w_STRING), .val (.int (0 : Int32)), .val (.int (0 : Int32)), .val (.int (0 : Int32))] [])) _
    refine XS.aloadN X1.here hx rfl (hb hby at_65) rfl rfl ?_
    show Steps p.tables e below (T1.setTop (mkF m 66 #[.val (.int p1), .val (.int (2 : Int32)), .val (.ref w_STRING), .val (.int (0 : Int32)), .val (.int (0 : Int32)), .val (.int (0 : Int32))] [(.ref w_STRING)])) _
    refine st2.trans ?_
    show Steps p.tables e below (T2.setTop (mkF m 69 #[.val (.int p1), .val (.int (2 : Int32)), .val (.ref w_STRING), .val (.int (0 : Int32)), .val (.int (0 : Int32)), .val (.int (0 : Int32))] [(.int (0 : Int32))])) _
    refine XS.iload X2.here hx rfl (hb hby at_69) rfl ?_
    show Steps p.tables e below (T2.setTop (mkF m 71 #[.val (.int p1), .val (.int (2 : Int32)), .val (.ref w_STRING), .val (.int (0 : Int32)), .val (.int (0 : Int32)), .val (.int (0 : Int32))] [(.int (0 : Int32)), (.int (0 : Int32))])) _
    refine XS.icmpNo X2.here hx rfl (hb hby at_71) rfl (teq (by decide)).2 ?_
    show Steps p.tables e below (T2.setTop (mkF m 74 #[.val (.int p1), .val (.int (2 : Int32)), .val (.ref w_STRING), .val (.int (0 : Int32)), .val (.int (0 : Int32)), .val (.int (0 : Int32))] [])) _
    refine XS.iconst X2.here hx rfl (hb hby at_74) ?_
    show Steps p.tables e below (T2.setTop (mkF m 75 #[.val (.int p1), .val (.int (2 : Int32)), .val (.ref w_STRING), .val (.int (0 : Int32)), .val (.int (0 : Int32)), .val (.int (0 : Int32))] [(.int (1 : Int32))])) _
    refine XS.goto X2.here hx rfl (pc0 := 75) (pc' := 79) rfl (hb hby at_75) (by decide) (by decide) ?_
    exact k)
  obtain ⟨fs, hr, hrun, hended, hW, hsame⟩ := X2.leave (v := some (.int (1 : Int32))) (fun h => by rw [Bd.returns] at h; cases h)
  refine ⟨_, _, pre3 _ ?_, hrun, hended, _, _, rfl, ?_, ⟨_, rfl⟩, hW, hsame.mono (by decide) (by decide)⟩
  · show Steps p.tables e below (T2.setTop (mkF m 79 #[.val (.int p1), .val (.int (2 : Int32)), .val (.ref w_STRING), .val (.int (0 : Int32)), .val (.int (0 : Int32)), .val (.int (0 : Int32))] [(.int (1 : Int32))])) _
    exact retN X2 hx (t := .boolean) Bd.returns (by simp) (hb hby at_79) hr
  · exact ⟨rfl, N2, e2⟩
theorem ef_law3 (m : MethodId) (x0 : Int32) : entryFrame m #[(.int x0)] maxLocals = mkF m 0 #[.val (.int x0), .unset, .unset, .unset, .unset, .unset] [] := by first | (simp [entryFrame, mkF, argsToLocals, Value.category, maxLocals]; done) | rfl
set_option maxRecDepth 65536 in
set_option maxHeartbeats 40000000 in
theorem rm_law3 (l : Launch) (Z : State) (a0 : Array Value) (hw : ∀ d ∈ tables_1, d.before a0 Z = true) (ws : List Jvm.Cond) (p1 : Int32) (h0 : Heap) (n0 : Nat) (w_BLOB w_STRUCTURE w_UNION w_ENUM w_INT_ENUM w_BIG_INTEGER w_BIG_DECIMAL w_SHORT w_STRING w_BYTE w_LONG w_BOOLEAN w_RESOURCE w_MAP w_DOUBLE w_FLOAT w_MEMBER w_SERVICE w_LIST w_OPERATION w_DOCUMENT w_INTEGER w_TIMESTAMP : Addr) (hK : own_K Z h0 w_BLOB w_STRUCTURE w_UNION w_ENUM w_INT_ENUM w_BIG_INTEGER w_BIG_DECIMAL w_SHORT w_STRING w_BYTE w_LONG w_BOOLEAN w_RESOURCE w_MAP w_DOUBLE w_FLOAT w_MEMBER w_SERVICE w_LIST w_OPERATION w_DOCUMENT w_INTEGER w_TIMESTAMP) (hk : ((p1 &&& (2147483647 : Int32)) % (23 : Int32)) = (3 : Int32)) :
    MetFree l x (head1 (Jvm.Cond.code x code maxLocals ret :: ws) room_1) (fun a U => a = #[(.int p1)] ∧ Z.Warmed39 U.vm ∧ U.heap = h0) (fun _ _ _ _ _ => True) (fun _ U o U' => ∃ v L, o = .returned v ∧ own_Q (some (.int (1 : Int32))) h0 n0 v U'.heap L ∧ FrameEnd U o U' L room_1.cells room_1.slots) := by
  refine MetFree.of_bodySF (plainFor_of_name pn_0) hisR ?_
  intro p e s m args below meth c s₁ Bd hml0 hP hK0
  obtain ⟨rfl, hZ, hh⟩ := hP
  have hx := Bd.exec
  have hby := Bd.bytes
  have hml : c.maxLocals = 6 := hml0
  have hown : s.vm.findClass "com/example/falkirk/falkirk/model/ShapeTypeHasNamedMembersPinLaw" = some m.cls := findClass_of_methodNamed Bd.named
  have hnm := (name_of_methodNamed Bd.named Bd.method).1
  have X0 : Stand p l e room_1 s m #[(.int p1)] below meth c s₁ [] 0 0 := Stand.of_body Bd
  have e0 : s₁.heap = h0 := by rw [← hh, Bd.state]; rfl
  have N0 := Fr.nil n0
  have pre0 : ∀ t, Steps p.tables e below (s₁.setTop (mkF m 0 #[.val (.int p1), .unset, .unset, .unset, .unset, .unset] [])) t → Steps p.tables e below (s₁.setTop (entryFrame m #[(.int p1)] maxLocals)) t := fun t k => castTop (ef_law3 m p1) k
  have hK' := hK
  obtain ⟨S_w_BLOB, E_w_BLOB, S_w_STRUCTURE, E_w_STRUCTURE, F_ordinal_w_BLOB, F_ordinal_w_STRUCTURE, S_w_UNION, E_w_UNION, F_ordinal_w_UNION, S_w_ENUM, E_w_ENUM, F_ordinal_w_ENUM, S_w_INT_ENUM, E_w_INT_ENUM, F_ordinal_w_INT_ENUM, S_w_BIG_INTEGER, E_w_BIG_INTEGER, F_ordinal_w_BIG_INTEGER, S_w_BIG_DECIMAL, E_w_BIG_DECIMAL, F_ordinal_w_BIG_DECIMAL, S_w_SHORT, E_w_SHORT, F_ordinal_w_SHORT, S_w_STRING, E_w_STRING, F_ordinal_w_STRING, S_w_BYTE, E_w_BYTE, F_ordinal_w_BYTE, S_w_LONG, E_w_LONG, F_ordinal_w_LONG, S_w_BOOLEAN, E_w_BOOLEAN, F_ordinal_w_BOOLEAN, S_w_RESOURCE, E_w_RESOURCE, F_ordinal_w_RESOURCE, S_w_MAP, E_w_MAP, F_ordinal_w_MAP, S_w_DOUBLE, E_w_DOUBLE, F_ordinal_w_DOUBLE, S_w_FLOAT, E_w_FLOAT, F_ordinal_w_FLOAT, S_w_MEMBER, E_w_MEMBER, F_ordinal_w_MEMBER, S_w_SERVICE, E_w_SERVICE, F_ordinal_w_SERVICE, S_w_LIST, E_w_LIST, F_ordinal_w_LIST, S_w_OPERATION, E_w_OPERATION, F_ordinal_w_OPERATION, S_w_DOCUMENT, E_w_DOCUMENT, F_ordinal_w_DOCUMENT, S_w_INTEGER, E_w_INTEGER, F_ordinal_w_INTEGER, S_w_TIMESTAMP, E_w_TIMESTAMP, F_ordinal_w_TIMESTAMP⟩ := hK'
  obtain ⟨v1, _, ⟨T1, L1, k1, n1⟩, -, X1, ⟨Lc1, hQ1, l1, y1, z1⟩, st1⟩ := Jvm.LawKit.callS X0 hx (y := (⟨"com/example/falkirk/falkirk/model/ShapeTypeHasNamedMembersPinLaw", "pick", "(I)Lcom/example/falkirk/falkirk/model/ShapeType;"⟩ : MethodName)) hown (mvT hZ (hw _ (ow 1 rfl))) (mvT hZ (hw _ (ow 2 rfl))) (mvT hZ (hw _ (ow 3 rfl))) (mvT hZ (hw _ (ow 4 rfl))) (by decide) (backOf (W := 0) (rm_pick l Z a0 hw [] (3 : Int32) h0 n0 w_BLOB w_STRUCTURE w_UNION w_ENUM w_INT_ENUM w_BIG_INTEGER w_BIG_DECIMAL w_SHORT w_STRING w_BYTE w_LONG w_BOOLEAN w_RESOURCE w_MAP w_DOUBLE w_FLOAT w_MEMBER w_SERVICE w_LIST w_OPERATION w_DOCUMENT w_INTEGER w_TIMESTAMP hK) hZ (hw _ (ow 4 rfl)) (hw _ (ow 3 rfl)) (by decide) (by decide)) (g := (mkF m 9 #[.val (.int p1), .val (.int (3 : Int32)), .unset, .unset, .unset, .unset] [(.int (3 : Int32))])) rfl (by rw [hml]; rfl) (argsL := [(.int (3 : Int32))]) (rest := []) (lenOf pd_0 rfl) rfl (Nat.le_of_eq rfl) (hb hby at_9) (fun _ _ => ⟨rfl, e0, (by decide : 0 + 0 ≤ _), (by decide : 0 + 0 ≤ _)⟩)
  dsimp only [Pt.U, Pt.locs, Pt.cells, Pt.slots] at X1 l1 y1 z1 st1 hQ1
  subst l1 y1 z1
  obtain ⟨hv1, Nq1, e1⟩ := hQ1
  obtain rfl : v1 = some (.ref w_ENUM) := hv1.trans (congrArg some (congrArg Value.ref ((if_neg (by decide)).trans ((if_neg (by decide)).trans ((if_neg (by decide)).trans (if_pos (by decide)))))))
  have N1 := Fr.app N0 Nq1
  obtain ⟨cq2, kq2, q2a, q2b, q2c⟩ := isOf hZ e1 E_w_ENUM
  obtain ⟨v2, _, ⟨T2, L2, k2, n2⟩, -, X2, ⟨Lc2, hQ2, l2, y2, z2⟩, st2⟩ := X1.virtualBack hx (y := (⟨"com/example/falkirk/falkirk/model/ShapeType", "hasNamedMembers", "()Z"⟩ : MethodName)) (z := (⟨"com/example/falkirk/falkirk/model/ShapeType", "hasNamedMembers", "()Z"⟩ : MethodName)) hown (mvT hZ (hw _ (ow 8 rfl))) (mvT hZ (hw _ (ow 9 rfl))) (notFace_of_selects (args := #[]) (mvT hZ (hw _ (ow 11 rfl)))) (mvT hZ (hw _ (ow 11 rfl))) (mvT hZ (hw _ (ow 10 rfl))) (by decide) (backOf (W := 0) (rm_hasNamedMembers l Z a0 hw [] w_ENUM h0 n0 w_BLOB w_STRUCTURE w_UNION w_ENUM w_INT_ENUM w_BIG_INTEGER w_BIG_DECIMAL w_SHORT w_STRING w_BYTE w_LONG w_BOOLEAN w_RESOURCE w_MAP w_DOUBLE w_FLOAT w_MEMBER w_SERVICE w_LIST w_OPERATION w_DOCUMENT w_INTEGER w_TIMESTAMP hK) hZ (hw _ (ow 12 rfl)) (hw _ (ow 6 rfl)) (by decide) (by decide)) q2a q2c (g := (mkF m 66 #[.val (.int p1), .val (.int (3 : Int32)), .val (.ref w_ENUM), .val (.int (0 : Int32)), .val (.int (1 : Int32)), .val (.int (1 : Int32))] [(.ref w_ENUM)])) rfl (by rw [hml]; rfl) (Steps.refl _) (argsL := []) (rest := []) (lenOf pd_1 rfl) rfl (Nat.le_of_eq rfl) (hb hby at_66) (fun _ _ => ⟨rfl, e1, (by decide : 0 + 0 ≤ _), (by decide : 0 + 0 ≤ _)⟩)
  dsimp only [Pt.U, Pt.locs, Pt.cells, Pt.slots] at X2 l2 y2 z2 st2 hQ2
  subst l2 y2 z2
  obtain ⟨hv2, Nq2, e2⟩ := hQ2
  obtain rfl : v2 = some (.int (1 : Int32)) := hv2.trans (congrArg some (congrArg Value.int ((if_neg (Fld.ne F_ordinal_w_ENUM F_ordinal_w_STRUCTURE (by decide))).trans ((if_neg (Fld.ne F_ordinal_w_ENUM F_ordinal_w_UNION (by decide))).trans (if_pos rfl)))))
  have N2 := Fr.app N1 Nq2
  have pre3 : ∀ t, Steps p.tables e below (T2.setTop (mkF m 79 #[.val (.int p1), .val (.int (3 : Int32)), .val (.ref w_ENUM), .val (.int (0 : Int32)), .val (.int (1 : Int32)), .val (.int (1 : Int32))] [(.int (1 : Int32))])) t → Steps p.tables e below (s₁.setTop (entryFrame m #[(.int p1)] maxLocals)) t := fun t k => pre0 t (by
    show Steps p.tables e below (s₁.setTop (mkF m 0 #[.val (.int p1), .unset, .unset, .unset, .unset, .unset] [])) _
    refine XS.iloadN X0.here hx rfl (hb hby at_0) rfl ?_
    show Steps p.tables e below (s₁.setTop (mkF m 1 #[.val (.int p1), .unset, .unset, .unset, .unset, .unset] [(.int p1)])) _
    refine X0.ldcInt hx hown (mvT hZ (hw _ (ow 0 rfl))) (g := (mkF m 1 #[.val (.int p1), .unset, .unset, .unset, .unset, .unset] [(.int p1)])) rfl (hb hby at_1) _ ?_
    show Steps p.tables e below (s₁.setTop (mkF m 3 #[.val (.int p1), .unset, .unset, .unset, .unset, .unset] [(.int (2147483647 : Int32)), (.int p1)])) _
    refine XS.iand X0.here hx rfl (hb hby at_3) rfl ?_
    show Steps p.tables e below (s₁.setTop (mkF m 4 #[.val (.int p1), .unset, .unset, .unset, .unset, .unset] [(.int (p1 &&& (2147483647 : Int32)))])) _
    refine XS.bipush X0.here hx rfl (hb hby at_4) ?_
    show Steps p.tables e below (s₁.setTop (mkF m 6 #[.val (.int p1), .unset, .unset, .unset, .unset, .unset] [(.int (23 : Int32)), (.int (p1 &&& (2147483647 : Int32)))])) _
    refine iremM X0 hx rfl (hb hby at_6) rfl (by decide) ?_
    show Steps p.tables e below (s₁.setTop (mkF m 7 #[.val (.int p1), .unset, .unset, .unset, .unset, .unset] [(.int ((p1 &&& (2147483647 : Int32)) % (23 : Int32)))])) _
    rw [hk]
    show Steps p.tables e below (s₁.setTop (mkF m 7 #[.val (.int p1), .unset, .unset, .unset, .unset, .unset] [(.int (3 : Int32))])) _
    refine XS.istoreN X0.here hx rfl (hb hby at_7) rfl (l' := #[.val (.int p1), .val (.int (3 : Int32)), .unset, .unset, .unset, .unset]) rfl ?_
    show Steps p.tables e below (s₁.setTop (mkF m 8 #[.val (.int p1), .val (.int (3 : Int32)), .unset, .unset, .unset, .unset] [])) _
    refine XS.iloadN X0.here hx rfl (hb hby at_8) rfl ?_
    show Steps p.tables e below (s₁.setTop (mkF m 9 #[.val (.int p1), .val (.int (3 : Int32)), .unset, .unset, .unset, .unset] [(.int (3 : Int32))])) _
    refine st1 _ ?_
    show Steps p.tables e below (T1.setTop (mkF m 12 #[.val (.int p1), .val (.int (3 : Int32)), .unset, .unset, .unset, .unset] [(.ref w_ENUM)])) _
    refine XS.astoreN X1.here hx rfl (hb hby at_12) rfl rfl (l' := #[.val (.int p1), .val (.int (3 : Int32)), .val (.ref w_ENUM), .unset, .unset, .unset]) rfl ?_
    show Steps p.tables e below (T1.setTop (mkF m 13 #[.val (.int p1), .val (.int (3 : Int32)), .val (.ref w_ENUM), .unset, .unset, .unset] [])) _
    refine XS.iloadN X1.here hx rfl (hb hby at_13) rfl ?_
    show Steps p.tables e below (T1.setTop (mkF m 14 #[.val (.int p1), .val (.int (3 : Int32)), .val (.ref w_ENUM), .unset, .unset, .unset] [(.int (3 : Int32))])) _
    refine XS.bipush X1.here hx rfl (hb hby at_14) ?_
    show Steps p.tables e below (T1.setTop (mkF m 16 #[.val (.int p1), .val (.int (3 : Int32)), .val (.ref w_ENUM), .unset, .unset, .unset] [(.int (17 : Int32)), (.int (3 : Int32))])) _
    refine XS.icmpNo X1.here hx rfl (hb hby at_16) rfl (feq (by decide)).1 ?_
    show Steps p.tables e below (T1.setTop (mkF m 19 #[.val (.int p1), .val (.int (3 : Int32)), .val (.ref w_ENUM), .unset, .unset, .unset] [])) _
    refine XS.iloadN X1.here hx rfl (hb hby at_19) rfl ?_
    show Steps p.tables e below (T1.setTop (mkF m 20 #[.val (.int p1), .val (.int (3 : Int32)), .val (.ref w_ENUM), .unset, .unset, .unset] [(.int (3 : Int32))])) _
    refine XS.bipush X1.here hx rfl (hb hby at_20) ?_
    show Steps p.tables e below (T1.setTop (mkF m 22 #[.val (.int p1), .val (.int (3 : Int32)), .val (.ref w_ENUM), .unset, .unset, .unset] [(.int (18 : Int32)), (.int (3 : Int32))])) _
    refine XS.icmpYes X1.here hx rfl (pc0 := 22) (pc' := 29) rfl (hb hby at_22) rfl (feq (by decide)).2 (by decide) (by decide) ?_
    show Steps p.tables e below (T1.setTop (mkF m 29 #[.val (.int p1), .val (.int (3 : Int32)), .val (.ref w_ENUM), .unset, .unset, .unset] [])) _
    refine XS.iconst X1.here hx rfl (hb hby at_29) ?_
    show Steps p.tables e below (T1.setTop (mkF m 30 #[.val (.int p1), .val (.int (3 : Int32)), .val (.ref w_ENUM), .unset, .unset, .unset] [(.int (0 : Int32))])) _
    refine XS.istoreN X1.here hx rfl (hb hby at_30) rfl (l' := #[.val (.int p1), .val (.int (3 : Int32)), .val (.ref w_ENUM), .val (.int (0 : Int32)), .unset, .unset]) rfl ?_
    show Steps p.tables e below (T1.setTop (mkF m 31 #[.val (.int p1), .val (.int (3 : Int32)), .val (.ref w_ENUM), .val (.int (0 : Int32)), .unset, .unset] [])) _
    refine XS.iloadN X1.here hx rfl (hb hby at_31) rfl ?_
    show Steps p.tables e below (T1.setTop (mkF m 32 #[.val (.int p1), .val (.int (3 : Int32)), .val (.ref w_ENUM), .val (.int (0 : Int32)), .unset, .unset] [(.int (3 : Int32))])) _
    refine XS.iconst X1.here hx rfl (hb hby at_32) ?_
    show Steps p.tables e below (T1.setTop (mkF m 33 #[.val (.int p1), .val (.int (3 : Int32)), .val (.ref w_ENUM), .val (.int (0 : Int32)), .unset, .unset] [(.int (3 : Int32)), (.int (3 : Int32))])) _
    refine XS.icmpYes X1.here hx rfl (pc0 := 33) (pc' := 42) rfl (hb hby at_33) rfl (teq (by decide)).1 (by decide) (by decide) ?_
    show Steps p.tables e below (T1.setTop (mkF m 42 #[.val (.int p1), .val (.int (3 : Int32)), .val (.ref w_ENUM), .val (.int (0 : Int32)), .unset, .unset] [])) _
    refine XS.iconst X1.here hx rfl (hb hby at_42) ?_
    show Steps p.tables e below (T1.setTop (mkF m 43 #[.val (.int p1), .val (.int (3 : Int32)), .val (.ref w_ENUM), .val (.int (0 : Int32)), .unset, .unset] [(.int (1 : Int32))])) _
    refine XS.goto X1.here hx rfl (pc0 := 43) (pc' := 47) rfl (hb hby at_43) (by decide) (by decide) ?_
    show Steps p.tables e below (T1.setTop (mkF m 47 #[.val (.int p1), .val (.int (3 : Int32)), .val (.ref w_ENUM), .val (.int (0 : Int32)), .unset, .unset] [(.int (1 : Int32))])) _
    refine XS.istore X1.here hx rfl (hb hby at_47) rfl (l' := #[.val (.int p1), .val (.int (3 : Int32)), .val (.ref w_ENUM), .val (.int (0 : Int32)), .val (.int (1 : Int32)), .unset]) rfl ?_
    show Steps p.tables e below (T1.setTop (mkF m 49 #[.val (.int p1), .val (.int (3 : Int32)), .val (.ref w_ENUM), .val (.int (0 : Int32)), .val (.int (1 : Int32)), .unset] [])) _
    refine XS.iloadN X1.here hx rfl (hb hby at_49) rfl ?_
    show Steps p.tables e below (T1.setTop (mkF m 50 #[.val (.int p1), .val (.int (3 : Int32)), .val (.ref w_ENUM), .val (.int (0 : Int32)), .val (.int (1 : Int32)), .unset] [(.int (0 : Int32))])) _
    refine XS.ifNo X1.here hx rfl (hb hby at_50) rfl ((if0 _ _).trans (teq (by decide)).2) ?_
    show Steps p.tables e below (T1.setTop (mkF m 53 #[.val (.int p1), .val (.int (3 : Int32)), .val (.ref w_ENUM), .val (.int (0 : Int32)), .val (.int (1 : Int32)), .unset] [])) _
    refine XS.iload X1.here hx rfl (hb hby at_53) rfl ?_
    show Steps p.tables e below (T1.setTop (mkF m 55 #[.val (.int p1), .val (.int (3 : Int32)), .val (.ref w_ENUM), .val (.int (0 : Int32)), .val (.int (1 : Int32)), .unset] [(.int (1 : Int32))])) _
    refine XS.ifNo X1.here hx rfl (hb hby at_55) rfl ((if0 _ _).trans (feq (by decide)).1) ?_
    show Steps p.tables e below (T1.setTop (mkF m 58 #[.val (.int p1), .val (.int (3 : Int32)), .val (.ref w_ENUM), .val (.int (0 : Int32)), .val (.int (1 : Int32)), .unset] [])) _
    refine XS.iconst X1.here hx rfl (hb hby at_58) ?_
    show Steps p.tables e below (T1.setTop (mkF m 59 #[.val (.int p1), .val (.int (3 : Int32)), .val (.ref w_ENUM), .val (.int (0 : Int32)), .val (.int (1 : Int32)), .unset] [(.int (1 : Int32))])) _
    refine XS.goto X1.here hx rfl (pc0 := 59) (pc' := 63) rfl (hb hby at_59) (by decide) (by decide) ?_
    show Steps p.tables e below (T1.setTop (mkF m 63 #[.val (.int p1), .val (.int (3 : Int32)), .val (.ref w_ENUM), .val (.int (0 : Int32)), .val (.int (1 : Int32)), .unset] [(.int (1 : Int32))])) _
    refine XS.istore X1.here hx rfl (hb hby at_63) rfl (l' := #[.val (.int p1), .val (.int (3 : Int32)), .val (.ref w_ENUM), .val (.int (0 : Int32)), .val (.int (1 : Int32)), .val (.int (1 : Int32))]) rfl ?_
    show Steps p.tables e below (T1.setTop (mkF m 65 #[.val (.int p1), .val (.int (3 : Int32)), .val (.ref w_ENUM), .val (.int (0 : Int32)), .val (.int (1 : Int32)), .val (.int (1 : Int32))] [])) _
    refine XS.aloadN X1.here hx rfl (hb hby at_65) rfl rfl ?_
    show Steps p.tables e below (T1.setTop (mkF m 66 #[.val (.int p1), .val (.int (3 : Int32)), .val (.ref w_ENUM), .val (.int (0 : Int32)), .val (.int (1 : Int32)), .val (.int (1 : Int32))] [(.ref w_ENUM)])) _
    refine st2.trans ?_
    show Steps p.tables e below (T2.setTop (mkF m 69 #[.val (.int p1), .val (.int (3 : Int32)), .val (.ref w_ENUM), .val (.int (0 : Int32)), .val (.int (1 : Int32)), .val (.int (1 : Int32))] [(.int (1 : Int32))])) _
    refine XS.iload X2.here hx rfl (hb hby at_69) rfl ?_
    show Steps p.tables e below (T2.setTop (mkF m 71 #[.val (.int p1), .val (.int (3 : Int32)), .val (.ref w_ENUM), .val (.int (0 : Int32)), .val (.int (1 : Int32)), .val (.int (1 : Int32))] [(.int (1 : Int32)), (.int (1 : Int32))])) _
    refine XS.icmpNo X2.here hx rfl (hb hby at_71) rfl (teq (by decide)).2 ?_
    show Steps p.tables e below (T2.setTop (mkF m 74 #[.val (.int p1), .val (.int (3 : Int32)), .val (.ref w_ENUM), .val (.int (0 : Int32)), .val (.int (1 : Int32)), .val (.int (1 : Int32))] [])) _
    refine XS.iconst X2.here hx rfl (hb hby at_74) ?_
    show Steps p.tables e below (T2.setTop (mkF m 75 #[.val (.int p1), .val (.int (3 : Int32)), .val (.ref w_ENUM), .val (.int (0 : Int32)), .val (.int (1 : Int32)), .val (.int (1 : Int32))] [(.int (1 : Int32))])) _
    refine XS.goto X2.here hx rfl (pc0 := 75) (pc' := 79) rfl (hb hby at_75) (by decide) (by decide) ?_
    exact k)
  obtain ⟨fs, hr, hrun, hended, hW, hsame⟩ := X2.leave (v := some (.int (1 : Int32))) (fun h => by rw [Bd.returns] at h; cases h)
  refine ⟨_, _, pre3 _ ?_, hrun, hended, _, _, rfl, ?_, ⟨_, rfl⟩, hW, hsame.mono (by decide) (by decide)⟩
  · show Steps p.tables e below (T2.setTop (mkF m 79 #[.val (.int p1), .val (.int (3 : Int32)), .val (.ref w_ENUM), .val (.int (0 : Int32)), .val (.int (1 : Int32)), .val (.int (1 : Int32))] [(.int (1 : Int32))])) _
    exact retN X2 hx (t := .boolean) Bd.returns (by simp) (hb hby at_79) hr
  · exact ⟨rfl, N2, e2⟩
theorem ef_law4 (m : MethodId) (x0 : Int32) : entryFrame m #[(.int x0)] maxLocals = mkF m 0 #[.val (.int x0), .unset, .unset, .unset, .unset, .unset] [] := by first | (simp [entryFrame, mkF, argsToLocals, Value.category, maxLocals]; done) | rfl
set_option maxRecDepth 65536 in
set_option maxHeartbeats 40000000 in
theorem rm_law4 (l : Launch) (Z : State) (a0 : Array Value) (hw : ∀ d ∈ tables_1, d.before a0 Z = true) (ws : List Jvm.Cond) (p1 : Int32) (h0 : Heap) (n0 : Nat) (w_BLOB w_STRUCTURE w_UNION w_ENUM w_INT_ENUM w_BIG_INTEGER w_BIG_DECIMAL w_SHORT w_STRING w_BYTE w_LONG w_BOOLEAN w_RESOURCE w_MAP w_DOUBLE w_FLOAT w_MEMBER w_SERVICE w_LIST w_OPERATION w_DOCUMENT w_INTEGER w_TIMESTAMP : Addr) (hK : own_K Z h0 w_BLOB w_STRUCTURE w_UNION w_ENUM w_INT_ENUM w_BIG_INTEGER w_BIG_DECIMAL w_SHORT w_STRING w_BYTE w_LONG w_BOOLEAN w_RESOURCE w_MAP w_DOUBLE w_FLOAT w_MEMBER w_SERVICE w_LIST w_OPERATION w_DOCUMENT w_INTEGER w_TIMESTAMP) (hk : ((p1 &&& (2147483647 : Int32)) % (23 : Int32)) = (4 : Int32)) :
    MetFree l x (head1 (Jvm.Cond.code x code maxLocals ret :: ws) room_1) (fun a U => a = #[(.int p1)] ∧ Z.Warmed39 U.vm ∧ U.heap = h0) (fun _ _ _ _ _ => True) (fun _ U o U' => ∃ v L, o = .returned v ∧ own_Q (some (.int (1 : Int32))) h0 n0 v U'.heap L ∧ FrameEnd U o U' L room_1.cells room_1.slots) := by
  refine MetFree.of_bodySF (plainFor_of_name pn_0) hisR ?_
  intro p e s m args below meth c s₁ Bd hml0 hP hK0
  obtain ⟨rfl, hZ, hh⟩ := hP
  have hx := Bd.exec
  have hby := Bd.bytes
  have hml : c.maxLocals = 6 := hml0
  have hown : s.vm.findClass "com/example/falkirk/falkirk/model/ShapeTypeHasNamedMembersPinLaw" = some m.cls := findClass_of_methodNamed Bd.named
  have hnm := (name_of_methodNamed Bd.named Bd.method).1
  have X0 : Stand p l e room_1 s m #[(.int p1)] below meth c s₁ [] 0 0 := Stand.of_body Bd
  have e0 : s₁.heap = h0 := by rw [← hh, Bd.state]; rfl
  have N0 := Fr.nil n0
  have pre0 : ∀ t, Steps p.tables e below (s₁.setTop (mkF m 0 #[.val (.int p1), .unset, .unset, .unset, .unset, .unset] [])) t → Steps p.tables e below (s₁.setTop (entryFrame m #[(.int p1)] maxLocals)) t := fun t k => castTop (ef_law4 m p1) k
  have hK' := hK
  obtain ⟨S_w_BLOB, E_w_BLOB, S_w_STRUCTURE, E_w_STRUCTURE, F_ordinal_w_BLOB, F_ordinal_w_STRUCTURE, S_w_UNION, E_w_UNION, F_ordinal_w_UNION, S_w_ENUM, E_w_ENUM, F_ordinal_w_ENUM, S_w_INT_ENUM, E_w_INT_ENUM, F_ordinal_w_INT_ENUM, S_w_BIG_INTEGER, E_w_BIG_INTEGER, F_ordinal_w_BIG_INTEGER, S_w_BIG_DECIMAL, E_w_BIG_DECIMAL, F_ordinal_w_BIG_DECIMAL, S_w_SHORT, E_w_SHORT, F_ordinal_w_SHORT, S_w_STRING, E_w_STRING, F_ordinal_w_STRING, S_w_BYTE, E_w_BYTE, F_ordinal_w_BYTE, S_w_LONG, E_w_LONG, F_ordinal_w_LONG, S_w_BOOLEAN, E_w_BOOLEAN, F_ordinal_w_BOOLEAN, S_w_RESOURCE, E_w_RESOURCE, F_ordinal_w_RESOURCE, S_w_MAP, E_w_MAP, F_ordinal_w_MAP, S_w_DOUBLE, E_w_DOUBLE, F_ordinal_w_DOUBLE, S_w_FLOAT, E_w_FLOAT, F_ordinal_w_FLOAT, S_w_MEMBER, E_w_MEMBER, F_ordinal_w_MEMBER, S_w_SERVICE, E_w_SERVICE, F_ordinal_w_SERVICE, S_w_LIST, E_w_LIST, F_ordinal_w_LIST, S_w_OPERATION, E_w_OPERATION, F_ordinal_w_OPERATION, S_w_DOCUMENT, E_w_DOCUMENT, F_ordinal_w_DOCUMENT, S_w_INTEGER, E_w_INTEGER, F_ordinal_w_INTEGER, S_w_TIMESTAMP, E_w_TIMESTAMP, F_ordinal_w_TIMESTAMP⟩ := hK'
  obtain ⟨v1, _, ⟨T1, L1, k1, n1⟩, -, X1, ⟨Lc1, hQ1, l1, y1, z1⟩, st1⟩ := Jvm.LawKit.callS X0 hx (y := (⟨"com/example/falkirk/falkirk/model/ShapeTypeHasNamedMembersPinLaw", "pick", "(I)Lcom/example/falkirk/falkirk/model/ShapeType;"⟩ : MethodName)) hown (mvT hZ (hw _ (ow 1 rfl))) (mvT hZ (hw _ (ow 2 rfl))) (mvT hZ (hw _ (ow 3 rfl))) (mvT hZ (hw _ (ow 4 rfl))) (by decide) (backOf (W := 0) (rm_pick l Z a0 hw [] (4 : Int32) h0 n0 w_BLOB w_STRUCTURE w_UNION w_ENUM w_INT_ENUM w_BIG_INTEGER w_BIG_DECIMAL w_SHORT w_STRING w_BYTE w_LONG w_BOOLEAN w_RESOURCE w_MAP w_DOUBLE w_FLOAT w_MEMBER w_SERVICE w_LIST w_OPERATION w_DOCUMENT w_INTEGER w_TIMESTAMP hK) hZ (hw _ (ow 4 rfl)) (hw _ (ow 3 rfl)) (by decide) (by decide)) (g := (mkF m 9 #[.val (.int p1), .val (.int (4 : Int32)), .unset, .unset, .unset, .unset] [(.int (4 : Int32))])) rfl (by rw [hml]; rfl) (argsL := [(.int (4 : Int32))]) (rest := []) (lenOf pd_0 rfl) rfl (Nat.le_of_eq rfl) (hb hby at_9) (fun _ _ => ⟨rfl, e0, (by decide : 0 + 0 ≤ _), (by decide : 0 + 0 ≤ _)⟩)
  dsimp only [Pt.U, Pt.locs, Pt.cells, Pt.slots] at X1 l1 y1 z1 st1 hQ1
  subst l1 y1 z1
  obtain ⟨hv1, Nq1, e1⟩ := hQ1
  obtain rfl : v1 = some (.ref w_BYTE) := hv1.trans (congrArg some (congrArg Value.ref ((if_neg (by decide)).trans ((if_neg (by decide)).trans ((if_neg (by decide)).trans ((if_neg (by decide)).trans (if_pos (by decide))))))))
  have N1 := Fr.app N0 Nq1
  obtain ⟨cq2, kq2, q2a, q2b, q2c⟩ := isOf hZ e1 E_w_BYTE
  obtain ⟨v2, _, ⟨T2, L2, k2, n2⟩, -, X2, ⟨Lc2, hQ2, l2, y2, z2⟩, st2⟩ := X1.virtualBack hx (y := (⟨"com/example/falkirk/falkirk/model/ShapeType", "hasNamedMembers", "()Z"⟩ : MethodName)) (z := (⟨"com/example/falkirk/falkirk/model/ShapeType", "hasNamedMembers", "()Z"⟩ : MethodName)) hown (mvT hZ (hw _ (ow 8 rfl))) (mvT hZ (hw _ (ow 9 rfl))) (notFace_of_selects (args := #[]) (mvT hZ (hw _ (ow 11 rfl)))) (mvT hZ (hw _ (ow 11 rfl))) (mvT hZ (hw _ (ow 10 rfl))) (by decide) (backOf (W := 0) (rm_hasNamedMembers l Z a0 hw [] w_BYTE h0 n0 w_BLOB w_STRUCTURE w_UNION w_ENUM w_INT_ENUM w_BIG_INTEGER w_BIG_DECIMAL w_SHORT w_STRING w_BYTE w_LONG w_BOOLEAN w_RESOURCE w_MAP w_DOUBLE w_FLOAT w_MEMBER w_SERVICE w_LIST w_OPERATION w_DOCUMENT w_INTEGER w_TIMESTAMP hK) hZ (hw _ (ow 12 rfl)) (hw _ (ow 6 rfl)) (by decide) (by decide)) q2a q2c (g := (mkF m 66 #[.val (.int p1), .val (.int (4 : Int32)), .val (.ref w_BYTE), .val (.int (0 : Int32)), .val (.int (0 : Int32)), .val (.int (0 : Int32))] [(.ref w_BYTE)])) rfl (by rw [hml]; rfl) (Steps.refl _) (argsL := []) (rest := []) (lenOf pd_1 rfl) rfl (Nat.le_of_eq rfl) (hb hby at_66) (fun _ _ => ⟨rfl, e1, (by decide : 0 + 0 ≤ _), (by decide : 0 + 0 ≤ _)⟩)
  dsimp only [Pt.U, Pt.locs, Pt.cells, Pt.slots] at X2 l2 y2 z2 st2 hQ2
  subst l2 y2 z2
  obtain ⟨hv2, Nq2, e2⟩ := hQ2
  obtain rfl : v2 = some (.int (0 : Int32)) := hv2.trans (congrArg some (congrArg Value.int ((if_neg (Fld.ne F_ordinal_w_BYTE F_ordinal_w_STRUCTURE (by decide))).trans ((if_neg (Fld.ne F_ordinal_w_BYTE F_ordinal_w_UNION (by decide))).trans ((if_neg (Fld.ne F_ordinal_w_BYTE F_ordinal_w_ENUM (by decide))).trans (if_neg (Fld.ne F_ordinal_w_BYTE F_ordinal_w_INT_ENUM (by decide))))))))
  have N2 := Fr.app N1 Nq2
  have pre3 : ∀ t, Steps p.tables e below (T2.setTop (mkF m 79 #[.val (.int p1), .val (.int (4 : Int32)), .val (.ref w_BYTE), .val (.int (0 : Int32)), .val (.int (0 : Int32)), .val (.int (0 : Int32))] [(.int (1 : Int32))])) t → Steps p.tables e below (s₁.setTop (entryFrame m #[(.int p1)] maxLocals)) t := fun t k => pre0 t (by
    show Steps p.tables e below (s₁.setTop (mkF m 0 #[.val (.int p1), .unset, .unset, .unset, .unset, .unset] [])) _
    refine XS.iloadN X0.here hx rfl (hb hby at_0) rfl ?_
    show Steps p.tables e below (s₁.setTop (mkF m 1 #[.val (.int p1), .unset, .unset, .unset, .unset, .unset] [(.int p1)])) _
    refine X0.ldcInt hx hown (mvT hZ (hw _ (ow 0 rfl))) (g := (mkF m 1 #[.val (.int p1), .unset, .unset, .unset, .unset, .unset] [(.int p1)])) rfl (hb hby at_1) _ ?_
    show Steps p.tables e below (s₁.setTop (mkF m 3 #[.val (.int p1), .unset, .unset, .unset, .unset, .unset] [(.int (2147483647 : Int32)), (.int p1)])) _
    refine XS.iand X0.here hx rfl (hb hby at_3) rfl ?_
    show Steps p.tables e below (s₁.setTop (mkF m 4 #[.val (.int p1), .unset, .unset, .unset, .unset, .unset] [(.int (p1 &&& (2147483647 : Int32)))])) _
    refine XS.bipush X0.here hx rfl (hb hby at_4) ?_
    show Steps p.tables e below (s₁.setTop (mkF m 6 #[.val (.int p1), .unset, .unset, .unset, .unset, .unset] [(.int (23 : Int32)), (.int (p1 &&& (2147483647 : Int32)))])) _
    refine iremM X0 hx rfl (hb hby at_6) rfl (by decide) ?_
    show Steps p.tables e below (s₁.setTop (mkF m 7 #[.val (.int p1), .unset, .unset, .unset, .unset, .unset] [(.int ((p1 &&& (2147483647 : Int32)) % (23 : Int32)))])) _
    rw [hk]
    show Steps p.tables e below (s₁.setTop (mkF m 7 #[.val (.int p1), .unset, .unset, .unset, .unset, .unset] [(.int (4 : Int32))])) _
    refine XS.istoreN X0.here hx rfl (hb hby at_7) rfl (l' := #[.val (.int p1), .val (.int (4 : Int32)), .unset, .unset, .unset, .unset]) rfl ?_
    show Steps p.tables e below (s₁.setTop (mkF m 8 #[.val (.int p1), .val (.int (4 : Int32)), .unset, .unset, .unset, .unset] [])) _
    refine XS.iloadN X0.here hx rfl (hb hby at_8) rfl ?_
    show Steps p.tables e below (s₁.setTop (mkF m 9 #[.val (.int p1), .val (.int (4 : Int32)), .unset, .unset, .unset, .unset] [(.int (4 : Int32))])) _
    refine st1 _ ?_
    show Steps p.tables e below (T1.setTop (mkF m 12 #[.val (.int p1), .val (.int (4 : Int32)), .unset, .unset, .unset, .unset] [(.ref w_BYTE)])) _
    refine XS.astoreN X1.here hx rfl (hb hby at_12) rfl rfl (l' := #[.val (.int p1), .val (.int (4 : Int32)), .val (.ref w_BYTE), .unset, .unset, .unset]) rfl ?_
    show Steps p.tables e below (T1.setTop (mkF m 13 #[.val (.int p1), .val (.int (4 : Int32)), .val (.ref w_BYTE), .unset, .unset, .unset] [])) _
    refine XS.iloadN X1.here hx rfl (hb hby at_13) rfl ?_
    show Steps p.tables e below (T1.setTop (mkF m 14 #[.val (.int p1), .val (.int (4 : Int32)), .val (.ref w_BYTE), .unset, .unset, .unset] [(.int (4 : Int32))])) _
    refine XS.bipush X1.here hx rfl (hb hby at_14) ?_
    show Steps p.tables e below (T1.setTop (mkF m 16 #[.val (.int p1), .val (.int (4 : Int32)), .val (.ref w_BYTE), .unset, .unset, .unset] [(.int (17 : Int32)), (.int (4 : Int32))])) _
    refine XS.icmpNo X1.here hx rfl (hb hby at_16) rfl (feq (by decide)).1 ?_
    show Steps p.tables e below (T1.setTop (mkF m 19 #[.val (.int p1), .val (.int (4 : Int32)), .val (.ref w_BYTE), .unset, .unset, .unset] [])) _
    refine XS.iloadN X1.here hx rfl (hb hby at_19) rfl ?_
    show Steps p.tables e below (T1.setTop (mkF m 20 #[.val (.int p1), .val (.int (4 : Int32)), .val (.ref w_BYTE), .unset, .unset, .unset] [(.int (4 : Int32))])) _
    refine XS.bipush X1.here hx rfl (hb hby at_20) ?_
    show Steps p.tables e below (T1.setTop (mkF m 22 #[.val (.int p1), .val (.int (4 : Int32)), .val (.ref w_BYTE), .unset, .unset, .unset] [(.int (18 : Int32)), (.int (4 : Int32))])) _
    refine XS.icmpYes X1.here hx rfl (pc0 := 22) (pc' := 29) rfl (hb hby at_22) rfl (feq (by decide)).2 (by decide) (by decide) ?_
    show Steps p.tables e below (T1.setTop (mkF m 29 #[.val (.int p1), .val (.int (4 : Int32)), .val (.ref w_BYTE), .unset, .unset, .unset] [])) _
    refine XS.iconst X1.here hx rfl (hb hby at_29) ?_
    show Steps p.tables e below (T1.setTop (mkF m 30 #[.val (.int p1), .val (.int (4 : Int32)), .val (.ref w_BYTE), .unset, .unset, .unset] [(.int (0 : Int32))])) _
    refine XS.istoreN X1.here hx rfl (hb hby at_30) rfl (l' := #[.val (.int p1), .val (.int (4 : Int32)), .val (.ref w_BYTE), .val (.int (0 : Int32)), .unset, .unset]) rfl ?_
    show Steps p.tables e below (T1.setTop (mkF m 31 #[.val (.int p1), .val (.int (4 : Int32)), .val (.ref w_BYTE), .val (.int (0 : Int32)), .unset, .unset] [])) _
    refine XS.iloadN X1.here hx rfl (hb hby at_31) rfl ?_
    show Steps p.tables e below (T1.setTop (mkF m 32 #[.val (.int p1), .val (.int (4 : Int32)), .val (.ref w_BYTE), .val (.int (0 : Int32)), .unset, .unset] [(.int (4 : Int32))])) _
    refine XS.iconst X1.here hx rfl (hb hby at_32) ?_
    show Steps p.tables e below (T1.setTop (mkF m 33 #[.val (.int p1), .val (.int (4 : Int32)), .val (.ref w_BYTE), .val (.int (0 : Int32)), .unset, .unset] [(.int (3 : Int32)), (.int (4 : Int32))])) _
    refine XS.icmpNo X1.here hx rfl (hb hby at_33) rfl (feq (by decide)).1 ?_
    show Steps p.tables e below (T1.setTop (mkF m 36 #[.val (.int p1), .val (.int (4 : Int32)), .val (.ref w_BYTE), .val (.int (0 : Int32)), .unset, .unset] [])) _
    refine XS.iloadN X1.here hx rfl (hb hby at_36) rfl ?_
    show Steps p.tables e below (T1.setTop (mkF m 37 #[.val (.int p1), .val (.int (4 : Int32)), .val (.ref w_BYTE), .val (.int (0 : Int32)), .unset, .unset] [(.int (4 : Int32))])) _
    refine XS.bipush X1.here hx rfl (hb hby at_37) ?_
    show Steps p.tables e below (T1.setTop (mkF m 39 #[.val (.int p1), .val (.int (4 : Int32)), .val (.ref w_BYTE), .val (.int (0 : Int32)), .unset, .unset] [(.int (7 : Int32)), (.int (4 : Int32))])) _
    refine XS.icmpYes X1.here hx rfl (pc0 := 39) (pc' := 46) rfl (hb hby at_39) rfl (feq (by decide)).2 (by decide) (by decide) ?_
    show Steps p.tables e below (T1.setTop (mkF m 46 #[.val (.int p1), .val (.int (4 : Int32)), .val (.ref w_BYTE), .val (.int (0 : Int32)), .unset, .unset] [])) _
    refine XS.iconst X1.here hx rfl (hb hby at_46) ?_
    show Steps p.tables e below (T1.setTop (mkF m 47 #[.val (.int p1), .val (.int (4 : Int32)), .val (.ref w_BYTE), .val (.int (0 : Int32)), .unset, .unset] [(.int (0 : Int32))])) _
    refine XS.istore X1.here hx rfl (hb hby at_47) rfl (l' := #[.val (.int p1), .val (.int (4 : Int32)), .val (.ref w_BYTE), .val (.int (0 : Int32)), .val (.int (0 : Int32)), .unset]) rfl ?_
    show Steps p.tables e below (T1.setTop (mkF m 49 #[.val (.int p1), .val (.int (4 : Int32)), .val (.ref w_BYTE), .val (.int (0 : Int32)), .val (.int (0 : Int32)), .unset] [])) _
    refine XS.iloadN X1.here hx rfl (hb hby at_49) rfl ?_
    show Steps p.tables e below (T1.setTop (mkF m 50 #[.val (.int p1), .val (.int (4 : Int32)), .val (.ref w_BYTE), .val (.int (0 : Int32)), .val (.int (0 : Int32)), .unset] [(.int (0 : Int32))])) _
    refine XS.ifNo X1.here hx rfl (hb hby at_50) rfl ((if0 _ _).trans (teq (by decide)).2) ?_
    show Steps p.tables e below (T1.setTop (mkF m 53 #[.val (.int p1), .val (.int (4 : Int32)), .val (.ref w_BYTE), .val (.int (0 : Int32)), .val (.int (0 : Int32)), .unset] [])) _
    refine XS.iload X1.here hx rfl (hb hby at_53) rfl ?_
    show Steps p.tables e below (T1.setTop (mkF m 55 #[.val (.int p1), .val (.int (4 : Int32)), .val (.ref w_BYTE), .val (.int (0 : Int32)), .val (.int (0 : Int32)), .unset] [(.int (0 : Int32))])) _
    refine XS.ifYes X1.here hx rfl (pc0 := 55) (pc' := 62) rfl (hb hby at_55) rfl ((if0 _ _).trans (teq (by decide)).1) (by decide) (by decide) ?_
    show Steps p.tables e below (T1.setTop (mkF m 62 #[.val (.int p1), .val (.int (4 : Int32)), .val (.ref w_BYTE), .val (.int (0 : Int32)), .val (.int (0 : Int32)), .unset] [])) _
    refine XS.iconst X1.here hx rfl (hb hby at_62) ?_
    show Steps p.tables e below (T1.setTop (mkF m 63 #[.val (.int p1), .val (.int (4 : Int32)), .val (.ref w_BYTE), .val (.int (0 : Int32)), .val (.int (0 : Int32)), .unset] [(.int (0 : Int32))])) _
    refine XS.istore X1.here hx rfl (hb hby at_63) rfl (l' := #[.val (.int p1), .val (.int (4 : Int32)), .val (.ref w_BYTE), .val (.int (0 : Int32)), .val (.int (0 : Int32)), .val (.int (0 : Int32))]) rfl ?_
    show Steps p.tables e below (T1.setTop (mkF m 65 #[.val (.int p1), .val (.int (4 : Int32)), .val (.ref w_BYTE), .val (.int (0 : Int32)), .val (.int (0 : Int32)), .val (.int (0 : Int32))] [])) _
    refine XS.aloadN X1.here hx rfl (hb hby at_65) rfl rfl ?_
    show Steps p.tables e below (T1.setTop (mkF m 66 #[.val (.int p1), .val (.int (4 : Int32)), .val (.ref w_BYTE), .val (.int (0 : Int32)), .val (.int (0 : Int32)), .val (.int (0 : Int32))] [(.ref w_BYTE)])) _
    refine st2.trans ?_
    show Steps p.tables e below (T2.setTop (mkF m 69 #[.val (.int p1), .val (.int (4 : Int32)), .val (.ref w_BYTE), .val (.int (0 : Int32)), .val (.int (0 : Int32)), .val (.int (0 : Int32))] [(.int (0 : Int32))])) _
    refine XS.iload X2.here hx rfl (hb hby at_69) rfl ?_
    show Steps p.tables e below (T2.setTop (mkF m 71 #[.val (.int p1), .val (.int (4 : Int32)), .val (.ref w_BYTE), .val (.int (0 : Int32)), .val (.int (0 : Int32)), .val (.int (0 : Int32))] [(.int (0 : Int32)), (.int (0 : Int32))])) _
    refine XS.icmpNo X2.here hx rfl (hb hby at_71) rfl (teq (by decide)).2 ?_
    show Steps p.tables e below (T2.setTop (mkF m 74 #[.val (.int p1), .val (.int (4 : Int32)), .val (.ref w_BYTE), .val (.int (0 : Int32)), .val (.int (0 : Int32)), .val (.int (0 : Int32))] [])) _
    refine XS.iconst X2.here hx rfl (hb hby at_74) ?_
    show Steps p.tables e below (T2.setTop (mkF m 75 #[.val (.int p1), .val (.int (4 : Int32)), .val (.ref w_BYTE), .val (.int (0 : Int32)), .val (.int (0 : Int32)), .val (.int (0 : Int32))] [(.int (1 : Int32))])) _
    refine XS.goto X2.here hx rfl (pc0 := 75) (pc' := 79) rfl (hb hby at_75) (by decide) (by decide) ?_
    exact k)
  obtain ⟨fs, hr, hrun, hended, hW, hsame⟩ := X2.leave (v := some (.int (1 : Int32))) (fun h => by rw [Bd.returns] at h; cases h)
  refine ⟨_, _, pre3 _ ?_, hrun, hended, _, _, rfl, ?_, ⟨_, rfl⟩, hW, hsame.mono (by decide) (by decide)⟩
  · show Steps p.tables e below (T2.setTop (mkF m 79 #[.val (.int p1), .val (.int (4 : Int32)), .val (.ref w_BYTE), .val (.int (0 : Int32)), .val (.int (0 : Int32)), .val (.int (0 : Int32))] [(.int (1 : Int32))])) _
    exact retN X2 hx (t := .boolean) Bd.returns (by simp) (hb hby at_79) hr
  · exact ⟨rfl, N2, e2⟩
theorem ef_law5 (m : MethodId) (x0 : Int32) : entryFrame m #[(.int x0)] maxLocals = mkF m 0 #[.val (.int x0), .unset, .unset, .unset, .unset, .unset] [] := by first | (simp [entryFrame, mkF, argsToLocals, Value.category, maxLocals]; done) | rfl
set_option maxRecDepth 65536 in
set_option maxHeartbeats 40000000 in
theorem rm_law5 (l : Launch) (Z : State) (a0 : Array Value) (hw : ∀ d ∈ tables_1, d.before a0 Z = true) (ws : List Jvm.Cond) (p1 : Int32) (h0 : Heap) (n0 : Nat) (w_BLOB w_STRUCTURE w_UNION w_ENUM w_INT_ENUM w_BIG_INTEGER w_BIG_DECIMAL w_SHORT w_STRING w_BYTE w_LONG w_BOOLEAN w_RESOURCE w_MAP w_DOUBLE w_FLOAT w_MEMBER w_SERVICE w_LIST w_OPERATION w_DOCUMENT w_INTEGER w_TIMESTAMP : Addr) (hK : own_K Z h0 w_BLOB w_STRUCTURE w_UNION w_ENUM w_INT_ENUM w_BIG_INTEGER w_BIG_DECIMAL w_SHORT w_STRING w_BYTE w_LONG w_BOOLEAN w_RESOURCE w_MAP w_DOUBLE w_FLOAT w_MEMBER w_SERVICE w_LIST w_OPERATION w_DOCUMENT w_INTEGER w_TIMESTAMP) (hk : ((p1 &&& (2147483647 : Int32)) % (23 : Int32)) = (5 : Int32)) :
    MetFree l x (head1 (Jvm.Cond.code x code maxLocals ret :: ws) room_1) (fun a U => a = #[(.int p1)] ∧ Z.Warmed39 U.vm ∧ U.heap = h0) (fun _ _ _ _ _ => True) (fun _ U o U' => ∃ v L, o = .returned v ∧ own_Q (some (.int (1 : Int32))) h0 n0 v U'.heap L ∧ FrameEnd U o U' L room_1.cells room_1.slots) := by
  refine MetFree.of_bodySF (plainFor_of_name pn_0) hisR ?_
  intro p e s m args below meth c s₁ Bd hml0 hP hK0
  obtain ⟨rfl, hZ, hh⟩ := hP
  have hx := Bd.exec
  have hby := Bd.bytes
  have hml : c.maxLocals = 6 := hml0
  have hown : s.vm.findClass "com/example/falkirk/falkirk/model/ShapeTypeHasNamedMembersPinLaw" = some m.cls := findClass_of_methodNamed Bd.named
  have hnm := (name_of_methodNamed Bd.named Bd.method).1
  have X0 : Stand p l e room_1 s m #[(.int p1)] below meth c s₁ [] 0 0 := Stand.of_body Bd
  have e0 : s₁.heap = h0 := by rw [← hh, Bd.state]; rfl
  have N0 := Fr.nil n0
  have pre0 : ∀ t, Steps p.tables e below (s₁.setTop (mkF m 0 #[.val (.int p1), .unset, .unset, .unset, .unset, .unset] [])) t → Steps p.tables e below (s₁.setTop (entryFrame m #[(.int p1)] maxLocals)) t := fun t k => castTop (ef_law5 m p1) k
  have hK' := hK
  obtain ⟨S_w_BLOB, E_w_BLOB, S_w_STRUCTURE, E_w_STRUCTURE, F_ordinal_w_BLOB, F_ordinal_w_STRUCTURE, S_w_UNION, E_w_UNION, F_ordinal_w_UNION, S_w_ENUM, E_w_ENUM, F_ordinal_w_ENUM, S_w_INT_ENUM, E_w_INT_ENUM, F_ordinal_w_INT_ENUM, S_w_BIG_INTEGER, E_w_BIG_INTEGER, F_ordinal_w_BIG_INTEGER, S_w_BIG_DECIMAL, E_w_BIG_DECIMAL, F_ordinal_w_BIG_DECIMAL, S_w_SHORT, E_w_SHORT, F_ordinal_w_SHORT, S_w_STRING, E_w_STRING, F_ordinal_w_STRING, S_w_BYTE, E_w_BYTE, F_ordinal_w_BYTE, S_w_LONG, E_w_LONG, F_ordinal_w_LONG, S_w_BOOLEAN, E_w_BOOLEAN, F_ordinal_w_BOOLEAN, S_w_RESOURCE, E_w_RESOURCE, F_ordinal_w_RESOURCE, S_w_MAP, E_w_MAP, F_ordinal_w_MAP, S_w_DOUBLE, E_w_DOUBLE, F_ordinal_w_DOUBLE, S_w_FLOAT, E_w_FLOAT, F_ordinal_w_FLOAT, S_w_MEMBER, E_w_MEMBER, F_ordinal_w_MEMBER, S_w_SERVICE, E_w_SERVICE, F_ordinal_w_SERVICE, S_w_LIST, E_w_LIST, F_ordinal_w_LIST, S_w_OPERATION, E_w_OPERATION, F_ordinal_w_OPERATION, S_w_DOCUMENT, E_w_DOCUMENT, F_ordinal_w_DOCUMENT, S_w_INTEGER, E_w_INTEGER, F_ordinal_w_INTEGER, S_w_TIMESTAMP, E_w_TIMESTAMP, F_ordinal_w_TIMESTAMP⟩ := hK'
  obtain ⟨v1, _, ⟨T1, L1, k1, n1⟩, -, X1, ⟨Lc1, hQ1, l1, y1, z1⟩, st1⟩ := Jvm.LawKit.callS X0 hx (y := (⟨"com/example/falkirk/falkirk/model/ShapeTypeHasNamedMembersPinLaw", "pick", "(I)Lcom/example/falkirk/falkirk/model/ShapeType;"⟩ : MethodName)) hown (mvT hZ (hw _ (ow 1 rfl))) (mvT hZ (hw _ (ow 2 rfl))) (mvT hZ (hw _ (ow 3 rfl))) (mvT hZ (hw _ (ow 4 rfl))) (by decide) (backOf (W := 0) (rm_pick l Z a0 hw [] (5 : Int32) h0 n0 w_BLOB w_STRUCTURE w_UNION w_ENUM w_INT_ENUM w_BIG_INTEGER w_BIG_DECIMAL w_SHORT w_STRING w_BYTE w_LONG w_BOOLEAN w_RESOURCE w_MAP w_DOUBLE w_FLOAT w_MEMBER w_SERVICE w_LIST w_OPERATION w_DOCUMENT w_INTEGER w_TIMESTAMP hK) hZ (hw _ (ow 4 rfl)) (hw _ (ow 3 rfl)) (by decide) (by decide)) (g := (mkF m 9 #[.val (.int p1), .val (.int (5 : Int32)), .unset, .unset, .unset, .unset] [(.int (5 : Int32))])) rfl (by rw [hml]; rfl) (argsL := [(.int (5 : Int32))]) (rest := []) (lenOf pd_0 rfl) rfl (Nat.le_of_eq rfl) (hb hby at_9) (fun _ _ => ⟨rfl, e0, (by decide : 0 + 0 ≤ _), (by decide : 0 + 0 ≤ _)⟩)
  dsimp only [Pt.U, Pt.locs, Pt.cells, Pt.slots] at X1 l1 y1 z1 st1 hQ1
  subst l1 y1 z1
  obtain ⟨hv1, Nq1, e1⟩ := hQ1
  obtain rfl : v1 = some (.ref w_SHORT) := hv1.trans (congrArg some (congrArg Value.ref ((if_neg (by decide)).trans ((if_neg (by decide)).trans ((if_neg (by decide)).trans ((if_neg (by decide)).trans ((if_neg (by decide)).trans (if_pos (by decide)))))))))
  have N1 := Fr.app N0 Nq1
  obtain ⟨cq2, kq2, q2a, q2b, q2c⟩ := isOf hZ e1 E_w_SHORT
  obtain ⟨v2, _, ⟨T2, L2, k2, n2⟩, -, X2, ⟨Lc2, hQ2, l2, y2, z2⟩, st2⟩ := X1.virtualBack hx (y := (⟨"com/example/falkirk/falkirk/model/ShapeType", "hasNamedMembers", "()Z"⟩ : MethodName)) (z := (⟨"com/example/falkirk/falkirk/model/ShapeType", "hasNamedMembers", "()Z"⟩ : MethodName)) hown (mvT hZ (hw _ (ow 8 rfl))) (mvT hZ (hw _ (ow 9 rfl))) (notFace_of_selects (args := #[]) (mvT hZ (hw _ (ow 11 rfl)))) (mvT hZ (hw _ (ow 11 rfl))) (mvT hZ (hw _ (ow 10 rfl))) (by decide) (backOf (W := 0) (rm_hasNamedMembers l Z a0 hw [] w_SHORT h0 n0 w_BLOB w_STRUCTURE w_UNION w_ENUM w_INT_ENUM w_BIG_INTEGER w_BIG_DECIMAL w_SHORT w_STRING w_BYTE w_LONG w_BOOLEAN w_RESOURCE w_MAP w_DOUBLE w_FLOAT w_MEMBER w_SERVICE w_LIST w_OPERATION w_DOCUMENT w_INTEGER w_TIMESTAMP hK) hZ (hw _ (ow 12 rfl)) (hw _ (ow 6 rfl)) (by decide) (by decide)) q2a q2c (g := (mkF m 66 #[.val (.int p1), .val (.int (5 : Int32)), .val (.ref w_SHORT), .val (.int (0 : Int32)), .val (.int (0 : Int32)), .val (.int (0 : Int32))] [(.ref w_SHORT)])) rfl (by rw [hml]; rfl) (Steps.refl _) (argsL := []) (rest := []) (lenOf pd_1 rfl) rfl (Nat.le_of_eq rfl) (hb hby at_66) (fun _ _ => ⟨rfl, e1, (by decide : 0 + 0 ≤ _), (by decide : 0 + 0 ≤ _)⟩)
  dsimp only [Pt.U, Pt.locs, Pt.cells, Pt.slots] at X2 l2 y2 z2 st2 hQ2
  subst l2 y2 z2
  obtain ⟨hv2, Nq2, e2⟩ := hQ2
  obtain rfl : v2 = some (.int (0 : Int32)) := hv2.trans (congrArg some (congrArg Value.int ((if_neg (Fld.ne F_ordinal_w_SHORT F_ordinal_w_STRUCTURE (by decide))).trans ((if_neg (Fld.ne F_ordinal_w_SHORT F_ordinal_w_UNION (by decide))).trans ((if_neg (Fld.ne F_ordinal_w_SHORT F_ordinal_w_ENUM (by decide))).trans (if_neg (Fld.ne F_ordinal_w_SHORT F_ordinal_w_INT_ENUM (by decide))))))))
  have N2 := Fr.app N1 Nq2
  have pre3 : ∀ t, Steps p.tables e below (T2.setTop (mkF m 79 #[.val (.int p1), .val (.int (5 : Int32)), .val (.ref w_SHORT), .val (.int (0 : Int32)), .val (.int (0 : Int32)), .val (.int (0 : Int32))] [(.int (1 : Int32))])) t → Steps p.tables e below (s₁.setTop (entryFrame m #[(.int p1)] maxLocals)) t := fun t k => pre0 t (by
    show Steps p.tables e below (s₁.setTop (mkF m 0 #[.val (.int p1), .unset, .unset, .unset, .unset, .unset] [])) _
    refine XS.iloadN X0.here hx rfl (hb hby at_0) rfl ?_
    show Steps p.tables e below (s₁.setTop (mkF m 1 #[.val (.int p1), .unset, .unset, .unset, .unset, .unset] [(.int p1)])) _
    refine X0.ldcInt hx hown (mvT hZ (hw _ (ow 0 rfl))) (g := (mkF m 1 #[.val (.int p1), .unset, .unset, .unset, .unset, .unset] [(.int p1)])) rfl (hb hby at_1) _ ?_
    show Steps p.tables e below (s₁.setTop (mkF m 3 #[.val (.int p1), .unset, .unset, .unset, .unset, .unset] [(.int (2147483647 : Int32)), (.int p1)])) _
    refine XS.iand X0.here hx rfl (hb hby at_3) rfl ?_
    show Steps p.tables e below (s₁.setTop (mkF m 4 #[.val (.int p1), .unset, .unset, .unset, .unset, .unset] [(.int (p1 &&& (2147483647 : Int32)))])) _
    refine XS.bipush X0.here hx rfl (hb hby at_4) ?_
    show Steps p.tables e below (s₁.setTop (mkF m 6 #[.val (.int p1), .unset, .unset, .unset, .unset, .unset] [(.int (23 : Int32)), (.int (p1 &&& (2147483647 : Int32)))])) _
    refine iremM X0 hx rfl (hb hby at_6) rfl (by decide) ?_
    show Steps p.tables e below (s₁.setTop (mkF m 7 #[.val (.int p1), .unset, .unset, .unset, .unset, .unset] [(.int ((p1 &&& (2147483647 : Int32)) % (23 : Int32)))])) _
    rw [hk]
    show Steps p.tables e below (s₁.setTop (mkF m 7 #[.val (.int p1), .unset, .unset, .unset, .unset, .unset] [(.int (5 : Int32))])) _
    refine XS.istoreN X0.here hx rfl (hb hby at_7) rfl (l' := #[.val (.int p1), .val (.int (5 : Int32)), .unset, .unset, .unset, .unset]) rfl ?_
    show Steps p.tables e below (s₁.setTop (mkF m 8 #[.val (.int p1), .val (.int (5 : Int32)), .unset, .unset, .unset, .unset] [])) _
    refine XS.iloadN X0.here hx rfl (hb hby at_8) rfl ?_
    show Steps p.tables e below (s₁.setTop (mkF m 9 #[.val (.int p1), .val (.int (5 : Int32)), .unset, .unset, .unset, .unset] [(.int (5 : Int32))])) _
    refine st1 _ ?_
    show Steps p.tables e below (T1.setTop (mkF m 12 #[.val (.int p1), .val (.int (5 : Int32)), .unset, .unset, .unset, .unset] [(.ref w_SHORT)])) _
    refine XS.astoreN X1.here hx rfl (hb hby at_12) rfl rfl (l' := #[.val (.int p1), .val (.int (5 : Int32)), .val (.ref w_SHORT), .unset, .unset, .unset]) rfl ?_
    show Steps p.tables e below (T1.setTop (mkF m 13 #[.val (.int p1), .val (.int (5 : Int32)), .val (.ref w_SHORT), .unset, .unset, .unset] [])) _
    refine XS.iloadN X1.here hx rfl (hb hby at_13) rfl ?_
    show Steps p.tables e below (T1.setTop (mkF m 14 #[.val (.int p1), .val (.int (5 : Int32)), .val (.ref w_SHORT), .unset, .unset, .unset] [(.int (5 : Int32))])) _
    refine XS.bipush X1.here hx rfl (hb hby at_14) ?_
    show Steps p.tables e below (T1.setTop (mkF m 16 #[.val (.int p1), .val (.int (5 : Int32)), .val (.ref w_SHORT), .unset, .unset, .unset] [(.int (17 : Int32)), (.int (5 : Int32))])) _
    refine XS.icmpNo X1.here hx rfl (hb hby at_16) rfl (feq (by decide)).1 ?_
    show Steps p.tables e below (T1.setTop (mkF m 19 #[.val (.int p1), .val (.int (5 : Int32)), .val (.ref w_SHORT), .unset, .unset, .unset] [])) _
    refine XS.iloadN X1.here hx rfl (hb hby at_19) rfl ?_
    show Steps p.tables e below (T1.setTop (mkF m 20 #[.val (.int p1), .val (.int (5 : Int32)), .val (.ref w_SHORT), .unset, .unset, .unset] [(.int (5 : Int32))])) _
    refine XS.bipush X1.here hx rfl (hb hby at_20) ?_
    show Steps p.tables e below (T1.setTop (mkF m 22 #[.val (.int p1), .val (.int (5 : Int32)), .val (.ref w_SHORT), .unset, .unset, .unset] [(.int (18 : Int32)), (.int (5 : Int32))])) _
    refine XS.icmpYes X1.here hx rfl (pc0 := 22) (pc' := 29) rfl (hb hby at_22) rfl (feq (by decide)).2 (by decide) (by decide) ?_
    show Steps p.tables e below (T1.setTop (mkF m 29 #[.val (.int p1), .val (.int (5 : Int32)), .val (.ref w_SHORT), .unset, .unset, .unset] [])) _
    refine XS.iconst X1.here hx rfl (hb hby at_29) ?_
    show Steps p.tables e below (T1.setTop (mkF m 30 #[.val (.int p1), .val (.int (5 : Int32)), .val (.ref w_SHORT), .unset, .unset, .unset] [(.int (0 : Int32))])) _
    refine XS.istoreN X1.here hx rfl (hb hby at_30) rfl (l' := #[.val (.int p1), .val (.int (5 : Int32)), .val (.ref w_SHORT), .val (.int (0 : Int32)), .unset, .unset]) rfl ?_
    show Steps p.tables e below (T1.setTop (mkF m 31 #[.val (.int p1), .val (.int (5 : Int32)), .val (.ref w_SHORT), .val (.int (0 : Int32)), .unset, .unset] [])) _
    refine XS.iloadN X1.here hx rfl (hb hby at_31) rfl ?_
    show Steps p.tables e below (T1.setTop (mkF m 32 #[.val (.int p1), .val (.int (5 : Int32)), .val (.ref w_SHORT), .val (.int (0 : Int32)), .unset, .unset] [(.int (5 : Int32))])) _
    refine XS.iconst X1.here hx rfl (hb hby at_32) ?_
    show Steps p.tables e below (T1.setTop (mkF m 33 #[.val (.int p1), .val (.int (5 : Int32)), .val (.ref w_SHORT), .val (.int (0 : Int32)), .unset, .unset] [(.int (3 : Int32)), (.int (5 : Int32))])) _
    refine XS.icmpNo X1.here hx rfl (hb hby at_33) rfl (feq (by decide)).1 ?_
    show Steps p.tables e below (T1.setTop (mkF m 36 #[.val (.int p1), .val (.int (5 : Int32)), .val (.ref w_SHORT), .val (.int (0 : Int32)), .unset, .unset] [])) _
    refine XS.iloadN X1.here hx rfl (hb hby at_36) rfl ?_
    show Steps p.tables e below (T1.setTop (mkF m 37 #[.val (.int p1), .val (.int (5 : Int32)), .val (.ref w_SHORT), .val (.int (0 : Int32)), .unset, .unset] [(.int (5 : Int32))])) _
    refine XS.bipush X1.here hx rfl (hb hby at_37) ?_
    show Steps p.tables e below (T1.setTop (mkF m 39 #[.val (.int p1), .val (.int (5 : Int32)), .val (.ref w_SHORT), .val (.int (0 : Int32)), .unset, .unset] [(.int (7 : Int32)), (.int (5 : Int32))])) _
    refine XS.icmpYes X1.here hx rfl (pc0 := 39) (pc' := 46) rfl (hb hby at_39) rfl (feq (by decide)).2 (by decide) (by decide) ?_
    show Steps p.tables e below (T1.setTop (mkF m 46 #[.val (.int p1), .val (.int (5 : Int32)), .val (.ref w_SHORT), .val (.int (0 : Int32)), .unset, .unset] [])) _
    refine XS.iconst X1.here hx rfl (hb hby at_46) ?_
    show Steps p.tables e below (T1.setTop (mkF m 47 #[.val (.int p1), .val (.int (5 : Int32)), .val (.ref w_SHORT), .val (.int (0 : Int32)), .unset, .unset] [(.int (0 : Int32))])) _
    refine XS.istore X1.here hx rfl (hb hby at_47) rfl (l' := #[.val (.int p1), .val (.int (5 : Int32)), .val (.ref w_SHORT), .val (.int (0 : Int32)), .val (.int (0 : Int32)), .unset]) rfl ?_
    show Steps p.tables e below (T1.setTop (mkF m 49 #[.val (.int p1), .val (.int (5 : Int32)), .val (.ref w_SHORT), .val (.int (0 : Int32)), .val (.int (0 : Int32)), .unset] [])) _
    refine XS.iloadN X1.here hx rfl (hb hby at_49) rfl ?_
    show Steps p.tables e below (T1.setTop (mkF m 50 #[.val (.int p1), .val (.int (5 : Int32)), .val (.ref w_SHORT), .val (.int (0 : Int32)), .val (.int (0 : Int32)), .unset] [(.int (0 : Int32))])) _
    refine XS.ifNo X1.here hx rfl (hb hby at_50) rfl ((if0 _ _).trans (teq (by decide)).2) ?_
    show Steps p.tables e below (T1.setTop (mkF m 53 #[.val (.int p1), .val (.int (5 : Int32)), .val (.ref w_SHORT), .val (.int (0 : Int32)), .val (.int (0 : Int32)), .unset] [])) _
    refine XS.iload X1.here hx rfl (hb hby at_53) rfl ?_
    show Steps p.tables e below (T1.setTop (mkF m 55 #[.val (.int p1), .val (.int (5 : Int32)), .val (.ref w_SHORT), .val (.int (0 : Int32)), .val (.int (0 : Int32)), .unset] [(.int (0 : Int32))])) _
    refine XS.ifYes X1.here hx rfl (pc0 := 55) (pc' := 62) rfl (hb hby at_55) rfl ((if0 _ _).trans (teq (by decide)).1) (by decide) (by decide) ?_
    show Steps p.tables e below (T1.setTop (mkF m 62 #[.val (.int p1), .val (.int (5 : Int32)), .val (.ref w_SHORT), .val (.int (0 : Int32)), .val (.int (0 : Int32)), .unset] [])) _
    refine XS.iconst X1.here hx rfl (hb hby at_62) ?_
    show Steps p.tables e below (T1.setTop (mkF m 63 #[.val (.int p1), .val (.int (5 : Int32)), .val (.ref w_SHORT), .val (.int (0 : Int32)), .val (.int (0 : Int32)), .unset] [(.int (0 : Int32))])) _
    refine XS.istore X1.here hx rfl (hb hby at_63) rfl (l' := #[.val (.int p1), .val (.int (5 : Int32)), .val (.ref w_SHORT), .val (.int (0 : Int32)), .val (.int (0 : Int32)), .val (.int (0 : Int32))]) rfl ?_
    show Steps p.tables e below (T1.setTop (mkF m 65 #[.val (.int p1), .val (.int (5 : Int32)), .val (.ref w_SHORT), .val (.int (0 : Int32)), .val (.int (0 : Int32)), .val (.int (0 : Int32))] [])) _
    refine XS.aloadN X1.here hx rfl (hb hby at_65) rfl rfl ?_
    show Steps p.tables e below (T1.setTop (mkF m 66 #[.val (.int p1), .val (.int (5 : Int32)), .val (.ref w_SHORT), .val (.int (0 : Int32)), .val (.int (0 : Int32)), .val (.int (0 : Int32))] [(.ref w_SHORT)])) _
    refine st2.trans ?_
    show Steps p.tables e below (T2.setTop (mkF m 69 #[.val (.int p1), .val (.int (5 : Int32)), .val (.ref w_SHORT), .val (.int (0 : Int32)), .val (.int (0 : Int32)), .val (.int (0 : Int32))] [(.int (0 : Int32))])) _
    refine XS.iload X2.here hx rfl (hb hby at_69) rfl ?_
    show Steps p.tables e below (T2.setTop (mkF m 71 #[.val (.int p1), .val (.int (5 : Int32)), .val (.ref w_SHORT), .val (.int (0 : Int32)), .val (.int (0 : Int32)), .val (.int (0 : Int32))] [(.int (0 : Int32)), (.int (0 : Int32))])) _
    refine XS.icmpNo X2.here hx rfl (hb hby at_71) rfl (teq (by decide)).2 ?_
    show Steps p.tables e below (T2.setTop (mkF m 74 #[.val (.int p1), .val (.int (5 : Int32)), .val (.ref w_SHORT), .val (.int (0 : Int32)), .val (.int (0 : Int32)), .val (.int (0 : Int32))] [])) _
    refine XS.iconst X2.here hx rfl (hb hby at_74) ?_
    show Steps p.tables e below (T2.setTop (mkF m 75 #[.val (.int p1), .val (.int (5 : Int32)), .val (.ref w_SHORT), .val (.int (0 : Int32)), .val (.int (0 : Int32)), .val (.int (0 : Int32))] [(.int (1 : Int32))])) _
    refine XS.goto X2.here hx rfl (pc0 := 75) (pc' := 79) rfl (hb hby at_75) (by decide) (by decide) ?_
    exact k)
  obtain ⟨fs, hr, hrun, hended, hW, hsame⟩ := X2.leave (v := some (.int (1 : Int32))) (fun h => by rw [Bd.returns] at h; cases h)
  refine ⟨_, _, pre3 _ ?_, hrun, hended, _, _, rfl, ?_, ⟨_, rfl⟩, hW, hsame.mono (by decide) (by decide)⟩
  · show Steps p.tables e below (T2.setTop (mkF m 79 #[.val (.int p1), .val (.int (5 : Int32)), .val (.ref w_SHORT), .val (.int (0 : Int32)), .val (.int (0 : Int32)), .val (.int (0 : Int32))] [(.int (1 : Int32))])) _
    exact retN X2 hx (t := .boolean) Bd.returns (by simp) (hb hby at_79) hr
  · exact ⟨rfl, N2, e2⟩
theorem ef_law6 (m : MethodId) (x0 : Int32) : entryFrame m #[(.int x0)] maxLocals = mkF m 0 #[.val (.int x0), .unset, .unset, .unset, .unset, .unset] [] := by first | (simp [entryFrame, mkF, argsToLocals, Value.category, maxLocals]; done) | rfl
set_option maxRecDepth 65536 in
set_option maxHeartbeats 40000000 in
theorem rm_law6 (l : Launch) (Z : State) (a0 : Array Value) (hw : ∀ d ∈ tables_1, d.before a0 Z = true) (ws : List Jvm.Cond) (p1 : Int32) (h0 : Heap) (n0 : Nat) (w_BLOB w_STRUCTURE w_UNION w_ENUM w_INT_ENUM w_BIG_INTEGER w_BIG_DECIMAL w_SHORT w_STRING w_BYTE w_LONG w_BOOLEAN w_RESOURCE w_MAP w_DOUBLE w_FLOAT w_MEMBER w_SERVICE w_LIST w_OPERATION w_DOCUMENT w_INTEGER w_TIMESTAMP : Addr) (hK : own_K Z h0 w_BLOB w_STRUCTURE w_UNION w_ENUM w_INT_ENUM w_BIG_INTEGER w_BIG_DECIMAL w_SHORT w_STRING w_BYTE w_LONG w_BOOLEAN w_RESOURCE w_MAP w_DOUBLE w_FLOAT w_MEMBER w_SERVICE w_LIST w_OPERATION w_DOCUMENT w_INTEGER w_TIMESTAMP) (hk : ((p1 &&& (2147483647 : Int32)) % (23 : Int32)) = (6 : Int32)) :
    MetFree l x (head1 (Jvm.Cond.code x code maxLocals ret :: ws) room_1) (fun a U => a = #[(.int p1)] ∧ Z.Warmed39 U.vm ∧ U.heap = h0) (fun _ _ _ _ _ => True) (fun _ U o U' => ∃ v L, o = .returned v ∧ own_Q (some (.int (1 : Int32))) h0 n0 v U'.heap L ∧ FrameEnd U o U' L room_1.cells room_1.slots) := by
  refine MetFree.of_bodySF (plainFor_of_name pn_0) hisR ?_
  intro p e s m args below meth c s₁ Bd hml0 hP hK0
  obtain ⟨rfl, hZ, hh⟩ := hP
  have hx := Bd.exec
  have hby := Bd.bytes
  have hml : c.maxLocals = 6 := hml0
  have hown : s.vm.findClass "com/example/falkirk/falkirk/model/ShapeTypeHasNamedMembersPinLaw" = some m.cls := findClass_of_methodNamed Bd.named
  have hnm := (name_of_methodNamed Bd.named Bd.method).1
  have X0 : Stand p l e room_1 s m #[(.int p1)] below meth c s₁ [] 0 0 := Stand.of_body Bd
  have e0 : s₁.heap = h0 := by rw [← hh, Bd.state]; rfl
  have N0 := Fr.nil n0
  have pre0 : ∀ t, Steps p.tables e below (s₁.setTop (mkF m 0 #[.val (.int p1), .unset, .unset, .unset, .unset, .unset] [])) t → Steps p.tables e below (s₁.setTop (entryFrame m #[(.int p1)] maxLocals)) t := fun t k => castTop (ef_law6 m p1) k
  have hK' := hK
  obtain ⟨S_w_BLOB, E_w_BLOB, S_w_STRUCTURE, E_w_STRUCTURE, F_ordinal_w_BLOB, F_ordinal_w_STRUCTURE, S_w_UNION, E_w_UNION, F_ordinal_w_UNION, S_w_ENUM, E_w_ENUM, F_ordinal_w_ENUM, S_w_INT_ENUM, E_w_INT_ENUM, F_ordinal_w_INT_ENUM, S_w_BIG_INTEGER, E_w_BIG_INTEGER, F_ordinal_w_BIG_INTEGER, S_w_BIG_DECIMAL, E_w_BIG_DECIMAL, F_ordinal_w_BIG_DECIMAL, S_w_SHORT, E_w_SHORT, F_ordinal_w_SHORT, S_w_STRING, E_w_STRING, F_ordinal_w_STRING, S_w_BYTE, E_w_BYTE, F_ordinal_w_BYTE, S_w_LONG, E_w_LONG, F_ordinal_w_LONG, S_w_BOOLEAN, E_w_BOOLEAN, F_ordinal_w_BOOLEAN, S_w_RESOURCE, E_w_RESOURCE, F_ordinal_w_RESOURCE, S_w_MAP, E_w_MAP, F_ordinal_w_MAP, S_w_DOUBLE, E_w_DOUBLE, F_ordinal_w_DOUBLE, S_w_FLOAT, E_w_FLOAT, F_ordinal_w_FLOAT, S_w_MEMBER, E_w_MEMBER, F_ordinal_w_MEMBER, S_w_SERVICE, E_w_SERVICE, F_ordinal_w_SERVICE, S_w_LIST, E_w_LIST, F_ordinal_w_LIST, S_w_OPERATION, E_w_OPERATION, F_ordinal_w_OPERATION, S_w_DOCUMENT, E_w_DOCUMENT, F_ordinal_w_DOCUMENT, S_w_INTEGER, E_w_INTEGER, F_ordinal_w_INTEGER, S_w_TIMESTAMP, E_w_TIMESTAMP, F_ordinal_w_TIMESTAMP⟩ := hK'
  obtain ⟨v1, _, ⟨T1, L1, k1, n1⟩, -, X1, ⟨Lc1, hQ1, l1, y1, z1⟩, st1⟩ := Jvm.LawKit.callS X0 hx (y := (⟨"com/example/falkirk/falkirk/model/ShapeTypeHasNamedMembersPinLaw", "pick", "(I)Lcom/example/falkirk/falkirk/model/ShapeType;"⟩ : MethodName)) hown (mvT hZ (hw _ (ow 1 rfl))) (mvT hZ (hw _ (ow 2 rfl))) (mvT hZ (hw _ (ow 3 rfl))) (mvT hZ (hw _ (ow 4 rfl))) (by decide) (backOf (W := 0) (rm_pick l Z a0 hw [] (6 : Int32) h0 n0 w_BLOB w_STRUCTURE w_UNION w_ENUM w_INT_ENUM w_BIG_INTEGER w_BIG_DECIMAL w_SHORT w_STRING w_BYTE w_LONG w_BOOLEAN w_RESOURCE w_MAP w_DOUBLE w_FLOAT w_MEMBER w_SERVICE w_LIST w_OPERATION w_DOCUMENT w_INTEGER w_TIMESTAMP hK) hZ (hw _ (ow 4 rfl)) (hw _ (ow 3 rfl)) (by decide) (by decide)) (g := (mkF m 9 #[.val (.int p1), .val (.int (6 : Int32)), .unset, .unset, .unset, .unset] [(.int (6 : Int32))])) rfl (by rw [hml]; rfl) (argsL := [(.int (6 : Int32))]) (rest := []) (lenOf pd_0 rfl) rfl (Nat.le_of_eq rfl) (hb hby at_9) (fun _ _ => ⟨rfl, e0, (by decide : 0 + 0 ≤ _), (by decide : 0 + 0 ≤ _)⟩)
  dsimp only [Pt.U, Pt.locs, Pt.cells, Pt.slots] at X1 l1 y1 z1 st1 hQ1
  subst l1 y1 z1
  obtain ⟨hv1, Nq1, e1⟩ := hQ1
  obtain rfl : v1 = some (.ref w_INTEGER) := hv1.trans (congrArg some (congrArg Value.ref ((if_neg (by decide)).trans ((if_neg (by decide)).trans ((if_neg (by decide)).trans ((if_neg (by decide)).trans ((if_neg (by decide)).trans ((if_neg (by decide)).trans (if_pos (by decide))))))))))
  have N1 := Fr.app N0 Nq1
  obtain ⟨cq2, kq2, q2a, q2b, q2c⟩ := isOf hZ e1 E_w_INTEGER
  obtain ⟨v2, _, ⟨T2, L2, k2, n2⟩, -, X2, ⟨Lc2, hQ2, l2, y2, z2⟩, st2⟩ := X1.virtualBack hx (y := (⟨"com/example/falkirk/falkirk/model/ShapeType", "hasNamedMembers", "()Z"⟩ : MethodName)) (z := (⟨"com/example/falkirk/falkirk/model/ShapeType", "hasNamedMembers", "()Z"⟩ : MethodName)) hown (mvT hZ (hw _ (ow 8 rfl))) (mvT hZ (hw _ (ow 9 rfl))) (notFace_of_selects (args := #[]) (mvT hZ (hw _ (ow 11 rfl)))) (mvT hZ (hw _ (ow 11 rfl))) (mvT hZ (hw _ (ow 10 rfl))) (by decide) (backOf (W := 0) (rm_hasNamedMembers l Z a0 hw [] w_INTEGER h0 n0 w_BLOB w_STRUCTURE w_UNION w_ENUM w_INT_ENUM w_BIG_INTEGER w_BIG_DECIMAL w_SHORT w_STRING w_BYTE w_LONG w_BOOLEAN w_RESOURCE w_MAP w_DOUBLE w_FLOAT w_MEMBER w_SERVICE w_LIST w_OPERATION w_DOCUMENT w_INTEGER w_TIMESTAMP hK) hZ (hw _ (ow 12 rfl)) (hw _ (ow 6 rfl)) (by decide) (by decide)) q2a q2c (g := (mkF m 66 #[.val (.int p1), .val (.int (6 : Int32)), .val (.ref w_INTEGER), .val (.int (0 : Int32)), .val (.int (0 : Int32)), .val (.int (0 : Int32))] [(.ref w_INTEGER)])) rfl (by rw [hml]; rfl) (Steps.refl _) (argsL := []) (rest := []) (lenOf pd_1 rfl) rfl (Nat.le_of_eq rfl) (hb hby at_66) (fun _ _ => ⟨rfl, e1, (by decide : 0 + 0 ≤ _), (by decide : 0 + 0 ≤ _)⟩)
  dsimp only [Pt.U, Pt.locs, Pt.cells, Pt.slots] at X2 l2 y2 z2 st2 hQ2
  subst l2 y2 z2
  obtain ⟨hv2, Nq2, e2⟩ := hQ2
  obtain rfl : v2 = some (.int (0 : Int32)) := hv2.trans (congrArg some (congrArg Value.int ((if_neg (Fld.ne F_ordinal_w_INTEGER F_ordinal_w_STRUCTURE (by decide))).trans ((if_neg (Fld.ne F_ordinal_w_INTEGER F_ordinal_w_UNION (by decide))).trans ((if_neg (Fld.ne F_ordinal_w_INTEGER F_ordinal_w_ENUM (by decide))).trans (if_neg (Fld.ne F_ordinal_w_INTEGER F_ordinal_w_INT_ENUM (by decide))))))))
  have N2 := Fr.app N1 Nq2
  have pre3 : ∀ t, Steps p.tables e below (T2.setTop (mkF m 79 #[.val (.int p1), .val (.int (6 : Int32)), .val (.ref w_INTEGER), .val (.int (0 : Int32)), .val (.int (0 : Int32)), .val (.int (0 : Int32))] [(.int (1 : Int32))])) t → Steps p.tables e below (s₁.setTop (entryFrame m #[(.int p1)] maxLocals)) t := fun t k => pre0 t (by
    show Steps p.tables e below (s₁.setTop (mkF m 0 #[.val (.int p1), .unset, .unset, .unset, .unset, .unset] [])) _
    refine XS.iloadN X0.here hx rfl (hb hby at_0) rfl ?_
    show Steps p.tables e below (s₁.setTop (mkF m 1 #[.val (.int p1), .unset, .unset, .unset, .unset, .unset] [(.int p1)])) _
    refine X0.ldcInt hx hown (mvT hZ (hw _ (ow 0 rfl))) (g := (mkF m 1 #[.val (.int p1), .unset, .unset, .unset, .unset, .unset] [(.int p1)])) rfl (hb hby at_1) _ ?_
    show Steps p.tables e below (s₁.setTop (mkF m 3 #[.val (.int p1), .unset, .unset, .unset, .unset, .unset] [(.int (2147483647 : Int32)), (.int p1)])) _
    refine XS.iand X0.here hx rfl (hb hby at_3) rfl ?_
    show Steps p.tables e below (s₁.setTop (mkF m 4 #[.val (.int p1), .unset, .unset, .unset, .unset, .unset] [(.int (p1 &&& (2147483647 : Int32)))])) _
    refine XS.bipush X0.here hx rfl (hb hby at_4) ?_
    show Steps p.tables e below (s₁.setTop (mkF m 6 #[.val (.int p1), .unset, .unset, .unset, .unset, .unset] [(.int (23 : Int32)), (.int (p1 &&& (2147483647 : Int32)))])) _
    refine iremM X0 hx rfl (hb hby at_6) rfl (by decide) ?_
    show Steps p.tables e below (s₁.setTop (mkF m 7 #[.val (.int p1), .unset, .unset, .unset, .unset, .unset] [(.int ((p1 &&& (2147483647 : Int32)) % (23 : Int32)))])) _
    rw [hk]
    show Steps p.tables e below (s₁.setTop (mkF m 7 #[.val (.int p1), .unset, .unset, .unset, .unset, .unset] [(.int (6 : Int32))])) _
    refine XS.istoreN X0.here hx rfl (hb hby at_7) rfl (l' := #[.val (.int p1), .val (.int (6 : Int32)), .unset, .unset, .unset, .unset]) rfl ?_
    show Steps p.tables e below (s₁.setTop (mkF m 8 #[.val (.int p1), .val (.int (6 : Int32)), .unset, .unset, .unset, .unset] [])) _
    refine XS.iloadN X0.here hx rfl (hb hby at_8) rfl ?_
    show Steps p.tables e below (s₁.setTop (mkF m 9 #[.val (.int p1), .val (.int (6 : Int32)), .unset, .unset, .unset, .unset] [(.int (6 : Int32))])) _
    refine st1 _ ?_
    show Steps p.tables e below (T1.setTop (mkF m 12 #[.val (.int p1), .val (.int (6 : Int32)), .unset, .unset, .unset, .unset] [(.ref w_INTEGER)])) _
    refine XS.astoreN X1.here hx rfl (hb hby at_12) rfl rfl (l' := #[.val (.int p1), .val (.int (6 : Int32)), .val (.ref w_INTEGER), .unset, .unset, .unset]) rfl ?_
    show Steps p.tables e below (T1.setTop (mkF m 13 #[.val (.int p1), .val (.int (6 : Int32)), .val (.ref w_INTEGER), .unset, .unset, .unset] [])) _
    refine XS.iloadN X1.here hx rfl (hb hby at_13) rfl ?_
    show Steps p.tables e below (T1.setTop (mkF m 14 #[.val (.int p1), .val (.int (6 : Int32)), .val (.ref w_INTEGER), .unset, .unset, .unset] [(.int (6 : Int32))])) _
    refine XS.bipush X1.here hx rfl (hb hby at_14) ?_
    show Steps p.tables e below (T1.setTop (mkF m 16 #[.val (.int p1), .val (.int (6 : Int32)), .val (.ref w_INTEGER), .unset, .unset, .unset] [(.int (17 : Int32)), (.int (6 : Int32))])) _
    refine XS.icmpNo X1.here hx rfl (hb hby at_16) rfl (feq (by decide)).1 ?_
    show Steps p.tables e below (T1.setTop (mkF m 19 #[.val (.int p1), .val (.int (6 : Int32)), .val (.ref w_INTEGER), .unset, .unset, .unset] [])) _
    refine XS.iloadN X1.here hx rfl (hb hby at_19) rfl ?_
    show Steps p.tables e below (T1.setTop (mkF m 20 #[.val (.int p1), .val (.int (6 : Int32)), .val (.ref w_INTEGER), .unset, .unset, .unset] [(.int (6 : Int32))])) _
    refine XS.bipush X1.here hx rfl (hb hby at_20) ?_
    show Steps p.tables e below (T1.setTop (mkF m 22 #[.val (.int p1), .val (.int (6 : Int32)), .val (.ref w_INTEGER), .unset, .unset, .unset] [(.int (18 : Int32)), (.int (6 : Int32))])) _
    refine XS.icmpYes X1.here hx rfl (pc0 := 22) (pc' := 29) rfl (hb hby at_22) rfl (feq (by decide)).2 (by decide) (by decide) ?_
    show Steps p.tables e below (T1.setTop (mkF m 29 #[.val (.int p1), .val (.int (6 : Int32)), .val (.ref w_INTEGER), .unset, .unset, .unset] [])) _
    refine XS.iconst X1.here hx rfl (hb hby at_29) ?_
    show Steps p.tables e below (T1.setTop (mkF m 30 #[.val (.int p1), .val (.int (6 : Int32)), .val (.ref w_INTEGER), .unset, .unset, .unset] [(.int (0 : Int32))])) _
    refine XS.istoreN X1.here hx rfl (hb hby at_30) rfl (l' := #[.val (.int p1), .val (.int (6 : Int32)), .val (.ref w_INTEGER), .val (.int (0 : Int32)), .unset, .unset]) rfl ?_
    show Steps p.tables e below (T1.setTop (mkF m 31 #[.val (.int p1), .val (.int (6 : Int32)), .val (.ref w_INTEGER), .val (.int (0 : Int32)), .unset, .unset] [])) _
    refine XS.iloadN X1.here hx rfl (hb hby at_31) rfl ?_
    show Steps p.tables e below (T1.setTop (mkF m 32 #[.val (.int p1), .val (.int (6 : Int32)), .val (.ref w_INTEGER), .val (.int (0 : Int32)), .unset, .unset] [(.int (6 : Int32))])) _
    refine XS.iconst X1.here hx rfl (hb hby at_32) ?_
    show Steps p.tables e below (T1.setTop (mkF m 33 #[.val (.int p1), .val (.int (6 : Int32)), .val (.ref w_INTEGER), .val (.int (0 : Int32)), .unset, .unset] [(.int (3 : Int32)), (.int (6 : Int32))])) _
    refine XS.icmpNo X1.here hx rfl (hb hby at_33) rfl (feq (by decide)).1 ?_
    show Steps p.tables e below (T1.setTop (mkF m 36 #[.val (.int p1), .val (.int (6 : Int32)), .val (.ref w_INTEGER), .val (.int (0 : Int32)), .unset, .unset] [])) _
    refine XS.iloadN X1.here hx rfl (hb hby at_36) rfl ?_
    show Steps p.tables e below (T1.setTop (mkF m 37 #[.val (.int p1), .val (.int (6 : Int32)), .val (.ref w_INTEGER), .val (.int (0 : Int32)), .unset, .unset] [(.int (6 : Int32))])) _
    refine XS.bipush X1.here hx rfl (hb hby at_37) ?_
    show Steps p.tables e below (T1.setTop (mkF m 39 #[.val (.int p1), .val (.int (6 : Int32)), .val (.ref w_INTEGER), .val (.int (0 : Int32)), .unset, .unset] [(.int (7 : Int32)), (.int (6 : Int32))])) _
    refine XS.icmpYes X1.here hx rfl (pc0 := 39) (pc' := 46) rfl (hb hby at_39) rfl (feq (by decide)).2 (by decide) (by decide) ?_
    show Steps p.tables e below (T1.setTop (mkF m 46 #[.val (.int p1), .val (.int (6 : Int32)), .val (.ref w_INTEGER), .val (.int (0 : Int32)), .unset, .unset] [])) _
    refine XS.iconst X1.here hx rfl (hb hby at_46) ?_
    show Steps p.tables e below (T1.setTop (mkF m 47 #[.val (.int p1), .val (.int (6 : Int32)), .val (.ref w_INTEGER), .val (.int (0 : Int32)), .unset, .unset] [(.int (0 : Int32))])) _
    refine XS.istore X1.here hx rfl (hb hby at_47) rfl (l' := #[.val (.int p1), .val (.int (6 : Int32)), .val (.ref w_INTEGER), .val (.int (0 : Int32)), .val (.int (0 : Int32)), .unset]) rfl ?_
    show Steps p.tables e below (T1.setTop (mkF m 49 #[.val (.int p1), .val (.int (6 : Int32)), .val (.ref w_INTEGER), .val (.int (0 : Int32)), .val (.int (0 : Int32)), .unset] [])) _
    refine XS.iloadN X1.here hx rfl (hb hby at_49) rfl ?_
    show Steps p.tables e below (T1.setTop (mkF m 50 #[.val (.int p1), .val (.int (6 : Int32)), .val (.ref w_INTEGER), .val (.int (0 : Int32)), .val (.int (0 : Int32)), .unset] [(.int (0 : Int32))])) _
    refine XS.ifNo X1.here hx rfl (hb hby at_50) rfl ((if0 _ _).trans (teq (by decide)).2) ?_
    show Steps p.tables e below (T1.setTop (mkF m 53 #[.val (.int p1), .val (.int (6 : Int32)), .val (.ref w_INTEGER), .val (.int (0 : Int32)), .val (.int (0 : Int32)), .unset] [])) _
    refine XS.iload X1.here hx rfl (hb hby at_53) rfl ?_
    show Steps p.tables e below (T1.setTop (mkF m 55 #[.val (.int p1), .val (.int (6 : Int32)), .val (.ref w_INTEGER), .val (.int (0 : Int32)), .val (.int (0 : Int32)), .unset] [(.int (0 : Int32))])) _
    refine XS.ifYes X1.here hx rfl (pc0 := 55) (pc' := 62) rfl (hb hby at_55) rfl ((if0 _ _).trans (teq (by decide)).1) (by decide) (by decide) ?_
    show Steps p.tables e below (T1.setTop (mkF m 62 #[.val (.int p1), .val (.int (6 : Int32)), .val (.ref w_INTEGER), .val (.int (0 : Int32)), .val (.int (0 : Int32)), .unset] [])) _
    refine XS.iconst X1.here hx rfl (hb hby at_62) ?_
    show Steps p.tables e below (T1.setTop (mkF m 63 #[.val (.int p1), .val (.int (6 : Int32)), .val (.ref w_INTEGER), .val (.int (0 : Int32)), .val (.int (0 : Int32)), .unset] [(.int (0 : Int32))])) _
    refine XS.istore X1.here hx rfl (hb hby at_63) rfl (l' := #[.val (.int p1), .val (.int (6 : Int32)), .val (.ref w_INTEGER), .val (.int (0 : Int32)), .val (.int (0 : Int32)), .val (.int (0 : Int32))]) rfl ?_
    show Steps p.tables e below (T1.setTop (mkF m 65 #[.val (.int p1), .val (.int (6 : Int32)), .val (.ref w_INTEGER), .val (.int (0 : Int32)), .val (.int (0 : Int32)), .val (.int (0 : Int32))] [])) _
    refine XS.aloadN X1.here hx rfl (hb hby at_65) rfl rfl ?_
    show Steps p.tables e below (T1.setTop (mkF m 66 #[.val (.int p1), .val (.int (6 : Int32)), .val (.ref w_INTEGER), .val (.int (0 : Int32)), .val (.int (0 : Int32)), .val (.int (0 : Int32))] [(.ref w_INTEGER)])) _
    refine st2.trans ?_
    show Steps p.tables e below (T2.setTop (mkF m 69 #[.val (.int p1), .val (.int (6 : Int32)), .val (.ref w_INTEGER), .val (.int (0 : Int32)), .val (.int (0 : Int32)), .val (.int (0 : Int32))] [(.int (0 : Int32))])) _
    refine XS.iload X2.here hx rfl (hb hby at_69) rfl ?_
    show Steps p.tables e below (T2.setTop (mkF m 71 #[.val (.int p1), .val (.int (6 : Int32)), .val (.ref w_INTEGER), .val (.int (0 : Int32)), .val (.int (0 : Int32)), .val (.int (0 : Int32))] [(.int (0 : Int32)), (.int (0 : Int32))])) _
    refine XS.icmpNo X2.here hx rfl (hb hby at_71) rfl (teq (by decide)).2 ?_
    show Steps p.tables e below (T2.setTop (mkF m 74 #[.val (.int p1), .val (.int (6 : Int32)), .val (.ref w_INTEGER), .val (.int (0 : Int32)), .val (.int (0 : Int32)), .val (.int (0 : Int32))] [])) _
    refine XS.iconst X2.here hx rfl (hb hby at_74) ?_
    show Steps p.tables e below (T2.setTop (mkF m 75 #[.val (.int p1), .val (.int (6 : Int32)), .val (.ref w_INTEGER), .val (.int (0 : Int32)), .val (.int (0 : Int32)), .val (.int (0 : Int32))] [(.int (1 : Int32))])) _
    refine XS.goto X2.here hx rfl (pc0 := 75) (pc' := 79) rfl (hb hby at_75) (by decide) (by decide) ?_
    exact k)
  obtain ⟨fs, hr, hrun, hended, hW, hsame⟩ := X2.leave (v := some (.int (1 : Int32))) (fun h => by rw [Bd.returns] at h; cases h)
  refine ⟨_, _, pre3 _ ?_, hrun, hended, _, _, rfl, ?_, ⟨_, rfl⟩, hW, hsame.mono (by decide) (by decide)⟩
  · show Steps p.tables e below (T2.setTop (mkF m 79 #[.val (.int p1), .val (.int (6 : Int32)), .val (.ref w_INTEGER), .val (.int (0 : Int32)), .val (.int (0 : Int32)), .val (.int (0 : Int32))] [(.int (1 : Int32))])) _
    exact retN X2 hx (t := .boolean) Bd.returns (by simp) (hb hby at_79) hr
  · exact ⟨rfl, N2, e2⟩
theorem ef_law7 (m : MethodId) (x0 : Int32) : entryFrame m #[(.int x0)] maxLocals = mkF m 0 #[.val (.int x0), .unset, .unset, .unset, .unset, .unset] [] := by first | (simp [entryFrame, mkF, argsToLocals, Value.category, maxLocals]; done) | rfl
set_option maxRecDepth 65536 in
set_option maxHeartbeats 40000000 in
theorem rm_law7 (l : Launch) (Z : State) (a0 : Array Value) (hw : ∀ d ∈ tables_1, d.before a0 Z = true) (ws : List Jvm.Cond) (p1 : Int32) (h0 : Heap) (n0 : Nat) (w_BLOB w_STRUCTURE w_UNION w_ENUM w_INT_ENUM w_BIG_INTEGER w_BIG_DECIMAL w_SHORT w_STRING w_BYTE w_LONG w_BOOLEAN w_RESOURCE w_MAP w_DOUBLE w_FLOAT w_MEMBER w_SERVICE w_LIST w_OPERATION w_DOCUMENT w_INTEGER w_TIMESTAMP : Addr) (hK : own_K Z h0 w_BLOB w_STRUCTURE w_UNION w_ENUM w_INT_ENUM w_BIG_INTEGER w_BIG_DECIMAL w_SHORT w_STRING w_BYTE w_LONG w_BOOLEAN w_RESOURCE w_MAP w_DOUBLE w_FLOAT w_MEMBER w_SERVICE w_LIST w_OPERATION w_DOCUMENT w_INTEGER w_TIMESTAMP) (hk : ((p1 &&& (2147483647 : Int32)) % (23 : Int32)) = (7 : Int32)) :
    MetFree l x (head1 (Jvm.Cond.code x code maxLocals ret :: ws) room_1) (fun a U => a = #[(.int p1)] ∧ Z.Warmed39 U.vm ∧ U.heap = h0) (fun _ _ _ _ _ => True) (fun _ U o U' => ∃ v L, o = .returned v ∧ own_Q (some (.int (1 : Int32))) h0 n0 v U'.heap L ∧ FrameEnd U o U' L room_1.cells room_1.slots) := by
  refine MetFree.of_bodySF (plainFor_of_name pn_0) hisR ?_
  intro p e s m args below meth c s₁ Bd hml0 hP hK0
  obtain ⟨rfl, hZ, hh⟩ := hP
  have hx := Bd.exec
  have hby := Bd.bytes
  have hml : c.maxLocals = 6 := hml0
  have hown : s.vm.findClass "com/example/falkirk/falkirk/model/ShapeTypeHasNamedMembersPinLaw" = some m.cls := findClass_of_methodNamed Bd.named
  have hnm := (name_of_methodNamed Bd.named Bd.method).1
  have X0 : Stand p l e room_1 s m #[(.int p1)] below meth c s₁ [] 0 0 := Stand.of_body Bd
  have e0 : s₁.heap = h0 := by rw [← hh, Bd.state]; rfl
  have N0 := Fr.nil n0
  have pre0 : ∀ t, Steps p.tables e below (s₁.setTop (mkF m 0 #[.val (.int p1), .unset, .unset, .unset, .unset, .unset] [])) t → Steps p.tables e below (s₁.setTop (entryFrame m #[(.int p1)] maxLocals)) t := fun t k => castTop (ef_law7 m p1) k
  have hK' := hK
  obtain ⟨S_w_BLOB, E_w_BLOB, S_w_STRUCTURE, E_w_STRUCTURE, F_ordinal_w_BLOB, F_ordinal_w_STRUCTURE, S_w_UNION, E_w_UNION, F_ordinal_w_UNION, S_w_ENUM, E_w_ENUM, F_ordinal_w_ENUM, S_w_INT_ENUM, E_w_INT_ENUM, F_ordinal_w_INT_ENUM, S_w_BIG_INTEGER, E_w_BIG_INTEGER, F_ordinal_w_BIG_INTEGER, S_w_BIG_DECIMAL, E_w_BIG_DECIMAL, F_ordinal_w_BIG_DECIMAL, S_w_SHORT, E_w_SHORT, F_ordinal_w_SHORT, S_w_STRING, E_w_STRING, F_ordinal_w_STRING, S_w_BYTE, E_w_BYTE, F_ordinal_w_BYTE, S_w_LONG, E_w_LONG, F_ordinal_w_LONG, S_w_BOOLEAN, E_w_BOOLEAN, F_ordinal_w_BOOLEAN, S_w_RESOURCE, E_w_RESOURCE, F_ordinal_w_RESOURCE, S_w_MAP, E_w_MAP, F_ordinal_w_MAP, S_w_DOUBLE, E_w_DOUBLE, F_ordinal_w_DOUBLE, S_w_FLOAT, E_w_FLOAT, F_ordinal_w_FLOAT, S_w_MEMBER, E_w_MEMBER, F_ordinal_w_MEMBER, S_w_SERVICE, E_w_SERVICE, F_ordinal_w_SERVICE, S_w_LIST, E_w_LIST, F_ordinal_w_LIST, S_w_OPERATION, E_w_OPERATION, F_ordinal_w_OPERATION, S_w_DOCUMENT, E_w_DOCUMENT, F_ordinal_w_DOCUMENT, S_w_INTEGER, E_w_INTEGER, F_ordinal_w_INTEGER, S_w_TIMESTAMP, E_w_TIMESTAMP, F_ordinal_w_TIMESTAMP⟩ := hK'
  obtain ⟨v1, _, ⟨T1, L1, k1, n1⟩, -, X1, ⟨Lc1, hQ1, l1, y1, z1⟩, st1⟩ := Jvm.LawKit.callS X0 hx (y := (⟨"com/example/falkirk/falkirk/model/ShapeTypeHasNamedMembersPinLaw", "pick", "(I)Lcom/example/falkirk/falkirk/model/ShapeType;"⟩ : MethodName)) hown (mvT hZ (hw _ (ow 1 rfl))) (mvT hZ (hw _ (ow 2 rfl))) (mvT hZ (hw _ (ow 3 rfl))) (mvT hZ (hw _ (ow 4 rfl))) (by decide) (backOf (W := 0) (rm_pick l Z a0 hw [] (7 : Int32) h0 n0 w_BLOB w_STRUCTURE w_UNION w_ENUM w_INT_ENUM w_BIG_INTEGER w_BIG_DECIMAL w_SHORT w_STRING w_BYTE w_LONG w_BOOLEAN w_RESOURCE w_MAP w_DOUBLE w_FLOAT w_MEMBER w_SERVICE w_LIST w_OPERATION w_DOCUMENT w_INTEGER w_TIMESTAMP hK) hZ (hw _ (ow 4 rfl)) (hw _ (ow 3 rfl)) (by decide) (by decide)) (g := (mkF m 9 #[.val (.int p1), .val (.int (7 : Int32)), .unset, .unset, .unset, .unset] [(.int (7 : Int32))])) rfl (by rw [hml]; rfl) (argsL := [(.int (7 : Int32))]) (rest := []) (lenOf pd_0 rfl) rfl (Nat.le_of_eq rfl) (hb hby at_9) (fun _ _ => ⟨rfl, e0, (by decide : 0 + 0 ≤ _), (by decide : 0 + 0 ≤ _)⟩)
  dsimp only [Pt.U, Pt.locs, Pt.cells, Pt.slots] at X1 l1 y1 z1 st1 hQ1
  subst l1 y1 z1
  obtain ⟨hv1, Nq1, e1⟩ := hQ1
  obtain rfl : v1 = some (.ref w_INT_ENUM) := hv1.trans (congrArg some (congrArg Value.ref ((if_neg (by decide)).trans ((if_neg (by decide)).trans ((if_neg (by decide)).trans ((if_neg (by decide)).trans ((if_neg (by decide)).trans ((if_neg (by decide)).trans ((if_neg (by decide)).trans (if_pos (by decide)))))))))))
  have N1 := Fr.app N0 Nq1
  obtain ⟨cq2, kq2, q2a, q2b, q2c⟩ := isOf hZ e1 E_w_INT_ENUM
  obtain ⟨v2, _, ⟨T2, L2, k2, n2⟩, -, X2, ⟨Lc2, hQ2, l2, y2, z2⟩, st2⟩ := X1.virtualBack hx (y := (⟨"com/example/falkirk/falkirk/model/ShapeType", "hasNamedMembers", "()Z"⟩ : MethodName)) (z := (⟨"com/example/falkirk/falkirk/model/ShapeType", "hasNamedMembers", "()Z"⟩ : MethodName)) hown (mvT hZ (hw _ (ow 8 rfl))) (mvT hZ (hw _ (ow 9 rfl))) (notFace_of_selects (args := #[]) (mvT hZ (hw _ (ow 11 rfl)))) (mvT hZ (hw _ (ow 11 rfl))) (mvT hZ (hw _ (ow 10 rfl))) (by decide) (backOf (W := 0) (rm_hasNamedMembers l Z a0 hw [] w_INT_ENUM h0 n0 w_BLOB w_STRUCTURE w_UNION w_ENUM w_INT_ENUM w_BIG_INTEGER w_BIG_DECIMAL w_SHORT w_STRING w_BYTE w_LONG w_BOOLEAN w_RESOURCE w_MAP w_DOUBLE w_FLOAT w_MEMBER w_SERVICE w_LIST w_OPERATION w_DOCUMENT w_INTEGER w_TIMESTAMP hK) hZ (hw _ (ow 12 rfl)) (hw _ (ow 6 rfl)) (by decide) (by decide)) q2a q2c (g := (mkF m 66 #[.val (.int p1), .val (.int (7 : Int32)), .val (.ref w_INT_ENUM), .val (.int (0 : Int32)), .val (.int (1 : Int32)), .val (.int (1 : Int32))] [(.ref w_INT_ENUM)])) rfl (by rw [hml]; rfl) (Steps.refl _) (argsL := []) (rest := []) (lenOf pd_1 rfl) rfl (Nat.le_of_eq rfl) (hb hby at_66) (fun _ _ => ⟨rfl, e1, (by decide : 0 + 0 ≤ _), (by decide : 0 + 0 ≤ _)⟩)
  dsimp only [Pt.U, Pt.locs, Pt.cells, Pt.slots] at X2 l2 y2 z2 st2 hQ2
  subst l2 y2 z2
  obtain ⟨hv2, Nq2, e2⟩ := hQ2
  obtain rfl : v2 = some (.int (1 : Int32)) := hv2.trans (congrArg some (congrArg Value.int ((if_neg (Fld.ne F_ordinal_w_INT_ENUM F_ordinal_w_STRUCTURE (by decide))).trans ((if_neg (Fld.ne F_ordinal_w_INT_ENUM F_ordinal_w_UNION (by decide))).trans ((if_neg (Fld.ne F_ordinal_w_INT_ENUM F_ordinal_w_ENUM (by decide))).trans (if_pos rfl))))))
  have N2 := Fr.app N1 Nq2
  have pre3 : ∀ t, Steps p.tables e below (T2.setTop (mkF m 79 #[.val (.int p1), .val (.int (7 : Int32)), .val (.ref w_INT_ENUM), .val (.int (0 : Int32)), .val (.int (1 : Int32)), .val (.int (1 : Int32))] [(.int (1 : Int32))])) t → Steps p.tables e below (s₁.setTop (entryFrame m #[(.int p1)] maxLocals)) t := fun t k => pre0 t (by
    show Steps p.tables e below (s₁.setTop (mkF m 0 #[.val (.int p1), .unset, .unset, .unset, .unset, .unset] [])) _
    refine XS.iloadN X0.here hx rfl (hb hby at_0) rfl ?_
    show Steps p.tables e below (s₁.setTop (mkF m 1 #[.val (.int p1), .unset, .unset, .unset, .unset, .unset] [(.int p1)])) _
    refine X0.ldcInt hx hown (mvT hZ (hw _ (ow 0 rfl))) (g := (mkF m 1 #[.val (.int p1), .unset, .unset, .unset, .unset, .unset] [(.int p1)])) rfl (hb hby at_1) _ ?_
    show Steps p.tables e below (s₁.setTop (mkF m 3 #[.val (.int p1), .unset, .unset, .unset, .unset, .unset] [(.int (2147483647 : Int32)), (.int p1)])) _
    refine XS.iand X0.here hx rfl (hb hby at_3) rfl ?_
    show Steps p.tables e below (s₁.setTop (mkF m 4 #[.val (.int p1), .unset, .unset, .unset, .unset, .unset] [(.int (p1 &&& (2147483647 : Int32)))])) _
    refine XS.bipush X0.here hx rfl (hb hby at_4) ?_
    show Steps p.tables e below (s₁.setTop (mkF m 6 #[.val (.int p1), .unset, .unset, .unset, .unset, .unset] [(.int (23 : Int32)), (.int (p1 &&& (2147483647 : Int32)))])) _
    refine iremM X0 hx rfl (hb hby at_6) rfl (by decide) ?_
    show Steps p.tables e below (s₁.setTop (mkF m 7 #[.val (.int p1), .unset, .unset, .unset, .unset, .unset] [(.int ((p1 &&& (2147483647 : Int32)) % (23 : Int32)))])) _
    rw [hk]
    show Steps p.tables e below (s₁.setTop (mkF m 7 #[.val (.int p1), .unset, .unset, .unset, .unset, .unset] [(.int (7 : Int32))])) _
    refine XS.istoreN X0.here hx rfl (hb hby at_7) rfl (l' := #[.val (.int p1), .val (.int (7 : Int32)), .unset, .unset, .unset, .unset]) rfl ?_
    show Steps p.tables e below (s₁.setTop (mkF m 8 #[.val (.int p1), .val (.int (7 : Int32)), .unset, .unset, .unset, .unset] [])) _
    refine XS.iloadN X0.here hx rfl (hb hby at_8) rfl ?_
    show Steps p.tables e below (s₁.setTop (mkF m 9 #[.val (.int p1), .val (.int (7 : Int32)), .unset, .unset, .unset, .unset] [(.int (7 : Int32))])) _
    refine st1 _ ?_
    show Steps p.tables e below (T1.setTop (mkF m 12 #[.val (.int p1), .val (.int (7 : Int32)), .unset, .unset, .unset, .unset] [(.ref w_INT_ENUM)])) _
    refine XS.astoreN X1.here hx rfl (hb hby at_12) rfl rfl (l' := #[.val (.int p1), .val (.int (7 : Int32)), .val (.ref w_INT_ENUM), .unset, .unset, .unset]) rfl ?_
    show Steps p.tables e below (T1.setTop (mkF m 13 #[.val (.int p1), .val (.int (7 : Int32)), .val (.ref w_INT_ENUM), .unset, .unset, .unset] [])) _
    refine XS.iloadN X1.here hx rfl (hb hby at_13) rfl ?_
    show Steps p.tables e below (T1.setTop (mkF m 14 #[.val (.int p1), .val (.int (7 : Int32)), .val (.ref w_INT_ENUM), .unset, .unset, .unset] [(.int (7 : Int32))])) _
    refine XS.bipush X1.here hx rfl (hb hby at_14) ?_
    show Steps p.tables e below (T1.setTop (mkF m 16 #[.val (.int p1), .val (.int (7 : Int32)), .val (.ref w_INT_ENUM), .unset, .unset, .unset] [(.int (17 : Int32)), (.int (7 : Int32))])) _
    refine XS.icmpNo X1.here hx rfl (hb hby at_16) rfl (feq (by decide)).1 ?_
    show Steps p.tables e below (T1.setTop (mkF m 19 #[.val (.int p1), .val (.int (7 : Int32)), .val (.ref w_INT_ENUM), .unset, .unset, .unset] [])) _
    refine XS.iloadN X1.here hx rfl (hb hby at_19) rfl ?_
    show Steps p.tables e below (T1.setTop (mkF m 20 #[.val (.int p1), .val (.int (7 : Int32)), .val (.ref w_INT_ENUM), .unset, .unset, .unset] [(.int (7 : Int32))])) _
    refine XS.bipush X1.here hx rfl (hb hby at_20) ?_
    show Steps p.tables e below (T1.setTop (mkF m 22 #[.val (.int p1), .val (.int (7 : Int32)), .val (.ref w_INT_ENUM), .unset, .unset, .unset] [(.int (18 : Int32)), (.int (7 : Int32))])) _
    refine XS.icmpYes X1.here hx rfl (pc0 := 22) (pc' := 29) rfl (hb hby at_22) rfl (feq (by decide)).2 (by decide) (by decide) ?_
    show Steps p.tables e below (T1.setTop (mkF m 29 #[.val (.int p1), .val (.int (7 : Int32)), .val (.ref w_INT_ENUM), .unset, .unset, .unset] [])) _
    refine XS.iconst X1.here hx rfl (hb hby at_29) ?_
    show Steps p.tables e below (T1.setTop (mkF m 30 #[.val (.int p1), .val (.int (7 : Int32)), .val (.ref w_INT_ENUM), .unset, .unset, .unset] [(.int (0 : Int32))])) _
    refine XS.istoreN X1.here hx rfl (hb hby at_30) rfl (l' := #[.val (.int p1), .val (.int (7 : Int32)), .val (.ref w_INT_ENUM), .val (.int (0 : Int32)), .unset, .unset]) rfl ?_
    show Steps p.tables e below (T1.setTop (mkF m 31 #[.val (.int p1), .val (.int (7 : Int32)), .val (.ref w_INT_ENUM), .val (.int (0 : Int32)), .unset, .unset] [])) _
    refine XS.iloadN X1.here hx rfl (hb hby at_31) rfl ?_
    show Steps p.tables e below (T1.setTop (mkF m 32 #[.val (.int p1), .val (.int (7 : Int32)), .val (.ref w_INT_ENUM), .val (.int (0 : Int32)), .unset, .unset] [(.int (7 : Int32))])) _
    refine XS.iconst X1.here hx rfl (hb hby at_32) ?_
    show Steps p.tables e below (T1.setTop (mkF m 33 #[.val (.int p1), .val (.int (7 : Int32)), .val (.ref w_INT_ENUM), .val (.int (0 : Int32)), .unset, .unset] [(.int (3 : Int32)), (.int (7 : Int32))])) _
    refine XS.icmpNo X1.here hx rfl (hb hby at_33) rfl (feq (by decide)).1 ?_
    show Steps p.tables e below (T1.setTop (mkF m 36 #[.val (.int p1), .val (.int (7 : Int32)), .val (.ref w_INT_ENUM), .val (.int (0 : Int32)), .unset, .unset] [])) _
    refine XS.iloadN X1.here hx rfl (hb hby at_36) rfl ?_
    show Steps p.tables e below (T1.setTop (mkF m 37 #[.val (.int p1), .val (.int (7 : Int32)), .val (.ref w_INT_ENUM), .val (.int (0 : Int32)), .unset, .unset] [(.int (7 : Int32))])) _
    refine XS.bipush X1.here hx rfl (hb hby at_37) ?_
    show Steps p.tables e below (T1.setTop (mkF m 39 #[.val (.int p1), .val (.int (7 : Int32)), .val (.ref w_INT_ENUM), .val (.int (0 : Int32)), .unset, .unset] [(.int (7 : Int32)), (.int (7 : Int32))])) _
    refine XS.icmpNo X1.here hx rfl (hb hby at_39) rfl (teq (by decide)).2 ?_
    show Steps p.tables e below (T1.setTop (mkF m 42 #[.val (.int p1), .val (.int (7 : Int32)), .val (.ref w_INT_ENUM), .val (.int (0 : Int32)), .unset, .unset] [])) _
    refine XS.iconst X1.here hx rfl (hb hby at_42) ?_
    show Steps p.tables e below (T1.setTop (mkF m 43 #[.val (.int p1), .val (.int (7 : Int32)), .val (.ref w_INT_ENUM), .val (.int (0 : Int32)), .unset, .unset] [(.int (1 : Int32))])) _
    refine XS.goto X1.here hx rfl (pc0 := 43) (pc' := 47) rfl (hb hby at_43) (by decide) (by decide) ?_
    show Steps p.tables e below (T1.setTop (mkF m 47 #[.val (.int p1), .val (.int (7 : Int32)), .val (.ref w_INT_ENUM), .val (.int (0 : Int32)), .unset, .unset] [(.int (1 : Int32))])) _
    refine XS.istore X1.here hx rfl (hb hby at_47) rfl (l' := #[.val (.int p1), .val (.int (7 : Int32)), .val (.ref w_INT_ENUM), .val (.int (0 : Int32)), .val (.int (1 : Int32)), .unset]) rfl ?_
    show Steps p.tables e below (T1.setTop (mkF m 49 #[.val (.int p1), .val (.int (7 : Int32)), .val (.ref w_INT_ENUM), .val (.int (0 : Int32)), .val (.int (1 : Int32)), .unset] [])) _
    refine XS.iloadN X1.here hx rfl (hb hby at_49) rfl ?_
    show Steps p.tables e below (T1.setTop (mkF m 50 #[.val (.int p1), .val (.int (7 : Int32)), .val (.ref w_INT_ENUM), .val (.int (0 : Int32)), .val (.int (1 : Int32)), .unset] [(.int (0 : Int32))])) _
    refine XS.ifNo X1.here hx rfl (hb hby at_50) rfl ((if0 _ _).trans (teq (by decide)).2) ?_
    show Steps p.tables e below (T1.setTop (mkF m 53 #[.val (.int p1), .val (.int (7 : Int32)), .val (.ref w_INT_ENUM), .val (.int (0 : Int32)), .val (.int (1 : Int32)), .unset] [])) _
    refine XS.iload X1.here hx rfl (hb hby at_53) rfl ?_
    show Steps p.tables e below (T1.setTop (mkF m 55 #[.val (.int p1), .val (.int (7 : Int32)), .val (.ref w_INT_ENUM), .val (.int (0 : Int32)), .val (.int (1 : Int32)), .unset] [(.int (1 : Int32))])) _
    refine XS.ifNo X1.here hx rfl (hb hby at_55) rfl ((if0 _ _).trans (feq (by decide)).1) ?_
    show Steps p.tables e below (T1.setTop (mkF m 58 #[.val (.int p1), .val (.int (7 : Int32)), .val (.ref w_INT_ENUM), .val (.int (0 : Int32)), .val (.int (1 : Int32)), .unset] [])) _
    refine XS.iconst X1.here hx rfl (hb hby at_58) ?_
    show Steps p.tables e below (T1.setTop (mkF m 59 #[.val (.int p1), .val (.int (7 : Int32)), .val (.ref w_INT_ENUM), .val (.int (0 : Int32)), .val (.int (1 : Int32)), .unset] [(.int (1 : Int32))])) _
    refine XS.goto X1.here hx rfl (pc0 := 59) (pc' := 63) rfl (hb hby at_59) (by decide) (by decide) ?_
    show Steps p.tables e below (T1.setTop (mkF m 63 #[.val (.int p1), .val (.int (7 : Int32)), .val (.ref w_INT_ENUM), .val (.int (0 : Int32)), .val (.int (1 : Int32)), .unset] [(.int (1 : Int32))])) _
    refine XS.istore X1.here hx rfl (hb hby at_63) rfl (l' := #[.val (.int p1), .val (.int (7 : Int32)), .val (.ref w_INT_ENUM), .val (.int (0 : Int32)), .val (.int (1 : Int32)), .val (.int (1 : Int32))]) rfl ?_
    show Steps p.tables e below (T1.setTop (mkF m 65 #[.val (.int p1), .val (.int (7 : Int32)), .val (.ref w_INT_ENUM), .val (.int (0 : Int32)), .val (.int (1 : Int32)), .val (.int (1 : Int32))] [])) _
    refine XS.aloadN X1.here hx rfl (hb hby at_65) rfl rfl ?_
    show Steps p.tables e below (T1.setTop (mkF m 66 #[.val (.int p1), .val (.int (7 : Int32)), .val (.ref w_INT_ENUM), .val (.int (0 : Int32)), .val (.int (1 : Int32)), .val (.int (1 : Int32))] [(.ref w_INT_ENUM)])) _
    refine st2.trans ?_
    show Steps p.tables e below (T2.setTop (mkF m 69 #[.val (.int p1), .val (.int (7 : Int32)), .val (.ref w_INT_ENUM), .val (.int (0 : Int32)), .val (.int (1 : Int32)), .val (.int (1 : Int32))] [(.int (1 : Int32))])) _
    refine XS.iload X2.here hx rfl (hb hby at_69) rfl ?_
    show Steps p.tables e below (T2.setTop (mkF m 71 #[.val (.int p1), .val (.int (7 : Int32)), .val (.ref w_INT_ENUM), .val (.int (0 : Int32)), .val (.int (1 : Int32)), .val (.int (1 : Int32))] [(.int (1 : Int32)), (.int (1 : Int32))])) _
    refine XS.icmpNo X2.here hx rfl (hb hby at_71) rfl (teq (by decide)).2 ?_
    show Steps p.tables e below (T2.setTop (mkF m 74 #[.val (.int p1), .val (.int (7 : Int32)), .val (.ref w_INT_ENUM), .val (.int (0 : Int32)), .val (.int (1 : Int32)), .val (.int (1 : Int32))] [])) _
    refine XS.iconst X2.here hx rfl (hb hby at_74) ?_
    show Steps p.tables e below (T2.setTop (mkF m 75 #[.val (.int p1), .val (.int (7 : Int32)), .val (.ref w_INT_ENUM), .val (.int (0 : Int32)), .val (.int (1 : Int32)), .val (.int (1 : Int32))] [(.int (1 : Int32))])) _
    refine XS.goto X2.here hx rfl (pc0 := 75) (pc' := 79) rfl (hb hby at_75) (by decide) (by decide) ?_
    exact k)
  obtain ⟨fs, hr, hrun, hended, hW, hsame⟩ := X2.leave (v := some (.int (1 : Int32))) (fun h => by rw [Bd.returns] at h; cases h)
  refine ⟨_, _, pre3 _ ?_, hrun, hended, _, _, rfl, ?_, ⟨_, rfl⟩, hW, hsame.mono (by decide) (by decide)⟩
  · show Steps p.tables e below (T2.setTop (mkF m 79 #[.val (.int p1), .val (.int (7 : Int32)), .val (.ref w_INT_ENUM), .val (.int (0 : Int32)), .val (.int (1 : Int32)), .val (.int (1 : Int32))] [(.int (1 : Int32))])) _
    exact retN X2 hx (t := .boolean) Bd.returns (by simp) (hb hby at_79) hr
  · exact ⟨rfl, N2, e2⟩
theorem ef_law8 (m : MethodId) (x0 : Int32) : entryFrame m #[(.int x0)] maxLocals = mkF m 0 #[.val (.int x0), .unset, .unset, .unset, .unset, .unset] [] := by first | (simp [entryFrame, mkF, argsToLocals, Value.category, maxLocals]; done) | rfl
set_option maxRecDepth 65536 in
set_option maxHeartbeats 40000000 in
theorem rm_law8 (l : Launch) (Z : State) (a0 : Array Value) (hw : ∀ d ∈ tables_1, d.before a0 Z = true) (ws : List Jvm.Cond) (p1 : Int32) (h0 : Heap) (n0 : Nat) (w_BLOB w_STRUCTURE w_UNION w_ENUM w_INT_ENUM w_BIG_INTEGER w_BIG_DECIMAL w_SHORT w_STRING w_BYTE w_LONG w_BOOLEAN w_RESOURCE w_MAP w_DOUBLE w_FLOAT w_MEMBER w_SERVICE w_LIST w_OPERATION w_DOCUMENT w_INTEGER w_TIMESTAMP : Addr) (hK : own_K Z h0 w_BLOB w_STRUCTURE w_UNION w_ENUM w_INT_ENUM w_BIG_INTEGER w_BIG_DECIMAL w_SHORT w_STRING w_BYTE w_LONG w_BOOLEAN w_RESOURCE w_MAP w_DOUBLE w_FLOAT w_MEMBER w_SERVICE w_LIST w_OPERATION w_DOCUMENT w_INTEGER w_TIMESTAMP) (hk : ((p1 &&& (2147483647 : Int32)) % (23 : Int32)) = (8 : Int32)) :
    MetFree l x (head1 (Jvm.Cond.code x code maxLocals ret :: ws) room_1) (fun a U => a = #[(.int p1)] ∧ Z.Warmed39 U.vm ∧ U.heap = h0) (fun _ _ _ _ _ => True) (fun _ U o U' => ∃ v L, o = .returned v ∧ own_Q (some (.int (1 : Int32))) h0 n0 v U'.heap L ∧ FrameEnd U o U' L room_1.cells room_1.slots) := by
  refine MetFree.of_bodySF (plainFor_of_name pn_0) hisR ?_
  intro p e s m args below meth c s₁ Bd hml0 hP hK0
  obtain ⟨rfl, hZ, hh⟩ := hP
  have hx := Bd.exec
  have hby := Bd.bytes
  have hml : c.maxLocals = 6 := hml0
  have hown : s.vm.findClass "com/example/falkirk/falkirk/model/ShapeTypeHasNamedMembersPinLaw" = some m.cls := findClass_of_methodNamed Bd.named
  have hnm := (name_of_methodNamed Bd.named Bd.method).1
  have X0 : Stand p l e room_1 s m #[(.int p1)] below meth c s₁ [] 0 0 := Stand.of_body Bd
  have e0 : s₁.heap = h0 := by rw [← hh, Bd.state]; rfl
  have N0 := Fr.nil n0
  have pre0 : ∀ t, Steps p.tables e below (s₁.setTop (mkF m 0 #[.val (.int p1), .unset, .unset, .unset, .unset, .unset] [])) t → Steps p.tables e below (s₁.setTop (entryFrame m #[(.int p1)] maxLocals)) t := fun t k => castTop (ef_law8 m p1) k
  have hK' := hK
  obtain ⟨S_w_BLOB, E_w_BLOB, S_w_STRUCTURE, E_w_STRUCTURE, F_ordinal_w_BLOB, F_ordinal_w_STRUCTURE, S_w_UNION, E_w_UNION, F_ordinal_w_UNION, S_w_ENUM, E_w_ENUM, F_ordinal_w_ENUM, S_w_INT_ENUM, E_w_INT_ENUM, F_ordinal_w_INT_ENUM, S_w_BIG_INTEGER, E_w_BIG_INTEGER, F_ordinal_w_BIG_INTEGER, S_w_BIG_DECIMAL, E_w_BIG_DECIMAL, F_ordinal_w_BIG_DECIMAL, S_w_SHORT, E_w_SHORT, F_ordinal_w_SHORT, S_w_STRING, E_w_STRING, F_ordinal_w_STRING, S_w_BYTE, E_w_BYTE, F_ordinal_w_BYTE, S_w_LONG, E_w_LONG, F_ordinal_w_LONG, S_w_BOOLEAN, E_w_BOOLEAN, F_ordinal_w_BOOLEAN, S_w_RESOURCE, E_w_RESOURCE, F_ordinal_w_RESOURCE, S_w_MAP, E_w_MAP, F_ordinal_w_MAP, S_w_DOUBLE, E_w_DOUBLE, F_ordinal_w_DOUBLE, S_w_FLOAT, E_w_FLOAT, F_ordinal_w_FLOAT, S_w_MEMBER, E_w_MEMBER, F_ordinal_w_MEMBER, S_w_SERVICE, E_w_SERVICE, F_ordinal_w_SERVICE, S_w_LIST, E_w_LIST, F_ordinal_w_LIST, S_w_OPERATION, E_w_OPERATION, F_ordinal_w_OPERATION, S_w_DOCUMENT, E_w_DOCUMENT, F_ordinal_w_DOCUMENT, S_w_INTEGER, E_w_INTEGER, F_ordinal_w_INTEGER, S_w_TIMESTAMP, E_w_TIMESTAMP, F_ordinal_w_TIMESTAMP⟩ := hK'
  obtain ⟨v1, _, ⟨T1, L1, k1, n1⟩, -, X1, ⟨Lc1, hQ1, l1, y1, z1⟩, st1⟩ := Jvm.LawKit.callS X0 hx (y := (⟨"com/example/falkirk/falkirk/model/ShapeTypeHasNamedMembersPinLaw", "pick", "(I)Lcom/example/falkirk/falkirk/model/ShapeType;"⟩ : MethodName)) hown (mvT hZ (hw _ (ow 1 rfl))) (mvT hZ (hw _ (ow 2 rfl))) (mvT hZ (hw _ (ow 3 rfl))) (mvT hZ (hw _ (ow 4 rfl))) (by decide) (backOf (W := 0) (rm_pick l Z a0 hw [] (8 : Int32) h0 n0 w_BLOB w_STRUCTURE w_UNION w_ENUM w_INT_ENUM w_BIG_INTEGER w_BIG_DECIMAL w_SHORT w_STRING w_BYTE w_LONG w_BOOLEAN w_RESOURCE w_MAP w_DOUBLE w_FLOAT w_MEMBER w_SERVICE w_LIST w_OPERATION w_DOCUMENT w_INTEGER w_TIMESTAMP hK) hZ (hw _ (ow 4 rfl)) (hw _ (ow 3 rfl)) (by decide) (by decide)) (g := (mkF m 9 #[.val (.int p1), .val (.int (8 : Int32)), .unset, .unset, .unset, .unset] [(.int (8 : Int32))])) rfl (by rw [hml]; rfl) (argsL := [(.int (8 : Int32))]) (rest := []) (lenOf pd_0 rfl) rfl (Nat.le_of_eq rfl) (hb hby at_9) (fun _ _ => ⟨rfl, e0, (by decide : 0 + 0 ≤ _), (by decide : 0 + 0 ≤ _)⟩)
  dsimp only [Pt.U, Pt.locs, Pt.cells, Pt.slots] at X1 l1 y1 z1 st1 hQ1
  subst l1 y1 z1
  obtain ⟨hv1, Nq1, e1⟩ := hQ1
  obtain rfl : v1 = some (.ref w_LONG) := hv1.trans (congrArg some (congrArg Value.ref ((if_neg (by decide)).trans ((if_neg (by decide)).trans ((if_neg (by decide)).trans ((if_neg (by decide)).trans ((if_neg (by decide)).trans ((if_neg (by decide)).trans ((if_neg (by decide)).trans ((if_neg (by decide)).trans (if_pos (by decide))))))))))))
  have N1 := Fr.app N0 Nq1
  obtain ⟨cq2, kq2, q2a, q2b, q2c⟩ := isOf hZ e1 E_w_LONG
  obtain ⟨v2, _, ⟨T2, L2, k2, n2⟩, -, X2, ⟨Lc2, hQ2, l2, y2, z2⟩, st2⟩ := X1.virtualBack hx (y := (⟨"com/example/falkirk/falkirk/model/ShapeType", "hasNamedMembers", "()Z"⟩ : MethodName)) (z := (⟨"com/example/falkirk/falkirk/model/ShapeType", "hasNamedMembers", "()Z"⟩ : MethodName)) hown (mvT hZ (hw _ (ow 8 rfl))) (mvT hZ (hw _ (ow 9 rfl))) (notFace_of_selects (args := #[]) (mvT hZ (hw _ (ow 11 rfl)))) (mvT hZ (hw _ (ow 11 rfl))) (mvT hZ (hw _ (ow 10 rfl))) (by decide) (backOf (W := 0) (rm_hasNamedMembers l Z a0 hw [] w_LONG h0 n0 w_BLOB w_STRUCTURE w_UNION w_ENUM w_INT_ENUM w_BIG_INTEGER w_BIG_DECIMAL w_SHORT w_STRING w_BYTE w_LONG w_BOOLEAN w_RESOURCE w_MAP w_DOUBLE w_FLOAT w_MEMBER w_SERVICE w_LIST w_OPERATION w_DOCUMENT w_INTEGER w_TIMESTAMP hK) hZ (hw _ (ow 12 rfl)) (hw _ (ow 6 rfl)) (by decide) (by decide)) q2a q2c (g := (mkF m 66 #[.val (.int p1), .val (.int (8 : Int32)), .val (.ref w_LONG), .val (.int (0 : Int32)), .val (.int (0 : Int32)), .val (.int (0 : Int32))] [(.ref w_LONG)])) rfl (by rw [hml]; rfl) (Steps.refl _) (argsL := []) (rest := []) (lenOf pd_1 rfl) rfl (Nat.le_of_eq rfl) (hb hby at_66) (fun _ _ => ⟨rfl, e1, (by decide : 0 + 0 ≤ _), (by decide : 0 + 0 ≤ _)⟩)
  dsimp only [Pt.U, Pt.locs, Pt.cells, Pt.slots] at X2 l2 y2 z2 st2 hQ2
  subst l2 y2 z2
  obtain ⟨hv2, Nq2, e2⟩ := hQ2
  obtain rfl : v2 = some (.int (0 : Int32)) := hv2.trans (congrArg some (congrArg Value.int ((if_neg (Fld.ne F_ordinal_w_LONG F_ordinal_w_STRUCTURE (by decide))).trans ((if_neg (Fld.ne F_ordinal_w_LONG F_ordinal_w_UNION (by decide))).trans ((if_neg (Fld.ne F_ordinal_w_LONG F_ordinal_w_ENUM (by decide))).trans (if_neg (Fld.ne F_ordinal_w_LONG F_ordinal_w_INT_ENUM (by decide))))))))
  have N2 := Fr.app N1 Nq2
  have pre3 : ∀ t, Steps p.tables e below (T2.setTop (mkF m 79 #[.val (.int p1), .val (.int (8 : Int32)), .val (.ref w_LONG), .val (.int (0 : Int32)), .val (.int (0 : Int32)), .val (.int (0 : Int32))] [(.int (1 : Int32))])) t → Steps p.tables e below (s₁.setTop (entryFrame m #[(.int p1)] maxLocals)) t := fun t k => pre0 t (by
    show Steps p.tables e below (s₁.setTop (mkF m 0 #[.val (.int p1), .unset, .unset, .unset, .unset, .unset] [])) _
    refine XS.iloadN X0.here hx rfl (hb hby at_0) rfl ?_
    show Steps p.tables e below (s₁.setTop (mkF m 1 #[.val (.int p1), .unset, .unset, .unset, .unset, .unset] [(.int p1)])) _
    refine X0.ldcInt hx hown (mvT hZ (hw _ (ow 0 rfl))) (g := (mkF m 1 #[.val (.int p1), .unset, .unset, .unset, .unset, .unset] [(.int p1)])) rfl (hb hby at_1) _ ?_
    show Steps p.tables e below (s₁.setTop (mkF m 3 #[.val (.int p1), .unset, .unset, .unset, .unset, .unset] [(.int (2147483647 : Int32)), (.int p1)])) _
    refine XS.iand X0.here hx rfl (hb hby at_3) rfl ?_
    show Steps p.tables e below (s₁.setTop (mkF m 4 #[.val (.int p1), .unset, .unset, .unset, .unset, .unset] [(.int (p1 &&& (2147483647 : Int32)))])) _
    refine XS.bipush X0.here hx rfl (hb hby at_4) ?_
    show Steps p.tables e below (s₁.setTop (mkF m 6 #[.val (.int p1), .unset, .unset, .unset, .unset, .unset] [(.int (23 : Int32)), (.int (p1 &&& (2147483647 : Int32)))])) _
    refine iremM X0 hx rfl (hb hby at_6) rfl (by decide) ?_
    show Steps p.tables e below (s₁.setTop (mkF m 7 #[.val (.int p1), .unset, .unset, .unset, .unset, .unset] [(.int ((p1 &&& (2147483647 : Int32)) % (23 : Int32)))])) _
    rw [hk]
    show Steps p.tables e below (s₁.setTop (mkF m 7 #[.val (.int p1), .unset, .unset, .unset, .unset, .unset] [(.int (8 : Int32))])) _
    refine XS.istoreN X0.here hx rfl (hb hby at_7) rfl (l' := #[.val (.int p1), .val (.int (8 : Int32)), .unset, .unset, .unset, .unset]) rfl ?_
    show Steps p.tables e below (s₁.setTop (mkF m 8 #[.val (.int p1), .val (.int (8 : Int32)), .unset, .unset, .unset, .unset] [])) _
    refine XS.iloadN X0.here hx rfl (hb hby at_8) rfl ?_
    show Steps p.tables e below (s₁.setTop (mkF m 9 #[.val (.int p1), .val (.int (8 : Int32)), .unset, .unset, .unset, .unset] [(.int (8 : Int32))])) _
    refine st1 _ ?_
    show Steps p.tables e below (T1.setTop (mkF m 12 #[.val (.int p1), .val (.int (8 : Int32)), .unset, .unset, .unset, .unset] [(.ref w_LONG)])) _
    refine XS.astoreN X1.here hx rfl (hb hby at_12) rfl rfl (l' := #[.val (.int p1), .val (.int (8 : Int32)), .val (.ref w_LONG), .unset, .unset, .unset]) rfl ?_
    show Steps p.tables e below (T1.setTop (mkF m 13 #[.val (.int p1), .val (.int (8 : Int32)), .val (.ref w_LONG), .unset, .unset, .unset] [])) _
    refine XS.iloadN X1.here hx rfl (hb hby at_13) rfl ?_
    show Steps p.tables e below (T1.setTop (mkF m 14 #[.val (.int p1), .val (.int (8 : Int32)), .val (.ref w_LONG), .unset, .unset, .unset] [(.int (8 : Int32))])) _
    refine XS.bipush X1.here hx rfl (hb hby at_14) ?_
    show Steps p.tables e below (T1.setTop (mkF m 16 #[.val (.int p1), .val (.int (8 : Int32)), .val (.ref w_LONG), .unset, .unset, .unset] [(.int (17 : Int32)), (.int (8 : Int32))])) _
    refine XS.icmpNo X1.here hx rfl (hb hby at_16) rfl (feq (by decide)).1 ?_
    show Steps p.tables e below (T1.setTop (mkF m 19 #[.val (.int p1), .val (.int (8 : Int32)), .val (.ref w_LONG), .unset, .unset, .unset] [])) _
    refine XS.iloadN X1.here hx rfl (hb hby at_19) rfl ?_
    show Steps p.tables e below (T1.setTop (mkF m 20 #[.val (.int p1), .val (.int (8 : Int32)), .val (.ref w_LONG), .unset, .unset, .unset] [(.int (8 : Int32))])) _
    refine XS.bipush X1.here hx rfl (hb hby at_20) ?_
    show Steps p.tables e below (T1.setTop (mkF m 22 #[.val (.int p1), .val (.int (8 : Int32)), .val (.ref w_LONG), .unset, .unset, .unset] [(.int (18 : Int32)), (.int (8 : Int32))])) _
    refine XS.icmpYes X1.here hx rfl (pc0 := 22) (pc' := 29) rfl (hb hby at_22) rfl (feq (by decide)).2 (by decide) (by decide) ?_
    show Steps p.tables e below (T1.setTop (mkF m 29 #[.val (.int p1), .val (.int (8 : Int32)), .val (.ref w_LONG), .unset, .unset, .unset] [])) _
    refine XS.iconst X1.here hx rfl (hb hby at_29) ?_
    show Steps p.tables e below (T1.setTop (mkF m 30 #[.val (.int p1), .val (.int (8 : Int32)), .val (.ref w_LONG), .unset, .unset, .unset] [(.int (0 : Int32))])) _
    refine XS.istoreN X1.here hx rfl (hb hby at_30) rfl (l' := #[.val (.int p1), .val (.int (8 : Int32)), .val (.ref w_LONG), .val (.int (0 : Int32)), .unset, .unset]) rfl ?_
    show Steps p.tables e below (T1.setTop (mkF m 31 #[.val (.int p1), .val (.int (8 : Int32)), .val (.ref w_LONG), .val (.int (0 : Int32)), .unset, .unset] [])) _
    refine XS.iloadN X1.here hx rfl (hb hby at_31) rfl ?_
    show Steps p.tables e below (T1.setTop (mkF m 32 #[.val (.int p1), .val (.int (8 : Int32)), .val (.ref w_LONG), .val (.int (0 : Int32)), .unset, .unset] [(.int (8 : Int32))])) _
    refine XS.iconst X1.here hx rfl (hb hby at_32) ?_
    show Steps p.tables e below (T1.setTop (mkF m 33 #[.val (.int p1), .val (.int (8 : Int32)), .val (.ref w_LONG), .val (.int (0 : Int32)), .unset, .unset] [(.int (3 : Int32)), (.int (8 : Int32))])) _
    refine XS.icmpNo X1.here hx rfl (hb hby at_33) rfl (feq (by decide)).1 ?_
    show Steps p.tables e below (T1.setTop (mkF m 36 #[.val (.int p1), .val (.int (8 : Int32)), .val (.ref w_LONG), .val (.int (0 : Int32)), .unset, .unset] [])) _
    refine XS.iloadN X1.here hx rfl (hb hby at_36) rfl ?_
    show Steps p.tables e below (T1.setTop (mkF m 37 #[.val (.int p1), .val (.int (8 : Int32)), .val (.ref w_LONG), .val (.int (0 : Int32)), .unset, .unset] [(.int (8 : Int32))])) _
    refine XS.bipush X1.here hx rfl (hb hby at_37) ?_
    show Steps p.tables e below (T1.setTop (mkF m 39 #[.val (.int p1), .val (.int (8 : Int32)), .val (.ref w_LONG), .val (.int (0 : Int32)), .unset, .unset] [(.int (7 : Int32)), (.int (8 : Int32))])) _
    refine XS.icmpYes X1.here hx rfl (pc0 := 39) (pc' := 46) rfl (hb hby at_39) rfl (feq (by decide)).2 (by decide) (by decide) ?_
    show Steps p.tables e below (T1.setTop (mkF m 46 #[.val (.int p1), .val (.int (8 : Int32)), .val (.ref w_LONG), .val (.int (0 : Int32)), .unset, .unset] [])) _
    refine XS.iconst X1.here hx rfl (hb hby at_46) ?_
    show Steps p.tables e below (T1.setTop (mkF m 47 #[.val (.int p1), .val (.int (8 : Int32)), .val (.ref w_LONG), .val (.int (0 : Int32)), .unset, .unset] [(.int (0 : Int32))])) _
    refine XS.istore X1.here hx rfl (hb hby at_47) rfl (l' := #[.val (.int p1), .val (.int (8 : Int32)), .val (.ref w_LONG), .val (.int (0 : Int32)), .val (.int (0 : Int32)), .unset]) rfl ?_
    show Steps p.tables e below (T1.setTop (mkF m 49 #[.val (.int p1), .val (.int (8 : Int32)), .val (.ref w_LONG), .val (.int (0 : Int32)), .val (.int (0 : Int32)), .unset] [])) _
    refine XS.iloadN X1.here hx rfl (hb hby at_49) rfl ?_
    show Steps p.tables e below (T1.setTop (mkF m 50 #[.val (.int p1), .val (.int (8 : Int32)), .val (.ref w_LONG), .val (.int (0 : Int32)), .val (.int (0 : Int32)), .unset] [(.int (0 : Int32))])) _
    refine XS.ifNo X1.here hx rfl (hb hby at_50) rfl ((if0 _ _).trans (teq (by decide)).2) ?_
    show Steps p.tables e below (T1.setTop (mkF m 53 #[.val (.int p1), .val (.int (8 : Int32)), .val (.ref w_LONG), .val (.int (0 : Int32)), .val (.int (0 : Int32)), .unset] [])) _
    refine XS.iload X1.here hx rfl (hb hby at_53) rfl ?_
    show Steps p.tables e below (T1.setTop (mkF m 55 #[.val (.int p1), .val (.int (8 : Int32)), .val (.ref w_LONG), .val (.int (0 : Int32)), .val (.int (0 : Int32)), .unset] [(.int (0 : Int32))])) _
    refine XS.ifYes X1.here hx rfl (pc0 := 55) (pc' := 62) rfl (hb hby at_55) rfl ((if0 _ _).trans (teq (by decide)).1) (by decide) (by decide) ?_
    show Steps p.tables e below (T1.setTop (mkF m 62 #[.val (.int p1), .val (.int (8 : Int32)), .val (.ref w_LONG), .val (.int (0 : Int32)), .val (.int (0 : Int32)), .unset] [])) _
    refine XS.iconst X1.here hx rfl (hb hby at_62) ?_
    show Steps p.tables e below (T1.setTop (mkF m 63 #[.val (.int p1), .val (.int (8 : Int32)), .val (.ref w_LONG), .val (.int (0 : Int32)), .val (.int (0 : Int32)), .unset] [(.int (0 : Int32))])) _
    refine XS.istore X1.here hx rfl (hb hby at_63) rfl (l' := #[.val (.int p1), .val (.int (8 : Int32)), .val (.ref w_LONG), .val (.int (0 : Int32)), .val (.int (0 : Int32)), .val (.int (0 : Int32))]) rfl ?_
    show Steps p.tables e below (T1.setTop (mkF m 65 #[.val (.int p1), .val (.int (8 : Int32)), .val (.ref w_LONG), .val (.int (0 : Int32)), .val (.int (0 : Int32)), .val (.int (0 : Int32))] [])) _
    refine XS.aloadN X1.here hx rfl (hb hby at_65) rfl rfl ?_
    show Steps p.tables e below (T1.setTop (mkF m 66 #[.val (.int p1), .val (.int (8 : Int32)), .val (.ref w_LONG), .val (.int (0 : Int32)), .val (.int (0 : Int32)), .val (.int (0 : Int32))] [(.ref w_LONG)])) _
    refine st2.trans ?_
    show Steps p.tables e below (T2.setTop (mkF m 69 #[.val (.int p1), .val (.int (8 : Int32)), .val (.ref w_LONG), .val (.int (0 : Int32)), .val (.int (0 : Int32)), .val (.int (0 : Int32))] [(.int (0 : Int32))])) _
    refine XS.iload X2.here hx rfl (hb hby at_69) rfl ?_
    show Steps p.tables e below (T2.setTop (mkF m 71 #[.val (.int p1), .val (.int (8 : Int32)), .val (.ref w_LONG), .val (.int (0 : Int32)), .val (.int (0 : Int32)), .val (.int (0 : Int32))] [(.int (0 : Int32)), (.int (0 : Int32))])) _
    refine XS.icmpNo X2.here hx rfl (hb hby at_71) rfl (teq (by decide)).2 ?_
    show Steps p.tables e below (T2.setTop (mkF m 74 #[.val (.int p1), .val (.int (8 : Int32)), .val (.ref w_LONG), .val (.int (0 : Int32)), .val (.int (0 : Int32)), .val (.int (0 : Int32))] [])) _
    refine XS.iconst X2.here hx rfl (hb hby at_74) ?_
    show Steps p.tables e below (T2.setTop (mkF m 75 #[.val (.int p1), .val (.int (8 : Int32)), .val (.ref w_LONG), .val (.int (0 : Int32)), .val (.int (0 : Int32)), .val (.int (0 : Int32))] [(.int (1 : Int32))])) _
    refine XS.goto X2.here hx rfl (pc0 := 75) (pc' := 79) rfl (hb hby at_75) (by decide) (by decide) ?_
    exact k)
  obtain ⟨fs, hr, hrun, hended, hW, hsame⟩ := X2.leave (v := some (.int (1 : Int32))) (fun h => by rw [Bd.returns] at h; cases h)
  refine ⟨_, _, pre3 _ ?_, hrun, hended, _, _, rfl, ?_, ⟨_, rfl⟩, hW, hsame.mono (by decide) (by decide)⟩
  · show Steps p.tables e below (T2.setTop (mkF m 79 #[.val (.int p1), .val (.int (8 : Int32)), .val (.ref w_LONG), .val (.int (0 : Int32)), .val (.int (0 : Int32)), .val (.int (0 : Int32))] [(.int (1 : Int32))])) _
    exact retN X2 hx (t := .boolean) Bd.returns (by simp) (hb hby at_79) hr
  · exact ⟨rfl, N2, e2⟩
theorem ef_law9 (m : MethodId) (x0 : Int32) : entryFrame m #[(.int x0)] maxLocals = mkF m 0 #[.val (.int x0), .unset, .unset, .unset, .unset, .unset] [] := by first | (simp [entryFrame, mkF, argsToLocals, Value.category, maxLocals]; done) | rfl
set_option maxRecDepth 65536 in
set_option maxHeartbeats 40000000 in
theorem rm_law9 (l : Launch) (Z : State) (a0 : Array Value) (hw : ∀ d ∈ tables_1, d.before a0 Z = true) (ws : List Jvm.Cond) (p1 : Int32) (h0 : Heap) (n0 : Nat) (w_BLOB w_STRUCTURE w_UNION w_ENUM w_INT_ENUM w_BIG_INTEGER w_BIG_DECIMAL w_SHORT w_STRING w_BYTE w_LONG w_BOOLEAN w_RESOURCE w_MAP w_DOUBLE w_FLOAT w_MEMBER w_SERVICE w_LIST w_OPERATION w_DOCUMENT w_INTEGER w_TIMESTAMP : Addr) (hK : own_K Z h0 w_BLOB w_STRUCTURE w_UNION w_ENUM w_INT_ENUM w_BIG_INTEGER w_BIG_DECIMAL w_SHORT w_STRING w_BYTE w_LONG w_BOOLEAN w_RESOURCE w_MAP w_DOUBLE w_FLOAT w_MEMBER w_SERVICE w_LIST w_OPERATION w_DOCUMENT w_INTEGER w_TIMESTAMP) (hk : ((p1 &&& (2147483647 : Int32)) % (23 : Int32)) = (9 : Int32)) :
    MetFree l x (head1 (Jvm.Cond.code x code maxLocals ret :: ws) room_1) (fun a U => a = #[(.int p1)] ∧ Z.Warmed39 U.vm ∧ U.heap = h0) (fun _ _ _ _ _ => True) (fun _ U o U' => ∃ v L, o = .returned v ∧ own_Q (some (.int (1 : Int32))) h0 n0 v U'.heap L ∧ FrameEnd U o U' L room_1.cells room_1.slots) := by
  refine MetFree.of_bodySF (plainFor_of_name pn_0) hisR ?_
  intro p e s m args below meth c s₁ Bd hml0 hP hK0
  obtain ⟨rfl, hZ, hh⟩ := hP
  have hx := Bd.exec
  have hby := Bd.bytes
  have hml : c.maxLocals = 6 := hml0
  have hown : s.vm.findClass "com/example/falkirk/falkirk/model/ShapeTypeHasNamedMembersPinLaw" = some m.cls := findClass_of_methodNamed Bd.named
  have hnm := (name_of_methodNamed Bd.named Bd.method).1
  have X0 : Stand p l e room_1 s m #[(.int p1)] below meth c s₁ [] 0 0 := Stand.of_body Bd
  have e0 : s₁.heap = h0 := by rw [← hh, Bd.state]; rfl
  have N0 := Fr.nil n0
  have pre0 : ∀ t, Steps p.tables e below (s₁.setTop (mkF m 0 #[.val (.int p1), .unset, .unset, .unset, .unset, .unset] [])) t → Steps p.tables e below (s₁.setTop (entryFrame m #[(.int p1)] maxLocals)) t := fun t k => castTop (ef_law9 m p1) k
  have hK' := hK
  obtain ⟨S_w_BLOB, E_w_BLOB, S_w_STRUCTURE, E_w_STRUCTURE, F_ordinal_w_BLOB, F_ordinal_w_STRUCTURE, S_w_UNION, E_w_UNION, F_ordinal_w_UNION, S_w_ENUM, E_w_ENUM, F_ordinal_w_ENUM, S_w_INT_ENUM, E_w_INT_ENUM, F_ordinal_w_INT_ENUM, S_w_BIG_INTEGER, E_w_BIG_INTEGER, F_ordinal_w_BIG_INTEGER, S_w_BIG_DECIMAL, E_w_BIG_DECIMAL, F_ordinal_w_BIG_DECIMAL, S_w_SHORT, E_w_SHORT, F_ordinal_w_SHORT, S_w_STRING, E_w_STRING, F_ordinal_w_STRING, S_w_BYTE, E_w_BYTE, F_ordinal_w_BYTE, S_w_LONG, E_w_LONG, F_ordinal_w_LONG, S_w_BOOLEAN, E_w_BOOLEAN, F_ordinal_w_BOOLEAN, S_w_RESOURCE, E_w_RESOURCE, F_ordinal_w_RESOURCE, S_w_MAP, E_w_MAP, F_ordinal_w_MAP, S_w_DOUBLE, E_w_DOUBLE, F_ordinal_w_DOUBLE, S_w_FLOAT, E_w_FLOAT, F_ordinal_w_FLOAT, S_w_MEMBER, E_w_MEMBER, F_ordinal_w_MEMBER, S_w_SERVICE, E_w_SERVICE, F_ordinal_w_SERVICE, S_w_LIST, E_w_LIST, F_ordinal_w_LIST, S_w_OPERATION, E_w_OPERATION, F_ordinal_w_OPERATION, S_w_DOCUMENT, E_w_DOCUMENT, F_ordinal_w_DOCUMENT, S_w_INTEGER, E_w_INTEGER, F_ordinal_w_INTEGER, S_w_TIMESTAMP, E_w_TIMESTAMP, F_ordinal_w_TIMESTAMP⟩ := hK'
  obtain ⟨v1, _, ⟨T1, L1, k1, n1⟩, -, X1, ⟨Lc1, hQ1, l1, y1, z1⟩, st1⟩ := Jvm.LawKit.callS X0 hx (y := (⟨"com/example/falkirk/falkirk/model/ShapeTypeHasNamedMembersPinLaw", "pick", "(I)Lcom/example/falkirk/falkirk/model/ShapeType;"⟩ : MethodName)) hown (mvT hZ (hw _ (ow 1 rfl))) (mvT hZ (hw _ (ow 2 rfl))) (mvT hZ (hw _ (ow 3 rfl))) (mvT hZ (hw _ (ow 4 rfl))) (by decide) (backOf (W := 0) (rm_pick l Z a0 hw [] (9 : Int32) h0 n0 w_BLOB w_STRUCTURE w_UNION w_ENUM w_INT_ENUM w_BIG_INTEGER w_BIG_DECIMAL w_SHORT w_STRING w_BYTE w_LONG w_BOOLEAN w_RESOURCE w_MAP w_DOUBLE w_FLOAT w_MEMBER w_SERVICE w_LIST w_OPERATION w_DOCUMENT w_INTEGER w_TIMESTAMP hK) hZ (hw _ (ow 4 rfl)) (hw _ (ow 3 rfl)) (by decide) (by decide)) (g := (mkF m 9 #[.val (.int p1), .val (.int (9 : Int32)), .unset, .unset, .unset, .unset] [(.int (9 : Int32))])) rfl (by rw [hml]; rfl) (argsL := [(.int (9 : Int32))]) (rest := []) (lenOf pd_0 rfl) rfl (Nat.le_of_eq rfl) (hb hby at_9) (fun _ _ => ⟨rfl, e0, (by decide : 0 + 0 ≤ _), (by decide : 0 + 0 ≤ _)⟩)
  dsimp only [Pt.U, Pt.locs, Pt.cells, Pt.slots] at X1 l1 y1 z1 st1 hQ1
  subst l1 y1 z1
  obtain ⟨hv1, Nq1, e1⟩ := hQ1
  obtain rfl : v1 = some (.ref w_FLOAT) := hv1.trans (congrArg some (congrArg Value.ref ((if_neg (by decide)).trans ((if_neg (by decide)).trans ((if_neg (by decide)).trans ((if_neg (by decide)).trans ((if_neg (by decide)).trans ((if_neg (by decide)).trans ((if_neg (by decide)).trans ((if_neg (by decide)).trans ((if_neg (by decide)).trans (if_pos (by decide)))))))))))))
  have N1 := Fr.app N0 Nq1
  obtain ⟨cq2, kq2, q2a, q2b, q2c⟩ := isOf hZ e1 E_w_FLOAT
  obtain ⟨v2, _, ⟨T2, L2, k2, n2⟩, -, X2, ⟨Lc2, hQ2, l2, y2, z2⟩, st2⟩ := X1.virtualBack hx (y := (⟨"com/example/falkirk/falkirk/model/ShapeType", "hasNamedMembers", "()Z"⟩ : MethodName)) (z := (⟨"com/example/falkirk/falkirk/model/ShapeType", "hasNamedMembers", "()Z"⟩ : MethodName)) hown (mvT hZ (hw _ (ow 8 rfl))) (mvT hZ (hw _ (ow 9 rfl))) (notFace_of_selects (args := #[]) (mvT hZ (hw _ (ow 11 rfl)))) (mvT hZ (hw _ (ow 11 rfl))) (mvT hZ (hw _ (ow 10 rfl))) (by decide) (backOf (W := 0) (rm_hasNamedMembers l Z a0 hw [] w_FLOAT h0 n0 w_BLOB w_STRUCTURE w_UNION w_ENUM w_INT_ENUM w_BIG_INTEGER w_BIG_DECIMAL w_SHORT w_STRING w_BYTE w_LONG w_BOOLEAN w_RESOURCE w_MAP w_DOUBLE w_FLOAT w_MEMBER w_SERVICE w_LIST w_OPERATION w_DOCUMENT w_INTEGER w_TIMESTAMP hK) hZ (hw _ (ow 12 rfl)) (hw _ (ow 6 rfl)) (by decide) (by decide)) q2a q2c (g := (mkF m 66 #[.val (.int p1), .val (.int (9 : Int32)), .val (.ref w_FLOAT), .val (.int (0 : Int32)), .val (.int (0 : Int32)), .val (.int (0 : Int32))] [(.ref w_FLOAT)])) rfl (by rw [hml]; rfl) (Steps.refl _) (argsL := []) (rest := []) (lenOf pd_1 rfl) rfl (Nat.le_of_eq rfl) (hb hby at_66) (fun _ _ => ⟨rfl, e1, (by decide : 0 + 0 ≤ _), (by decide : 0 + 0 ≤ _)⟩)
  dsimp only [Pt.U, Pt.locs, Pt.cells, Pt.slots] at X2 l2 y2 z2 st2 hQ2
  subst l2 y2 z2
  obtain ⟨hv2, Nq2, e2⟩ := hQ2
  obtain rfl : v2 = some (.int (0 : Int32)) := hv2.trans (congrArg some (congrArg Value.int ((if_neg (Fld.ne F_ordinal_w_FLOAT F_ordinal_w_STRUCTURE (by decide))).trans ((if_neg (Fld.ne F_ordinal_w_FLOAT F_ordinal_w_UNION (by decide))).trans ((if_neg (Fld.ne F_ordinal_w_FLOAT F_ordinal_w_ENUM (by decide))).trans (if_neg (Fld.ne F_ordinal_w_FLOAT F_ordinal_w_INT_ENUM (by decide))))))))
  have N2 := Fr.app N1 Nq2
  have pre3 : ∀ t, Steps p.tables e below (T2.setTop (mkF m 79 #[.val (.int p1), .val (.int (9 : Int32)), .val (.ref w_FLOAT), .val (.int (0 : Int32)), .val (.int (0 : Int32)), .val (.int (0 : Int32))] [(.int (1 : Int32))])) t → Steps p.tables e below (s₁.setTop (entryFrame m #[(.int p1)] maxLocals)) t := fun t k => pre0 t (by
    show Steps p.tables e below (s₁.setTop (mkF m 0 #[.val (.int p1), .unset, .unset, .unset, .unset, .unset] [])) _
    refine XS.iloadN X0.here hx rfl (hb hby at_0) rfl ?_
    show Steps p.tables e below (s₁.setTop (mkF m 1 #[.val (.int p1), .unset, .unset, .unset, .unset, .unset] [(.int p1)])) _
    refine X0.ldcInt hx hown (mvT hZ (hw _ (ow 0 rfl))) (g := (mkF m 1 #[.val (.int p1), .unset, .unset, .unset, .unset, .unset] [(.int p1)])) rfl (hb hby at_1) _ ?_
    show Steps p.tables e below (s₁.setTop (mkF m 3 #[.val (.int p1), .unset, .unset, .unset, .unset, .unset] [(.int (2147483647 : Int32)), (.int p1)])) _
    refine XS.iand X0.here hx rfl (hb hby at_3) rfl ?_
    show Steps p.tables e below (s₁.setTop (mkF m 4 #[.val (.int p1), .unset, .unset, .unset, .unset, .unset] [(.int (p1 &&& (2147483647 : Int32)))])) _
    refine XS.bipush X0.here hx rfl (hb hby at_4) ?_
    show Steps p.tables e below (s₁.setTop (mkF m 6 #[.val (.int p1), .unset, .unset, .unset, .unset, .unset] [(.int (23 : Int32)), (.int (p1 &&& (2147483647 : Int32)))])) _
    refine iremM X0 hx rfl (hb hby at_6) rfl (by decide) ?_
    show Steps p.tables e below (s₁.setTop (mkF m 7 #[.val (.int p1), .unset, .unset, .unset, .unset, .unset] [(.int ((p1 &&& (2147483647 : Int32)) % (23 : Int32)))])) _
    rw [hk]
    show Steps p.tables e below (s₁.setTop (mkF m 7 #[.val (.int p1), .unset, .unset, .unset, .unset, .unset] [(.int (9 : Int32))])) _
    refine XS.istoreN X0.here hx rfl (hb hby at_7) rfl (l' := #[.val (.int p1), .val (.int (9 : Int32)), .unset, .unset, .unset, .unset]) rfl ?_
    show Steps p.tables e below (s₁.setTop (mkF m 8 #[.val (.int p1), .val (.int (9 : Int32)), .unset, .unset, .unset, .unset] [])) _
    refine XS.iloadN X0.here hx rfl (hb hby at_8) rfl ?_
    show Steps p.tables e below (s₁.setTop (mkF m 9 #[.val (.int p1), .val (.int (9 : Int32)), .unset, .unset, .unset, .unset] [(.int (9 : Int32))])) _
    refine st1 _ ?_
    show Steps p.tables e below (T1.setTop (mkF m 12 #[.val (.int p1), .val (.int (9 : Int32)), .unset, .unset, .unset, .unset] [(.ref w_FLOAT)])) _
    refine XS.astoreN X1.here hx rfl (hb hby at_12) rfl rfl (l' := #[.val (.int p1), .val (.int (9 : Int32)), .val (.ref w_FLOAT), .unset, .unset, .unset]) rfl ?_
    show Steps p.tables e below (T1.setTop (mkF m 13 #[.val (.int p1), .val (.int (9 : Int32)), .val (.ref w_FLOAT), .unset, .unset, .unset] [])) _
    refine XS.iloadN X1.here hx rfl (hb hby at_13) rfl ?_
    show Steps p.tables e below (T1.setTop (mkF m 14 #[.val (.int p1), .val (.int (9 : Int32)), .val (.ref w_FLOAT), .unset, .unset, .unset] [(.int (9 : Int32))])) _
    refine XS.bipush X1.here hx rfl (hb hby at_14) ?_
    show Steps p.tables e below (T1.setTop (mkF m 16 #[.val (.int p1), .val (.int (9 : Int32)), .val (.ref w_FLOAT), .unset, .unset, .unset] [(.int (17 : Int32)), (.int (9 : Int32))])) _
    refine XS.icmpNo X1.here hx rfl (hb hby at_16) rfl (feq (by decide)).1 ?_
    show Steps p.tables e below (T1.setTop (mkF m 19 #[.val (.int p1), .val (.int (9 : Int32)), .val (.ref w_FLOAT), .unset, .unset, .unset] [])) _
    refine XS.iloadN X1.here hx rfl (hb hby at_19) rfl ?_
    show Steps p.tables e below (T1.setTop (mkF m 20 #[.val (.int p1), .val (.int (9 : Int32)), .val (.ref w_FLOAT), .unset, .unset, .unset] [(.int (9 : Int32))])) _
    refine XS.bipush X1.here hx rfl (hb hby at_20) ?_
    show Steps p.tables e below (T1.setTop (mkF m 22 #[.val (.int p1), .val (.int (9 : Int32)), .val (.ref w_FLOAT), .unset, .unset, .unset] [(.int (18 : Int32)), (.int (9 : Int32))])) _
    refine XS.icmpYes X1.here hx rfl (pc0 := 22) (pc' := 29) rfl (hb hby at_22) rfl (feq (by decide)).2 (by decide) (by decide) ?_
    show Steps p.tables e below (T1.setTop (mkF m 29 #[.val (.int p1), .val (.int (9 : Int32)), .val (.ref w_FLOAT), .unset, .unset, .unset] [])) _
    refine XS.iconst X1.here hx rfl (hb hby at_29) ?_
    show Steps p.tables e below (T1.setTop (mkF m 30 #[.val (.int p1), .val (.int (9 : Int32)), .val (.ref w_FLOAT), .unset, .unset, .unset] [(.int (0 : Int32))])) _
    refine XS.istoreN X1.here hx rfl (hb hby at_30) rfl (l' := #[.val (.int p1), .val (.int (9 : Int32)), .val (.ref w_FLOAT), .val (.int (0 : Int32)), .unset, .unset]) rfl ?_
    show Steps p.tables e below (T1.setTop (mkF m 31 #[.val (.int p1), .val (.int (9 : Int32)), .val (.ref w_FLOAT), .val (.int (0 : Int32)), .unset, .unset] [])) _
    refine XS.iloadN X1.here hx rfl (hb hby at_31) rfl ?_
    show Steps p.tables e below (T1.setTop (mkF m 32 #[.val (.int p1), .val (.int (9 : Int32)), .val (.ref w_FLOAT), .val (.int (0 : Int32)), .unset, .unset] [(.int (9 : Int32))])) _
    refine XS.iconst X1.here hx rfl (hb hby at_32) ?_
    show Steps p.tables e below (T1.setTop (mkF m 33 #[.val (.int p1), .val (.int (9 : Int32)), .val (.ref w_FLOAT), .val (.int (0 : Int32)), .unset, .unset] [(.int (3 : Int32)), (.int (9 : Int32))])) _
    refine XS.icmpNo X1.here hx rfl (hb hby at_33) rfl (feq (by decide)).1 ?_
    show Steps p.tables e below (T1.setTop (mkF m 36 #[.val (.int p1), .val (.int (9 : Int32)), .val (.ref w_FLOAT), .val (.int (0 : Int32)), .unset, .unset] [])) _
    refine XS.iloadN X1.here hx rfl (hb hby at_36) rfl ?_
    show Steps p.tables e below (T1.setTop (mkF m 37 #[.val (.int p1), .val (.int (9 : Int32)), .val (.ref w_FLOAT), .val (.int (0 : Int32)), .unset, .unset] [(.int (9 : Int32))])) _
    refine XS.bipush X1.here hx rfl (hb hby at_37) ?_
    show Steps p.tables e below (T1.setTop (mkF m 39 #[.val (.int p1), .val (.int (9 : Int32)), .val (.ref w_FLOAT), .val (.int (0 : Int32)), .unset, .unset] [(.int (7 : Int32)), (.int (9 : Int32))])) _
    refine XS.icmpYes X1.here hx rfl (pc0 := 39) (pc' := 46) rfl (hb hby at_39) rfl (feq (by decide)).2 (by decide) (by decide) ?_
    show Steps p.tables e below (T1.setTop (mkF m 46 #[.val (.int p1), .val (.int (9 : Int32)), .val (.ref w_FLOAT), .val (.int (0 : Int32)), .unset, .unset] [])) _
    refine XS.iconst X1.here hx rfl (hb hby at_46) ?_
    show Steps p.tables e below (T1.setTop (mkF m 47 #[.val (.int p1), .val (.int (9 : Int32)), .val (.ref w_FLOAT), .val (.int (0 : Int32)), .unset, .unset] [(.int (0 : Int32))])) _
    refine XS.istore X1.here hx rfl (hb hby at_47) rfl (l' := #[.val (.int p1), .val (.int (9 : Int32)), .val (.ref w_FLOAT), .val (.int (0 : Int32)), .val (.int (0 : Int32)), .unset]) rfl ?_
    show Steps p.tables e below (T1.setTop (mkF m 49 #[.val (.int p1), .val (.int (9 : Int32)), .val (.ref w_FLOAT), .val (.int (0 : Int32)), .val (.int (0 : Int32)), .unset] [])) _
    refine XS.iloadN X1.here hx rfl (hb hby at_49) rfl ?_
    show Steps p.tables e below (T1.setTop (mkF m 50 #[.val (.int p1), .val (.int (9 : Int32)), .val (.ref w_FLOAT), .val (.int (0 : Int32)), .val (.int (0 : Int32)), .unset] [(.int (0 : Int32))])) _
    refine XS.ifNo X1.here hx rfl (hb hby at_50) rfl ((if0 _ _).trans (teq (by decide)).2) ?_
    show Steps p.tables e below (T1.setTop (mkF m 53 #[.val (.int p1), .val (.int (9 : Int32)), .val (.ref w_FLOAT), .val (.int (0 : Int32)), .val (.int (0 : Int32)), .unset] [])) _
    refine XS.iload X1.here hx rfl (hb hby at_53) rfl ?_
    show Steps p.tables e below (T1.setTop (mkF m 55 #[.val (.int p1), .val (.int (9 : Int32)), .val (.ref w_FLOAT), .val (.int (0 : Int32)), .val (.int (0 : Int32)), .unset] [(.int (0 : Int32))])) _
    refine XS.ifYes X1.here hx rfl (pc0 := 55) (pc' := 62) rfl (hb hby at_55) rfl ((if0 _ _).trans (teq (by decide)).1) (by decide) (by decide) ?_
    show Steps p.tables e below (T1.setTop (mkF m 62 #[.val (.int p1), .val (.int (9 : Int32)), .val (.ref w_FLOAT), .val (.int (0 : Int32)), .val (.int (0 : Int32)), .unset] [])) _
    refine XS.iconst X1.here hx rfl (hb hby at_62) ?_
    show Steps p.tables e below (T1.setTop (mkF m 63 #[.val (.int p1), .val (.int (9 : Int32)), .val (.ref w_FLOAT), .val (.int (0 : Int32)), .val (.int (0 : Int32)), .unset] [(.int (0 : Int32))])) _
    refine XS.istore X1.here hx rfl (hb hby at_63) rfl (l' := #[.val (.int p1), .val (.int (9 : Int32)), .val (.ref w_FLOAT), .val (.int (0 : Int32)), .val (.int (0 : Int32)), .val (.int (0 : Int32))]) rfl ?_
    show Steps p.tables e below (T1.setTop (mkF m 65 #[.val (.int p1), .val (.int (9 : Int32)), .val (.ref w_FLOAT), .val (.int (0 : Int32)), .val (.int (0 : Int32)), .val (.int (0 : Int32))] [])) _
    refine XS.aloadN X1.here hx rfl (hb hby at_65) rfl rfl ?_
    show Steps p.tables e below (T1.setTop (mkF m 66 #[.val (.int p1), .val (.int (9 : Int32)), .val (.ref w_FLOAT), .val (.int (0 : Int32)), .val (.int (0 : Int32)), .val (.int (0 : Int32))] [(.ref w_FLOAT)])) _
    refine st2.trans ?_
    show Steps p.tables e below (T2.setTop (mkF m 69 #[.val (.int p1), .val (.int (9 : Int32)), .val (.ref w_FLOAT), .val (.int (0 : Int32)), .val (.int (0 : Int32)), .val (.int (0 : Int32))] [(.int (0 : Int32))])) _
    refine XS.iload X2.here hx rfl (hb hby at_69) rfl ?_
    show Steps p.tables e below (T2.setTop (mkF m 71 #[.val (.int p1), .val (.int (9 : Int32)), .val (.ref w_FLOAT), .val (.int (0 : Int32)), .val (.int (0 : Int32)), .val (.int (0 : Int32))] [(.int (0 : Int32)), (.int (0 : Int32))])) _
    refine XS.icmpNo X2.here hx rfl (hb hby at_71) rfl (teq (by decide)).2 ?_
    show Steps p.tables e below (T2.setTop (mkF m 74 #[.val (.int p1), .val (.int (9 : Int32)), .val (.ref w_FLOAT), .val (.int (0 : Int32)), .val (.int (0 : Int32)), .val (.int (0 : Int32))] [])) _
    refine XS.iconst X2.here hx rfl (hb hby at_74) ?_
    show Steps p.tables e below (T2.setTop (mkF m 75 #[.val (.int p1), .val (.int (9 : Int32)), .val (.ref w_FLOAT), .val (.int (0 : Int32)), .val (.int (0 : Int32)), .val (.int (0 : Int32))] [(.int (1 : Int32))])) _
    refine XS.goto X2.here hx rfl (pc0 := 75) (pc' := 79) rfl (hb hby at_75) (by decide) (by decide) ?_
    exact k)
  obtain ⟨fs, hr, hrun, hended, hW, hsame⟩ := X2.leave (v := some (.int (1 : Int32))) (fun h => by rw [Bd.returns] at h; cases h)
  refine ⟨_, _, pre3 _ ?_, hrun, hended, _, _, rfl, ?_, ⟨_, rfl⟩, hW, hsame.mono (by decide) (by decide)⟩
  · show Steps p.tables e below (T2.setTop (mkF m 79 #[.val (.int p1), .val (.int (9 : Int32)), .val (.ref w_FLOAT), .val (.int (0 : Int32)), .val (.int (0 : Int32)), .val (.int (0 : Int32))] [(.int (1 : Int32))])) _
    exact retN X2 hx (t := .boolean) Bd.returns (by simp) (hb hby at_79) hr
  · exact ⟨rfl, N2, e2⟩
theorem ef_law10 (m : MethodId) (x0 : Int32) : entryFrame m #[(.int x0)] maxLocals = mkF m 0 #[.val (.int x0), .unset, .unset, .unset, .unset, .unset] [] := by first | (simp [entryFrame, mkF, argsToLocals, Value.category, maxLocals]; done) | rfl
set_option maxRecDepth 65536 in
set_option maxHeartbeats 40000000 in
theorem rm_law10 (l : Launch) (Z : State) (a0 : Array Value) (hw : ∀ d ∈ tables_1, d.before a0 Z = true) (ws : List Jvm.Cond) (p1 : Int32) (h0 : Heap) (n0 : Nat) (w_BLOB w_STRUCTURE w_UNION w_ENUM w_INT_ENUM w_BIG_INTEGER w_BIG_DECIMAL w_SHORT w_STRING w_BYTE w_LONG w_BOOLEAN w_RESOURCE w_MAP w_DOUBLE w_FLOAT w_MEMBER w_SERVICE w_LIST w_OPERATION w_DOCUMENT w_INTEGER w_TIMESTAMP : Addr) (hK : own_K Z h0 w_BLOB w_STRUCTURE w_UNION w_ENUM w_INT_ENUM w_BIG_INTEGER w_BIG_DECIMAL w_SHORT w_STRING w_BYTE w_LONG w_BOOLEAN w_RESOURCE w_MAP w_DOUBLE w_FLOAT w_MEMBER w_SERVICE w_LIST w_OPERATION w_DOCUMENT w_INTEGER w_TIMESTAMP) (hk : ((p1 &&& (2147483647 : Int32)) % (23 : Int32)) = (10 : Int32)) :
    MetFree l x (head1 (Jvm.Cond.code x code maxLocals ret :: ws) room_1) (fun a U => a = #[(.int p1)] ∧ Z.Warmed39 U.vm ∧ U.heap = h0) (fun _ _ _ _ _ => True) (fun _ U o U' => ∃ v L, o = .returned v ∧ own_Q (some (.int (1 : Int32))) h0 n0 v U'.heap L ∧ FrameEnd U o U' L room_1.cells room_1.slots) := by
  refine MetFree.of_bodySF (plainFor_of_name pn_0) hisR ?_
  intro p e s m args below meth c s₁ Bd hml0 hP hK0
  obtain ⟨rfl, hZ, hh⟩ := hP
  have hx := Bd.exec
  have hby := Bd.bytes
  have hml : c.maxLocals = 6 := hml0
  have hown : s.vm.findClass "com/example/falkirk/falkirk/model/ShapeTypeHasNamedMembersPinLaw" = some m.cls := findClass_of_methodNamed Bd.named
  have hnm := (name_of_methodNamed Bd.named Bd.method).1
  have X0 : Stand p l e room_1 s m #[(.int p1)] below meth c s₁ [] 0 0 := Stand.of_body Bd
  have e0 : s₁.heap = h0 := by rw [← hh, Bd.state]; rfl
  have N0 := Fr.nil n0
  have pre0 : ∀ t, Steps p.tables e below (s₁.setTop (mkF m 0 #[.val (.int p1), .unset, .unset, .unset, .unset, .unset] [])) t → Steps p.tables e below (s₁.setTop (entryFrame m #[(.int p1)] maxLocals)) t := fun t k => castTop (ef_law10 m p1) k
  have hK' := hK
  obtain ⟨S_w_BLOB, E_w_BLOB, S_w_STRUCTURE, E_w_STRUCTURE, F_ordinal_w_BLOB, F_ordinal_w_STRUCTURE, S_w_UNION, E_w_UNION, F_ordinal_w_UNION, S_w_ENUM, E_w_ENUM, F_ordinal_w_ENUM, S_w_INT_ENUM, E_w_INT_ENUM, F_ordinal_w_INT_ENUM, S_w_BIG_INTEGER, E_w_BIG_INTEGER, F_ordinal_w_BIG_INTEGER, S_w_BIG_DECIMAL, E_w_BIG_DECIMAL, F_ordinal_w_BIG_DECIMAL, S_w_SHORT, E_w_SHORT, F_ordinal_w_SHORT, S_w_STRING, E_w_STRING, F_ordinal_w_STRING, S_w_BYTE, E_w_BYTE, F_ordinal_w_BYTE, S_w_LONG, E_w_LONG, F_ordinal_w_LONG, S_w_BOOLEAN, E_w_BOOLEAN, F_ordinal_w_BOOLEAN, S_w_RESOURCE, E_w_RESOURCE, F_ordinal_w_RESOURCE, S_w_MAP, E_w_MAP, F_ordinal_w_MAP, S_w_DOUBLE, E_w_DOUBLE, F_ordinal_w_DOUBLE, S_w_FLOAT, E_w_FLOAT, F_ordinal_w_FLOAT, S_w_MEMBER, E_w_MEMBER, F_ordinal_w_MEMBER, S_w_SERVICE, E_w_SERVICE, F_ordinal_w_SERVICE, S_w_LIST, E_w_LIST, F_ordinal_w_LIST, S_w_OPERATION, E_w_OPERATION, F_ordinal_w_OPERATION, S_w_DOCUMENT, E_w_DOCUMENT, F_ordinal_w_DOCUMENT, S_w_INTEGER, E_w_INTEGER, F_ordinal_w_INTEGER, S_w_TIMESTAMP, E_w_TIMESTAMP, F_ordinal_w_TIMESTAMP⟩ := hK'
  obtain ⟨v1, _, ⟨T1, L1, k1, n1⟩, -, X1, ⟨Lc1, hQ1, l1, y1, z1⟩, st1⟩ := Jvm.LawKit.callS X0 hx (y := (⟨"com/example/falkirk/falkirk/model/ShapeTypeHasNamedMembersPinLaw", "pick", "(I)Lcom/example/falkirk/falkirk/model/ShapeType;"⟩ : MethodName)) hown (mvT hZ (hw _ (ow 1 rfl))) (mvT hZ (hw _ (ow 2 rfl))) (mvT hZ (hw _ (ow 3 rfl))) (mvT hZ (hw _ (ow 4 rfl))) (by decide) (backOf (W := 0) (rm_pick l Z a0 hw [] (10 : Int32) h0 n0 w_BLOB w_STRUCTURE w_UNION w_ENUM w_INT_ENUM w_BIG_INTEGER w_BIG_DECIMAL w_SHORT w_STRING w_BYTE w_LONG w_BOOLEAN w_RESOURCE w_MAP w_DOUBLE w_FLOAT w_MEMBER w_SERVICE w_LIST w_OPERATION w_DOCUMENT w_INTEGER w_TIMESTAMP hK) hZ (hw _ (ow 4 rfl)) (hw _ (ow 3 rfl)) (by decide) (by decide)) (g := (mkF m 9 #[.val (.int p1), .val (.int (10 : Int32)), .unset, .unset, .unset, .unset] [(.int (10 : Int32))])) rfl (by rw [hml]; rfl) (argsL := [(.int (10 : Int32))]) (rest := []) (lenOf pd_0 rfl) rfl (Nat.le_of_eq rfl) (hb hby at_9) (fun _ _ => ⟨rfl, e0, (by decide : 0 + 0 ≤ _), (by decide : 0 + 0 ≤ _)⟩)
  dsimp only [Pt.U, Pt.locs, Pt.cells, Pt.slots] at X1 l1 y1 z1 st1 hQ1
  subst l1 y1 z1
  obtain ⟨hv1, Nq1, e1⟩ := hQ1
  obtain rfl : v1 = some (.ref w_DOUBLE) := hv1.trans (congrArg some (congrArg Value.ref ((if_neg (by decide)).trans ((if_neg (by decide)).trans ((if_neg (by decide)).trans ((if_neg (by decide)).trans ((if_neg (by decide)).trans ((if_neg (by decide)).trans ((if_neg (by decide)).trans ((if_neg (by decide)).trans ((if_neg (by decide)).trans ((if_neg (by decide)).trans (if_pos (by decide))))))))))))))
  have N1 := Fr.app N0 Nq1
  obtain ⟨cq2, kq2, q2a, q2b, q2c⟩ := isOf hZ e1 E_w_DOUBLE
  obtain ⟨v2, _, ⟨T2, L2, k2, n2⟩, -, X2, ⟨Lc2, hQ2, l2, y2, z2⟩, st2⟩ := X1.virtualBack hx (y := (⟨"com/example/falkirk/falkirk/model/ShapeType", "hasNamedMembers", "()Z"⟩ : MethodName)) (z := (⟨"com/example/falkirk/falkirk/model/ShapeType", "hasNamedMembers", "()Z"⟩ : MethodName)) hown (mvT hZ (hw _ (ow 8 rfl))) (mvT hZ (hw _ (ow 9 rfl))) (notFace_of_selects (args := #[]) (mvT hZ (hw _ (ow 11 rfl)))) (mvT hZ (hw _ (ow 11 rfl))) (mvT hZ (hw _ (ow 10 rfl))) (by decide) (backOf (W := 0) (rm_hasNamedMembers l Z a0 hw [] w_DOUBLE h0 n0 w_BLOB w_STRUCTURE w_UNION w_ENUM w_INT_ENUM w_BIG_INTEGER w_BIG_DECIMAL w_SHORT w_STRING w_BYTE w_LONG w_BOOLEAN w_RESOURCE w_MAP w_DOUBLE w_FLOAT w_MEMBER w_SERVICE w_LIST w_OPERATION w_DOCUMENT w_INTEGER w_TIMESTAMP hK) hZ (hw _ (ow 12 rfl)) (hw _ (ow 6 rfl)) (by decide) (by decide)) q2a q2c (g := (mkF m 66 #[.val (.int p1), .val (.int (10 : Int32)), .val (.ref w_DOUBLE), .val (.int (0 : Int32)), .val (.int (0 : Int32)), .val (.int (0 : Int32))] [(.ref w_DOUBLE)])) rfl (by rw [hml]; rfl) (Steps.refl _) (argsL := []) (rest := []) (lenOf pd_1 rfl) rfl (Nat.le_of_eq rfl) (hb hby at_66) (fun _ _ => ⟨rfl, e1, (by decide : 0 + 0 ≤ _), (by decide : 0 + 0 ≤ _)⟩)
  dsimp only [Pt.U, Pt.locs, Pt.cells, Pt.slots] at X2 l2 y2 z2 st2 hQ2
  subst l2 y2 z2
  obtain ⟨hv2, Nq2, e2⟩ := hQ2
  obtain rfl : v2 = some (.int (0 : Int32)) := hv2.trans (congrArg some (congrArg Value.int ((if_neg (Fld.ne F_ordinal_w_DOUBLE F_ordinal_w_STRUCTURE (by decide))).trans ((if_neg (Fld.ne F_ordinal_w_DOUBLE F_ordinal_w_UNION (by decide))).trans ((if_neg (Fld.ne F_ordinal_w_DOUBLE F_ordinal_w_ENUM (by decide))).trans (if_neg (Fld.ne F_ordinal_w_DOUBLE F_ordinal_w_INT_ENUM (by decide))))))))
  have N2 := Fr.app N1 Nq2
  have pre3 : ∀ t, Steps p.tables e below (T2.setTop (mkF m 79 #[.val (.int p1), .val (.int (10 : Int32)), .val (.ref w_DOUBLE), .val (.int (0 : Int32)), .val (.int (0 : Int32)), .val (.int (0 : Int32))] [(.int (1 : Int32))])) t → Steps p.tables e below (s₁.setTop (entryFrame m #[(.int p1)] maxLocals)) t := fun t k => pre0 t (by
    show Steps p.tables e below (s₁.setTop (mkF m 0 #[.val (.int p1), .unset, .unset, .unset, .unset, .unset] [])) _
    refine XS.iloadN X0.here hx rfl (hb hby at_0) rfl ?_
    show Steps p.tables e below (s₁.setTop (mkF m 1 #[.val (.int p1), .unset, .unset, .unset, .unset, .unset] [(.int p1)])) _
    refine X0.ldcInt hx hown (mvT hZ (hw _ (ow 0 rfl))) (g := (mkF m 1 #[.val (.int p1), .unset, .unset, .unset, .unset, .unset] [(.int p1)])) rfl (hb hby at_1) _ ?_
    show Steps p.tables e below (s₁.setTop (mkF m 3 #[.val (.int p1), .unset, .unset, .unset, .unset, .unset] [(.int (2147483647 : Int32)), (.int p1)])) _
    refine XS.iand X0.here hx rfl (hb hby at_3) rfl ?_
    show Steps p.tables e below (s₁.setTop (mkF m 4 #[.val (.int p1), .unset, .unset, .unset, .unset, .unset] [(.int (p1 &&& (2147483647 : Int32)))])) _
    refine XS.bipush X0.here hx rfl (hb hby at_4) ?_
    show Steps p.tables e below (s₁.setTop (mkF m 6 #[.val (.int p1), .unset, .unset, .unset, .unset, .unset] [(.int (23 : Int32)), (.int (p1 &&& (2147483647 : Int32)))])) _
    refine iremM X0 hx rfl (hb hby at_6) rfl (by decide) ?_
    show Steps p.tables e below (s₁.setTop (mkF m 7 #[.val (.int p1), .unset, .unset, .unset, .unset, .unset] [(.int ((p1 &&& (2147483647 : Int32)) % (23 : Int32)))])) _
    rw [hk]
    show Steps p.tables e below (s₁.setTop (mkF m 7 #[.val (.int p1), .unset, .unset, .unset, .unset, .unset] [(.int (10 : Int32))])) _
    refine XS.istoreN X0.here hx rfl (hb hby at_7) rfl (l' := #[.val (.int p1), .val (.int (10 : Int32)), .unset, .unset, .unset, .unset]) rfl ?_
    show Steps p.tables e below (s₁.setTop (mkF m 8 #[.val (.int p1), .val (.int (10 : Int32)), .unset, .unset, .unset, .unset] [])) _
    refine XS.iloadN X0.here hx rfl (hb hby at_8) rfl ?_
    show Steps p.tables e below (s₁.setTop (mkF m 9 #[.val (.int p1), .val (.int (10 : Int32)), .unset, .unset, .unset, .unset] [(.int (10 : Int32))])) _
    refine st1 _ ?_
    show Steps p.tables e below (T1.setTop (mkF m 12 #[.val (.int p1), .val (.int (10 : Int32)), .unset, .unset, .unset, .unset] [(.ref w_DOUBLE)])) _
    refine XS.astoreN X1.here hx rfl (hb hby at_12) rfl rfl (l' := #[.val (.int p1), .val (.int (10 : Int32)), .val (.ref w_DOUBLE), .unset, .unset, .unset]) rfl ?_
    show Steps p.tables e below (T1.setTop (mkF m 13 #[.val (.int p1), .val (.int (10 : Int32)), .val (.ref w_DOUBLE), .unset, .unset, .unset] [])) _
    refine XS.iloadN X1.here hx rfl (hb hby at_13) rfl ?_
    show Steps p.tables e below (T1.setTop (mkF m 14 #[.val (.int p1), .val (.int (10 : Int32)), .val (.ref w_DOUBLE), .unset, .unset, .unset] [(.int (10 : Int32))])) _
    refine XS.bipush X1.here hx rfl (hb hby at_14) ?_
    show Steps p.tables e below (T1.setTop (mkF m 16 #[.val (.int p1), .val (.int (10 : Int32)), .val (.ref w_DOUBLE), .unset, .unset, .unset] [(.int (17 : Int32)), (.int (10 : Int32))])) _
    refine XS.icmpNo X1.here hx rfl (hb hby at_16) rfl (feq (by decide)).1 ?_
    show Steps p.tables e below (T1.setTop (mkF m 19 #[.val (.int p1), .val (.int (10 : Int32)), .val (.ref w_DOUBLE), .unset, .unset, .unset] [])) _
    refine XS.iloadN X1.here hx rfl (hb hby at_19) rfl ?_
    show Steps p.tables e below (T1.setTop (mkF m 20 #[.val (.int p1), .val (.int (10 : Int32)), .val (.ref w_DOUBLE), .unset, .unset, .unset] [(.int (10 : Int32))])) _
    refine XS.bipush X1.here hx rfl (hb hby at_20) ?_
    show Steps p.tables e below (T1.setTop (mkF m 22 #[.val (.int p1), .val (.int (10 : Int32)), .val (.ref w_DOUBLE), .unset, .unset, .unset] [(.int (18 : Int32)), (.int (10 : Int32))])) _
    refine XS.icmpYes X1.here hx rfl (pc0 := 22) (pc' := 29) rfl (hb hby at_22) rfl (feq (by decide)).2 (by decide) (by decide) ?_
    show Steps p.tables e below (T1.setTop (mkF m 29 #[.val (.int p1), .val (.int (10 : Int32)), .val (.ref w_DOUBLE), .unset, .unset, .unset] [])) _
    refine XS.iconst X1.here hx rfl (hb hby at_29) ?_
    show Steps p.tables e below (T1.setTop (mkF m 30 #[.val (.int p1), .val (.int (10 : Int32)), .val (.ref w_DOUBLE), .unset, .unset, .unset] [(.int (0 : Int32))])) _
    refine XS.istoreN X1.here hx rfl (hb hby at_30) rfl (l' := #[.val (.int p1), .val (.int (10 : Int32)), .val (.ref w_DOUBLE), .val (.int (0 : Int32)), .unset, .unset]) rfl ?_
    show Steps p.tables e below (T1.setTop (mkF m 31 #[.val (.int p1), .val (.int (10 : Int32)), .val (.ref w_DOUBLE), .val (.int (0 : Int32)), .unset, .unset] [])) _
    refine XS.iloadN X1.here hx rfl (hb hby at_31) rfl ?_
    show Steps p.tables e below (T1.setTop (mkF m 32 #[.val (.int p1), .val (.int (10 : Int32)), .val (.ref w_DOUBLE), .val (.int (0 : Int32)), .unset, .unset] [(.int (10 : Int32))])) _
    refine XS.iconst X1.here hx rfl (hb hby at_32) ?_
    show Steps p.tables e below (T1.setTop (mkF m 33 #[.val (.int p1), .val (.int (10 : Int32)), .val (.ref w_DOUBLE), .val (.int (0 : Int32)), .unset, .unset] [(.int (3 : Int32)), (.int (10 : Int32))])) _
    refine XS.icmpNo X1.here hx rfl (hb hby at_33) rfl (feq (by decide)).1 ?_
    show Steps p.tables e below (T1.setTop (mkF m 36 #[.val (.int p1), .val (.int (10 : Int32)), .val (.ref w_DOUBLE), .val (.int (0 : Int32)), .unset, .unset] [])) _
    refine XS.iloadN X1.here hx rfl (hb hby at_36) rfl ?_
    show Steps p.tables e below (T1.setTop (mkF m 37 #[.val (.int p1), .val (.int (10 : Int32)), .val (.ref w_DOUBLE), .val (.int (0 : Int32)), .unset, .unset] [(.int (10 : Int32))])) _
    refine XS.bipush X1.here hx rfl (hb hby at_37) ?_
    show Steps p.tables e below (T1.setTop (mkF m 39 #[.val (.int p1), .val (.int (10 : Int32)), .val (.ref w_DOUBLE), .val (.int (0 : Int32)), .unset, .unset] [(.int (7 : Int32)), (.int (10 : Int32))])) _
    refine XS.icmpYes X1.here hx rfl (pc0 := 39) (pc' := 46) rfl (hb hby at_39) rfl (feq (by decide)).2 (by decide) (by decide) ?_
    show Steps p.tables e below (T1.setTop (mkF m 46 #[.val (.int p1), .val (.int (10 : Int32)), .val (.ref w_DOUBLE), .val (.int (0 : Int32)), .unset, .unset] [])) _
    refine XS.iconst X1.here hx rfl (hb hby at_46) ?_
    show Steps p.tables e below (T1.setTop (mkF m 47 #[.val (.int p1), .val (.int (10 : Int32)), .val (.ref w_DOUBLE), .val (.int (0 : Int32)), .unset, .unset] [(.int (0 : Int32))])) _
    refine XS.istore X1.here hx rfl (hb hby at_47) rfl (l' := #[.val (.int p1), .val (.int (10 : Int32)), .val (.ref w_DOUBLE), .val (.int (0 : Int32)), .val (.int (0 : Int32)), .unset]) rfl ?_
    show Steps p.tables e below (T1.setTop (mkF m 49 #[.val (.int p1), .val (.int (10 : Int32)), .val (.ref w_DOUBLE), .val (.int (0 : Int32)), .val (.int (0 : Int32)), .unset] [])) _
    refine XS.iloadN X1.here hx rfl (hb hby at_49) rfl ?_
    show Steps p.tables e below (T1.setTop (mkF m 50 #[.val (.int p1), .val (.int (10 : Int32)), .val (.ref w_DOUBLE), .val (.int (0 : Int32)), .val (.int (0 : Int32)), .unset] [(.int (0 : Int32))])) _
    refine XS.ifNo X1.here hx rfl (hb hby at_50) rfl ((if0 _ _).trans (teq (by decide)).2) ?_
    show Steps p.tables e below (T1.setTop (mkF m 53 #[.val (.int p1), .val (.int (10 : Int32)), .val (.ref w_DOUBLE), .val (.int (0 : Int32)), .val (.int (0 : Int32)), .unset] [])) _
    refine XS.iload X1.here hx rfl (hb hby at_53) rfl ?_
    show Steps p.tables e below (T1.setTop (mkF m 55 #[.val (.int p1), .val (.int (10 : Int32)), .val (.ref w_DOUBLE), .val (.int (0 : Int32)), .val (.int (0 : Int32)), .unset] [(.int (0 : Int32))])) _
    refine XS.ifYes X1.here hx rfl (pc0 := 55) (pc' := 62) rfl (hb hby at_55) rfl ((if0 _ _).trans (teq (by decide)).1) (by decide) (by decide) ?_
    show Steps p.tables e below (T1.setTop (mkF m 62 #[.val (.int p1), .val (.int (10 : Int32)), .val (.ref w_DOUBLE), .val (.int (0 : Int32)), .val (.int (0 : Int32)), .unset] [])) _
    refine XS.iconst X1.here hx rfl (hb hby at_62) ?_
    show Steps p.tables e below (T1.setTop (mkF m 63 #[.val (.int p1), .val (.int (10 : Int32)), .val (.ref w_DOUBLE), .val (.int (0 : Int32)), .val (.int (0 : Int32)), .unset] [(.int (0 : Int32))])) _
    refine XS.istore X1.here hx rfl (hb hby at_63) rfl (l' := #[.val (.int p1), .val (.int (10 : Int32)), .val (.ref w_DOUBLE), .val (.int (0 : Int32)), .val (.int (0 : Int32)), .val (.int (0 : Int32))]) rfl ?_
    show Steps p.tables e below (T1.setTop (mkF m 65 #[.val (.int p1), .val (.int (10 : Int32)), .val (.ref w_DOUBLE), .val (.int (0 : Int32)), .val (.int (0 : Int32)), .val (.int (0 : Int32))] [])) _
    refine XS.aloadN X1.here hx rfl (hb hby at_65) rfl rfl ?_
    show Steps p.tables e below (T1.setTop (mkF m 66 #[.val (.int p1), .val (.int (10 : Int32)), .val (.ref w_DOUBLE), .val (.int (0 : Int32)), .val (.int (0 : Int32)), .val (.int (0 : Int32))] [(.ref w_DOUBLE)])) _
    refine st2.trans ?_
    show Steps p.tables e below (T2.setTop (mkF m 69 #[.val (.int p1), .val (.int (10 : Int32)), .val (.ref w_DOUBLE), .val (.int (0 : Int32)), .val (.int (0 : Int32)), .val (.int (0 : Int32))] [(.int (0 : Int32))])) _
    refine XS.iload X2.here hx rfl (hb hby at_69) rfl ?_
    show Steps p.tables e below (T2.setTop (mkF m 71 #[.val (.int p1), .val (.int (10 : Int32)), .val (.ref w_DOUBLE), .val (.int (0 : Int32)), .val (.int (0 : Int32)), .val (.int (0 : Int32))] [(.int (0 : Int32)), (.int (0 : Int32))])) _
    refine XS.icmpNo X2.here hx rfl (hb hby at_71) rfl (teq (by decide)).2 ?_
    show Steps p.tables e below (T2.setTop (mkF m 74 #[.val (.int p1), .val (.int (10 : Int32)), .val (.ref w_DOUBLE), .val (.int (0 : Int32)), .val (.int (0 : Int32)), .val (.int (0 : Int32))] [])) _
    refine XS.iconst X2.here hx rfl (hb hby at_74) ?_
    show Steps p.tables e below (T2.setTop (mkF m 75 #[.val (.int p1), .val (.int (10 : Int32)), .val (.ref w_DOUBLE), .val (.int (0 : Int32)), .val (.int (0 : Int32)), .val (.int (0 : Int32))] [(.int (1 : Int32))])) _
    refine XS.goto X2.here hx rfl (pc0 := 75) (pc' := 79) rfl (hb hby at_75) (by decide) (by decide) ?_
    exact k)
  obtain ⟨fs, hr, hrun, hended, hW, hsame⟩ := X2.leave (v := some (.int (1 : Int32))) (fun h => by rw [Bd.returns] at h; cases h)
  refine ⟨_, _, pre3 _ ?_, hrun, hended, _, _, rfl, ?_, ⟨_, rfl⟩, hW, hsame.mono (by decide) (by decide)⟩
  · show Steps p.tables e below (T2.setTop (mkF m 79 #[.val (.int p1), .val (.int (10 : Int32)), .val (.ref w_DOUBLE), .val (.int (0 : Int32)), .val (.int (0 : Int32)), .val (.int (0 : Int32))] [(.int (1 : Int32))])) _
    exact retN X2 hx (t := .boolean) Bd.returns (by simp) (hb hby at_79) hr
  · exact ⟨rfl, N2, e2⟩
theorem ef_law11 (m : MethodId) (x0 : Int32) : entryFrame m #[(.int x0)] maxLocals = mkF m 0 #[.val (.int x0), .unset, .unset, .unset, .unset, .unset] [] := by first | (simp [entryFrame, mkF, argsToLocals, Value.category, maxLocals]; done) | rfl
set_option maxRecDepth 65536 in
set_option maxHeartbeats 40000000 in
theorem rm_law11 (l : Launch) (Z : State) (a0 : Array Value) (hw : ∀ d ∈ tables_1, d.before a0 Z = true) (ws : List Jvm.Cond) (p1 : Int32) (h0 : Heap) (n0 : Nat) (w_BLOB w_STRUCTURE w_UNION w_ENUM w_INT_ENUM w_BIG_INTEGER w_BIG_DECIMAL w_SHORT w_STRING w_BYTE w_LONG w_BOOLEAN w_RESOURCE w_MAP w_DOUBLE w_FLOAT w_MEMBER w_SERVICE w_LIST w_OPERATION w_DOCUMENT w_INTEGER w_TIMESTAMP : Addr) (hK : own_K Z h0 w_BLOB w_STRUCTURE w_UNION w_ENUM w_INT_ENUM w_BIG_INTEGER w_BIG_DECIMAL w_SHORT w_STRING w_BYTE w_LONG w_BOOLEAN w_RESOURCE w_MAP w_DOUBLE w_FLOAT w_MEMBER w_SERVICE w_LIST w_OPERATION w_DOCUMENT w_INTEGER w_TIMESTAMP) (hk : ((p1 &&& (2147483647 : Int32)) % (23 : Int32)) = (11 : Int32)) :
    MetFree l x (head1 (Jvm.Cond.code x code maxLocals ret :: ws) room_1) (fun a U => a = #[(.int p1)] ∧ Z.Warmed39 U.vm ∧ U.heap = h0) (fun _ _ _ _ _ => True) (fun _ U o U' => ∃ v L, o = .returned v ∧ own_Q (some (.int (1 : Int32))) h0 n0 v U'.heap L ∧ FrameEnd U o U' L room_1.cells room_1.slots) := by
  refine MetFree.of_bodySF (plainFor_of_name pn_0) hisR ?_
  intro p e s m args below meth c s₁ Bd hml0 hP hK0
  obtain ⟨rfl, hZ, hh⟩ := hP
  have hx := Bd.exec
  have hby := Bd.bytes
  have hml : c.maxLocals = 6 := hml0
  have hown : s.vm.findClass "com/example/falkirk/falkirk/model/ShapeTypeHasNamedMembersPinLaw" = some m.cls := findClass_of_methodNamed Bd.named
  have hnm := (name_of_methodNamed Bd.named Bd.method).1
  have X0 : Stand p l e room_1 s m #[(.int p1)] below meth c s₁ [] 0 0 := Stand.of_body Bd
  have e0 : s₁.heap = h0 := by rw [← hh, Bd.state]; rfl
  have N0 := Fr.nil n0
  have pre0 : ∀ t, Steps p.tables e below (s₁.setTop (mkF m 0 #[.val (.int p1), .unset, .unset, .unset, .unset, .unset] [])) t → Steps p.tables e below (s₁.setTop (entryFrame m #[(.int p1)] maxLocals)) t := fun t k => castTop (ef_law11 m p1) k
  have hK' := hK
  obtain ⟨S_w_BLOB, E_w_BLOB, S_w_STRUCTURE, E_w_STRUCTURE, F_ordinal_w_BLOB, F_ordinal_w_STRUCTURE, S_w_UNION, E_w_UNION, F_ordinal_w_UNION, S_w_ENUM, E_w_ENUM, F_ordinal_w_ENUM, S_w_INT_ENUM, E_w_INT_ENUM, F_ordinal_w_INT_ENUM, S_w_BIG_INTEGER, E_w_BIG_INTEGER, F_ordinal_w_BIG_INTEGER, S_w_BIG_DECIMAL, E_w_BIG_DECIMAL, F_ordinal_w_BIG_DECIMAL, S_w_SHORT, E_w_SHORT, F_ordinal_w_SHORT, S_w_STRING, E_w_STRING, F_ordinal_w_STRING, S_w_BYTE, E_w_BYTE, F_ordinal_w_BYTE, S_w_LONG, E_w_LONG, F_ordinal_w_LONG, S_w_BOOLEAN, E_w_BOOLEAN, F_ordinal_w_BOOLEAN, S_w_RESOURCE, E_w_RESOURCE, F_ordinal_w_RESOURCE, S_w_MAP, E_w_MAP, F_ordinal_w_MAP, S_w_DOUBLE, E_w_DOUBLE, F_ordinal_w_DOUBLE, S_w_FLOAT, E_w_FLOAT, F_ordinal_w_FLOAT, S_w_MEMBER, E_w_MEMBER, F_ordinal_w_MEMBER, S_w_SERVICE, E_w_SERVICE, F_ordinal_w_SERVICE, S_w_LIST, E_w_LIST, F_ordinal_w_LIST, S_w_OPERATION, E_w_OPERATION, F_ordinal_w_OPERATION, S_w_DOCUMENT, E_w_DOCUMENT, F_ordinal_w_DOCUMENT, S_w_INTEGER, E_w_INTEGER, F_ordinal_w_INTEGER, S_w_TIMESTAMP, E_w_TIMESTAMP, F_ordinal_w_TIMESTAMP⟩ := hK'
  obtain ⟨v1, _, ⟨T1, L1, k1, n1⟩, -, X1, ⟨Lc1, hQ1, l1, y1, z1⟩, st1⟩ := Jvm.LawKit.callS X0 hx (y := (⟨"com/example/falkirk/falkirk/model/ShapeTypeHasNamedMembersPinLaw", "pick", "(I)Lcom/example/falkirk/falkirk/model/ShapeType;"⟩ : MethodName)) hown (mvT hZ (hw _ (ow 1 rfl))) (mvT hZ (hw _ (ow 2 rfl))) (mvT hZ (hw _ (ow 3 rfl))) (mvT hZ (hw _ (ow 4 rfl))) (by decide) (backOf (W := 0) (rm_pick l Z a0 hw [] (11 : Int32) h0 n0 w_BLOB w_STRUCTURE w_UNION w_ENUM w_INT_ENUM w_BIG_INTEGER w_BIG_DECIMAL w_SHORT w_STRING w_BYTE w_LONG w_BOOLEAN w_RESOURCE w_MAP w_DOUBLE w_FLOAT w_MEMBER w_SERVICE w_LIST w_OPERATION w_DOCUMENT w_INTEGER w_TIMESTAMP hK) hZ (hw _ (ow 4 rfl)) (hw _ (ow 3 rfl)) (by decide) (by decide)) (g := (mkF m 9 #[.val (.int p1), .val (.int (11 : Int32)), .unset, .unset, .unset, .unset] [(.int (11 : Int32))])) rfl (by rw [hml]; rfl) (argsL := [(.int (11 : Int32))]) (rest := []) (lenOf pd_0 rfl) rfl (Nat.le_of_eq rfl) (hb hby at_9) (fun _ _ => ⟨rfl, e0, (by decide : 0 + 0 ≤ _), (by decide : 0 + 0 ≤ _)⟩)
  dsimp only [Pt.U, Pt.locs, Pt.cells, Pt.slots] at X1 l1 y1 z1 st1 hQ1
  subst l1 y1 z1
  obtain ⟨hv1, Nq1, e1⟩ := hQ1
  obtain rfl : v1 = some (.ref w_BIG_INTEGER) := hv1.trans (congrArg some (congrArg Value.ref ((if_neg (by decide)).trans ((if_neg (by decide)).trans ((if_neg (by decide)).trans ((if_neg (by decide)).trans ((if_neg (by decide)).trans ((if_neg (by decide)).trans ((if_neg (by decide)).trans ((if_neg (by decide)).trans ((if_neg (by decide)).trans ((if_neg (by decide)).trans ((if_neg (by decide)).trans (if_pos (by decide)))))))))))))))
  have N1 := Fr.app N0 Nq1
  obtain ⟨cq2, kq2, q2a, q2b, q2c⟩ := isOf hZ e1 E_w_BIG_INTEGER
  obtain ⟨v2, _, ⟨T2, L2, k2, n2⟩, -, X2, ⟨Lc2, hQ2, l2, y2, z2⟩, st2⟩ := X1.virtualBack hx (y := (⟨"com/example/falkirk/falkirk/model/ShapeType", "hasNamedMembers", "()Z"⟩ : MethodName)) (z := (⟨"com/example/falkirk/falkirk/model/ShapeType", "hasNamedMembers", "()Z"⟩ : MethodName)) hown (mvT hZ (hw _ (ow 8 rfl))) (mvT hZ (hw _ (ow 9 rfl))) (notFace_of_selects (args := #[]) (mvT hZ (hw _ (ow 11 rfl)))) (mvT hZ (hw _ (ow 11 rfl))) (mvT hZ (hw _ (ow 10 rfl))) (by decide) (backOf (W := 0) (rm_hasNamedMembers l Z a0 hw [] w_BIG_INTEGER h0 n0 w_BLOB w_STRUCTURE w_UNION w_ENUM w_INT_ENUM w_BIG_INTEGER w_BIG_DECIMAL w_SHORT w_STRING w_BYTE w_LONG w_BOOLEAN w_RESOURCE w_MAP w_DOUBLE w_FLOAT w_MEMBER w_SERVICE w_LIST w_OPERATION w_DOCUMENT w_INTEGER w_TIMESTAMP hK) hZ (hw _ (ow 12 rfl)) (hw _ (ow 6 rfl)) (by decide) (by decide)) q2a q2c (g := (mkF m 66 #[.val (.int p1), .val (.int (11 : Int32)), .val (.ref w_BIG_INTEGER), .val (.int (0 : Int32)), .val (.int (0 : Int32)), .val (.int (0 : Int32))] [(.ref w_BIG_INTEGER)])) rfl (by rw [hml]; rfl) (Steps.refl _) (argsL := []) (rest := []) (lenOf pd_1 rfl) rfl (Nat.le_of_eq rfl) (hb hby at_66) (fun _ _ => ⟨rfl, e1, (by decide : 0 + 0 ≤ _), (by decide : 0 + 0 ≤ _)⟩)
  dsimp only [Pt.U, Pt.locs, Pt.cells, Pt.slots] at X2 l2 y2 z2 st2 hQ2
  subst l2 y2 z2
  obtain ⟨hv2, Nq2, e2⟩ := hQ2
  obtain rfl : v2 = some (.int (0 : Int32)) := hv2.trans (congrArg some (congrArg Value.int ((if_neg (Fld.ne F_ordinal_w_BIG_INTEGER F_ordinal_w_STRUCTURE (by decide))).trans ((if_neg (Fld.ne F_ordinal_w_BIG_INTEGER F_ordinal_w_UNION (by decide))).trans ((if_neg (Fld.ne F_ordinal_w_BIG_INTEGER F_ordinal_w_ENUM (by decide))).trans (if_neg (Fld.ne F_ordinal_w_BIG_INTEGER F_ordinal_w_INT_ENUM (by decide))))))))
  have N2 := Fr.app N1 Nq2
  have pre3 : ∀ t, Steps p.tables e below (T2.setTop (mkF m 79 #[.val (.int p1), .val (.int (11 : Int32)), .val (.ref w_BIG_INTEGER), .val (.int (0 : Int32)), .val (.int (0 : Int32)), .val (.int (0 : Int32))] [(.int (1 : Int32))])) t → Steps p.tables e below (s₁.setTop (entryFrame m #[(.int p1)] maxLocals)) t := fun t k => pre0 t (by
    show Steps p.tables e below (s₁.setTop (mkF m 0 #[.val (.int p1), .unset, .unset, .unset, .unset, .unset] [])) _
    refine XS.iloadN X0.here hx rfl (hb hby at_0) rfl ?_
    show Steps p.tables e below (s₁.setTop (mkF m 1 #[.val (.int p1), .unset, .unset, .unset, .unset, .unset] [(.int p1)])) _
    refine X0.ldcInt hx hown (mvT hZ (hw _ (ow 0 rfl))) (g := (mkF m 1 #[.val (.int p1), .unset, .unset, .unset, .unset, .unset] [(.int p1)])) rfl (hb hby at_1) _ ?_
    show Steps p.tables e below (s₁.setTop (mkF m 3 #[.val (.int p1), .unset, .unset, .unset, .unset, .unset] [(.int (2147483647 : Int32)), (.int p1)])) _
    refine XS.iand X0.here hx rfl (hb hby at_3) rfl ?_
    show Steps p.tables e below (s₁.setTop (mkF m 4 #[.val (.int p1), .unset, .unset, .unset, .unset, .unset] [(.int (p1 &&& (2147483647 : Int32)))])) _
    refine XS.bipush X0.here hx rfl (hb hby at_4) ?_
    show Steps p.tables e below (s₁.setTop (mkF m 6 #[.val (.int p1), .unset, .unset, .unset, .unset, .unset] [(.int (23 : Int32)), (.int (p1 &&& (2147483647 : Int32)))])) _
    refine iremM X0 hx rfl (hb hby at_6) rfl (by decide) ?_
    show Steps p.tables e below (s₁.setTop (mkF m 7 #[.val (.int p1), .unset, .unset, .unset, .unset, .unset] [(.int ((p1 &&& (2147483647 : Int32)) % (23 : Int32)))])) _
    rw [hk]
    show Steps p.tables e below (s₁.setTop (mkF m 7 #[.val (.int p1), .unset, .unset, .unset, .unset, .unset] [(.int (11 : Int32))])) _
    refine XS.istoreN X0.here hx rfl (hb hby at_7) rfl (l' := #[.val (.int p1), .val (.int (11 : Int32)), .unset, .unset, .unset, .unset]) rfl ?_
    show Steps p.tables e below (s₁.setTop (mkF m 8 #[.val (.int p1), .val (.int (11 : Int32)), .unset, .unset, .unset, .unset] [])) _
    refine XS.iloadN X0.here hx rfl (hb hby at_8) rfl ?_
    show Steps p.tables e below (s₁.setTop (mkF m 9 #[.val (.int p1), .val (.int (11 : Int32)), .unset, .unset, .unset, .unset] [(.int (11 : Int32))])) _
    refine st1 _ ?_
    show Steps p.tables e below (T1.setTop (mkF m 12 #[.val (.int p1), .val (.int (11 : Int32)), .unset, .unset, .unset, .unset] [(.ref w_BIG_INTEGER)])) _
    refine XS.astoreN X1.here hx rfl (hb hby at_12) rfl rfl (l' := #[.val (.int p1), .val (.int (11 : Int32)), .val (.ref w_BIG_INTEGER), .unset, .unset, .unset]) rfl ?_
    show Steps p.tables e below (T1.setTop (mkF m 13 #[.val (.int p1), .val (.int (11 : Int32)), .val (.ref w_BIG_INTEGER), .unset, .unset, .unset] [])) _
    refine XS.iloadN X1.here hx rfl (hb hby at_13) rfl ?_
    show Steps p.tables e below (T1.setTop (mkF m 14 #[.val (.int p1), .val (.int (11 : Int32)), .val (.ref w_BIG_INTEGER), .unset, .unset, .unset] [(.int (11 : Int32))])) _
    refine XS.bipush X1.here hx rfl (hb hby at_14) ?_
    show Steps p.tables e below (T1.setTop (mkF m 16 #[.val (.int p1), .val (.int (11 : Int32)), .val (.ref w_BIG_INTEGER), .unset, .unset, .unset] [(.int (17 : Int32)), (.int (11 : Int32))])) _
    refine XS.icmpNo X1.here hx rfl (hb hby at_16) rfl (feq (by decide)).1 ?_
    show Steps p.tables e below (T1.setTop (mkF m 19 #[.val (.int p1), .val (.int (11 : Int32)), .val (.ref w_BIG_INTEGER), .unset, .unset, .unset] [])) _
    refine XS.iloadN X1.here hx rfl (hb hby at_19) rfl ?_
    show Steps p.tables e below (T1.setTop (mkF m 20 #[.val (.int p1), .val (.int (11 : Int32)), .val (.ref w_BIG_INTEGER), .unset, .unset, .unset] [(.int (11 : Int32))])) _
    refine XS.bipush X1.here hx rfl (hb hby at_20) ?_
    show Steps p.tables e below (T1.setTop (mkF m 22 #[.val (.int p1), .val (.int (11 : Int32)), .val (.ref w_BIG_INTEGER), .unset, .unset, .unset] [(.int (18 : Int32)), (.int (11 : Int32))])) _
    refine XS.icmpYes X1.here hx rfl (pc0 := 22) (pc' := 29) rfl (hb hby at_22) rfl (feq (by decide)).2 (by decide) (by decide) ?_
    show Steps p.tables e below (T1.setTop (mkF m 29 #[.val (.int p1), .val (.int (11 : Int32)), .val (.ref w_BIG_INTEGER), .unset, .unset, .unset] [])) _
    refine XS.iconst X1.here hx rfl (hb hby at_29) ?_
    show Steps p.tables e below (T1.setTop (mkF m 30 #[.val (.int p1), .val (.int (11 : Int32)), .val (.ref w_BIG_INTEGER), .unset, .unset, .unset] [(.int (0 : Int32))])) _
    refine XS.istoreN X1.here hx rfl (hb hby at_30) rfl (l' := #[.val (.int p1), .val (.int (11 : Int32)), .val (.ref w_BIG_INTEGER), .val (.int (0 : Int32)), .unset, .unset]) rfl ?_
    show Steps p.tables e below (T1.setTop (mkF m 31 #[.val (.int p1), .val (.int (11 : Int32)), .val (.ref w_BIG_INTEGER), .val (.int (0 : Int32)), .unset, .unset] [])) _
    refine XS.iloadN X1.here hx rfl (hb hby at_31) rfl ?_
    show Steps p.tables e below (T1.setTop (mkF m 32 #[.val (.int p1), .val (.int (11 : Int32)), .val (.ref w_BIG_INTEGER), .val (.int (0 : Int32)), .unset, .unset] [(.int (11 : Int32))])) _
    refine XS.iconst X1.here hx rfl (hb hby at_32) ?_
    show Steps p.tables e below (T1.setTop (mkF m 33 #[.val (.int p1), .val (.int (11 : Int32)), .val (.ref w_BIG_INTEGER), .val (.int (0 : Int32)), .unset, .unset] [(.int (3 : Int32)), (.int (11 : Int32))])) _
    refine XS.icmpNo X1.here hx rfl (hb hby at_33) rfl (feq (by decide)).1 ?_
    show Steps p.tables e below (T1.setTop (mkF m 36 #[.val (.int p1), .val (.int (11 : Int32)), .val (.ref w_BIG_INTEGER), .val (.int (0 : Int32)), .unset, .unset] [])) _
    refine XS.iloadN X1.here hx rfl (hb hby at_36) rfl ?_
    show Steps p.tables e below (T1.setTop (mkF m 37 #[.val (.int p1), .val (.int (11 : Int32)), .val (.ref w_BIG_INTEGER), .val (.int (0 : Int32)), .unset, .unset] [(.int (11 : Int32))])) _
    refine XS.bipush X1.here hx rfl (hb hby at_37) ?_
    show Steps p.tables e below (T1.setTop (mkF m 39 #[.val (.int p1), .val (.int (11 : Int32)), .val (.ref w_BIG_INTEGER), .val (.int (0 : Int32)), .unset, .unset] [(.int (7 : Int32)), (.int (11 : Int32))])) _
    refine XS.icmpYes X1.here hx rfl (pc0 := 39) (pc' := 46) rfl (hb hby at_39) rfl (feq (by decide)).2 (by decide) (by decide) ?_
    show Steps p.tables e below (T1.setTop (mkF m 46 #[.val (.int p1), .val (.int (11 : Int32)), .val (.ref w_BIG_INTEGER), .val (.int (0 : Int32)), .unset, .unset] [])) _
    refine XS.iconst X1.here hx rfl (hb hby at_46) ?_
    show Steps p.tables e below (T1.setTop (mkF m 47 #[.val (.int p1), .val (.int (11 : Int32)), .val (.ref w_BIG_INTEGER), .val (.int (0 : Int32)), .unset, .unset] [(.int (0 : Int32))])) _
    refine XS.istore X1.here hx rfl (hb hby at_47) rfl (l' := #[.val (.int p1), .val (.int (11 : Int32)), .val (.ref w_BIG_INTEGER), .val (.int (0 : Int32)), .val (.int (0 : Int32)), .unset]) rfl ?_
    show Steps p.tables e below (T1.setTop (mkF m 49 #[.val (.int p1), .val (.int (11 : Int32)), .val (.ref w_BIG_INTEGER), .val (.int (0 : Int32)), .val (.int (0 : Int32)), .unset] [])) _
    refine XS.iloadN X1.here hx rfl (hb hby at_49) rfl ?_
    show Steps p.tables e below (T1.setTop (mkF m 50 #[.val (.int p1), .val (.int (11 : Int32)), .val (.ref w_BIG_INTEGER), .val (.int (0 : Int32)), .val (.int (0 : Int32)), .unset] [(.int (0 : Int32))])) _
    refine XS.ifNo X1.here hx rfl (hb hby at_50) rfl ((if0 _ _).trans (teq (by decide)).2) ?_
    show Steps p.tables e below (T1.setTop (mkF m 53 #[.val (.int p1), .val (.int (11 : Int32)), .val (.ref w_BIG_INTEGER), .val (.int (0 : Int32)), .val (.int (0 : Int32)), .unset] [])) _
    refine XS.iload X1.here hx rfl (hb hby at_53) rfl ?_
    show Steps p.tables e below (T1.setTop (mkF m 55 #[.val (.int p1), .val (.int (11 : Int32)), .val (.ref w_BIG_INTEGER), .val (.int (0 : Int32)), .val (.int (0 : Int32)), .unset] [(.int (0 : Int32))])) _
    refine XS.ifYes X1.here hx rfl (pc0 := 55) (pc' := 62) rfl (hb hby at_55) rfl ((if0 _ _).trans (teq (by decide)).1) (by decide) (by decide) ?_
    show Steps p.tables e below (T1.setTop (mkF m 62 #[.val (.int p1), .val (.int (11 : Int32)), .val (.ref w_BIG_INTEGER), .val (.int (0 : Int32)), .val (.int (0 : Int32)), .unset] [])) _
    refine XS.iconst X1.here hx rfl (hb hby at_62) ?_
    show Steps p.tables e below (T1.setTop (mkF m 63 #[.val (.int p1), .val (.int (11 : Int32)), .val (.ref w_BIG_INTEGER), .val (.int (0 : Int32)), .val (.int (0 : Int32)), .unset] [(.int (0 : Int32))])) _
    refine XS.istore X1.here hx rfl (hb hby at_63) rfl (l' := #[.val (.int p1), .val (.int (11 : Int32)), .val (.ref w_BIG_INTEGER), .val (.int (0 : Int32)), .val (.int (0 : Int32)), .val (.int (0 : Int32))]) rfl ?_
    show Steps p.tables e below (T1.setTop (mkF m 65 #[.val (.int p1), .val (.int (11 : Int32)), .val (.ref w_BIG_INTEGER), .val (.int (0 : Int32)), .val (.int (0 : Int32)), .val (.int (0 : Int32))] [])) _
    refine XS.aloadN X1.here hx rfl (hb hby at_65) rfl rfl ?_
    show Steps p.tables e below (T1.setTop (mkF m 66 #[.val (.int p1), .val (.int (11 : Int32)), .val (.ref w_BIG_INTEGER), .val (.int (0 : Int32)), .val (.int (0 : Int32)), .val (.int (0 : Int32))] [(.ref w_BIG_INTEGER)])) _
    refine st2.trans ?_
    show Steps p.tables e below (T2.setTop (mkF m 69 #[.val (.int p1), .val (.int (11 : Int32)), .val (.ref w_BIG_INTEGER), .val (.int (0 : Int32)), .val (.int (0 : Int32)), .val (.int (0 : Int32))] [(.int (0 : Int32))])) _
    refine XS.iload X2.here hx rfl (hb hby at_69) rfl ?_
    show Steps p.tables e below (T2.setTop (mkF m 71 #[.val (.int p1), .val (.int (11 : Int32)), .val (.ref w_BIG_INTEGER), .val (.int (0 : Int32)), .val (.int (0 : Int32)), .val (.int (0 : Int32))] [(.int (0 : Int32)), (.int (0 : Int32))])) _
    refine XS.icmpNo X2.here hx rfl (hb hby at_71) rfl (teq (by decide)).2 ?_
    show Steps p.tables e below (T2.setTop (mkF m 74 #[.val (.int p1), .val (.int (11 : Int32)), .val (.ref w_BIG_INTEGER), .val (.int (0 : Int32)), .val (.int (0 : Int32)), .val (.int (0 : Int32))] [])) _
    refine XS.iconst X2.here hx rfl (hb hby at_74) ?_
    show Steps p.tables e below (T2.setTop (mkF m 75 #[.val (.int p1), .val (.int (11 : Int32)), .val (.ref w_BIG_INTEGER), .val (.int (0 : Int32)), .val (.int (0 : Int32)), .val (.int (0 : Int32))] [(.int (1 : Int32))])) _
    refine XS.goto X2.here hx rfl (pc0 := 75) (pc' := 79) rfl (hb hby at_75) (by decide) (by decide) ?_
    exact k)
  obtain ⟨fs, hr, hrun, hended, hW, hsame⟩ := X2.leave (v := some (.int (1 : Int32))) (fun h => by rw [Bd.returns] at h; cases h)
  refine ⟨_, _, pre3 _ ?_, hrun, hended, _, _, rfl, ?_, ⟨_, rfl⟩, hW, hsame.mono (by decide) (by decide)⟩
  · show Steps p.tables e below (T2.setTop (mkF m 79 #[.val (.int p1), .val (.int (11 : Int32)), .val (.ref w_BIG_INTEGER), .val (.int (0 : Int32)), .val (.int (0 : Int32)), .val (.int (0 : Int32))] [(.int (1 : Int32))])) _
    exact retN X2 hx (t := .boolean) Bd.returns (by simp) (hb hby at_79) hr
  · exact ⟨rfl, N2, e2⟩
theorem ef_law12 (m : MethodId) (x0 : Int32) : entryFrame m #[(.int x0)] maxLocals = mkF m 0 #[.val (.int x0), .unset, .unset, .unset, .unset, .unset] [] := by first | (simp [entryFrame, mkF, argsToLocals, Value.category, maxLocals]; done) | rfl
set_option maxRecDepth 65536 in
set_option maxHeartbeats 40000000 in
theorem rm_law12 (l : Launch) (Z : State) (a0 : Array Value) (hw : ∀ d ∈ tables_1, d.before a0 Z = true) (ws : List Jvm.Cond) (p1 : Int32) (h0 : Heap) (n0 : Nat) (w_BLOB w_STRUCTURE w_UNION w_ENUM w_INT_ENUM w_BIG_INTEGER w_BIG_DECIMAL w_SHORT w_STRING w_BYTE w_LONG w_BOOLEAN w_RESOURCE w_MAP w_DOUBLE w_FLOAT w_MEMBER w_SERVICE w_LIST w_OPERATION w_DOCUMENT w_INTEGER w_TIMESTAMP : Addr) (hK : own_K Z h0 w_BLOB w_STRUCTURE w_UNION w_ENUM w_INT_ENUM w_BIG_INTEGER w_BIG_DECIMAL w_SHORT w_STRING w_BYTE w_LONG w_BOOLEAN w_RESOURCE w_MAP w_DOUBLE w_FLOAT w_MEMBER w_SERVICE w_LIST w_OPERATION w_DOCUMENT w_INTEGER w_TIMESTAMP) (hk : ((p1 &&& (2147483647 : Int32)) % (23 : Int32)) = (12 : Int32)) :
    MetFree l x (head1 (Jvm.Cond.code x code maxLocals ret :: ws) room_1) (fun a U => a = #[(.int p1)] ∧ Z.Warmed39 U.vm ∧ U.heap = h0) (fun _ _ _ _ _ => True) (fun _ U o U' => ∃ v L, o = .returned v ∧ own_Q (some (.int (1 : Int32))) h0 n0 v U'.heap L ∧ FrameEnd U o U' L room_1.cells room_1.slots) := by
  refine MetFree.of_bodySF (plainFor_of_name pn_0) hisR ?_
  intro p e s m args below meth c s₁ Bd hml0 hP hK0
  obtain ⟨rfl, hZ, hh⟩ := hP
  have hx := Bd.exec
  have hby := Bd.bytes
  have hml : c.maxLocals = 6 := hml0
  have hown : s.vm.findClass "com/example/falkirk/falkirk/model/ShapeTypeHasNamedMembersPinLaw" = some m.cls := findClass_of_methodNamed Bd.named
  have hnm := (name_of_methodNamed Bd.named Bd.method).1
  have X0 : Stand p l e room_1 s m #[(.int p1)] below meth c s₁ [] 0 0 := Stand.of_body Bd
  have e0 : s₁.heap = h0 := by rw [← hh, Bd.state]; rfl
  have N0 := Fr.nil n0
  have pre0 : ∀ t, Steps p.tables e below (s₁.setTop (mkF m 0 #[.val (.int p1), .unset, .unset, .unset, .unset, .unset] [])) t → Steps p.tables e below (s₁.setTop (entryFrame m #[(.int p1)] maxLocals)) t := fun t k => castTop (ef_law12 m p1) k
  have hK' := hK
  obtain ⟨S_w_BLOB, E_w_BLOB, S_w_STRUCTURE, E_w_STRUCTURE, F_ordinal_w_BLOB, F_ordinal_w_STRUCTURE, S_w_UNION, E_w_UNION, F_ordinal_w_UNION, S_w_ENUM, E_w_ENUM, F_ordinal_w_ENUM, S_w_INT_ENUM, E_w_INT_ENUM, F_ordinal_w_INT_ENUM, S_w_BIG_INTEGER, E_w_BIG_INTEGER, F_ordinal_w_BIG_INTEGER, S_w_BIG_DECIMAL, E_w_BIG_DECIMAL, F_ordinal_w_BIG_DECIMAL, S_w_SHORT, E_w_SHORT, F_ordinal_w_SHORT, S_w_STRING, E_w_STRING, F_ordinal_w_STRING, S_w_BYTE, E_w_BYTE, F_ordinal_w_BYTE, S_w_LONG, E_w_LONG, F_ordinal_w_LONG, S_w_BOOLEAN, E_w_BOOLEAN, F_ordinal_w_BOOLEAN, S_w_RESOURCE, E_w_RESOURCE, F_ordinal_w_RESOURCE, S_w_MAP, E_w_MAP, F_ordinal_w_MAP, S_w_DOUBLE, E_w_DOUBLE, F_ordinal_w_DOUBLE, S_w_FLOAT, E_w_FLOAT, F_ordinal_w_FLOAT, S_w_MEMBER, E_w_MEMBER, F_ordinal_w_MEMBER, S_w_SERVICE, E_w_SERVICE, F_ordinal_w_SERVICE, S_w_LIST, E_w_LIST, F_ordinal_w_LIST, S_w_OPERATION, E_w_OPERATION, F_ordinal_w_OPERATION, S_w_DOCUMENT, E_w_DOCUMENT, F_ordinal_w_DOCUMENT, S_w_INTEGER, E_w_INTEGER, F_ordinal_w_INTEGER, S_w_TIMESTAMP, E_w_TIMESTAMP, F_ordinal_w_TIMESTAMP⟩ := hK'
  obtain ⟨v1, _, ⟨T1, L1, k1, n1⟩, -, X1, ⟨Lc1, hQ1, l1, y1, z1⟩, st1⟩ := Jvm.LawKit.callS X0 hx (y := (⟨"com/example/falkirk/falkirk/model/ShapeTypeHasNamedMembersPinLaw", "pick", "(I)Lcom/example/falkirk/falkirk/model/ShapeType;"⟩ : MethodName)) hown (mvT hZ (hw _ (ow 1 rfl))) (mvT hZ (hw _ (ow 2 rfl))) (mvT hZ (hw _ (ow 3 rfl))) (mvT hZ (hw _ (ow 4 rfl))) (by decide) (backOf (W := 0) (rm_pick l Z a0 hw [] (12 : Int32) h0 n0 w_BLOB w_STRUCTURE w_UNION w_ENUM w_INT_ENUM w_BIG_INTEGER w_BIG_DECIMAL w_SHORT w_STRING w_BYTE w_LONG w_BOOLEAN w_RESOURCE w_MAP w_DOUBLE w_FLOAT w_MEMBER w_SERVICE w_LIST w_OPERATION w_DOCUMENT w_INTEGER w_TIMESTAMP hK) hZ (hw _ (ow 4 rfl)) (hw _ (ow 3 rfl)) (by decide) (by decide)) (g := (mkF m 9 #[.val (.int p1), .val (.int (12 : Int32)), .unset, .unset, .unset, .unset] [(.int (12 : Int32))])) rfl (by rw [hml]; rfl) (argsL := [(.int (12 : Int32))]) (rest := []) (lenOf pd_0 rfl) rfl (Nat.le_of_eq rfl) (hb hby at_9) (fun _ _ => ⟨rfl, e0, (by decide : 0 + 0 ≤ _), (by decide : 0 + 0 ≤ _)⟩)
  dsimp only [Pt.U, Pt.locs, Pt.cells, Pt.slots] at X1 l1 y1 z1 st1 hQ1
  subst l1 y1 z1
  obtain ⟨hv1, Nq1, e1⟩ := hQ1
  obtain rfl : v1 = some (.ref w_BIG_DECIMAL) := hv1.trans (congrArg some (congrArg Value.ref ((if_neg (by decide)).trans ((if_neg (by decide)).trans ((if_neg (by decide)).trans ((if_neg (by decide)).trans ((if_neg (by decide)).trans ((if_neg (by decide)).trans ((if_neg (by decide)).trans ((if_neg (by decide)).trans ((if_neg (by decide)).trans ((if_neg (by decide)).trans ((if_neg (by decide)).trans ((if_neg (by decide)).trans (if_pos (by decide))))))))))))))))
  have N1 := Fr.app N0 Nq1
  obtain ⟨cq2, kq2, q2a, q2b, q2c⟩ := isOf hZ e1 E_w_BIG_DECIMAL
  obtain ⟨v2, _, ⟨T2, L2, k2, n2⟩, -, X2, ⟨Lc2, hQ2, l2, y2, z2⟩, st2⟩ := X1.virtualBack hx (y := (⟨"com/example/falkirk/falkirk/model/ShapeType", "hasNamedMembers", "()Z"⟩ : MethodName)) (z := (⟨"com/example/falkirk/falkirk/model/ShapeType", "hasNamedMembers", "()Z"⟩ : MethodName)) hown (mvT hZ (hw _ (ow 8 rfl))) (mvT hZ (hw _ (ow 9 rfl))) (notFace_of_selects (args := #[]) (mvT hZ (hw _ (ow 11 rfl)))) (mvT hZ (hw _ (ow 11 rfl))) (mvT hZ (hw _ (ow 10 rfl))) (by decide) (backOf (W := 0) (rm_hasNamedMembers l Z a0 hw [] w_BIG_DECIMAL h0 n0 w_BLOB w_STRUCTURE w_UNION w_ENUM w_INT_ENUM w_BIG_INTEGER w_BIG_DECIMAL w_SHORT w_STRING w_BYTE w_LONG w_BOOLEAN w_RESOURCE w_MAP w_DOUBLE w_FLOAT w_MEMBER w_SERVICE w_LIST w_OPERATION w_DOCUMENT w_INTEGER w_TIMESTAMP hK) hZ (hw _ (ow 12 rfl)) (hw _ (ow 6 rfl)) (by decide) (by decide)) q2a q2c (g := (mkF m 66 #[.val (.int p1), .val (.int (12 : Int32)), .val (.ref w_BIG_DECIMAL), .val (.int (0 : Int32)), .val (.int (0 : Int32)), .val (.int (0 : Int32))] [(.ref w_BIG_DECIMAL)])) rfl (by rw [hml]; rfl) (Steps.refl _) (argsL := []) (rest := []) (lenOf pd_1 rfl) rfl (Nat.le_of_eq rfl) (hb hby at_66) (fun _ _ => ⟨rfl, e1, (by decide : 0 + 0 ≤ _), (by decide : 0 + 0 ≤ _)⟩)
  dsimp only [Pt.U, Pt.locs, Pt.cells, Pt.slots] at X2 l2 y2 z2 st2 hQ2
  subst l2 y2 z2
  obtain ⟨hv2, Nq2, e2⟩ := hQ2
  obtain rfl : v2 = some (.int (0 : Int32)) := hv2.trans (congrArg some (congrArg Value.int ((if_neg (Fld.ne F_ordinal_w_BIG_DECIMAL F_ordinal_w_STRUCTURE (by decide))).trans ((if_neg (Fld.ne F_ordinal_w_BIG_DECIMAL F_ordinal_w_UNION (by decide))).trans ((if_neg (Fld.ne F_ordinal_w_BIG_DECIMAL F_ordinal_w_ENUM (by decide))).trans (if_neg (Fld.ne F_ordinal_w_BIG_DECIMAL F_ordinal_w_INT_ENUM (by decide))))))))
  have N2 := Fr.app N1 Nq2
  have pre3 : ∀ t, Steps p.tables e below (T2.setTop (mkF m 79 #[.val (.int p1), .val (.int (12 : Int32)), .val (.ref w_BIG_DECIMAL), .val (.int (0 : Int32)), .val (.int (0 : Int32)), .val (.int (0 : Int32))] [(.int (1 : Int32))])) t → Steps p.tables e below (s₁.setTop (entryFrame m #[(.int p1)] maxLocals)) t := fun t k => pre0 t (by
    show Steps p.tables e below (s₁.setTop (mkF m 0 #[.val (.int p1), .unset, .unset, .unset, .unset, .unset] [])) _
    refine XS.iloadN X0.here hx rfl (hb hby at_0) rfl ?_
    show Steps p.tables e below (s₁.setTop (mkF m 1 #[.val (.int p1), .unset, .unset, .unset, .unset, .unset] [(.int p1)])) _
    refine X0.ldcInt hx hown (mvT hZ (hw _ (ow 0 rfl))) (g := (mkF m 1 #[.val (.int p1), .unset, .unset, .unset, .unset, .unset] [(.int p1)])) rfl (hb hby at_1) _ ?_
    show Steps p.tables e below (s₁.setTop (mkF m 3 #[.val (.int p1), .unset, .unset, .unset, .unset, .unset] [(.int (2147483647 : Int32)), (.int p1)])) _
    refine XS.iand X0.here hx rfl (hb hby at_3) rfl ?_
    show Steps p.tables e below (s₁.setTop (mkF m 4 #[.val (.int p1), .unset, .unset, .unset, .unset, .unset] [(.int (p1 &&& (2147483647 : Int32)))])) _
    refine XS.bipush X0.here hx rfl (hb hby at_4) ?_
    show Steps p.tables e below (s₁.setTop (mkF m 6 #[.val (.int p1), .unset, .unset, .unset, .unset, .unset] [(.int (23 : Int32)), (.int (p1 &&& (2147483647 : Int32)))])) _
    refine iremM X0 hx rfl (hb hby at_6) rfl (by decide) ?_
    show Steps p.tables e below (s₁.setTop (mkF m 7 #[.val (.int p1), .unset, .unset, .unset, .unset, .unset] [(.int ((p1 &&& (2147483647 : Int32)) % (23 : Int32)))])) _
    rw [hk]
    show Steps p.tables e below (s₁.setTop (mkF m 7 #[.val (.int p1), .unset, .unset, .unset, .unset, .unset] [(.int (12 : Int32))])) _
    refine XS.istoreN X0.here hx rfl (hb hby at_7) rfl (l' := #[.val (.int p1), .val (.int (12 : Int32)), .unset, .unset, .unset, .unset]) rfl ?_
    show Steps p.tables e below (s₁.setTop (mkF m 8 #[.val (.int p1), .val (.int (12 : Int32)), .unset, .unset, .unset, .unset] [])) _
    refine XS.iloadN X0.here hx rfl (hb hby at_8) rfl ?_
    show Steps p.tables e below (s₁.setTop (mkF m 9 #[.val (.int p1), .val (.int (12 : Int32)), .unset, .unset, .unset, .unset] [(.int (12 : Int32))])) _
    refine st1 _ ?_
    show Steps p.tables e below (T1.setTop (mkF m 12 #[.val (.int p1), .val (.int (12 : Int32)), .unset, .unset, .unset, .unset] [(.ref w_BIG_DECIMAL)])) _
    refine XS.astoreN X1.here hx rfl (hb hby at_12) rfl rfl (l' := #[.val (.int p1), .val (.int (12 : Int32)), .val (.ref w_BIG_DECIMAL), .unset, .unset, .unset]) rfl ?_
    show Steps p.tables e below (T1.setTop (mkF m 13 #[.val (.int p1), .val (.int (12 : Int32)), .val (.ref w_BIG_DECIMAL), .unset, .unset, .unset] [])) _
    refine XS.iloadN X1.here hx rfl (hb hby at_13) rfl ?_
    show Steps p.tables e below (T1.setTop (mkF m 14 #[.val (.int p1), .val (.int (12 : Int32)), .val (.ref w_BIG_DECIMAL), .unset, .unset, .unset] [(.int (12 : Int32))])) _
    refine XS.bipush X1.here hx rfl (hb hby at_14) ?_
    show Steps p.tables e below (T1.setTop (mkF m 16 #[.val (.int p1), .val (.int (12 : Int32)), .val (.ref w_BIG_DECIMAL), .unset, .unset, .unset] [(.int (17 : Int32)), (.int (12 : Int32))])) _
    refine XS.icmpNo X1.here hx rfl (hb hby at_16) rfl (feq (by decide)).1 ?_
    show Steps p.tables e below (T1.setTop (mkF m 19 #[.val (.int p1), .val (.int (12 : Int32)), .val (.ref w_BIG_DECIMAL), .unset, .unset, .unset] [])) _
    refine XS.iloadN X1.here hx rfl (hb hby at_19) rfl ?_
    show Steps p.tables e below (T1.setTop (mkF m 20 #[.val (.int p1), .val (.int (12 : Int32)), .val (.ref w_BIG_DECIMAL), .unset, .unset, .unset] [(.int (12 : Int32))])) _
    refine XS.bipush X1.here hx rfl (hb hby at_20) ?_
    show Steps p.tables e below (T1.setTop (mkF m 22 #[.val (.int p1), .val (.int (12 : Int32)), .val (.ref w_BIG_DECIMAL), .unset, .unset, .unset] [(.int (18 : Int32)), (.int (12 : Int32))])) _
    refine XS.icmpYes X1.here hx rfl (pc0 := 22) (pc' := 29) rfl (hb hby at_22) rfl (feq (by decide)).2 (by decide) (by decide) ?_
    show Steps p.tables e below (T1.setTop (mkF m 29 #[.val (.int p1), .val (.int (12 : Int32)), .val (.ref w_BIG_DECIMAL), .unset, .unset, .unset] [])) _
    refine XS.iconst X1.here hx rfl (hb hby at_29) ?_
    show Steps p.tables e below (T1.setTop (mkF m 30 #[.val (.int p1), .val (.int (12 : Int32)), .val (.ref w_BIG_DECIMAL), .unset, .unset, .unset] [(.int (0 : Int32))])) _
    refine XS.istoreN X1.here hx rfl (hb hby at_30) rfl (l' := #[.val (.int p1), .val (.int (12 : Int32)), .val (.ref w_BIG_DECIMAL), .val (.int (0 : Int32)), .unset, .unset]) rfl ?_
    show Steps p.tables e below (T1.setTop (mkF m 31 #[.val (.int p1), .val (.int (12 : Int32)), .val (.ref w_BIG_DECIMAL), .val (.int (0 : Int32)), .unset, .unset] [])) _
    refine XS.iloadN X1.here hx rfl (hb hby at_31) rfl ?_
    show Steps p.tables e below (T1.setTop (mkF m 32 #[.val (.int p1), .val (.int (12 : Int32)), .val (.ref w_BIG_DECIMAL), .val (.int (0 : Int32)), .unset, .unset] [(.int (12 : Int32))])) _
    refine XS.iconst X1.here hx rfl (hb hby at_32) ?_
    show Steps p.tables e below (T1.setTop (mkF m 33 #[.val (.int p1), .val (.int (12 : Int32)), .val (.ref w_BIG_DECIMAL), .val (.int (0 : Int32)), .unset, .unset] [(.int (3 : Int32)), (.int (12 : Int32))])) _
    refine XS.icmpNo X1.here hx rfl (hb hby at_33) rfl (feq (by decide)).1 ?_
    show Steps p.tables e below (T1.setTop (mkF m 36 #[.val (.int p1), .val (.int (12 : Int32)), .val (.ref w_BIG_DECIMAL), .val (.int (0 : Int32)), .unset, .unset] [])) _
    refine XS.iloadN X1.here hx rfl (hb hby at_36) rfl ?_
    show Steps p.tables e below (T1.setTop (mkF m 37 #[.val (.int p1), .val (.int (12 : Int32)), .val (.ref w_BIG_DECIMAL), .val (.int (0 : Int32)), .unset, .unset] [(.int (12 : Int32))])) _
    refine XS.bipush X1.here hx rfl (hb hby at_37) ?_
    show Steps p.tables e below (T1.setTop (mkF m 39 #[.val (.int p1), .val (.int (12 : Int32)), .val (.ref w_BIG_DECIMAL), .val (.int (0 : Int32)), .unset, .unset] [(.int (7 : Int32)), (.int (12 : Int32))])) _
    refine XS.icmpYes X1.here hx rfl (pc0 := 39) (pc' := 46) rfl (hb hby at_39) rfl (feq (by decide)).2 (by decide) (by decide) ?_
    show Steps p.tables e below (T1.setTop (mkF m 46 #[.val (.int p1), .val (.int (12 : Int32)), .val (.ref w_BIG_DECIMAL), .val (.int (0 : Int32)), .unset, .unset] [])) _
    refine XS.iconst X1.here hx rfl (hb hby at_46) ?_
    show Steps p.tables e below (T1.setTop (mkF m 47 #[.val (.int p1), .val (.int (12 : Int32)), .val (.ref w_BIG_DECIMAL), .val (.int (0 : Int32)), .unset, .unset] [(.int (0 : Int32))])) _
    refine XS.istore X1.here hx rfl (hb hby at_47) rfl (l' := #[.val (.int p1), .val (.int (12 : Int32)), .val (.ref w_BIG_DECIMAL), .val (.int (0 : Int32)), .val (.int (0 : Int32)), .unset]) rfl ?_
    show Steps p.tables e below (T1.setTop (mkF m 49 #[.val (.int p1), .val (.int (12 : Int32)), .val (.ref w_BIG_DECIMAL), .val (.int (0 : Int32)), .val (.int (0 : Int32)), .unset] [])) _
    refine XS.iloadN X1.here hx rfl (hb hby at_49) rfl ?_
    show Steps p.tables e below (T1.setTop (mkF m 50 #[.val (.int p1), .val (.int (12 : Int32)), .val (.ref w_BIG_DECIMAL), .val (.int (0 : Int32)), .val (.int (0 : Int32)), .unset] [(.int (0 : Int32))])) _
    refine XS.ifNo X1.here hx rfl (hb hby at_50) rfl ((if0 _ _).trans (teq (by decide)).2) ?_
    show Steps p.tables e below (T1.setTop (mkF m 53 #[.val (.int p1), .val (.int (12 : Int32)), .val (.ref w_BIG_DECIMAL), .val (.int (0 : Int32)), .val (.int (0 : Int32)), .unset] [])) _
    refine XS.iload X1.here hx rfl (hb hby at_53) rfl ?_
    show Steps p.tables e below (T1.setTop (mkF m 55 #[.val (.int p1), .val (.int (12 : Int32)), .val (.ref w_BIG_DECIMAL), .val (.int (0 : Int32)), .val (.int (0 : Int32)), .unset] [(.int (0 : Int32))])) _
    refine XS.ifYes X1.here hx rfl (pc0 := 55) (pc' := 62) rfl (hb hby at_55) rfl ((if0 _ _).trans (teq (by decide)).1) (by decide) (by decide) ?_
    show Steps p.tables e below (T1.setTop (mkF m 62 #[.val (.int p1), .val (.int (12 : Int32)), .val (.ref w_BIG_DECIMAL), .val (.int (0 : Int32)), .val (.int (0 : Int32)), .unset] [])) _
    refine XS.iconst X1.here hx rfl (hb hby at_62) ?_
    show Steps p.tables e below (T1.setTop (mkF m 63 #[.val (.int p1), .val (.int (12 : Int32)), .val (.ref w_BIG_DECIMAL), .val (.int (0 : Int32)), .val (.int (0 : Int32)), .unset] [(.int (0 : Int32))])) _
    refine XS.istore X1.here hx rfl (hb hby at_63) rfl (l' := #[.val (.int p1), .val (.int (12 : Int32)), .val (.ref w_BIG_DECIMAL), .val (.int (0 : Int32)), .val (.int (0 : Int32)), .val (.int (0 : Int32))]) rfl ?_
    show Steps p.tables e below (T1.setTop (mkF m 65 #[.val (.int p1), .val (.int (12 : Int32)), .val (.ref w_BIG_DECIMAL), .val (.int (0 : Int32)), .val (.int (0 : Int32)), .val (.int (0 : Int32))] [])) _
    refine XS.aloadN X1.here hx rfl (hb hby at_65) rfl rfl ?_
    show Steps p.tables e below (T1.setTop (mkF m 66 #[.val (.int p1), .val (.int (12 : Int32)), .val (.ref w_BIG_DECIMAL), .val (.int (0 : Int32)), .val (.int (0 : Int32)), .val (.int (0 : Int32))] [(.ref w_BIG_DECIMAL)])) _
    refine st2.trans ?_
    show Steps p.tables e below (T2.setTop (mkF m 69 #[.val (.int p1), .val (.int (12 : Int32)), .val (.ref w_BIG_DECIMAL), .val (.int (0 : Int32)), .val (.int (0 : Int32)), .val (.int (0 : Int32))] [(.int (0 : Int32))])) _
    refine XS.iload X2.here hx rfl (hb hby at_69) rfl ?_
    show Steps p.tables e below (T2.setTop (mkF m 71 #[.val (.int p1), .val (.int (12 : Int32)), .val (.ref w_BIG_DECIMAL), .val (.int (0 : Int32)), .val (.int (0 : Int32)), .val (.int (0 : Int32))] [(.int (0 : Int32)), (.int (0 : Int32))])) _
    refine XS.icmpNo X2.here hx rfl (hb hby at_71) rfl (teq (by decide)).2 ?_
    show Steps p.tables e below (T2.setTop (mkF m 74 #[.val (.int p1), .val (.int (12 : Int32)), .val (.ref w_BIG_DECIMAL), .val (.int (0 : Int32)), .val (.int (0 : Int32)), .val (.int (0 : Int32))] [])) _
    refine XS.iconst X2.here hx rfl (hb hby at_74) ?_
    show Steps p.tables e below (T2.setTop (mkF m 75 #[.val (.int p1), .val (.int (12 : Int32)), .val (.ref w_BIG_DECIMAL), .val (.int (0 : Int32)), .val (.int (0 : Int32)), .val (.int (0 : Int32))] [(.int (1 : Int32))])) _
    refine XS.goto X2.here hx rfl (pc0 := 75) (pc' := 79) rfl (hb hby at_75) (by decide) (by decide) ?_
    exact k)
  obtain ⟨fs, hr, hrun, hended, hW, hsame⟩ := X2.leave (v := some (.int (1 : Int32))) (fun h => by rw [Bd.returns] at h; cases h)
  refine ⟨_, _, pre3 _ ?_, hrun, hended, _, _, rfl, ?_, ⟨_, rfl⟩, hW, hsame.mono (by decide) (by decide)⟩
  · show Steps p.tables e below (T2.setTop (mkF m 79 #[.val (.int p1), .val (.int (12 : Int32)), .val (.ref w_BIG_DECIMAL), .val (.int (0 : Int32)), .val (.int (0 : Int32)), .val (.int (0 : Int32))] [(.int (1 : Int32))])) _
    exact retN X2 hx (t := .boolean) Bd.returns (by simp) (hb hby at_79) hr
  · exact ⟨rfl, N2, e2⟩
theorem ef_law13 (m : MethodId) (x0 : Int32) : entryFrame m #[(.int x0)] maxLocals = mkF m 0 #[.val (.int x0), .unset, .unset, .unset, .unset, .unset] [] := by first | (simp [entryFrame, mkF, argsToLocals, Value.category, maxLocals]; done) | rfl
set_option maxRecDepth 65536 in
set_option maxHeartbeats 40000000 in
theorem rm_law13 (l : Launch) (Z : State) (a0 : Array Value) (hw : ∀ d ∈ tables_1, d.before a0 Z = true) (ws : List Jvm.Cond) (p1 : Int32) (h0 : Heap) (n0 : Nat) (w_BLOB w_STRUCTURE w_UNION w_ENUM w_INT_ENUM w_BIG_INTEGER w_BIG_DECIMAL w_SHORT w_STRING w_BYTE w_LONG w_BOOLEAN w_RESOURCE w_MAP w_DOUBLE w_FLOAT w_MEMBER w_SERVICE w_LIST w_OPERATION w_DOCUMENT w_INTEGER w_TIMESTAMP : Addr) (hK : own_K Z h0 w_BLOB w_STRUCTURE w_UNION w_ENUM w_INT_ENUM w_BIG_INTEGER w_BIG_DECIMAL w_SHORT w_STRING w_BYTE w_LONG w_BOOLEAN w_RESOURCE w_MAP w_DOUBLE w_FLOAT w_MEMBER w_SERVICE w_LIST w_OPERATION w_DOCUMENT w_INTEGER w_TIMESTAMP) (hk : ((p1 &&& (2147483647 : Int32)) % (23 : Int32)) = (13 : Int32)) :
    MetFree l x (head1 (Jvm.Cond.code x code maxLocals ret :: ws) room_1) (fun a U => a = #[(.int p1)] ∧ Z.Warmed39 U.vm ∧ U.heap = h0) (fun _ _ _ _ _ => True) (fun _ U o U' => ∃ v L, o = .returned v ∧ own_Q (some (.int (1 : Int32))) h0 n0 v U'.heap L ∧ FrameEnd U o U' L room_1.cells room_1.slots) := by
  refine MetFree.of_bodySF (plainFor_of_name pn_0) hisR ?_
  intro p e s m args below meth c s₁ Bd hml0 hP hK0
  obtain ⟨rfl, hZ, hh⟩ := hP
  have hx := Bd.exec
  have hby := Bd.bytes
  have hml : c.maxLocals = 6 := hml0
  have hown : s.vm.findClass "com/example/falkirk/falkirk/model/ShapeTypeHasNamedMembersPinLaw" = some m.cls := findClass_of_methodNamed Bd.named
  have hnm := (name_of_methodNamed Bd.named Bd.method).1
  have X0 : Stand p l e room_1 s m #[(.int p1)] below meth c s₁ [] 0 0 := Stand.of_body Bd
  have e0 : s₁.heap = h0 := by rw [← hh, Bd.state]; rfl
  have N0 := Fr.nil n0
  have pre0 : ∀ t, Steps p.tables e below (s₁.setTop (mkF m 0 #[.val (.int p1), .unset, .unset, .unset, .unset, .unset] [])) t → Steps p.tables e below (s₁.setTop (entryFrame m #[(.int p1)] maxLocals)) t := fun t k => castTop (ef_law13 m p1) k
  have hK' := hK
  obtain ⟨S_w_BLOB, E_w_BLOB, S_w_STRUCTURE, E_w_STRUCTURE, F_ordinal_w_BLOB, F_ordinal_w_STRUCTURE, S_w_UNION, E_w_UNION, F_ordinal_w_UNION, S_w_ENUM, E_w_ENUM, F_ordinal_w_ENUM, S_w_INT_ENUM, E_w_INT_ENUM, F_ordinal_w_INT_ENUM, S_w_BIG_INTEGER, E_w_BIG_INTEGER, F_ordinal_w_BIG_INTEGER, S_w_BIG_DECIMAL, E_w_BIG_DECIMAL, F_ordinal_w_BIG_DECIMAL, S_w_SHORT, E_w_SHORT, F_ordinal_w_SHORT, S_w_STRING, E_w_STRING, F_ordinal_w_STRING, S_w_BYTE, E_w_BYTE, F_ordinal_w_BYTE, S_w_LONG, E_w_LONG, F_ordinal_w_LONG, S_w_BOOLEAN, E_w_BOOLEAN, F_ordinal_w_BOOLEAN, S_w_RESOURCE, E_w_RESOURCE, F_ordinal_w_RESOURCE, S_w_MAP, E_w_MAP, F_ordinal_w_MAP, S_w_DOUBLE, E_w_DOUBLE, F_ordinal_w_DOUBLE, S_w_FLOAT, E_w_FLOAT, F_ordinal_w_FLOAT, S_w_MEMBER, E_w_MEMBER, F_ordinal_w_MEMBER, S_w_SERVICE, E_w_SERVICE, F_ordinal_w_SERVICE, S_w_LIST, E_w_LIST, F_ordinal_w_LIST, S_w_OPERATION, E_w_OPERATION, F_ordinal_w_OPERATION, S_w_DOCUMENT, E_w_DOCUMENT, F_ordinal_w_DOCUMENT, S_w_INTEGER, E_w_INTEGER, F_ordinal_w_INTEGER, S_w_TIMESTAMP, E_w_TIMESTAMP, F_ordinal_w_TIMESTAMP⟩ := hK'
  obtain ⟨v1, _, ⟨T1, L1, k1, n1⟩, -, X1, ⟨Lc1, hQ1, l1, y1, z1⟩, st1⟩ := Jvm.LawKit.callS X0 hx (y := (⟨"com/example/falkirk/falkirk/model/ShapeTypeHasNamedMembersPinLaw", "pick", "(I)Lcom/example/falkirk/falkirk/model/ShapeType;"⟩ : MethodName)) hown (mvT hZ (hw _ (ow 1 rfl))) (mvT hZ (hw _ (ow 2 rfl))) (mvT hZ (hw _ (ow 3 rfl))) (mvT hZ (hw _ (ow 4 rfl))) (by decide) (backOf (W := 0) (rm_pick l Z a0 hw [] (13 : Int32) h0 n0 w_BLOB w_STRUCTURE w_UNION w_ENUM w_INT_ENUM w_BIG_INTEGER w_BIG_DECIMAL w_SHORT w_STRING w_BYTE w_LONG w_BOOLEAN w_RESOURCE w_MAP w_DOUBLE w_FLOAT w_MEMBER w_SERVICE w_LIST w_OPERATION w_DOCUMENT w_INTEGER w_TIMESTAMP hK) hZ (hw _ (ow 4 rfl)) (hw _ (ow 3 rfl)) (by decide) (by decide)) (g := (mkF m 9 #[.val (.int p1), .val (.int (13 : Int32)), .unset, .unset, .unset, .unset] [(.int (13 : Int32))])) rfl (by rw [hml]; rfl) (argsL := [(.int (13 : Int32))]) (rest := []) (lenOf pd_0 rfl) rfl (Nat.le_of_eq rfl) (hb hby at_9) (fun _ _ => ⟨rfl, e0, (by decide : 0 + 0 ≤ _), (by decide : 0 + 0 ≤ _)⟩)
  dsimp only [Pt.U, Pt.locs, Pt.cells, Pt.slots] at X1 l1 y1 z1 st1 hQ1
  subst l1 y1 z1
  obtain ⟨hv1, Nq1, e1⟩ := hQ1
  obtain rfl : v1 = some (.ref w_TIMESTAMP) := hv1.trans (congrArg some (congrArg Value.ref ((if_neg (by decide)).trans ((if_neg (by decide)).trans ((if_neg (by decide)).trans ((if_neg (by decide)).trans ((if_neg (by decide)).trans ((if_neg (by decide)).trans ((if_neg (by decide)).trans ((if_neg (by decide)).trans ((if_neg (by decide)).trans ((if_neg (by decide)).trans ((if_neg (by decide)).trans ((if_neg (by decide)).trans ((if_neg (by decide)).trans (if_pos (by decide)))))))))))))))))
  have N1 := Fr.app N0 Nq1
  obtain ⟨cq2, kq2, q2a, q2b, q2c⟩ := isOf hZ e1 E_w_TIMESTAMP
  obtain ⟨v2, _, ⟨T2, L2, k2, n2⟩, -, X2, ⟨Lc2, hQ2, l2, y2, z2⟩, st2⟩ := X1.virtualBack hx (y := (⟨"com/example/falkirk/falkirk/model/ShapeType", "hasNamedMembers", "()Z"⟩ : MethodName)) (z := (⟨"com/example/falkirk/falkirk/model/ShapeType", "hasNamedMembers", "()Z"⟩ : MethodName)) hown (mvT hZ (hw _ (ow 8 rfl))) (mvT hZ (hw _ (ow 9 rfl))) (notFace_of_selects (args := #[]) (mvT hZ (hw _ (ow 11 rfl)))) (mvT hZ (hw _ (ow 11 rfl))) (mvT hZ (hw _ (ow 10 rfl))) (by decide) (backOf (W := 0) (rm_hasNamedMembers l Z a0 hw [] w_TIMESTAMP h0 n0 w_BLOB w_STRUCTURE w_UNION w_ENUM w_INT_ENUM w_BIG_INTEGER w_BIG_DECIMAL w_SHORT w_STRING w_BYTE w_LONG w_BOOLEAN w_RESOURCE w_MAP w_DOUBLE w_FLOAT w_MEMBER w_SERVICE w_LIST w_OPERATION w_DOCUMENT w_INTEGER w_TIMESTAMP hK) hZ (hw _ (ow 12 rfl)) (hw _ (ow 6 rfl)) (by decide) (by decide)) q2a q2c (g := (mkF m 66 #[.val (.int p1), .val (.int (13 : Int32)), .val (.ref w_TIMESTAMP), .val (.int (0 : Int32)), .val (.int (0 : Int32)), .val (.int (0 : Int32))] [(.ref w_TIMESTAMP)])) rfl (by rw [hml]; rfl) (Steps.refl _) (argsL := []) (rest := []) (lenOf pd_1 rfl) rfl (Nat.le_of_eq rfl) (hb hby at_66) (fun _ _ => ⟨rfl, e1, (by decide : 0 + 0 ≤ _), (by decide : 0 + 0 ≤ _)⟩)
  dsimp only [Pt.U, Pt.locs, Pt.cells, Pt.slots] at X2 l2 y2 z2 st2 hQ2
  subst l2 y2 z2
  obtain ⟨hv2, Nq2, e2⟩ := hQ2
  obtain rfl : v2 = some (.int (0 : Int32)) := hv2.trans (congrArg some (congrArg Value.int ((if_neg (Fld.ne F_ordinal_w_TIMESTAMP F_ordinal_w_STRUCTURE (by decide))).trans ((if_neg (Fld.ne F_ordinal_w_TIMESTAMP F_ordinal_w_UNION (by decide))).trans ((if_neg (Fld.ne F_ordinal_w_TIMESTAMP F_ordinal_w_ENUM (by decide))).trans (if_neg (Fld.ne F_ordinal_w_TIMESTAMP F_ordinal_w_INT_ENUM (by decide))))))))
  have N2 := Fr.app N1 Nq2
  have pre3 : ∀ t, Steps p.tables e below (T2.setTop (mkF m 79 #[.val (.int p1), .val (.int (13 : Int32)), .val (.ref w_TIMESTAMP), .val (.int (0 : Int32)), .val (.int (0 : Int32)), .val (.int (0 : Int32))] [(.int (1 : Int32))])) t → Steps p.tables e below (s₁.setTop (entryFrame m #[(.int p1)] maxLocals)) t := fun t k => pre0 t (by
    show Steps p.tables e below (s₁.setTop (mkF m 0 #[.val (.int p1), .unset, .unset, .unset, .unset, .unset] [])) _
    refine XS.iloadN X0.here hx rfl (hb hby at_0) rfl ?_
    show Steps p.tables e below (s₁.setTop (mkF m 1 #[.val (.int p1), .unset, .unset, .unset, .unset, .unset] [(.int p1)])) _
    refine X0.ldcInt hx hown (mvT hZ (hw _ (ow 0 rfl))) (g := (mkF m 1 #[.val (.int p1), .unset, .unset, .unset, .unset, .unset] [(.int p1)])) rfl (hb hby at_1) _ ?_
    show Steps p.tables e below (s₁.setTop (mkF m 3 #[.val (.int p1), .unset, .unset, .unset, .unset, .unset] [(.int (2147483647 : Int32)), (.int p1)])) _
    refine XS.iand X0.here hx rfl (hb hby at_3) rfl ?_
    show Steps p.tables e below (s₁.setTop (mkF m 4 #[.val (.int p1), .unset, .unset, .unset, .unset, .unset] [(.int (p1 &&& (2147483647 : Int32)))])) _
    refine XS.bipush X0.here hx rfl (hb hby at_4) ?_
    show Steps p.tables e below (s₁.setTop (mkF m 6 #[.val (.int p1), .unset, .unset, .unset, .unset, .unset] [(.int (23 : Int32)), (.int (p1 &&& (2147483647 : Int32)))])) _
    refine iremM X0 hx rfl (hb hby at_6) rfl (by decide) ?_
    show Steps p.tables e below (s₁.setTop (mkF m 7 #[.val (.int p1), .unset, .unset, .unset, .unset, .unset] [(.int ((p1 &&& (2147483647 : Int32)) % (23 : Int32)))])) _
    rw [hk]
    show Steps p.tables e below (s₁.setTop (mkF m 7 #[.val (.int p1), .unset, .unset, .unset, .unset, .unset] [(.int (13 : Int32))])) _
    refine XS.istoreN X0.here hx rfl (hb hby at_7) rfl (l' := #[.val (.int p1), .val (.int (13 : Int32)), .unset, .unset, .unset, .unset]) rfl ?_
    show Steps p.tables e below (s₁.setTop (mkF m 8 #[.val (.int p1), .val (.int (13 : Int32)), .unset, .unset, .unset, .unset] [])) _
    refine XS.iloadN X0.here hx rfl (hb hby at_8) rfl ?_
    show Steps p.tables e below (s₁.setTop (mkF m 9 #[.val (.int p1), .val (.int (13 : Int32)), .unset, .unset, .unset, .unset] [(.int (13 : Int32))])) _
    refine st1 _ ?_
    show Steps p.tables e below (T1.setTop (mkF m 12 #[.val (.int p1), .val (.int (13 : Int32)), .unset, .unset, .unset, .unset] [(.ref w_TIMESTAMP)])) _
    refine XS.astoreN X1.here hx rfl (hb hby at_12) rfl rfl (l' := #[.val (.int p1), .val (.int (13 : Int32)), .val (.ref w_TIMESTAMP), .unset, .unset, .unset]) rfl ?_
    show Steps p.tables e below (T1.setTop (mkF m 13 #[.val (.int p1), .val (.int (13 : Int32)), .val (.ref w_TIMESTAMP), .unset, .unset, .unset] [])) _
    refine XS.iloadN X1.here hx rfl (hb hby at_13) rfl ?_
    show Steps p.tables e below (T1.setTop (mkF m 14 #[.val (.int p1), .val (.int (13 : Int32)), .val (.ref w_TIMESTAMP), .unset, .unset, .unset] [(.int (13 : Int32))])) _
    refine XS.bipush X1.here hx rfl (hb hby at_14) ?_
    show Steps p.tables e below (T1.setTop (mkF m 16 #[.val (.int p1), .val (.int (13 : Int32)), .val (.ref w_TIMESTAMP), .unset, .unset, .unset] [(.int (17 : Int32)), (.int (13 : Int32))])) _
    refine XS.icmpNo X1.here hx rfl (hb hby at_16) rfl (feq (by decide)).1 ?_
    show Steps p.tables e below (T1.setTop (mkF m 19 #[.val (.int p1), .val (.int (13 : Int32)), .val (.ref w_TIMESTAMP), .unset, .unset, .unset] [])) _
    refine XS.iloadN X1.here hx rfl (hb hby at_19) rfl ?_
    show Steps p.tables e below (T1.setTop (mkF m 20 #[.val (.int p1), .val (.int (13 : Int32)), .val (.ref w_TIMESTAMP), .unset, .unset, .unset] [(.int (13 : Int32))])) _
    refine XS.bipush X1.here hx rfl (hb hby at_20) ?_
    show Steps p.tables e below (T1.setTop (mkF m 22 #[.val (.int p1), .val (.int (13 : Int32)), .val (.ref w_TIMESTAMP), .unset, .unset, .unset] [(.int (18 : Int32)), (.int (13 : Int32))])) _
    refine XS.icmpYes X1.here hx rfl (pc0 := 22) (pc' := 29) rfl (hb hby at_22) rfl (feq (by decide)).2 (by decide) (by decide) ?_
    show Steps p.tables e below (T1.setTop (mkF m 29 #[.val (.int p1), .val (.int (13 : Int32)), .val (.ref w_TIMESTAMP), .unset, .unset, .unset] [])) _
    refine XS.iconst X1.here hx rfl (hb hby at_29) ?_
    show Steps p.tables e below (T1.setTop (mkF m 30 #[.val (.int p1), .val (.int (13 : Int32)), .val (.ref w_TIMESTAMP), .unset, .unset, .unset] [(.int (0 : Int32))])) _
    refine XS.istoreN X1.here hx rfl (hb hby at_30) rfl (l' := #[.val (.int p1), .val (.int (13 : Int32)), .val (.ref w_TIMESTAMP), .val (.int (0 : Int32)), .unset, .unset]) rfl ?_
    show Steps p.tables e below (T1.setTop (mkF m 31 #[.val (.int p1), .val (.int (13 : Int32)), .val (.ref w_TIMESTAMP), .val (.int (0 : Int32)), .unset, .unset] [])) _
    refine XS.iloadN X1.here hx rfl (hb hby at_31) rfl ?_
    show Steps p.tables e below (T1.setTop (mkF m 32 #[.val (.int p1), .val (.int (13 : Int32)), .val (.ref w_TIMESTAMP), .val (.int (0 : Int32)), .unset, .unset] [(.int (13 : Int32))])) _
    refine XS.iconst X1.here hx rfl (hb hby at_32) ?_
    show Steps p.tables e below (T1.setTop (mkF m 33 #[.val (.int p1), .val (.int (13 : Int32)), .val (.ref w_TIMESTAMP), .val (.int (0 : Int32)), .unset, .unset] [(.int (3 : Int32)), (.int (13 : Int32))])) _
    refine XS.icmpNo X1.here hx rfl (hb hby at_33) rfl (feq (by decide)).1 ?_
    show Steps p.tables e below (T1.setTop (mkF m 36 #[.val (.int p1), .val (.int (13 : Int32)), .val (.ref w_TIMESTAMP), .val (.int (0 : Int32)), .unset, .unset] [])) _
    refine XS.iloadN X1.here hx rfl (hb hby at_36) rfl ?_
    show Steps p.tables e below (T1.setTop (mkF m 37 #[.val (.int p1), .val (.int (13 : Int32)), .val (.ref w_TIMESTAMP), .val (.int (0 : Int32)), .unset, .unset] [(.int (13 : Int32))])) _
    refine XS.bipush X1.here hx rfl (hb hby at_37) ?_
    show Steps p.tables e below (T1.setTop (mkF m 39 #[.val (.int p1), .val (.int (13 : Int32)), .val (.ref w_TIMESTAMP), .val (.int (0 : Int32)), .unset, .unset] [(.int (7 : Int32)), (.int (13 : Int32))])) _
    refine XS.icmpYes X1.here hx rfl (pc0 := 39) (pc' := 46) rfl (hb hby at_39) rfl (feq (by decide)).2 (by decide) (by decide) ?_
    show Steps p.tables e below (T1.setTop (mkF m 46 #[.val (.int p1), .val (.int (13 : Int32)), .val (.ref w_TIMESTAMP), .val (.int (0 : Int32)), .unset, .unset] [])) _
    refine XS.iconst X1.here hx rfl (hb hby at_46) ?_
    show Steps p.tables e below (T1.setTop (mkF m 47 #[.val (.int p1), .val (.int (13 : Int32)), .val (.ref w_TIMESTAMP), .val (.int (0 : Int32)), .unset, .unset] [(.int (0 : Int32))])) _
    refine XS.istore X1.here hx rfl (hb hby at_47) rfl (l' := #[.val (.int p1), .val (.int (13 : Int32)), .val (.ref w_TIMESTAMP), .val (.int (0 : Int32)), .val (.int (0 : Int32)), .unset]) rfl ?_
    show Steps p.tables e below (T1.setTop (mkF m 49 #[.val (.int p1), .val (.int (13 : Int32)), .val (.ref w_TIMESTAMP), .val (.int (0 : Int32)), .val (.int (0 : Int32)), .unset] [])) _
    refine XS.iloadN X1.here hx rfl (hb hby at_49) rfl ?_
    show Steps p.tables e below (T1.setTop (mkF m 50 #[.val (.int p1), .val (.int (13 : Int32)), .val (.ref w_TIMESTAMP), .val (.int (0 : Int32)), .val (.int (0 : Int32)), .unset] [(.int (0 : Int32))])) _
    refine XS.ifNo X1.here hx rfl (hb hby at_50) rfl ((if0 _ _).trans (teq (by decide)).2) ?_
    show Steps p.tables e below (T1.setTop (mkF m 53 #[.val (.int p1), .val (.int (13 : Int32)), .val (.ref w_TIMESTAMP), .val (.int (0 : Int32)), .val (.int (0 : Int32)), .unset] [])) _
    refine XS.iload X1.here hx rfl (hb hby at_53) rfl ?_
    show Steps p.tables e below (T1.setTop (mkF m 55 #[.val (.int p1), .val (.int (13 : Int32)), .val (.ref w_TIMESTAMP), .val (.int (0 : Int32)), .val (.int (0 : Int32)), .unset] [(.int (0 : Int32))])) _
    refine XS.ifYes X1.here hx rfl (pc0 := 55) (pc' := 62) rfl (hb hby at_55) rfl ((if0 _ _).trans (teq (by decide)).1) (by decide) (by decide) ?_
    show Steps p.tables e below (T1.setTop (mkF m 62 #[.val (.int p1), .val (.int (13 : Int32)), .val (.ref w_TIMESTAMP), .val (.int (0 : Int32)), .val (.int (0 : Int32)), .unset] [])) _
    refine XS.iconst X1.here hx rfl (hb hby at_62) ?_
    show Steps p.tables e below (T1.setTop (mkF m 63 #[.val (.int p1), .val (.int (13 : Int32)), .val (.ref w_TIMESTAMP), .val (.int (0 : Int32)), .val (.int (0 : Int32)), .unset] [(.int (0 : Int32))])) _
    refine XS.istore X1.here hx rfl (hb hby at_63) rfl (l' := #[.val (.int p1), .val (.int (13 : Int32)), .val (.ref w_TIMESTAMP), .val (.int (0 : Int32)), .val (.int (0 : Int32)), .val (.int (0 : Int32))]) rfl ?_
    show Steps p.tables e below (T1.setTop (mkF m 65 #[.val (.int p1), .val (.int (13 : Int32)), .val (.ref w_TIMESTAMP), .val (.int (0 : Int32)), .val (.int (0 : Int32)), .val (.int (0 : Int32))] [])) _
    refine XS.aloadN X1.here hx rfl (hb hby at_65) rfl rfl ?_
    show Steps p.tables e below (T1.setTop (mkF m 66 #[.val (.int p1), .val (.int (13 : Int32)), .val (.ref w_TIMESTAMP), .val (.int (0 : Int32)), .val (.int (0 : Int32)), .val (.int (0 : Int32))] [(.ref w_TIMESTAMP)])) _
    refine st2.trans ?_
    show Steps p.tables e below (T2.setTop (mkF m 69 #[.val (.int p1), .val (.int (13 : Int32)), .val (.ref w_TIMESTAMP), .val (.int (0 : Int32)), .val (.int (0 : Int32)), .val (.int (0 : Int32))] [(.int (0 : Int32))])) _
    refine XS.iload X2.here hx rfl (hb hby at_69) rfl ?_
    show Steps p.tables e below (T2.setTop (mkF m 71 #[.val (.int p1), .val (.int (13 : Int32)), .val (.ref w_TIMESTAMP), .val (.int (0 : Int32)), .val (.int (0 : Int32)), .val (.int (0 : Int32))] [(.int (0 : Int32)), (.int (0 : Int32))])) _
    refine XS.icmpNo X2.here hx rfl (hb hby at_71) rfl (teq (by decide)).2 ?_
    show Steps p.tables e below (T2.setTop (mkF m 74 #[.val (.int p1), .val (.int (13 : Int32)), .val (.ref w_TIMESTAMP), .val (.int (0 : Int32)), .val (.int (0 : Int32)), .val (.int (0 : Int32))] [])) _
    refine XS.iconst X2.here hx rfl (hb hby at_74) ?_
    show Steps p.tables e below (T2.setTop (mkF m 75 #[.val (.int p1), .val (.int (13 : Int32)), .val (.ref w_TIMESTAMP), .val (.int (0 : Int32)), .val (.int (0 : Int32)), .val (.int (0 : Int32))] [(.int (1 : Int32))])) _
    refine XS.goto X2.here hx rfl (pc0 := 75) (pc' := 79) rfl (hb hby at_75) (by decide) (by decide) ?_
    exact k)
  obtain ⟨fs, hr, hrun, hended, hW, hsame⟩ := X2.leave (v := some (.int (1 : Int32))) (fun h => by rw [Bd.returns] at h; cases h)
  refine ⟨_, _, pre3 _ ?_, hrun, hended, _, _, rfl, ?_, ⟨_, rfl⟩, hW, hsame.mono (by decide) (by decide)⟩
  · show Steps p.tables e below (T2.setTop (mkF m 79 #[.val (.int p1), .val (.int (13 : Int32)), .val (.ref w_TIMESTAMP), .val (.int (0 : Int32)), .val (.int (0 : Int32)), .val (.int (0 : Int32))] [(.int (1 : Int32))])) _
    exact retN X2 hx (t := .boolean) Bd.returns (by simp) (hb hby at_79) hr
  · exact ⟨rfl, N2, e2⟩
theorem ef_law14 (m : MethodId) (x0 : Int32) : entryFrame m #[(.int x0)] maxLocals = mkF m 0 #[.val (.int x0), .unset, .unset, .unset, .unset, .unset] [] := by first | (simp [entryFrame, mkF, argsToLocals, Value.category, maxLocals]; done) | rfl
set_option maxRecDepth 65536 in
set_option maxHeartbeats 40000000 in
theorem rm_law14 (l : Launch) (Z : State) (a0 : Array Value) (hw : ∀ d ∈ tables_1, d.before a0 Z = true) (ws : List Jvm.Cond) (p1 : Int32) (h0 : Heap) (n0 : Nat) (w_BLOB w_STRUCTURE w_UNION w_ENUM w_INT_ENUM w_BIG_INTEGER w_BIG_DECIMAL w_SHORT w_STRING w_BYTE w_LONG w_BOOLEAN w_RESOURCE w_MAP w_DOUBLE w_FLOAT w_MEMBER w_SERVICE w_LIST w_OPERATION w_DOCUMENT w_INTEGER w_TIMESTAMP : Addr) (hK : own_K Z h0 w_BLOB w_STRUCTURE w_UNION w_ENUM w_INT_ENUM w_BIG_INTEGER w_BIG_DECIMAL w_SHORT w_STRING w_BYTE w_LONG w_BOOLEAN w_RESOURCE w_MAP w_DOUBLE w_FLOAT w_MEMBER w_SERVICE w_LIST w_OPERATION w_DOCUMENT w_INTEGER w_TIMESTAMP) (hk : ((p1 &&& (2147483647 : Int32)) % (23 : Int32)) = (14 : Int32)) :
    MetFree l x (head1 (Jvm.Cond.code x code maxLocals ret :: ws) room_1) (fun a U => a = #[(.int p1)] ∧ Z.Warmed39 U.vm ∧ U.heap = h0) (fun _ _ _ _ _ => True) (fun _ U o U' => ∃ v L, o = .returned v ∧ own_Q (some (.int (1 : Int32))) h0 n0 v U'.heap L ∧ FrameEnd U o U' L room_1.cells room_1.slots) := by
  refine MetFree.of_bodySF (plainFor_of_name pn_0) hisR ?_
  intro p e s m args below meth c s₁ Bd hml0 hP hK0
  obtain ⟨rfl, hZ, hh⟩ := hP
  have hx := Bd.exec
  have hby := Bd.bytes
  have hml : c.maxLocals = 6 := hml0
  have hown : s.vm.findClass "com/example/falkirk/falkirk/model/ShapeTypeHasNamedMembersPinLaw" = some m.cls := findClass_of_methodNamed Bd.named
  have hnm := (name_of_methodNamed Bd.named Bd.method).1
  have X0 : Stand p l e room_1 s m #[(.int p1)] below meth c s₁ [] 0 0 := Stand.of_body Bd
  have e0 : s₁.heap = h0 := by rw [← hh, Bd.state]; rfl
  have N0 := Fr.nil n0
  have pre0 : ∀ t, Steps p.tables e below (s₁.setTop (mkF m 0 #[.val (.int p1), .unset, .unset, .unset, .unset, .unset] [])) t → Steps p.tables e below (s₁.setTop (entryFrame m #[(.int p1)] maxLocals)) t := fun t k => castTop (ef_law14 m p1) k
  have hK' := hK
  obtain ⟨S_w_BLOB, E_w_BLOB, S_w_STRUCTURE, E_w_STRUCTURE, F_ordinal_w_BLOB, F_ordinal_w_STRUCTURE, S_w_UNION, E_w_UNION, F_ordinal_w_UNION, S_w_ENUM, E_w_ENUM, F_ordinal_w_ENUM, S_w_INT_ENUM, E_w_INT_ENUM, F_ordinal_w_INT_ENUM, S_w_BIG_INTEGER, E_w_BIG_INTEGER, F_ordinal_w_BIG_INTEGER, S_w_BIG_DECIMAL, E_w_BIG_DECIMAL, F_ordinal_w_BIG_DECIMAL, S_w_SHORT, E_w_SHORT, F_ordinal_w_SHORT, S_w_STRING, E_w_STRING, F_ordinal_w_STRING, S_w_BYTE, E_w_BYTE, F_ordinal_w_BYTE, S_w_LONG, E_w_LONG, F_ordinal_w_LONG, S_w_BOOLEAN, E_w_BOOLEAN, F_ordinal_w_BOOLEAN, S_w_RESOURCE, E_w_RESOURCE, F_ordinal_w_RESOURCE, S_w_MAP, E_w_MAP, F_ordinal_w_MAP, S_w_DOUBLE, E_w_DOUBLE, F_ordinal_w_DOUBLE, S_w_FLOAT, E_w_FLOAT, F_ordinal_w_FLOAT, S_w_MEMBER, E_w_MEMBER, F_ordinal_w_MEMBER, S_w_SERVICE, E_w_SERVICE, F_ordinal_w_SERVICE, S_w_LIST, E_w_LIST, F_ordinal_w_LIST, S_w_OPERATION, E_w_OPERATION, F_ordinal_w_OPERATION, S_w_DOCUMENT, E_w_DOCUMENT, F_ordinal_w_DOCUMENT, S_w_INTEGER, E_w_INTEGER, F_ordinal_w_INTEGER, S_w_TIMESTAMP, E_w_TIMESTAMP, F_ordinal_w_TIMESTAMP⟩ := hK'
  obtain ⟨v1, _, ⟨T1, L1, k1, n1⟩, -, X1, ⟨Lc1, hQ1, l1, y1, z1⟩, st1⟩ := Jvm.LawKit.callS X0 hx (y := (⟨"com/example/falkirk/falkirk/model/ShapeTypeHasNamedMembersPinLaw", "pick", "(I)Lcom/example/falkirk/falkirk/model/ShapeType;"⟩ : MethodName)) hown (mvT hZ (hw _ (ow 1 rfl))) (mvT hZ (hw _ (ow 2 rfl))) (mvT hZ (hw _ (ow 3 rfl))) (mvT hZ (hw _ (ow 4 rfl))) (by decide) (backOf (W := 0) (rm_pick l Z a0 hw [] (14 : Int32) h0 n0 w_BLOB w_STRUCTURE w_UNION w_ENUM w_INT_ENUM w_BIG_INTEGER w_BIG_DECIMAL w_SHORT w_STRING w_BYTE w_LONG w_BOOLEAN w_RESOURCE w_MAP w_DOUBLE w_FLOAT w_MEMBER w_SERVICE w_LIST w_OPERATION w_DOCUMENT w_INTEGER w_TIMESTAMP hK) hZ (hw _ (ow 4 rfl)) (hw _ (ow 3 rfl)) (by decide) (by decide)) (g := (mkF m 9 #[.val (.int p1), .val (.int (14 : Int32)), .unset, .unset, .unset, .unset] [(.int (14 : Int32))])) rfl (by rw [hml]; rfl) (argsL := [(.int (14 : Int32))]) (rest := []) (lenOf pd_0 rfl) rfl (Nat.le_of_eq rfl) (hb hby at_9) (fun _ _ => ⟨rfl, e0, (by decide : 0 + 0 ≤ _), (by decide : 0 + 0 ≤ _)⟩)
  dsimp only [Pt.U, Pt.locs, Pt.cells, Pt.slots] at X1 l1 y1 z1 st1 hQ1
  subst l1 y1 z1
  obtain ⟨hv1, Nq1, e1⟩ := hQ1
  obtain rfl : v1 = some (.ref w_DOCUMENT) := hv1.trans (congrArg some (congrArg Value.ref ((if_neg (by decide)).trans ((if_neg (by decide)).trans ((if_neg (by decide)).trans ((if_neg (by decide)).trans ((if_neg (by decide)).trans ((if_neg (by decide)).trans ((if_neg (by decide)).trans ((if_neg (by decide)).trans ((if_neg (by decide)).trans ((if_neg (by decide)).trans ((if_neg (by decide)).trans ((if_neg (by decide)).trans ((if_neg (by decide)).trans ((if_neg (by decide)).trans (if_pos (by decide))))))))))))))))))
  have N1 := Fr.app N0 Nq1
  obtain ⟨cq2, kq2, q2a, q2b, q2c⟩ := isOf hZ e1 E_w_DOCUMENT
  obtain ⟨v2, _, ⟨T2, L2, k2, n2⟩, -, X2, ⟨Lc2, hQ2, l2, y2, z2⟩, st2⟩ := X1.virtualBack hx (y := (⟨"com/example/falkirk/falkirk/model/ShapeType", "hasNamedMembers", "()Z"⟩ : MethodName)) (z := (⟨"com/example/falkirk/falkirk/model/ShapeType", "hasNamedMembers", "()Z"⟩ : MethodName)) hown (mvT hZ (hw _ (ow 8 rfl))) (mvT hZ (hw _ (ow 9 rfl))) (notFace_of_selects (args := #[]) (mvT hZ (hw _ (ow 11 rfl)))) (mvT hZ (hw _ (ow 11 rfl))) (mvT hZ (hw _ (ow 10 rfl))) (by decide) (backOf (W := 0) (rm_hasNamedMembers l Z a0 hw [] w_DOCUMENT h0 n0 w_BLOB w_STRUCTURE w_UNION w_ENUM w_INT_ENUM w_BIG_INTEGER w_BIG_DECIMAL w_SHORT w_STRING w_BYTE w_LONG w_BOOLEAN w_RESOURCE w_MAP w_DOUBLE w_FLOAT w_MEMBER w_SERVICE w_LIST w_OPERATION w_DOCUMENT w_INTEGER w_TIMESTAMP hK) hZ (hw _ (ow 12 rfl)) (hw _ (ow 6 rfl)) (by decide) (by decide)) q2a q2c (g := (mkF m 66 #[.val (.int p1), .val (.int (14 : Int32)), .val (.ref w_DOCUMENT), .val (.int (0 : Int32)), .val (.int (0 : Int32)), .val (.int (0 : Int32))] [(.ref w_DOCUMENT)])) rfl (by rw [hml]; rfl) (Steps.refl _) (argsL := []) (rest := []) (lenOf pd_1 rfl) rfl (Nat.le_of_eq rfl) (hb hby at_66) (fun _ _ => ⟨rfl, e1, (by decide : 0 + 0 ≤ _), (by decide : 0 + 0 ≤ _)⟩)
  dsimp only [Pt.U, Pt.locs, Pt.cells, Pt.slots] at X2 l2 y2 z2 st2 hQ2
  subst l2 y2 z2
  obtain ⟨hv2, Nq2, e2⟩ := hQ2
  obtain rfl : v2 = some (.int (0 : Int32)) := hv2.trans (congrArg some (congrArg Value.int ((if_neg (Fld.ne F_ordinal_w_DOCUMENT F_ordinal_w_STRUCTURE (by decide))).trans ((if_neg (Fld.ne F_ordinal_w_DOCUMENT F_ordinal_w_UNION (by decide))).trans ((if_neg (Fld.ne F_ordinal_w_DOCUMENT F_ordinal_w_ENUM (by decide))).trans (if_neg (Fld.ne F_ordinal_w_DOCUMENT F_ordinal_w_INT_ENUM (by decide))))))))
  have N2 := Fr.app N1 Nq2
  have pre3 : ∀ t, Steps p.tables e below (T2.setTop (mkF m 79 #[.val (.int p1), .val (.int (14 : Int32)), .val (.ref w_DOCUMENT), .val (.int (0 : Int32)), .val (.int (0 : Int32)), .val (.int (0 : Int32))] [(.int (1 : Int32))])) t → Steps p.tables e below (s₁.setTop (entryFrame m #[(.int p1)] maxLocals)) t := fun t k => pre0 t (by
    show Steps p.tables e below (s₁.setTop (mkF m 0 #[.val (.int p1), .unset, .unset, .unset, .unset, .unset] [])) _
    refine XS.iloadN X0.here hx rfl (hb hby at_0) rfl ?_
    show Steps p.tables e below (s₁.setTop (mkF m 1 #[.val (.int p1), .unset, .unset, .unset, .unset, .unset] [(.int p1)])) _
    refine X0.ldcInt hx hown (mvT hZ (hw _ (ow 0 rfl))) (g := (mkF m 1 #[.val (.int p1), .unset, .unset, .unset, .unset, .unset] [(.int p1)])) rfl (hb hby at_1) _ ?_
    show Steps p.tables e below (s₁.setTop (mkF m 3 #[.val (.int p1), .unset, .unset, .unset, .unset, .unset] [(.int (2147483647 : Int32)), (.int p1)])) _
    refine XS.iand X0.here hx rfl (hb hby at_3) rfl ?_
    show Steps p.tables e below (s₁.setTop (mkF m 4 #[.val (.int p1), .unset, .unset, .unset, .unset, .unset] [(.int (p1 &&& (2147483647 : Int32)))])) _
    refine XS.bipush X0.here hx rfl (hb hby at_4) ?_
    show Steps p.tables e below (s₁.setTop (mkF m 6 #[.val (.int p1), .unset, .unset, .unset, .unset, .unset] [(.int (23 : Int32)), (.int (p1 &&& (2147483647 : Int32)))])) _
    refine iremM X0 hx rfl (hb hby at_6) rfl (by decide) ?_
    show Steps p.tables e below (s₁.setTop (mkF m 7 #[.val (.int p1), .unset, .unset, .unset, .unset, .unset] [(.int ((p1 &&& (2147483647 : Int32)) % (23 : Int32)))])) _
    rw [hk]
    show Steps p.tables e below (s₁.setTop (mkF m 7 #[.val (.int p1), .unset, .unset, .unset, .unset, .unset] [(.int (14 : Int32))])) _
    refine XS.istoreN X0.here hx rfl (hb hby at_7) rfl (l' := #[.val (.int p1), .val (.int (14 : Int32)), .unset, .unset, .unset, .unset]) rfl ?_
    show Steps p.tables e below (s₁.setTop (mkF m 8 #[.val (.int p1), .val (.int (14 : Int32)), .unset, .unset, .unset, .unset] [])) _
    refine XS.iloadN X0.here hx rfl (hb hby at_8) rfl ?_
    show Steps p.tables e below (s₁.setTop (mkF m 9 #[.val (.int p1), .val (.int (14 : Int32)), .unset, .unset, .unset, .unset] [(.int (14 : Int32))])) _
    refine st1 _ ?_
    show Steps p.tables e below (T1.setTop (mkF m 12 #[.val (.int p1), .val (.int (14 : Int32)), .unset, .unset, .unset, .unset] [(.ref w_DOCUMENT)])) _
    refine XS.astoreN X1.here hx rfl (hb hby at_12) rfl rfl (l' := #[.val (.int p1), .val (.int (14 : Int32)), .val (.ref w_DOCUMENT), .unset, .unset, .unset]) rfl ?_
    show Steps p.tables e below (T1.setTop (mkF m 13 #[.val (.int p1), .val (.int (14 : Int32)), .val (.ref w_DOCUMENT), .unset, .unset, .unset] [])) _
    refine XS.iloadN X1.here hx rfl (hb hby at_13) rfl ?_
    show Steps p.tables e below (T1.setTop (mkF m 14 #[.val (.int p1), .val (.int (14 : Int32)), .val (.ref w_DOCUMENT), .unset, .unset, .unset] [(.int (14 : Int32))])) _
    refine XS.bipush X1.here hx rfl (hb hby at_14) ?_
    show Steps p.tables e below (T1.setTop (mkF m 16 #[.val (.int p1), .val (.int (14 : Int32)), .val (.ref w_DOCUMENT), .unset, .unset, .unset] [(.int (17 : Int32)), (.int (14 : Int32))])) _
    refine XS.icmpNo X1.here hx rfl (hb hby at_16) rfl (feq (by decide)).1 ?_
    show Steps p.tables e below (T1.setTop (mkF m 19 #[.val (.int p1), .val (.int (14 : Int32)), .val (.ref w_DOCUMENT), .unset, .unset, .unset] [])) _
    refine XS.iloadN X1.here hx rfl (hb hby at_19) rfl ?_
    show Steps p.tables e below (T1.setTop (mkF m 20 #[.val (.int p1), .val (.int (14 : Int32)), .val (.ref w_DOCUMENT), .unset, .unset, .unset] [(.int (14 : Int32))])) _
    refine XS.bipush X1.here hx rfl (hb hby at_20) ?_
    show Steps p.tables e below (T1.setTop (mkF m 22 #[.val (.int p1), .val (.int (14 : Int32)), .val (.ref w_DOCUMENT), .unset, .unset, .unset] [(.int (18 : Int32)), (.int (14 : Int32))])) _
    refine XS.icmpYes X1.here hx rfl (pc0 := 22) (pc' := 29) rfl (hb hby at_22) rfl (feq (by decide)).2 (by decide) (by decide) ?_
    show Steps p.tables e below (T1.setTop (mkF m 29 #[.val (.int p1), .val (.int (14 : Int32)), .val (.ref w_DOCUMENT), .unset, .unset, .unset] [])) _
    refine XS.iconst X1.here hx rfl (hb hby at_29) ?_
    show Steps p.tables e below (T1.setTop (mkF m 30 #[.val (.int p1), .val (.int (14 : Int32)), .val (.ref w_DOCUMENT), .unset, .unset, .unset] [(.int (0 : Int32))])) _
    refine XS.istoreN X1.here hx rfl (hb hby at_30) rfl (l' := #[.val (.int p1), .val (.int (14 : Int32)), .val (.ref w_DOCUMENT), .val (.int (0 : Int32)), .unset, .unset]) rfl ?_
    show Steps p.tables e below (T1.setTop (mkF m 31 #[.val (.int p1), .val (.int (14 : Int32)), .val (.ref w_DOCUMENT), .val (.int (0 : Int32)), .unset, .unset] [])) _
    refine XS.iloadN X1.here hx rfl (hb hby at_31) rfl ?_
    show Steps p.tables e below (T1.setTop (mkF m 32 #[.val (.int p1), .val (.int (14 : Int32)), .val (.ref w_DOCUMENT), .val (.int (0 : Int32)), .unset, .unset] [(.int (14 : Int32))])) _
    refine XS.iconst X1.here hx rfl (hb hby at_32) ?_
    show Steps p.tables e below (T1.setTop (mkF m 33 #[.val (.int p1), .val (.int (14 : Int32)), .val (.ref w_DOCUMENT), .val (.int (0 : Int32)), .unset, .unset] [(.int (3 : Int32)), (.int (14 : Int32))])) _
    refine XS.icmpNo X1.here hx rfl (hb hby at_33) rfl (feq (by decide)).1 ?_
    show Steps p.tables e below (T1.setTop (mkF m 36 #[.val (.int p1), .val (.int (14 : Int32)), .val (.ref w_DOCUMENT), .val (.int (0 : Int32)), .unset, .unset] [])) _
    refine XS.iloadN X1.here hx rfl (hb hby at_36) rfl ?_
    show Steps p.tables e below (T1.setTop (mkF m 37 #[.val (.int p1), .val (.int (14 : Int32)), .val (.ref w_DOCUMENT), .val (.int (0 : Int32)), .unset, .unset] [(.int (14 : Int32))])) _
    refine XS.bipush X1.here hx rfl (hb hby at_37) ?_
    show Steps p.tables e below (T1.setTop (mkF m 39 #[.val (.int p1), .val (.int (14 : Int32)), .val (.ref w_DOCUMENT), .val (.int (0 : Int32)), .unset, .unset] [(.int (7 : Int32)), (.int (14 : Int32))])) _
    refine XS.icmpYes X1.here hx rfl (pc0 := 39) (pc' := 46) rfl (hb hby at_39) rfl (feq (by decide)).2 (by decide) (by decide) ?_
    show Steps p.tables e below (T1.setTop (mkF m 46 #[.val (.int p1), .val (.int (14 : Int32)), .val (.ref w_DOCUMENT), .val (.int (0 : Int32)), .unset, .unset] [])) _
    refine XS.iconst X1.here hx rfl (hb hby at_46) ?_
    show Steps p.tables e below (T1.setTop (mkF m 47 #[.val (.int p1), .val (.int (14 : Int32)), .val (.ref w_DOCUMENT), .val (.int (0 : Int32)), .unset, .unset] [(.int (0 : Int32))])) _
    refine XS.istore X1.here hx rfl (hb hby at_47) rfl (l' := #[.val (.int p1), .val (.int (14 : Int32)), .val (.ref w_DOCUMENT), .val (.int (0 : Int32)), .val (.int (0 : Int32)), .unset]) rfl ?_
    show Steps p.tables e below (T1.setTop (mkF m 49 #[.val (.int p1), .val (.int (14 : Int32)), .val (.ref w_DOCUMENT), .val (.int (0 : Int32)), .val (.int (0 : Int32)), .unset] [])) _
    refine XS.iloadN X1.here hx rfl (hb hby at_49) rfl ?_
    show Steps p.tables e below (T1.setTop (mkF m 50 #[.val (.int p1), .val (.int (14 : Int32)), .val (.ref w_DOCUMENT), .val (.int (0 : Int32)), .val (.int (0 : Int32)), .unset] [(.int (0 : Int32))])) _
    refine XS.ifNo X1.here hx rfl (hb hby at_50) rfl ((if0 _ _).trans (teq (by decide)).2) ?_
    show Steps p.tables e below (T1.setTop (mkF m 53 #[.val (.int p1), .val (.int (14 : Int32)), .val (.ref w_DOCUMENT), .val (.int (0 : Int32)), .val (.int (0 : Int32)), .unset] [])) _
    refine XS.iload X1.here hx rfl (hb hby at_53) rfl ?_
    show Steps p.tables e below (T1.setTop (mkF m 55 #[.val (.int p1), .val (.int (14 : Int32)), .val (.ref w_DOCUMENT), .val (.int (0 : Int32)), .val (.int (0 : Int32)), .unset] [(.int (0 : Int32))])) _
    refine XS.ifYes X1.here hx rfl (pc0 := 55) (pc' := 62) rfl (hb hby at_55) rfl ((if0 _ _).trans (teq (by decide)).1) (by decide) (by decide) ?_
    show Steps p.tables e below (T1.setTop (mkF m 62 #[.val (.int p1), .val (.int (14 : Int32)), .val (.ref w_DOCUMENT), .val (.int (0 : Int32)), .val (.int (0 : Int32)), .unset] [])) _
    refine XS.iconst X1.here hx rfl (hb hby at_62) ?_
    show Steps p.tables e below (T1.setTop (mkF m 63 #[.val (.int p1), .val (.int (14 : Int32)), .val (.ref w_DOCUMENT), .val (.int (0 : Int32)), .val (.int (0 : Int32)), .unset] [(.int (0 : Int32))])) _
    refine XS.istore X1.here hx rfl (hb hby at_63) rfl (l' := #[.val (.int p1), .val (.int (14 : Int32)), .val (.ref w_DOCUMENT), .val (.int (0 : Int32)), .val (.int (0 : Int32)), .val (.int (0 : Int32))]) rfl ?_
    show Steps p.tables e below (T1.setTop (mkF m 65 #[.val (.int p1), .val (.int (14 : Int32)), .val (.ref w_DOCUMENT), .val (.int (0 : Int32)), .val (.int (0 : Int32)), .val (.int (0 : Int32))] [])) _
    refine XS.aloadN X1.here hx rfl (hb hby at_65) rfl rfl ?_
    show Steps p.tables e below (T1.setTop (mkF m 66 #[.val (.int p1), .val (.int (14 : Int32)), .val (.ref w_DOCUMENT), .val (.int (0 : Int32)), .val (.int (0 : Int32)), .val (.int (0 : Int32))] [(.ref w_DOCUMENT)])) _
    refine st2.trans ?_
    show Steps p.tables e below (T2.setTop (mkF m 69 #[.val (.int p1), .val (.int (14 : Int32)), .val (.ref w_DOCUMENT), .val (.int (0 : Int32)), .val (.int (0 : Int32)), .val (.int (0 : Int32))] [(.int (0 : Int32))])) _
    refine XS.iload X2.here hx rfl (hb hby at_69) rfl ?_
    show Steps p.tables e below (T2.setTop (mkF m 71 #[.val (.int p1), .val (.int (14 : Int32)), .val (.ref w_DOCUMENT), .val (.int (0 : Int32)), .val (.int (0 : Int32)), .val (.int (0 : Int32))] [(.int (0 : Int32)), (.int (0 : Int32))])) _
    refine XS.icmpNo X2.here hx rfl (hb hby at_71) rfl (teq (by decide)).2 ?_
    show Steps p.tables e below (T2.setTop (mkF m 74 #[.val (.int p1), .val (.int (14 : Int32)), .val (.ref w_DOCUMENT), .val (.int (0 : Int32)), .val (.int (0 : Int32)), .val (.int (0 : Int32))] [])) _
    refine XS.iconst X2.here hx rfl (hb hby at_74) ?_
    show Steps p.tables e below (T2.setTop (mkF m 75 #[.val (.int p1), .val (.int (14 : Int32)), .val (.ref w_DOCUMENT), .val (.int (0 : Int32)), .val (.int (0 : Int32)), .val (.int (0 : Int32))] [(.int (1 : Int32))])) _
    refine XS.goto X2.here hx rfl (pc0 := 75) (pc' := 79) rfl (hb hby at_75) (by decide) (by decide) ?_
    exact k)
  obtain ⟨fs, hr, hrun, hended, hW, hsame⟩ := X2.leave (v := some (.int (1 : Int32))) (fun h => by rw [Bd.returns] at h; cases h)
  refine ⟨_, _, pre3 _ ?_, hrun, hended, _, _, rfl, ?_, ⟨_, rfl⟩, hW, hsame.mono (by decide) (by decide)⟩
  · show Steps p.tables e below (T2.setTop (mkF m 79 #[.val (.int p1), .val (.int (14 : Int32)), .val (.ref w_DOCUMENT), .val (.int (0 : Int32)), .val (.int (0 : Int32)), .val (.int (0 : Int32))] [(.int (1 : Int32))])) _
    exact retN X2 hx (t := .boolean) Bd.returns (by simp) (hb hby at_79) hr
  · exact ⟨rfl, N2, e2⟩
theorem ef_law15 (m : MethodId) (x0 : Int32) : entryFrame m #[(.int x0)] maxLocals = mkF m 0 #[.val (.int x0), .unset, .unset, .unset, .unset, .unset] [] := by first | (simp [entryFrame, mkF, argsToLocals, Value.category, maxLocals]; done) | rfl
set_option maxRecDepth 65536 in
set_option maxHeartbeats 40000000 in
theorem rm_law15 (l : Launch) (Z : State) (a0 : Array Value) (hw : ∀ d ∈ tables_1, d.before a0 Z = true) (ws : List Jvm.Cond) (p1 : Int32) (h0 : Heap) (n0 : Nat) (w_BLOB w_STRUCTURE w_UNION w_ENUM w_INT_ENUM w_BIG_INTEGER w_BIG_DECIMAL w_SHORT w_STRING w_BYTE w_LONG w_BOOLEAN w_RESOURCE w_MAP w_DOUBLE w_FLOAT w_MEMBER w_SERVICE w_LIST w_OPERATION w_DOCUMENT w_INTEGER w_TIMESTAMP : Addr) (hK : own_K Z h0 w_BLOB w_STRUCTURE w_UNION w_ENUM w_INT_ENUM w_BIG_INTEGER w_BIG_DECIMAL w_SHORT w_STRING w_BYTE w_LONG w_BOOLEAN w_RESOURCE w_MAP w_DOUBLE w_FLOAT w_MEMBER w_SERVICE w_LIST w_OPERATION w_DOCUMENT w_INTEGER w_TIMESTAMP) (hk : ((p1 &&& (2147483647 : Int32)) % (23 : Int32)) = (15 : Int32)) :
    MetFree l x (head1 (Jvm.Cond.code x code maxLocals ret :: ws) room_1) (fun a U => a = #[(.int p1)] ∧ Z.Warmed39 U.vm ∧ U.heap = h0) (fun _ _ _ _ _ => True) (fun _ U o U' => ∃ v L, o = .returned v ∧ own_Q (some (.int (1 : Int32))) h0 n0 v U'.heap L ∧ FrameEnd U o U' L room_1.cells room_1.slots) := by
  refine MetFree.of_bodySF (plainFor_of_name pn_0) hisR ?_
  intro p e s m args below meth c s₁ Bd hml0 hP hK0
  obtain ⟨rfl, hZ, hh⟩ := hP
  have hx := Bd.exec
  have hby := Bd.bytes
  have hml : c.maxLocals = 6 := hml0
  have hown : s.vm.findClass "com/example/falkirk/falkirk/model/ShapeTypeHasNamedMembersPinLaw" = some m.cls := findClass_of_methodNamed Bd.named
  have hnm := (name_of_methodNamed Bd.named Bd.method).1
  have X0 : Stand p l e room_1 s m #[(.int p1)] below meth c s₁ [] 0 0 := Stand.of_body Bd
  have e0 : s₁.heap = h0 := by rw [← hh, Bd.state]; rfl
  have N0 := Fr.nil n0
  have pre0 : ∀ t, Steps p.tables e below (s₁.setTop (mkF m 0 #[.val (.int p1), .unset, .unset, .unset, .unset, .unset] [])) t → Steps p.tables e below (s₁.setTop (entryFrame m #[(.int p1)] maxLocals)) t := fun t k => castTop (ef_law15 m p1) k
  have hK' := hK
  obtain ⟨S_w_BLOB, E_w_BLOB, S_w_STRUCTURE, E_w_STRUCTURE, F_ordinal_w_BLOB, F_ordinal_w_STRUCTURE, S_w_UNION, E_w_UNION, F_ordinal_w_UNION, S_w_ENUM, E_w_ENUM, F_ordinal_w_ENUM, S_w_INT_ENUM, E_w_INT_ENUM, F_ordinal_w_INT_ENUM, S_w_BIG_INTEGER, E_w_BIG_INTEGER, F_ordinal_w_BIG_INTEGER, S_w_BIG_DECIMAL, E_w_BIG_DECIMAL, F_ordinal_w_BIG_DECIMAL, S_w_SHORT, E_w_SHORT, F_ordinal_w_SHORT, S_w_STRING, E_w_STRING, F_ordinal_w_STRING, S_w_BYTE, E_w_BYTE, F_ordinal_w_BYTE, S_w_LONG, E_w_LONG, F_ordinal_w_LONG, S_w_BOOLEAN, E_w_BOOLEAN, F_ordinal_w_BOOLEAN, S_w_RESOURCE, E_w_RESOURCE, F_ordinal_w_RESOURCE, S_w_MAP, E_w_MAP, F_ordinal_w_MAP, S_w_DOUBLE, E_w_DOUBLE, F_ordinal_w_DOUBLE, S_w_FLOAT, E_w_FLOAT, F_ordinal_w_FLOAT, S_w_MEMBER, E_w_MEMBER, F_ordinal_w_MEMBER, S_w_SERVICE, E_w_SERVICE, F_ordinal_w_SERVICE, S_w_LIST, E_w_LIST, F_ordinal_w_LIST, S_w_OPERATION, E_w_OPERATION, F_ordinal_w_OPERATION, S_w_DOCUMENT, E_w_DOCUMENT, F_ordinal_w_DOCUMENT, S_w_INTEGER, E_w_INTEGER, F_ordinal_w_INTEGER, S_w_TIMESTAMP, E_w_TIMESTAMP, F_ordinal_w_TIMESTAMP⟩ := hK'
  obtain ⟨v1, _, ⟨T1, L1, k1, n1⟩, -, X1, ⟨Lc1, hQ1, l1, y1, z1⟩, st1⟩ := Jvm.LawKit.callS X0 hx (y := (⟨"com/example/falkirk/falkirk/model/ShapeTypeHasNamedMembersPinLaw", "pick", "(I)Lcom/example/falkirk/falkirk/model/ShapeType;"⟩ : MethodName)) hown (mvT hZ (hw _ (ow 1 rfl))) (mvT hZ (hw _ (ow 2 rfl))) (mvT hZ (hw _ (ow 3 rfl))) (mvT hZ (hw _ (ow 4 rfl))) (by decide) (backOf (W := 0) (rm_pick l Z a0 hw [] (15 : Int32) h0 n0 w_BLOB w_STRUCTURE w_UNION w_ENUM w_INT_ENUM w_BIG_INTEGER w_BIG_DECIMAL w_SHORT w_STRING w_BYTE w_LONG w_BOOLEAN w_RESOURCE w_MAP w_DOUBLE w_FLOAT w_MEMBER w_SERVICE w_LIST w_OPERATION w_DOCUMENT w_INTEGER w_TIMESTAMP hK) hZ (hw _ (ow 4 rfl)) (hw _ (ow 3 rfl)) (by decide) (by decide)) (g := (mkF m 9 #[.val (.int p1), .val (.int (15 : Int32)), .unset, .unset, .unset, .unset] [(.int (15 : Int32))])) rfl (by rw [hml]; rfl) (argsL := [(.int (15 : Int32))]) (rest := []) (lenOf pd_0 rfl) rfl (Nat.le_of_eq rfl) (hb hby at_9) (fun _ _ => ⟨rfl, e0, (by decide : 0 + 0 ≤ _), (by decide : 0 + 0 ≤ _)⟩)
  dsimp only [Pt.U, Pt.locs, Pt.cells, Pt.slots] at X1 l1 y1 z1 st1 hQ1
  subst l1 y1 z1
  obtain ⟨hv1, Nq1, e1⟩ := hQ1
  obtain rfl : v1 = some (.ref w_LIST) := hv1.trans (congrArg some (congrArg Value.ref ((if_neg (by decide)).trans ((if_neg (by decide)).trans ((if_neg (by decide)).trans ((if_neg (by decide)).trans ((if_neg (by decide)).trans ((if_neg (by decide)).trans ((if_neg (by decide)).trans ((if_neg (by decide)).trans ((if_neg (by decide)).trans ((if_neg (by decide)).trans ((if_neg (by decide)).trans ((if_neg (by decide)).trans ((if_neg (by decide)).trans ((if_neg (by decide)).trans ((if_neg (by decide)).trans (if_pos (by decide)))))))))))))))))))
  have N1 := Fr.app N0 Nq1
  obtain ⟨cq2, kq2, q2a, q2b, q2c⟩ := isOf hZ e1 E_w_LIST
  obtain ⟨v2, _, ⟨T2, L2, k2, n2⟩, -, X2, ⟨Lc2, hQ2, l2, y2, z2⟩, st2⟩ := X1.virtualBack hx (y := (⟨"com/example/falkirk/falkirk/model/ShapeType", "hasNamedMembers", "()Z"⟩ : MethodName)) (z := (⟨"com/example/falkirk/falkirk/model/ShapeType", "hasNamedMembers", "()Z"⟩ : MethodName)) hown (mvT hZ (hw _ (ow 8 rfl))) (mvT hZ (hw _ (ow 9 rfl))) (notFace_of_selects (args := #[]) (mvT hZ (hw _ (ow 11 rfl)))) (mvT hZ (hw _ (ow 11 rfl))) (mvT hZ (hw _ (ow 10 rfl))) (by decide) (backOf (W := 0) (rm_hasNamedMembers l Z a0 hw [] w_LIST h0 n0 w_BLOB w_STRUCTURE w_UNION w_ENUM w_INT_ENUM w_BIG_INTEGER w_BIG_DECIMAL w_SHORT w_STRING w_BYTE w_LONG w_BOOLEAN w_RESOURCE w_MAP w_DOUBLE w_FLOAT w_MEMBER w_SERVICE w_LIST w_OPERATION w_DOCUMENT w_INTEGER w_TIMESTAMP hK) hZ (hw _ (ow 12 rfl)) (hw _ (ow 6 rfl)) (by decide) (by decide)) q2a q2c (g := (mkF m 66 #[.val (.int p1), .val (.int (15 : Int32)), .val (.ref w_LIST), .val (.int (0 : Int32)), .val (.int (0 : Int32)), .val (.int (0 : Int32))] [(.ref w_LIST)])) rfl (by rw [hml]; rfl) (Steps.refl _) (argsL := []) (rest := []) (lenOf pd_1 rfl) rfl (Nat.le_of_eq rfl) (hb hby at_66) (fun _ _ => ⟨rfl, e1, (by decide : 0 + 0 ≤ _), (by decide : 0 + 0 ≤ _)⟩)
  dsimp only [Pt.U, Pt.locs, Pt.cells, Pt.slots] at X2 l2 y2 z2 st2 hQ2
  subst l2 y2 z2
  obtain ⟨hv2, Nq2, e2⟩ := hQ2
  obtain rfl : v2 = some (.int (0 : Int32)) := hv2.trans (congrArg some (congrArg Value.int ((if_neg (Fld.ne F_ordinal_w_LIST F_ordinal_w_STRUCTURE (by decide))).trans ((if_neg (Fld.ne F_ordinal_w_LIST F_ordinal_w_UNION (by decide))).trans ((if_neg (Fld.ne F_ordinal_w_LIST F_ordinal_w_ENUM (by decide))).trans (if_neg (Fld.ne F_ordinal_w_LIST F_ordinal_w_INT_ENUM (by decide))))))))
  have N2 := Fr.app N1 Nq2
  have pre3 : ∀ t, Steps p.tables e below (T2.setTop (mkF m 79 #[.val (.int p1), .val (.int (15 : Int32)), .val (.ref w_LIST), .val (.int (0 : Int32)), .val (.int (0 : Int32)), .val (.int (0 : Int32))] [(.int (1 : Int32))])) t → Steps p.tables e below (s₁.setTop (entryFrame m #[(.int p1)] maxLocals)) t := fun t k => pre0 t (by
    show Steps p.tables e below (s₁.setTop (mkF m 0 #[.val (.int p1), .unset, .unset, .unset, .unset, .unset] [])) _
    refine XS.iloadN X0.here hx rfl (hb hby at_0) rfl ?_
    show Steps p.tables e below (s₁.setTop (mkF m 1 #[.val (.int p1), .unset, .unset, .unset, .unset, .unset] [(.int p1)])) _
    refine X0.ldcInt hx hown (mvT hZ (hw _ (ow 0 rfl))) (g := (mkF m 1 #[.val (.int p1), .unset, .unset, .unset, .unset, .unset] [(.int p1)])) rfl (hb hby at_1) _ ?_
    show Steps p.tables e below (s₁.setTop (mkF m 3 #[.val (.int p1), .unset, .unset, .unset, .unset, .unset] [(.int (2147483647 : Int32)), (.int p1)])) _
    refine XS.iand X0.here hx rfl (hb hby at_3) rfl ?_
    show Steps p.tables e below (s₁.setTop (mkF m 4 #[.val (.int p1), .unset, .unset, .unset, .unset, .unset] [(.int (p1 &&& (2147483647 : Int32)))])) _
    refine XS.bipush X0.here hx rfl (hb hby at_4) ?_
    show Steps p.tables e below (s₁.setTop (mkF m 6 #[.val (.int p1), .unset, .unset, .unset, .unset, .unset] [(.int (23 : Int32)), (.int (p1 &&& (2147483647 : Int32)))])) _
    refine iremM X0 hx rfl (hb hby at_6) rfl (by decide) ?_
    show Steps p.tables e below (s₁.setTop (mkF m 7 #[.val (.int p1), .unset, .unset, .unset, .unset, .unset] [(.int ((p1 &&& (2147483647 : Int32)) % (23 : Int32)))])) _
    rw [hk]
    show Steps p.tables e below (s₁.setTop (mkF m 7 #[.val (.int p1), .unset, .unset, .unset, .unset, .unset] [(.int (15 : Int32))])) _
    refine XS.istoreN X0.here hx rfl (hb hby at_7) rfl (l' := #[.val (.int p1), .val (.int (15 : Int32)), .unset, .unset, .unset, .unset]) rfl ?_
    show Steps p.tables e below (s₁.setTop (mkF m 8 #[.val (.int p1), .val (.int (15 : Int32)), .unset, .unset, .unset, .unset] [])) _
    refine XS.iloadN X0.here hx rfl (hb hby at_8) rfl ?_
    show Steps p.tables e below (s₁.setTop (mkF m 9 #[.val (.int p1), .val (.int (15 : Int32)), .unset, .unset, .unset, .unset] [(.int (15 : Int32))])) _
    refine st1 _ ?_
    show Steps p.tables e below (T1.setTop (mkF m 12 #[.val (.int p1), .val (.int (15 : Int32)), .unset, .unset, .unset, .unset] [(.ref w_LIST)])) _
    refine XS.astoreN X1.here hx rfl (hb hby at_12) rfl rfl (l' := #[.val (.int p1), .val (.int (15 : Int32)), .val (.ref w_LIST), .unset, .unset, .unset]) rfl ?_
    show Steps p.tables e below (T1.setTop (mkF m 13 #[.val (.int p1), .val (.int (15 : Int32)), .val (.ref w_LIST), .unset, .unset, .unset] [])) _
    refine XS.iloadN X1.here hx rfl (hb hby at_13) rfl ?_
    show Steps p.tables e below (T1.setTop (mkF m 14 #[.val (.int p1), .val (.int (15 : Int32)), .val (.ref w_LIST), .unset, .unset, .unset] [(.int (15 : Int32))])) _
    refine XS.bipush X1.here hx rfl (hb hby at_14) ?_
    show Steps p.tables e below (T1.setTop (mkF m 16 #[.val (.int p1), .val (.int (15 : Int32)), .val (.ref w_LIST), .unset, .unset, .unset] [(.int (17 : Int32)), (.int (15 : Int32))])) _
    refine XS.icmpNo X1.here hx rfl (hb hby at_16) rfl (feq (by decide)).1 ?_
    show Steps p.tables e below (T1.setTop (mkF m 19 #[.val (.int p1), .val (.int (15 : Int32)), .val (.ref w_LIST), .unset, .unset, .unset] [])) _
    refine XS.iloadN X1.here hx rfl (hb hby at_19) rfl ?_
    show Steps p.tables e below (T1.setTop (mkF m 20 #[.val (.int p1), .val (.int (15 : Int32)), .val (.ref w_LIST), .unset, .unset, .unset] [(.int (15 : Int32))])) _
    refine XS.bipush X1.here hx rfl (hb hby at_20) ?_
    show Steps p.tables e below (T1.setTop (mkF m 22 #[.val (.int p1), .val (.int (15 : Int32)), .val (.ref w_LIST), .unset, .unset, .unset] [(.int (18 : Int32)), (.int (15 : Int32))])) _
    refine XS.icmpYes X1.here hx rfl (pc0 := 22) (pc' := 29) rfl (hb hby at_22) rfl (feq (by decide)).2 (by decide) (by decide) ?_
    show Steps p.tables e below (T1.setTop (mkF m 29 #[.val (.int p1), .val (.int (15 : Int32)), .val (.ref w_LIST), .unset, .unset, .unset] [])) _
    refine XS.iconst X1.here hx rfl (hb hby at_29) ?_
    show Steps p.tables e below (T1.setTop (mkF m 30 #[.val (.int p1), .val (.int (15 : Int32)), .val (.ref w_LIST), .unset, .unset, .unset] [(.int (0 : Int32))])) _
    refine XS.istoreN X1.here hx rfl (hb hby at_30) rfl (l' := #[.val (.int p1), .val (.int (15 : Int32)), .val (.ref w_LIST), .val (.int (0 : Int32)), .unset, .unset]) rfl ?_
    show Steps p.tables e below (T1.setTop (mkF m 31 #[.val (.int p1), .val (.int (15 : Int32)), .val (.ref w_LIST), .val (.int (0 : Int32)), .unset, .unset] [])) _
    refine XS.iloadN X1.here hx rfl (hb hby at_31) rfl ?_
    show Steps p.tables e below (T1.setTop (mkF m 32 #[.val (.int p1), .val (.int (15 : Int32)), .val (.ref w_LIST), .val (.int (0 : Int32)), .unset, .unset] [(.int (15 : Int32))])) _
    refine XS.iconst X1.here hx rfl (hb hby at_32) ?_
    show Steps p.tables e below (T1.setTop (mkF m 33 #[.val (.int p1), .val (.int (15 : Int32)), .val (.ref w_LIST), .val (.int (0 : Int32)), .unset, .unset] [(.int (3 : Int32)), (.int (15 : Int32))])) _
    refine XS.icmpNo X1.here hx rfl (hb hby at_33) rfl (feq (by decide)).1 ?_
    show Steps p.tables e below (T1.setTop (mkF m 36 #[.val (.int p1), .val (.int (15 : Int32)), .val (.ref w_LIST), .val (.int (0 : Int32)), .unset, .unset] [])) _
    refine XS.iloadN X1.here hx rfl (hb hby at_36) rfl ?_
    show Steps p.tables e below (T1.setTop (mkF m 37 #[.val (.int p1), .val (.int (15 : Int32)), .val (.ref w_LIST), .val (.int (0 : Int32)), .unset, .unset] [(.int (15 : Int32))])) _
    refine XS.bipush X1.here hx rfl (hb hby at_37) ?_
    show Steps p.tables e below (T1.setTop (mkF m 39 #[.val (.int p1), .val (.int (15 : Int32)), .val (.ref w_LIST), .val (.int (0 : Int32)), .unset, .unset] [(.int (7 : Int32)), (.int (15 : Int32))])) _
    refine XS.icmpYes X1.here hx rfl (pc0 := 39) (pc' := 46) rfl (hb hby at_39) rfl (feq (by decide)).2 (by decide) (by decide) ?_
    show Steps p.tables e below (T1.setTop (mkF m 46 #[.val (.int p1), .val (.int (15 : Int32)), .val (.ref w_LIST), .val (.int (0 : Int32)), .unset, .unset] [])) _
    refine XS.iconst X1.here hx rfl (hb hby at_46) ?_
    show Steps p.tables e below (T1.setTop (mkF m 47 #[.val (.int p1), .val (.int (15 : Int32)), .val (.ref w_LIST), .val (.int (0 : Int32)), .unset, .unset] [(.int (0 : Int32))])) _
    refine XS.istore X1.here hx rfl (hb hby at_47) rfl (l' := #[.val (.int p1), .val (.int (15 : Int32)), .val (.ref w_LIST), .val (.int (0 : Int32)), .val (.int (0 : Int32)), .unset]) rfl ?_
    show Steps p.tables e below (T1.setTop (mkF m 49 #[.val (.int p1), .val (.int (15 : Int32)), .val (.ref w_LIST), .val (.int (0 : Int32)), .val (.int (0 : Int32)), .unset] [])) _
    refine XS.iloadN X1.here hx rfl (hb hby at_49) rfl ?_
    show Steps p.tables e below (T1.setTop (mkF m 50 #[.val (.int p1), .val (.int (15 : Int32)), .val (.ref w_LIST), .val (.int (0 : Int32)), .val (.int (0 : Int32)), .unset] [(.int (0 : Int32))])) _
    refine XS.ifNo X1.here hx rfl (hb hby at_50) rfl ((if0 _ _).trans (teq (by decide)).2) ?_
    show Steps p.tables e below (T1.setTop (mkF m 53 #[.val (.int p1), .val (.int (15 : Int32)), .val (.ref w_LIST), .val (.int (0 : Int32)), .val (.int (0 : Int32)), .unset] [])) _
    refine XS.iload X1.here hx rfl (hb hby at_53) rfl ?_
    show Steps p.tables e below (T1.setTop (mkF m 55 #[.val (.int p1), .val (.int (15 : Int32)), .val (.ref w_LIST), .val (.int (0 : Int32)), .val (.int (0 : Int32)), .unset] [(.int (0 : Int32))])) _
    refine XS.ifYes X1.here hx rfl (pc0 := 55) (pc' := 62) rfl (hb hby at_55) rfl ((if0 _ _).trans (teq (by decide)).1) (by decide) (by decide) ?_
    show Steps p.tables e below (T1.setTop (mkF m 62 #[.val (.int p1), .val (.int (15 : Int32)), .val (.ref w_LIST), .val (.int (0 : Int32)), .val (.int (0 : Int32)), .unset] [])) _
    refine XS.iconst X1.here hx rfl (hb hby at_62) ?_
    show Steps p.tables e below (T1.setTop (mkF m 63 #[.val (.int p1), .val (.int (15 : Int32)), .val (.ref w_LIST), .val (.int (0 : Int32)), .val (.int (0 : Int32)), .unset] [(.int (0 : Int32))])) _
    refine XS.istore X1.here hx rfl (hb hby at_63) rfl (l' := #[.val (.int p1), .val (.int (15 : Int32)), .val (.ref w_LIST), .val (.int (0 : Int32)), .val (.int (0 : Int32)), .val (.int (0 : Int32))]) rfl ?_
    show Steps p.tables e below (T1.setTop (mkF m 65 #[.val (.int p1), .val (.int (15 : Int32)), .val (.ref w_LIST), .val (.int (0 : Int32)), .val (.int (0 : Int32)), .val (.int (0 : Int32))] [])) _
    refine XS.aloadN X1.here hx rfl (hb hby at_65) rfl rfl ?_
    show Steps p.tables e below (T1.setTop (mkF m 66 #[.val (.int p1), .val (.int (15 : Int32)), .val (.ref w_LIST), .val (.int (0 : Int32)), .val (.int (0 : Int32)), .val (.int (0 : Int32))] [(.ref w_LIST)])) _
    refine st2.trans ?_
    show Steps p.tables e below (T2.setTop (mkF m 69 #[.val (.int p1), .val (.int (15 : Int32)), .val (.ref w_LIST), .val (.int (0 : Int32)), .val (.int (0 : Int32)), .val (.int (0 : Int32))] [(.int (0 : Int32))])) _
    refine XS.iload X2.here hx rfl (hb hby at_69) rfl ?_
    show Steps p.tables e below (T2.setTop (mkF m 71 #[.val (.int p1), .val (.int (15 : Int32)), .val (.ref w_LIST), .val (.int (0 : Int32)), .val (.int (0 : Int32)), .val (.int (0 : Int32))] [(.int (0 : Int32)), (.int (0 : Int32))])) _
    refine XS.icmpNo X2.here hx rfl (hb hby at_71) rfl (teq (by decide)).2 ?_
    show Steps p.tables e below (T2.setTop (mkF m 74 #[.val (.int p1), .val (.int (15 : Int32)), .val (.ref w_LIST), .val (.int (0 : Int32)), .val (.int (0 : Int32)), .val (.int (0 : Int32))] [])) _
    refine XS.iconst X2.here hx rfl (hb hby at_74) ?_
    show Steps p.tables e below (T2.setTop (mkF m 75 #[.val (.int p1), .val (.int (15 : Int32)), .val (.ref w_LIST), .val (.int (0 : Int32)), .val (.int (0 : Int32)), .val (.int (0 : Int32))] [(.int (1 : Int32))])) _
    refine XS.goto X2.here hx rfl (pc0 := 75) (pc' := 79) rfl (hb hby at_75) (by decide) (by decide) ?_
    exact k)
  obtain ⟨fs, hr, hrun, hended, hW, hsame⟩ := X2.leave (v := some (.int (1 : Int32))) (fun h => by rw [Bd.returns] at h; cases h)
  refine ⟨_, _, pre3 _ ?_, hrun, hended, _, _, rfl, ?_, ⟨_, rfl⟩, hW, hsame.mono (by decide) (by decide)⟩
  · show Steps p.tables e below (T2.setTop (mkF m 79 #[.val (.int p1), .val (.int (15 : Int32)), .val (.ref w_LIST), .val (.int (0 : Int32)), .val (.int (0 : Int32)), .val (.int (0 : Int32))] [(.int (1 : Int32))])) _
    exact retN X2 hx (t := .boolean) Bd.returns (by simp) (hb hby at_79) hr
  · exact ⟨rfl, N2, e2⟩
theorem ef_law16 (m : MethodId) (x0 : Int32) : entryFrame m #[(.int x0)] maxLocals = mkF m 0 #[.val (.int x0), .unset, .unset, .unset, .unset, .unset] [] := by first | (simp [entryFrame, mkF, argsToLocals, Value.category, maxLocals]; done) | rfl
set_option maxRecDepth 65536 in
set_option maxHeartbeats 40000000 in
theorem rm_law16 (l : Launch) (Z : State) (a0 : Array Value) (hw : ∀ d ∈ tables_1, d.before a0 Z = true) (ws : List Jvm.Cond) (p1 : Int32) (h0 : Heap) (n0 : Nat) (w_BLOB w_STRUCTURE w_UNION w_ENUM w_INT_ENUM w_BIG_INTEGER w_BIG_DECIMAL w_SHORT w_STRING w_BYTE w_LONG w_BOOLEAN w_RESOURCE w_MAP w_DOUBLE w_FLOAT w_MEMBER w_SERVICE w_LIST w_OPERATION w_DOCUMENT w_INTEGER w_TIMESTAMP : Addr) (hK : own_K Z h0 w_BLOB w_STRUCTURE w_UNION w_ENUM w_INT_ENUM w_BIG_INTEGER w_BIG_DECIMAL w_SHORT w_STRING w_BYTE w_LONG w_BOOLEAN w_RESOURCE w_MAP w_DOUBLE w_FLOAT w_MEMBER w_SERVICE w_LIST w_OPERATION w_DOCUMENT w_INTEGER w_TIMESTAMP) (hk : ((p1 &&& (2147483647 : Int32)) % (23 : Int32)) = (16 : Int32)) :
    MetFree l x (head1 (Jvm.Cond.code x code maxLocals ret :: ws) room_1) (fun a U => a = #[(.int p1)] ∧ Z.Warmed39 U.vm ∧ U.heap = h0) (fun _ _ _ _ _ => True) (fun _ U o U' => ∃ v L, o = .returned v ∧ own_Q (some (.int (1 : Int32))) h0 n0 v U'.heap L ∧ FrameEnd U o U' L room_1.cells room_1.slots) := by
  refine MetFree.of_bodySF (plainFor_of_name pn_0) hisR ?_
  intro p e s m args below meth c s₁ Bd hml0 hP hK0
  obtain ⟨rfl, hZ, hh⟩ := hP
  have hx := Bd.exec
  have hby := Bd.bytes
  have hml : c.maxLocals = 6 := hml0
  have hown : s.vm.findClass "com/example/falkirk/falkirk/model/ShapeTypeHasNamedMembersPinLaw" = some m.cls := findClass_of_methodNamed Bd.named
  have hnm := (name_of_methodNamed Bd.named Bd.method).1
  have X0 : Stand p l e room_1 s m #[(.int p1)] below meth c s₁ [] 0 0 := Stand.of_body Bd
  have e0 : s₁.heap = h0 := by rw [← hh, Bd.state]; rfl
  have N0 := Fr.nil n0
  have pre0 : ∀ t, Steps p.tables e below (s₁.setTop (mkF m 0 #[.val (.int p1), .unset, .unset, .unset, .unset, .unset] [])) t → Steps p.tables e below (s₁.setTop (entryFrame m #[(.int p1)] maxLocals)) t := fun t k => castTop (ef_law16 m p1) k
  have hK' := hK
  obtain ⟨S_w_BLOB, E_w_BLOB, S_w_STRUCTURE, E_w_STRUCTURE, F_ordinal_w_BLOB, F_ordinal_w_STRUCTURE, S_w_UNION, E_w_UNION, F_ordinal_w_UNION, S_w_ENUM, E_w_ENUM, F_ordinal_w_ENUM, S_w_INT_ENUM, E_w_INT_ENUM, F_ordinal_w_INT_ENUM, S_w_BIG_INTEGER, E_w_BIG_INTEGER, F_ordinal_w_BIG_INTEGER, S_w_BIG_DECIMAL, E_w_BIG_DECIMAL, F_ordinal_w_BIG_DECIMAL, S_w_SHORT, E_w_SHORT, F_ordinal_w_SHORT, S_w_STRING, E_w_STRING, F_ordinal_w_STRING, S_w_BYTE, E_w_BYTE, F_ordinal_w_BYTE, S_w_LONG, E_w_LONG, F_ordinal_w_LONG, S_w_BOOLEAN, E_w_BOOLEAN, F_ordinal_w_BOOLEAN, S_w_RESOURCE, E_w_RESOURCE, F_ordinal_w_RESOURCE, S_w_MAP, E_w_MAP, F_ordinal_w_MAP, S_w_DOUBLE, E_w_DOUBLE, F_ordinal_w_DOUBLE, S_w_FLOAT, E_w_FLOAT, F_ordinal_w_FLOAT, S_w_MEMBER, E_w_MEMBER, F_ordinal_w_MEMBER, S_w_SERVICE, E_w_SERVICE, F_ordinal_w_SERVICE, S_w_LIST, E_w_LIST, F_ordinal_w_LIST, S_w_OPERATION, E_w_OPERATION, F_ordinal_w_OPERATION, S_w_DOCUMENT, E_w_DOCUMENT, F_ordinal_w_DOCUMENT, S_w_INTEGER, E_w_INTEGER, F_ordinal_w_INTEGER, S_w_TIMESTAMP, E_w_TIMESTAMP, F_ordinal_w_TIMESTAMP⟩ := hK'
  obtain ⟨v1, _, ⟨T1, L1, k1, n1⟩, -, X1, ⟨Lc1, hQ1, l1, y1, z1⟩, st1⟩ := Jvm.LawKit.callS X0 hx (y := (⟨"com/example/falkirk/falkirk/model/ShapeTypeHasNamedMembersPinLaw", "pick", "(I)Lcom/example/falkirk/falkirk/model/ShapeType;"⟩ : MethodName)) hown (mvT hZ (hw _ (ow 1 rfl))) (mvT hZ (hw _ (ow 2 rfl))) (mvT hZ (hw _ (ow 3 rfl))) (mvT hZ (hw _ (ow 4 rfl))) (by decide) (backOf (W := 0) (rm_pick l Z a0 hw [] (16 : Int32) h0 n0 w_BLOB w_STRUCTURE w_UNION w_ENUM w_INT_ENUM w_BIG_INTEGER w_BIG_DECIMAL w_SHORT w_STRING w_BYTE w_LONG w_BOOLEAN w_RESOURCE w_MAP w_DOUBLE w_FLOAT w_MEMBER w_SERVICE w_LIST w_OPERATION w_DOCUMENT w_INTEGER w_TIMESTAMP hK) hZ (hw _ (ow 4 rfl)) (hw _ (ow 3 rfl)) (by decide) (by decide)) (g := (mkF m 9 #[.val (.int p1), .val (.int (16 : Int32)), .unset, .unset, .unset, .unset] [(.int (16 : Int32))])) rfl (by rw [hml]; rfl) (argsL := [(.int (16 : Int32))]) (rest := []) (lenOf pd_0 rfl) rfl (Nat.le_of_eq rfl) (hb hby at_9) (fun _ _ => ⟨rfl, e0, (by decide : 0 + 0 ≤ _), (by decide : 0 + 0 ≤ _)⟩)
  dsimp only [Pt.U, Pt.locs, Pt.cells, Pt.slots] at X1 l1 y1 z1 st1 hQ1
  subst l1 y1 z1
  obtain ⟨hv1, Nq1, e1⟩ := hQ1
  obtain rfl : v1 = some (.ref w_MAP) := hv1.trans (congrArg some (congrArg Value.ref ((if_neg (by decide)).trans ((if_neg (by decide)).trans ((if_neg (by decide)).trans ((if_neg (by decide)).trans ((if_neg (by decide)).trans ((if_neg (by decide)).trans ((if_neg (by decide)).trans ((if_neg (by decide)).trans ((if_neg (by decide)).trans ((if_neg (by decide)).trans ((if_neg (by decide)).trans ((if_neg (by decide)).trans ((if_neg (by decide)).trans ((if_neg (by decide)).trans ((if_neg (by decide)).trans ((if_neg (by decide)).trans (if_pos (by decide))))))))))))))))))))
  have N1 := Fr.app N0 Nq1
  obtain ⟨cq2, kq2, q2a, q2b, q2c⟩ := isOf hZ e1 E_w_MAP
  obtain ⟨v2, _, ⟨T2, L2, k2, n2⟩, -, X2, ⟨Lc2, hQ2, l2, y2, z2⟩, st2⟩ := X1.virtualBack hx (y := (⟨"com/example/falkirk/falkirk/model/ShapeType", "hasNamedMembers", "()Z"⟩ : MethodName)) (z := (⟨"com/example/falkirk/falkirk/model/ShapeType", "hasNamedMembers", "()Z"⟩ : MethodName)) hown (mvT hZ (hw _ (ow 8 rfl))) (mvT hZ (hw _ (ow 9 rfl))) (notFace_of_selects (args := #[]) (mvT hZ (hw _ (ow 11 rfl)))) (mvT hZ (hw _ (ow 11 rfl))) (mvT hZ (hw _ (ow 10 rfl))) (by decide) (backOf (W := 0) (rm_hasNamedMembers l Z a0 hw [] w_MAP h0 n0 w_BLOB w_STRUCTURE w_UNION w_ENUM w_INT_ENUM w_BIG_INTEGER w_BIG_DECIMAL w_SHORT w_STRING w_BYTE w_LONG w_BOOLEAN w_RESOURCE w_MAP w_DOUBLE w_FLOAT w_MEMBER w_SERVICE w_LIST w_OPERATION w_DOCUMENT w_INTEGER w_TIMESTAMP hK) hZ (hw _ (ow 12 rfl)) (hw _ (ow 6 rfl)) (by decide) (by decide)) q2a q2c (g := (mkF m 66 #[.val (.int p1), .val (.int (16 : Int32)), .val (.ref w_MAP), .val (.int (0 : Int32)), .val (.int (0 : Int32)), .val (.int (0 : Int32))] [(.ref w_MAP)])) rfl (by rw [hml]; rfl) (Steps.refl _) (argsL := []) (rest := []) (lenOf pd_1 rfl) rfl (Nat.le_of_eq rfl) (hb hby at_66) (fun _ _ => ⟨rfl, e1, (by decide : 0 + 0 ≤ _), (by decide : 0 + 0 ≤ _)⟩)
  dsimp only [Pt.U, Pt.locs, Pt.cells, Pt.slots] at X2 l2 y2 z2 st2 hQ2
  subst l2 y2 z2
  obtain ⟨hv2, Nq2, e2⟩ := hQ2
  obtain rfl : v2 = some (.int (0 : Int32)) := hv2.trans (congrArg some (congrArg Value.int ((if_neg (Fld.ne F_ordinal_w_MAP F_ordinal_w_STRUCTURE (by decide))).trans ((if_neg (Fld.ne F_ordinal_w_MAP F_ordinal_w_UNION (by decide))).trans ((if_neg (Fld.ne F_ordinal_w_MAP F_ordinal_w_ENUM (by decide))).trans (if_neg (Fld.ne F_ordinal_w_MAP F_ordinal_w_INT_ENUM (by decide))))))))
  have N2 := Fr.app N1 Nq2
  have pre3 : ∀ t, Steps p.tables e below (T2.setTop (mkF m 79 #[.val (.int p1), .val (.int (16 : Int32)), .val (.ref w_MAP), .val (.int (0 : Int32)), .val (.int (0 : Int32)), .val (.int (0 : Int32))] [(.int (1 : Int32))])) t → Steps p.tables e below (s₁.setTop (entryFrame m #[(.int p1)] maxLocals)) t := fun t k => pre0 t (by
    show Steps p.tables e below (s₁.setTop (mkF m 0 #[.val (.int p1), .unset, .unset, .unset, .unset, .unset] [])) _
    refine XS.iloadN X0.here hx rfl (hb hby at_0) rfl ?_
    show Steps p.tables e below (s₁.setTop (mkF m 1 #[.val (.int p1), .unset, .unset, .unset, .unset, .unset] [(.int p1)])) _
    refine X0.ldcInt hx hown (mvT hZ (hw _ (ow 0 rfl))) (g := (mkF m 1 #[.val (.int p1), .unset, .unset, .unset, .unset, .unset] [(.int p1)])) rfl (hb hby at_1) _ ?_
    show Steps p.tables e below (s₁.setTop (mkF m 3 #[.val (.int p1), .unset, .unset, .unset, .unset, .unset] [(.int (2147483647 : Int32)), (.int p1)])) _
    refine XS.iand X0.here hx rfl (hb hby at_3) rfl ?_
    show Steps p.tables e below (s₁.setTop (mkF m 4 #[.val (.int p1), .unset, .unset, .unset, .unset, .unset] [(.int (p1 &&& (2147483647 : Int32)))])) _
    refine XS.bipush X0.here hx rfl (hb hby at_4) ?_
    show Steps p.tables e below (s₁.setTop (mkF m 6 #[.val (.int p1), .unset, .unset, .unset, .unset, .unset] [(.int (23 : Int32)), (.int (p1 &&& (2147483647 : Int32)))])) _
    refine iremM X0 hx rfl (hb hby at_6) rfl (by decide) ?_
    show Steps p.tables e below (s₁.setTop (mkF m 7 #[.val (.int p1), .unset, .unset, .unset, .unset, .unset] [(.int ((p1 &&& (2147483647 : Int32)) % (23 : Int32)))])) _
    rw [hk]
    show Steps p.tables e below (s₁.setTop (mkF m 7 #[.val (.int p1), .unset, .unset, .unset, .unset, .unset] [(.int (16 : Int32))])) _
    refine XS.istoreN X0.here hx rfl (hb hby at_7) rfl (l' := #[.val (.int p1), .val (.int (16 : Int32)), .unset, .unset, .unset, .unset]) rfl ?_
    show Steps p.tables e below (s₁.setTop (mkF m 8 #[.val (.int p1), .val (.int (16 : Int32)), .unset, .unset, .unset, .unset] [])) _
    refine XS.iloadN X0.here hx rfl (hb hby at_8) rfl ?_
    show Steps p.tables e below (s₁.setTop (mkF m 9 #[.val (.int p1), .val (.int (16 : Int32)), .unset, .unset, .unset, .unset] [(.int (16 : Int32))])) _
    refine st1 _ ?_
    show Steps p.tables e below (T1.setTop (mkF m 12 #[.val (.int p1), .val (.int (16 : Int32)), .unset, .unset, .unset, .unset] [(.ref w_MAP)])) _
    refine XS.astoreN X1.here hx rfl (hb hby at_12) rfl rfl (l' := #[.val (.int p1), .val (.int (16 : Int32)), .val (.ref w_MAP), .unset, .unset, .unset]) rfl ?_
    show Steps p.tables e below (T1.setTop (mkF m 13 #[.val (.int p1), .val (.int (16 : Int32)), .val (.ref w_MAP), .unset, .unset, .unset] [])) _
    refine XS.iloadN X1.here hx rfl (hb hby at_13) rfl ?_
    show Steps p.tables e below (T1.setTop (mkF m 14 #[.val (.int p1), .val (.int (16 : Int32)), .val (.ref w_MAP), .unset, .unset, .unset] [(.int (16 : Int32))])) _
    refine XS.bipush X1.here hx rfl (hb hby at_14) ?_
    show Steps p.tables e below (T1.setTop (mkF m 16 #[.val (.int p1), .val (.int (16 : Int32)), .val (.ref w_MAP), .unset, .unset, .unset] [(.int (17 : Int32)), (.int (16 : Int32))])) _
    refine XS.icmpNo X1.here hx rfl (hb hby at_16) rfl (feq (by decide)).1 ?_
    show Steps p.tables e below (T1.setTop (mkF m 19 #[.val (.int p1), .val (.int (16 : Int32)), .val (.ref w_MAP), .unset, .unset, .unset] [])) _
    refine XS.iloadN X1.here hx rfl (hb hby at_19) rfl ?_
    show Steps p.tables e below (T1.setTop (mkF m 20 #[.val (.int p1), .val (.int (16 : Int32)), .val (.ref w_MAP), .unset, .unset, .unset] [(.int (16 : Int32))])) _
    refine XS.bipush X1.here hx rfl (hb hby at_20) ?_
    show Steps p.tables e below (T1.setTop (mkF m 22 #[.val (.int p1), .val (.int (16 : Int32)), .val (.ref w_MAP), .unset, .unset, .unset] [(.int (18 : Int32)), (.int (16 : Int32))])) _
    refine XS.icmpYes X1.here hx rfl (pc0 := 22) (pc' := 29) rfl (hb hby at_22) rfl (feq (by decide)).2 (by decide) (by decide) ?_
    show Steps p.tables e below (T1.setTop (mkF m 29 #[.val (.int p1), .val (.int (16 : Int32)), .val (.ref w_MAP), .unset, .unset, .unset] [])) _
    refine XS.iconst X1.here hx rfl (hb hby at_29) ?_
    show Steps p.tables e below (T1.setTop (mkF m 30 #[.val (.int p1), .val (.int (16 : Int32)), .val (.ref w_MAP), .unset, .unset, .unset] [(.int (0 : Int32))])) _
    refine XS.istoreN X1.here hx rfl (hb hby at_30) rfl (l' := #[.val (.int p1), .val (.int (16 : Int32)), .val (.ref w_MAP), .val (.int (0 : Int32)), .unset, .unset]) rfl ?_
    show Steps p.tables e below (T1.setTop (mkF m 31 #[.val (.int p1), .val (.int (16 : Int32)), .val (.ref w_MAP), .val (.int (0 : Int32)), .unset, .unset] [])) _
    refine XS.iloadN X1.here hx rfl (hb hby at_31) rfl ?_
    show Steps p.tables e below (T1.setTop (mkF m 32 #[.val (.int p1), .val (.int (16 : Int32)), .val (.ref w_MAP), .val (.int (0 : Int32)), .unset, .unset] [(.int (16 : Int32))])) _
    refine XS.iconst X1.here hx rfl (hb hby at_32) ?_
    show Steps p.tables e below (T1.setTop (mkF m 33 #[.val (.int p1), .val (.int (16 : Int32)), .val (.ref w_MAP), .val (.int (0 : Int32)), .unset, .unset] [(.int (3 : Int32)), (.int (16 : Int32))])) _
    refine XS.icmpNo X1.here hx rfl (hb hby at_33) rfl (feq (by decide)).1 ?_
    show Steps p.tables e below (T1.setTop (mkF m 36 #[.val (.int p1), .val (.int (16 : Int32)), .val (.ref w_MAP), .val (.int (0 : Int32)), .unset, .unset] [])) _
    refine XS.iloadN X1.here hx rfl (hb hby at_36) rfl ?_
    show Steps p.tables e below (T1.setTop (mkF m 37 #[.val (.int p1), .val (.int (16 : Int32)), .val (.ref w_MAP), .val (.int (0 : Int32)), .unset, .unset] [(.int (16 : Int32))])) _
    refine XS.bipush X1.here hx rfl (hb hby at_37) ?_
    show Steps p.tables e below (T1.setTop (mkF m 39 #[.val (.int p1), .val (.int (16 : Int32)), .val (.ref w_MAP), .val (.int (0 : Int32)), .unset, .unset] [(.int (7 : Int32)), (.int (16 : Int32))])) _
    refine XS.icmpYes X1.here hx rfl (pc0 := 39) (pc' := 46) rfl (hb hby at_39) rfl (feq (by decide)).2 (by decide) (by decide) ?_
    show Steps p.tables e below (T1.setTop (mkF m 46 #[.val (.int p1), .val (.int (16 : Int32)), .val (.ref w_MAP), .val (.int (0 : Int32)), .unset, .unset] [])) _
    refine XS.iconst X1.here hx rfl (hb hby at_46) ?_
    show Steps p.tables e below (T1.setTop (mkF m 47 #[.val (.int p1), .val (.int (16 : Int32)), .val (.ref w_MAP), .val (.int (0 : Int32)), .unset, .unset] [(.int (0 : Int32))])) _
    refine XS.istore X1.here hx rfl (hb hby at_47) rfl (l' := #[.val (.int p1), .val (.int (16 : Int32)), .val (.ref w_MAP), .val (.int (0 : Int32)), .val (.int (0 : Int32)), .unset]) rfl ?_
    show Steps p.tables e below (T1.setTop (mkF m 49 #[.val (.int p1), .val (.int (16 : Int32)), .val (.ref w_MAP), .val (.int (0 : Int32)), .val (.int (0 : Int32)), .unset] [])) _
    refine XS.iloadN X1.here hx rfl (hb hby at_49) rfl ?_
    show Steps p.tables e below (T1.setTop (mkF m 50 #[.val (.int p1), .val (.int (16 : Int32)), .val (.ref w_MAP), .val (.int (0 : Int32)), .val (.int (0 : Int32)), .unset] [(.int (0 : Int32))])) _
    refine XS.ifNo X1.here hx rfl (hb hby at_50) rfl ((if0 _ _).trans (teq (by decide)).2) ?_
    show Steps p.tables e below (T1.setTop (mkF m 53 #[.val (.int p1), .val (.int (16 : Int32)), .val (.ref w_MAP), .val (.int (0 : Int32)), .val (.int (0 : Int32)), .unset] [])) _
    refine XS.iload X1.here hx rfl (hb hby at_53) rfl ?_
    show Steps p.tables e below (T1.setTop (mkF m 55 #[.val (.int p1), .val (.int (16 : Int32)), .val (.ref w_MAP), .val (.int (0 : Int32)), .val (.int (0 : Int32)), .unset] [(.int (0 : Int32))])) _
    refine XS.ifYes X1.here hx rfl (pc0 := 55) (pc' := 62) rfl (hb hby at_55) rfl ((if0 _ _).trans (teq (by decide)).1) (by decide) (by decide) ?_
    show Steps p.tables e below (T1.setTop (mkF m 62 #[.val (.int p1), .val (.int (16 : Int32)), .val (.ref w_MAP), .val (.int (0 : Int32)), .val (.int (0 : Int32)), .unset] [])) _
    refine XS.iconst X1.here hx rfl (hb hby at_62) ?_
    show Steps p.tables e below (T1.setTop (mkF m 63 #[.val (.int p1), .val (.int (16 : Int32)), .val (.ref w_MAP), .val (.int (0 : Int32)), .val (.int (0 : Int32)), .unset] [(.int (0 : Int32))])) _
    refine XS.istore X1.here hx rfl (hb hby at_63) rfl (l' := #[.val (.int p1), .val (.int (16 : Int32)), .val (.ref w_MAP), .val (.int (0 : Int32)), .val (.int (0 : Int32)), .val (.int (0 : Int32))]) rfl ?_
    show Steps p.tables e below (T1.setTop (mkF m 65 #[.val (.int p1), .val (.int (16 : Int32)), .val (.ref w_MAP), .val (.int (0 : Int32)), .val (.int (0 : Int32)), .val (.int (0 : Int32))] [])) _
    refine XS.aloadN X1.here hx rfl (hb hby at_65) rfl rfl ?_
    show Steps p.tables e below (T1.setTop (mkF m 66 #[.val (.int p1), .val (.int (16 : Int32)), .val (.ref w_MAP), .val (.int (0 : Int32)), .val (.int (0 : Int32)), .val (.int (0 : Int32))] [(.ref w_MAP)])) _
    refine st2.trans ?_
    show Steps p.tables e below (T2.setTop (mkF m 69 #[.val (.int p1), .val (.int (16 : Int32)), .val (.ref w_MAP), .val (.int (0 : Int32)), .val (.int (0 : Int32)), .val (.int (0 : Int32))] [(.int (0 : Int32))])) _
    refine XS.iload X2.here hx rfl (hb hby at_69) rfl ?_
    show Steps p.tables e below (T2.setTop (mkF m 71 #[.val (.int p1), .val (.int (16 : Int32)), .val (.ref w_MAP), .val (.int (0 : Int32)), .val (.int (0 : Int32)), .val (.int (0 : Int32))] [(.int (0 : Int32)), (.int (0 : Int32))])) _
    refine XS.icmpNo X2.here hx rfl (hb hby at_71) rfl (teq (by decide)).2 ?_
    show Steps p.tables e below (T2.setTop (mkF m 74 #[.val (.int p1), .val (.int (16 : Int32)), .val (.ref w_MAP), .val (.int (0 : Int32)), .val (.int (0 : Int32)), .val (.int (0 : Int32))] [])) _
    refine XS.iconst X2.here hx rfl (hb hby at_74) ?_
    show Steps p.tables e below (T2.setTop (mkF m 75 #[.val (.int p1), .val (.int (16 : Int32)), .val (.ref w_MAP), .val (.int (0 : Int32)), .val (.int (0 : Int32)), .val (.int (0 : Int32))] [(.int (1 : Int32))])) _
    refine XS.goto X2.here hx rfl (pc0 := 75) (pc' := 79) rfl (hb hby at_75) (by decide) (by decide) ?_
    exact k)
  obtain ⟨fs, hr, hrun, hended, hW, hsame⟩ := X2.leave (v := some (.int (1 : Int32))) (fun h => by rw [Bd.returns] at h; cases h)
  refine ⟨_, _, pre3 _ ?_, hrun, hended, _, _, rfl, ?_, ⟨_, rfl⟩, hW, hsame.mono (by decide) (by decide)⟩
  · show Steps p.tables e below (T2.setTop (mkF m 79 #[.val (.int p1), .val (.int (16 : Int32)), .val (.ref w_MAP), .val (.int (0 : Int32)), .val (.int (0 : Int32)), .val (.int (0 : Int32))] [(.int (1 : Int32))])) _
    exact retN X2 hx (t := .boolean) Bd.returns (by simp) (hb hby at_79) hr
  · exact ⟨rfl, N2, e2⟩
theorem ef_law17 (m : MethodId) (x0 : Int32) : entryFrame m #[(.int x0)] maxLocals = mkF m 0 #[.val (.int x0), .unset, .unset, .unset, .unset, .unset] [] := by first | (simp [entryFrame, mkF, argsToLocals, Value.category, maxLocals]; done) | rfl
set_option maxRecDepth 65536 in
set_option maxHeartbeats 40000000 in
theorem rm_law17 (l : Launch) (Z : State) (a0 : Array Value) (hw : ∀ d ∈ tables_1, d.before a0 Z = true) (ws : List Jvm.Cond) (p1 : Int32) (h0 : Heap) (n0 : Nat) (w_BLOB w_STRUCTURE w_UNION w_ENUM w_INT_ENUM w_BIG_INTEGER w_BIG_DECIMAL w_SHORT w_STRING w_BYTE w_LONG w_BOOLEAN w_RESOURCE w_MAP w_DOUBLE w_FLOAT w_MEMBER w_SERVICE w_LIST w_OPERATION w_DOCUMENT w_INTEGER w_TIMESTAMP : Addr) (hK : own_K Z h0 w_BLOB w_STRUCTURE w_UNION w_ENUM w_INT_ENUM w_BIG_INTEGER w_BIG_DECIMAL w_SHORT w_STRING w_BYTE w_LONG w_BOOLEAN w_RESOURCE w_MAP w_DOUBLE w_FLOAT w_MEMBER w_SERVICE w_LIST w_OPERATION w_DOCUMENT w_INTEGER w_TIMESTAMP) (hk : ((p1 &&& (2147483647 : Int32)) % (23 : Int32)) = (17 : Int32)) :
    MetFree l x (head1 (Jvm.Cond.code x code maxLocals ret :: ws) room_1) (fun a U => a = #[(.int p1)] ∧ Z.Warmed39 U.vm ∧ U.heap = h0) (fun _ _ _ _ _ => True) (fun _ U o U' => ∃ v L, o = .returned v ∧ own_Q (some (.int (1 : Int32))) h0 n0 v U'.heap L ∧ FrameEnd U o U' L room_1.cells room_1.slots) := by
  refine MetFree.of_bodySF (plainFor_of_name pn_0) hisR ?_
  intro p e s m args below meth c s₁ Bd hml0 hP hK0
  obtain ⟨rfl, hZ, hh⟩ := hP
  have hx := Bd.exec
  have hby := Bd.bytes
  have hml : c.maxLocals = 6 := hml0
  have hown : s.vm.findClass "com/example/falkirk/falkirk/model/ShapeTypeHasNamedMembersPinLaw" = some m.cls := findClass_of_methodNamed Bd.named
  have hnm := (name_of_methodNamed Bd.named Bd.method).1
  have X0 : Stand p l e room_1 s m #[(.int p1)] below meth c s₁ [] 0 0 := Stand.of_body Bd
  have e0 : s₁.heap = h0 := by rw [← hh, Bd.state]; rfl
  have N0 := Fr.nil n0
  have pre0 : ∀ t, Steps p.tables e below (s₁.setTop (mkF m 0 #[.val (.int p1), .unset, .unset, .unset, .unset, .unset] [])) t → Steps p.tables e below (s₁.setTop (entryFrame m #[(.int p1)] maxLocals)) t := fun t k => castTop (ef_law17 m p1) k
  have hK' := hK
  obtain ⟨S_w_BLOB, E_w_BLOB, S_w_STRUCTURE, E_w_STRUCTURE, F_ordinal_w_BLOB, F_ordinal_w_STRUCTURE, S_w_UNION, E_w_UNION, F_ordinal_w_UNION, S_w_ENUM, E_w_ENUM, F_ordinal_w_ENUM, S_w_INT_ENUM, E_w_INT_ENUM, F_ordinal_w_INT_ENUM, S_w_BIG_INTEGER, E_w_BIG_INTEGER, F_ordinal_w_BIG_INTEGER, S_w_BIG_DECIMAL, E_w_BIG_DECIMAL, F_ordinal_w_BIG_DECIMAL, S_w_SHORT, E_w_SHORT, F_ordinal_w_SHORT, S_w_STRING, E_w_STRING, F_ordinal_w_STRING, S_w_BYTE, E_w_BYTE, F_ordinal_w_BYTE, S_w_LONG, E_w_LONG, F_ordinal_w_LONG, S_w_BOOLEAN, E_w_BOOLEAN, F_ordinal_w_BOOLEAN, S_w_RESOURCE, E_w_RESOURCE, F_ordinal_w_RESOURCE, S_w_MAP, E_w_MAP, F_ordinal_w_MAP, S_w_DOUBLE, E_w_DOUBLE, F_ordinal_w_DOUBLE, S_w_FLOAT, E_w_FLOAT, F_ordinal_w_FLOAT, S_w_MEMBER, E_w_MEMBER, F_ordinal_w_MEMBER, S_w_SERVICE, E_w_SERVICE, F_ordinal_w_SERVICE, S_w_LIST, E_w_LIST, F_ordinal_w_LIST, S_w_OPERATION, E_w_OPERATION, F_ordinal_w_OPERATION, S_w_DOCUMENT, E_w_DOCUMENT, F_ordinal_w_DOCUMENT, S_w_INTEGER, E_w_INTEGER, F_ordinal_w_INTEGER, S_w_TIMESTAMP, E_w_TIMESTAMP, F_ordinal_w_TIMESTAMP⟩ := hK'
  obtain ⟨v1, _, ⟨T1, L1, k1, n1⟩, -, X1, ⟨Lc1, hQ1, l1, y1, z1⟩, st1⟩ := Jvm.LawKit.callS X0 hx (y := (⟨"com/example/falkirk/falkirk/model/ShapeTypeHasNamedMembersPinLaw", "pick", "(I)Lcom/example/falkirk/falkirk/model/ShapeType;"⟩ : MethodName)) hown (mvT hZ (hw _ (ow 1 rfl))) (mvT hZ (hw _ (ow 2 rfl))) (mvT hZ (hw _ (ow 3 rfl))) (mvT hZ (hw _ (ow 4 rfl))) (by decide) (backOf (W := 0) (rm_pick l Z a0 hw [] (17 : Int32) h0 n0 w_BLOB w_STRUCTURE w_UNION w_ENUM w_INT_ENUM w_BIG_INTEGER w_BIG_DECIMAL w_SHORT w_STRING w_BYTE w_LONG w_BOOLEAN w_RESOURCE w_MAP w_DOUBLE w_FLOAT w_MEMBER w_SERVICE w_LIST w_OPERATION w_DOCUMENT w_INTEGER w_TIMESTAMP hK) hZ (hw _ (ow 4 rfl)) (hw _ (ow 3 rfl)) (by decide) (by decide)) (g := (mkF m 9 #[.val (.int p1), .val (.int (17 : Int32)), .unset, .unset, .unset, .unset] [(.int (17 : Int32))])) rfl (by rw [hml]; rfl) (argsL := [(.int (17 : Int32))]) (rest := []) (lenOf pd_0 rfl) rfl (Nat.le_of_eq rfl) (hb hby at_9) (fun _ _ => ⟨rfl, e0, (by decide : 0 + 0 ≤ _), (by decide : 0 + 0 ≤ _)⟩)
  dsimp only [Pt.U, Pt.locs, Pt.cells, Pt.slots] at X1 l1 y1 z1 st1 hQ1
  subst l1 y1 z1
  obtain ⟨hv1, Nq1, e1⟩ := hQ1
  obtain rfl : v1 = some (.ref w_STRUCTURE) := hv1.trans (congrArg some (congrArg Value.ref ((if_neg (by decide)).trans ((if_neg (by decide)).trans ((if_neg (by decide)).trans ((if_neg (by decide)).trans ((if_neg (by decide)).trans ((if_neg (by decide)).trans ((if_neg (by decide)).trans ((if_neg (by decide)).trans ((if_neg (by decide)).trans ((if_neg (by decide)).trans ((if_neg (by decide)).trans ((if_neg (by decide)).trans ((if_neg (by decide)).trans ((if_neg (by decide)).trans ((if_neg (by decide)).trans ((if_neg (by decide)).trans ((if_neg (by decide)).trans (if_pos (by decide)))))))))))))))))))))
  have N1 := Fr.app N0 Nq1
  obtain ⟨cq2, kq2, q2a, q2b, q2c⟩ := isOf hZ e1 E_w_STRUCTURE
  obtain ⟨v2, _, ⟨T2, L2, k2, n2⟩, -, X2, ⟨Lc2, hQ2, l2, y2, z2⟩, st2⟩ := X1.virtualBack hx (y := (⟨"com/example/falkirk/falkirk/model/ShapeType", "hasNamedMembers", "()Z"⟩ : MethodName)) (z := (⟨"com/example/falkirk/falkirk/model/ShapeType", "hasNamedMembers", "()Z"⟩ : MethodName)) hown (mvT hZ (hw _ (ow 8 rfl))) (mvT hZ (hw _ (ow 9 rfl))) (notFace_of_selects (args := #[]) (mvT hZ (hw _ (ow 11 rfl)))) (mvT hZ (hw _ (ow 11 rfl))) (mvT hZ (hw _ (ow 10 rfl))) (by decide) (backOf (W := 0) (rm_hasNamedMembers l Z a0 hw [] w_STRUCTURE h0 n0 w_BLOB w_STRUCTURE w_UNION w_ENUM w_INT_ENUM w_BIG_INTEGER w_BIG_DECIMAL w_SHORT w_STRING w_BYTE w_LONG w_BOOLEAN w_RESOURCE w_MAP w_DOUBLE w_FLOAT w_MEMBER w_SERVICE w_LIST w_OPERATION w_DOCUMENT w_INTEGER w_TIMESTAMP hK) hZ (hw _ (ow 12 rfl)) (hw _ (ow 6 rfl)) (by decide) (by decide)) q2a q2c (g := (mkF m 66 #[.val (.int p1), .val (.int (17 : Int32)), .val (.ref w_STRUCTURE), .val (.int (1 : Int32)), .val (.int (0 : Int32)), .val (.int (1 : Int32))] [(.ref w_STRUCTURE)])) rfl (by rw [hml]; rfl) (Steps.refl _) (argsL := []) (rest := []) (lenOf pd_1 rfl) rfl (Nat.le_of_eq rfl) (hb hby at_66) (fun _ _ => ⟨rfl, e1, (by decide : 0 + 0 ≤ _), (by decide : 0 + 0 ≤ _)⟩)
  dsimp only [Pt.U, Pt.locs, Pt.cells, Pt.slots] at X2 l2 y2 z2 st2 hQ2
  subst l2 y2 z2
  obtain ⟨hv2, Nq2, e2⟩ := hQ2
  obtain rfl : v2 = some (.int (1 : Int32)) := hv2.trans (congrArg some (congrArg Value.int (if_pos rfl)))
  have N2 := Fr.app N1 Nq2
  have pre3 : ∀ t, Steps p.tables e below (T2.setTop (mkF m 79 #[.val (.int p1), .val (.int (17 : Int32)), .val (.ref w_STRUCTURE), .val (.int (1 : Int32)), .val (.int (0 : Int32)), .val (.int (1 : Int32))] [(.int (1 : Int32))])) t → Steps p.tables e below (s₁.setTop (entryFrame m #[(.int p1)] maxLocals)) t := fun t k => pre0 t (by
    show Steps p.tables e below (s₁.setTop (mkF m 0 #[.val (.int p1), .unset, .unset, .unset, .unset, .unset] [])) _
    refine XS.iloadN X0.here hx rfl (hb hby at_0) rfl ?_
    show Steps p.tables e below (s₁.setTop (mkF m 1 #[.val (.int p1), .unset, .unset, .unset, .unset, .unset] [(.int p1)])) _
    refine X0.ldcInt hx hown (mvT hZ (hw _ (ow 0 rfl))) (g := (mkF m 1 #[.val (.int p1), .unset, .unset, .unset, .unset, .unset] [(.int p1)])) rfl (hb hby at_1) _ ?_
    show Steps p.tables e below (s₁.setTop (mkF m 3 #[.val (.int p1), .unset, .unset, .unset, .unset, .unset] [(.int (2147483647 : Int32)), (.int p1)])) _
    refine XS.iand X0.here hx rfl (hb hby at_3) rfl ?_
    show Steps p.tables e below (s₁.setTop (mkF m 4 #[.val (.int p1), .unset, .unset, .unset, .unset, .unset] [(.int (p1 &&& (2147483647 : Int32)))])) _
    refine XS.bipush X0.here hx rfl (hb hby at_4) ?_
    show Steps p.tables e below (s₁.setTop (mkF m 6 #[.val (.int p1), .unset, .unset, .unset, .unset, .unset] [(.int (23 : Int32)), (.int (p1 &&& (2147483647 : Int32)))])) _
    refine iremM X0 hx rfl (hb hby at_6) rfl (by decide) ?_
    show Steps p.tables e below (s₁.setTop (mkF m 7 #[.val (.int p1), .unset, .unset, .unset, .unset, .unset] [(.int ((p1 &&& (2147483647 : Int32)) % (23 : Int32)))])) _
    rw [hk]
    show Steps p.tables e below (s₁.setTop (mkF m 7 #[.val (.int p1), .unset, .unset, .unset, .unset, .unset] [(.int (17 : Int32))])) _
    refine XS.istoreN X0.here hx rfl (hb hby at_7) rfl (l' := #[.val (.int p1), .val (.int (17 : Int32)), .unset, .unset, .unset, .unset]) rfl ?_
    show Steps p.tables e below (s₁.setTop (mkF m 8 #[.val (.int p1), .val (.int (17 : Int32)), .unset, .unset, .unset, .unset] [])) _
    refine XS.iloadN X0.here hx rfl (hb hby at_8) rfl ?_
    show Steps p.tables e below (s₁.setTop (mkF m 9 #[.val (.int p1), .val (.int (17 : Int32)), .unset, .unset, .unset, .unset] [(.int (17 : Int32))])) _
    refine st1 _ ?_
    show Steps p.tables e below (T1.setTop (mkF m 12 #[.val (.int p1), .val (.int (17 : Int32)), .unset, .unset, .unset, .unset] [(.ref w_STRUCTURE)])) _
    refine XS.astoreN X1.here hx rfl (hb hby at_12) rfl rfl (l' := #[.val (.int p1), .val (.int (17 : Int32)), .val (.ref w_STRUCTURE), .unset, .unset, .unset]) rfl ?_
    show Steps p.tables e below (T1.setTop (mkF m 13 #[.val (.int p1), .val (.int (17 : Int32)), .val (.ref w_STRUCTURE), .unset, .unset, .unset] [])) _
    refine XS.iloadN X1.here hx rfl (hb hby at_13) rfl ?_
    show Steps p.tables e below (T1.setTop (mkF m 14 #[.val (.int p1), .val (.int (17 : Int32)), .val (.ref w_STRUCTURE), .unset, .unset, .unset] [(.int (17 : Int32))])) _
    refine XS.bipush X1.here hx rfl (hb hby at_14) ?_
    show Steps p.tables e below (T1.setTop (mkF m 16 #[.val (.int p1), .val (.int (17 : Int32)), .val (.ref w_STRUCTURE), .unset, .unset, .unset] [(.int (17 : Int32)), (.int (17 : Int32))])) _
    refine XS.icmpYes X1.here hx rfl (pc0 := 16) (pc' := 25) rfl (hb hby at_16) rfl (teq (by decide)).1 (by decide) (by decide) ?_
    show Steps p.tables e below (T1.setTop (mkF m 25 #[.val (.int p1), .val (.int (17 : Int32)), .val (.ref w_STRUCTURE), .unset, .unset, .unset] [])) _
    refine XS.iconst X1.here hx rfl (hb hby at_25) ?_
    show Steps p.tables e below (T1.setTop (mkF m 26 #[.val (.int p1), .val (.int (17 : Int32)), .val (.ref w_STRUCTURE), .unset, .unset, .unset] [(.int (1 : Int32))])) _
    refine XS.goto X1.here hx rfl (pc0 := 26) (pc' := 30) rfl (hb hby at_26) (by decide) (by decide) ?_
    show Steps p.tables e below (T1.setTop (mkF m 30 #[.val (.int p1), .val (.int (17 : Int32)), .val (.ref w_STRUCTURE), .unset, .unset, .unset] [(.int (1 : Int32))])) _
    refine XS.istoreN X1.here hx rfl (hb hby at_30) rfl (l' := #[.val (.int p1), .val (.int (17 : Int32)), .val (.ref w_STRUCTURE), .val (.int (1 : Int32)), .unset, .unset]) rfl ?_
    show Steps p.tables e below (T1.setTop (mkF m 31 #[.val (.int p1), .val (.int (17 : Int32)), .val (.ref w_STRUCTURE), .val (.int (1 : Int32)), .unset, .unset] [])) _
    refine XS.iloadN X1.here hx rfl (hb hby at_31) rfl ?_
    show Steps p.tables e below (T1.setTop (mkF m 32 #[.val (.int p1), .val (.int (17 : Int32)), .val (.ref w_STRUCTURE), .val (.int (1 : Int32)), .unset, .unset] [(.int (17 : Int32))])) _
    refine XS.iconst X1.here hx rfl (hb hby at_32) ?_
    show Steps p.tables e below (T1.setTop (mkF m 33 #[.val (.int p1), .val (.int (17 : Int32)), .val (.ref w_STRUCTURE), .val (.int (1 : Int32)), .unset, .unset] [(.int (3 : Int32)), (.int (17 : Int32))])) _
    refine XS.icmpNo X1.here hx rfl (hb hby at_33) rfl (feq (by decide)).1 ?_
    show Steps p.tables e below (T1.setTop (mkF m 36 #[.val (.int p1), .val (.int (17 : Int32)), .val (.ref w_STRUCTURE), .val (.int (1 : Int32)), .unset, .unset] [])) _
    refine XS.iloadN X1.here hx rfl (hb hby at_36) rfl ?_
    show Steps p.tables e below (T1.setTop (mkF m 37 #[.val (.int p1), .val (.int (17 : Int32)), .val (.ref w_STRUCTURE), .val (.int (1 : Int32)), .unset, .unset] [(.int (17 : Int32))])) _
    refine XS.bipush X1.here hx rfl (hb hby at_37) ?_
    show Steps p.tables e below (T1.setTop (mkF m 39 #[.val (.int p1), .val (.int (17 : Int32)), .val (.ref w_STRUCTURE), .val (.int (1 : Int32)), .unset, .unset] [(.int (7 : Int32)), (.int (17 : Int32))])) _
    refine XS.icmpYes X1.here hx rfl (pc0 := 39) (pc' := 46) rfl (hb hby at_39) rfl (feq (by decide)).2 (by decide) (by decide) ?_
    show Steps p.tables e below (T1.setTop (mkF m 46 #[.val (.int p1), .val (.int (17 : Int32)), .val (.ref w_STRUCTURE), .val (.int (1 : Int32)), .unset, .unset] [])) _
    refine XS.iconst X1.here hx rfl (hb hby at_46) ?_
    show Steps p.tables e below (T1.setTop (mkF m 47 #[.val (.int p1), .val (.int (17 : Int32)), .val (.ref w_STRUCTURE), .val (.int (1 : Int32)), .unset, .unset] [(.int (0 : Int32))])) _
    refine XS.istore X1.here hx rfl (hb hby at_47) rfl (l' := #[.val (.int p1), .val (.int (17 : Int32)), .val (.ref w_STRUCTURE), .val (.int (1 : Int32)), .val (.int (0 : Int32)), .unset]) rfl ?_
    show Steps p.tables e below (T1.setTop (mkF m 49 #[.val (.int p1), .val (.int (17 : Int32)), .val (.ref w_STRUCTURE), .val (.int (1 : Int32)), .val (.int (0 : Int32)), .unset] [])) _
    refine XS.iloadN X1.here hx rfl (hb hby at_49) rfl ?_
    show Steps p.tables e below (T1.setTop (mkF m 50 #[.val (.int p1), .val (.int (17 : Int32)), .val (.ref w_STRUCTURE), .val (.int (1 : Int32)), .val (.int (0 : Int32)), .unset] [(.int (1 : Int32))])) _
    refine XS.ifYes X1.here hx rfl (pc0 := 50) (pc' := 58) rfl (hb hby at_50) rfl ((if0 _ _).trans (feq (by decide)).2) (by decide) (by decide) ?_
    show Steps p.tables e below (T1.setTop (mkF m 58 #[.val (.int p1), .val (.int (17 : Int32)), .val (.ref w_STRUCTURE), .val (.int (1 : Int32)), .val (.int (0 : Int32)), .unset] [])) _
    refine XS.iconst X1.here hx rfl (hb hby at_58) ?_
    show Steps p.tables e below (T1.setTop (mkF m 59 #[.val (.int p1), .val (.int (17 : Int32)), .val (.ref w_STRUCTURE), .val (.int (1 : Int32)), .val (.int (0 : Int32)), .unset] [(.int (1 : Int32))])) _
    refine XS.goto X1.here hx rfl (pc0 := 59) (pc' := 63) rfl (hb hby at_59) (by decide) (by decide) ?_
    show Steps p.tables e below (T1.setTop (mkF m 63 #[.val (.int p1), .val (.int (17 : Int32)), .val (.ref w_STRUCTURE), .val (.int (1 : Int32)), .val (.int (0 : Int32)), .unset] [(.int (1 : Int32))])) _
    refine XS.istore X1.here hx rfl (hb hby at_63) rfl (l' := #[.val (.int p1), .val (.int (17 : Int32)), .val (.ref w_STRUCTURE), .val (.int (1 : Int32)), .val (.int (0 : Int32)), .val (.int (1 : Int32))]) rfl ?_
    show Steps p.tables e below (T1.setTop (mkF m 65 #[.val (.int p1), .val (.int (17 : Int32)), .val (.ref w_STRUCTURE), .val (.int (1 : Int32)), .val (.int (0 : Int32)), .val (.int (1 : Int32))] [])) _
    refine XS.aloadN X1.here hx rfl (hb hby at_65) rfl rfl ?_
    show Steps p.tables e below (T1.setTop (mkF m 66 #[.val (.int p1), .val (.int (17 : Int32)), .val (.ref w_STRUCTURE), .val (.int (1 : Int32)), .val (.int (0 : Int32)), .val (.int (1 : Int32))] [(.ref w_STRUCTURE)])) _
    refine st2.trans ?_
    show Steps p.tables e below (T2.setTop (mkF m 69 #[.val (.int p1), .val (.int (17 : Int32)), .val (.ref w_STRUCTURE), .val (.int (1 : Int32)), .val (.int (0 : Int32)), .val (.int (1 : Int32))] [(.int (1 : Int32))])) _
    refine XS.iload X2.here hx rfl (hb hby at_69) rfl ?_
    show Steps p.tables e below (T2.setTop (mkF m 71 #[.val (.int p1), .val (.int (17 : Int32)), .val (.ref w_STRUCTURE), .val (.int (1 : Int32)), .val (.int (0 : Int32)), .val (.int (1 : Int32))] [(.int (1 : Int32)), (.int (1 : Int32))])) _
    refine XS.icmpNo X2.here hx rfl (hb hby at_71) rfl (teq (by decide)).2 ?_
    show Steps p.tables e below (T2.setTop (mkF m 74 #[.val (.int p1), .val (.int (17 : Int32)), .val (.ref w_STRUCTURE), .val (.int (1 : Int32)), .val (.int (0 : Int32)), .val (.int (1 : Int32))] [])) _
    refine XS.iconst X2.here hx rfl (hb hby at_74) ?_
    show Steps p.tables e below (T2.setTop (mkF m 75 #[.val (.int p1), .val (.int (17 : Int32)), .val (.ref w_STRUCTURE), .val (.int (1 : Int32)), .val (.int (0 : Int32)), .val (.int (1 : Int32))] [(.int (1 : Int32))])) _
    refine XS.goto X2.here hx rfl (pc0 := 75) (pc' := 79) rfl (hb hby at_75) (by decide) (by decide) ?_
    exact k)
  obtain ⟨fs, hr, hrun, hended, hW, hsame⟩ := X2.leave (v := some (.int (1 : Int32))) (fun h => by rw [Bd.returns] at h; cases h)
  refine ⟨_, _, pre3 _ ?_, hrun, hended, _, _, rfl, ?_, ⟨_, rfl⟩, hW, hsame.mono (by decide) (by decide)⟩
  · show Steps p.tables e below (T2.setTop (mkF m 79 #[.val (.int p1), .val (.int (17 : Int32)), .val (.ref w_STRUCTURE), .val (.int (1 : Int32)), .val (.int (0 : Int32)), .val (.int (1 : Int32))] [(.int (1 : Int32))])) _
    exact retN X2 hx (t := .boolean) Bd.returns (by simp) (hb hby at_79) hr
  · exact ⟨rfl, N2, e2⟩
theorem ef_law18 (m : MethodId) (x0 : Int32) : entryFrame m #[(.int x0)] maxLocals = mkF m 0 #[.val (.int x0), .unset, .unset, .unset, .unset, .unset] [] := by first | (simp [entryFrame, mkF, argsToLocals, Value.category, maxLocals]; done) | rfl
set_option maxRecDepth 65536 in
set_option maxHeartbeats 40000000 in
theorem rm_law18 (l : Launch) (Z : State) (a0 : Array Value) (hw : ∀ d ∈ tables_1, d.before a0 Z = true) (ws : List Jvm.Cond) (p1 : Int32) (h0 : Heap) (n0 : Nat) (w_BLOB w_STRUCTURE w_UNION w_ENUM w_INT_ENUM w_BIG_INTEGER w_BIG_DECIMAL w_SHORT w_STRING w_BYTE w_LONG w_BOOLEAN w_RESOURCE w_MAP w_DOUBLE w_FLOAT w_MEMBER w_SERVICE w_LIST w_OPERATION w_DOCUMENT w_INTEGER w_TIMESTAMP : Addr) (hK : own_K Z h0 w_BLOB w_STRUCTURE w_UNION w_ENUM w_INT_ENUM w_BIG_INTEGER w_BIG_DECIMAL w_SHORT w_STRING w_BYTE w_LONG w_BOOLEAN w_RESOURCE w_MAP w_DOUBLE w_FLOAT w_MEMBER w_SERVICE w_LIST w_OPERATION w_DOCUMENT w_INTEGER w_TIMESTAMP) (hk : ((p1 &&& (2147483647 : Int32)) % (23 : Int32)) = (18 : Int32)) :
    MetFree l x (head1 (Jvm.Cond.code x code maxLocals ret :: ws) room_1) (fun a U => a = #[(.int p1)] ∧ Z.Warmed39 U.vm ∧ U.heap = h0) (fun _ _ _ _ _ => True) (fun _ U o U' => ∃ v L, o = .returned v ∧ own_Q (some (.int (1 : Int32))) h0 n0 v U'.heap L ∧ FrameEnd U o U' L room_1.cells room_1.slots) := by
  refine MetFree.of_bodySF (plainFor_of_name pn_0) hisR ?_
  intro p e s m args below meth c s₁ Bd hml0 hP hK0
  obtain ⟨rfl, hZ, hh⟩ := hP
  have hx := Bd.exec
  have hby := Bd.bytes
  have hml : c.maxLocals = 6 := hml0
  have hown : s.vm.findClass "com/example/falkirk/falkirk/model/ShapeTypeHasNamedMembersPinLaw" = some m.cls := findClass_of_methodNamed Bd.named
  have hnm := (name_of_methodNamed Bd.named Bd.method).1
  have X0 : Stand p l e room_1 s m #[(.int p1)] below meth c s₁ [] 0 0 := Stand.of_body Bd
  have e0 : s₁.heap = h0 := by rw [← hh, Bd.state]; rfl
  have N0 := Fr.nil n0
  have pre0 : ∀ t, Steps p.tables e below (s₁.setTop (mkF m 0 #[.val (.int p1), .unset, .unset, .unset, .unset, .unset] [])) t → Steps p.tables e below (s₁.setTop (entryFrame m #[(.int p1)] maxLocals)) t := fun t k => castTop (ef_law18 m p1) k
  have hK' := hK
  obtain ⟨S_w_BLOB, E_w_BLOB, S_w_STRUCTURE, E_w_STRUCTURE, F_ordinal_w_BLOB, F_ordinal_w_STRUCTURE, S_w_UNION, E_w_UNION, F_ordinal_w_UNION, S_w_ENUM, E_w_ENUM, F_ordinal_w_ENUM, S_w_INT_ENUM, E_w_INT_ENUM, F_ordinal_w_INT_ENUM, S_w_BIG_INTEGER, E_w_BIG_INTEGER, F_ordinal_w_BIG_INTEGER, S_w_BIG_DECIMAL, E_w_BIG_DECIMAL, F_ordinal_w_BIG_DECIMAL, S_w_SHORT, E_w_SHORT, F_ordinal_w_SHORT, S_w_STRING, E_w_STRING, F_ordinal_w_STRING, S_w_BYTE, E_w_BYTE, F_ordinal_w_BYTE, S_w_LONG, E_w_LONG, F_ordinal_w_LONG, S_w_BOOLEAN, E_w_BOOLEAN, F_ordinal_w_BOOLEAN, S_w_RESOURCE, E_w_RESOURCE, F_ordinal_w_RESOURCE, S_w_MAP, E_w_MAP, F_ordinal_w_MAP, S_w_DOUBLE, E_w_DOUBLE, F_ordinal_w_DOUBLE, S_w_FLOAT, E_w_FLOAT, F_ordinal_w_FLOAT, S_w_MEMBER, E_w_MEMBER, F_ordinal_w_MEMBER, S_w_SERVICE, E_w_SERVICE, F_ordinal_w_SERVICE, S_w_LIST, E_w_LIST, F_ordinal_w_LIST, S_w_OPERATION, E_w_OPERATION, F_ordinal_w_OPERATION, S_w_DOCUMENT, E_w_DOCUMENT, F_ordinal_w_DOCUMENT, S_w_INTEGER, E_w_INTEGER, F_ordinal_w_INTEGER, S_w_TIMESTAMP, E_w_TIMESTAMP, F_ordinal_w_TIMESTAMP⟩ := hK'
  obtain ⟨v1, _, ⟨T1, L1, k1, n1⟩, -, X1, ⟨Lc1, hQ1, l1, y1, z1⟩, st1⟩ := Jvm.LawKit.callS X0 hx (y := (⟨"com/example/falkirk/falkirk/model/ShapeTypeHasNamedMembersPinLaw", "pick", "(I)Lcom/example/falkirk/falkirk/model/ShapeType;"⟩ : MethodName)) hown (mvT hZ (hw _ (ow 1 rfl))) (mvT hZ (hw _ (ow 2 rfl))) (mvT hZ (hw _ (ow 3 rfl))) (mvT hZ (hw _ (ow 4 rfl))) (by decide) (backOf (W := 0) (rm_pick l Z a0 hw [] (18 : Int32) h0 n0 w_BLOB w_STRUCTURE w_UNION w_ENUM w_INT_ENUM w_BIG_INTEGER w_BIG_DECIMAL w_SHORT w_STRING w_BYTE w_LONG w_BOOLEAN w_RESOURCE w_MAP w_DOUBLE w_FLOAT w_MEMBER w_SERVICE w_LIST w_OPERATION w_DOCUMENT w_INTEGER w_TIMESTAMP hK) hZ (hw _ (ow 4 rfl)) (hw _ (ow 3 rfl)) (by decide) (by decide)) (g := (mkF m 9 #[.val (.int p1), .val (.int (18 : Int32)), .unset, .unset, .unset, .unset] [(.int (18 : Int32))])) rfl (by rw [hml]; rfl) (argsL := [(.int (18 : Int32))]) (rest := []) (lenOf pd_0 rfl) rfl (Nat.le_of_eq rfl) (hb hby at_9) (fun _ _ => ⟨rfl, e0, (by decide : 0 + 0 ≤ _), (by decide : 0 + 0 ≤ _)⟩)
  dsimp only [Pt.U, Pt.locs, Pt.cells, Pt.slots] at X1 l1 y1 z1 st1 hQ1
  subst l1 y1 z1
  obtain ⟨hv1, Nq1, e1⟩ := hQ1
  obtain rfl : v1 = some (.ref w_UNION) := hv1.trans (congrArg some (congrArg Value.ref ((if_neg (by decide)).trans ((if_neg (by decide)).trans ((if_neg (by decide)).trans ((if_neg (by decide)).trans ((if_neg (by decide)).trans ((if_neg (by decide)).trans ((if_neg (by decide)).trans ((if_neg (by decide)).trans ((if_neg (by decide)).trans ((if_neg (by decide)).trans ((if_neg (by decide)).trans ((if_neg (by decide)).trans ((if_neg (by decide)).trans ((if_neg (by decide)).trans ((if_neg (by decide)).trans ((if_neg (by decide)).trans ((if_neg (by decide)).trans ((if_neg (by decide)).trans (if_pos (by decide))))))))))))))))))))))
  have N1 := Fr.app N0 Nq1
  obtain ⟨cq2, kq2, q2a, q2b, q2c⟩ := isOf hZ e1 E_w_UNION
  obtain ⟨v2, _, ⟨T2, L2, k2, n2⟩, -, X2, ⟨Lc2, hQ2, l2, y2, z2⟩, st2⟩ := X1.virtualBack hx (y := (⟨"com/example/falkirk/falkirk/model/ShapeType", "hasNamedMembers", "()Z"⟩ : MethodName)) (z := (⟨"com/example/falkirk/falkirk/model/ShapeType", "hasNamedMembers", "()Z"⟩ : MethodName)) hown (mvT hZ (hw _ (ow 8 rfl))) (mvT hZ (hw _ (ow 9 rfl))) (notFace_of_selects (args := #[]) (mvT hZ (hw _ (ow 11 rfl)))) (mvT hZ (hw _ (ow 11 rfl))) (mvT hZ (hw _ (ow 10 rfl))) (by decide) (backOf (W := 0) (rm_hasNamedMembers l Z a0 hw [] w_UNION h0 n0 w_BLOB w_STRUCTURE w_UNION w_ENUM w_INT_ENUM w_BIG_INTEGER w_BIG_DECIMAL w_SHORT w_STRING w_BYTE w_LONG w_BOOLEAN w_RESOURCE w_MAP w_DOUBLE w_FLOAT w_MEMBER w_SERVICE w_LIST w_OPERATION w_DOCUMENT w_INTEGER w_TIMESTAMP hK) hZ (hw _ (ow 12 rfl)) (hw _ (ow 6 rfl)) (by decide) (by decide)) q2a q2c (g := (mkF m 66 #[.val (.int p1), .val (.int (18 : Int32)), .val (.ref w_UNION), .val (.int (1 : Int32)), .val (.int (0 : Int32)), .val (.int (1 : Int32))] [(.ref w_UNION)])) rfl (by rw [hml]; rfl) (Steps.refl _) (argsL := []) (rest := []) (lenOf pd_1 rfl) rfl (Nat.le_of_eq rfl) (hb hby at_66) (fun _ _ => ⟨rfl, e1, (by decide : 0 + 0 ≤ _), (by decide : 0 + 0 ≤ _)⟩)
  dsimp only [Pt.U, Pt.locs, Pt.cells, Pt.slots] at X2 l2 y2 z2 st2 hQ2
  subst l2 y2 z2
  obtain ⟨hv2, Nq2, e2⟩ := hQ2
  obtain rfl : v2 = some (.int (1 : Int32)) := hv2.trans (congrArg some (congrArg Value.int ((if_neg (Fld.ne F_ordinal_w_UNION F_ordinal_w_STRUCTURE (by decide))).trans (if_pos rfl))))
  have N2 := Fr.app N1 Nq2
  have pre3 : ∀ t, Steps p.tables e below (T2.setTop (mkF m 79 #[.val (.int p1), .val (.int (18 : Int32)), .val (.ref w_UNION), .val (.int (1 : Int32)), .val (.int (0 : Int32)), .val (.int (1 : Int32))] [(.int (1 : Int32))])) t → Steps p.tables e below (s₁.setTop (entryFrame m #[(.int p1)] maxLocals)) t := fun t k => pre0 t (by
    show Steps p.tables e below (s₁.setTop (mkF m 0 #[.val (.int p1), .unset, .unset, .unset, .unset, .unset] [])) _
    refine XS.iloadN X0.here hx rfl (hb hby at_0) rfl ?_
    show Steps p.tables e below (s₁.setTop (mkF m 1 #[.val (.int p1), .unset, .unset, .unset, .unset, .unset] [(.int p1)])) _
    refine X0.ldcInt hx hown (mvT hZ (hw _ (ow 0 rfl))) (g := (mkF m 1 #[.val (.int p1), .unset, .unset, .unset, .unset, .unset] [(.int p1)])) rfl (hb hby at_1) _ ?_
    show Steps p.tables e below (s₁.setTop (mkF m 3 #[.val (.int p1), .unset, .unset, .unset, .unset, .unset] [(.int (2147483647 : Int32)), (.int p1)])) _
    refine XS.iand X0.here hx rfl (hb hby at_3) rfl ?_
    show Steps p.tables e below (s₁.setTop (mkF m 4 #[.val (.int p1), .unset, .unset, .unset, .unset, .unset] [(.int (p1 &&& (2147483647 : Int32)))])) _
    refine XS.bipush X0.here hx rfl (hb hby at_4) ?_
    show Steps p.tables e below (s₁.setTop (mkF m 6 #[.val (.int p1), .unset, .unset, .unset, .unset, .unset] [(.int (23 : Int32)), (.int (p1 &&& (2147483647 : Int32)))])) _
    refine iremM X0 hx rfl (hb hby at_6) rfl (by decide) ?_
    show Steps p.tables e below (s₁.setTop (mkF m 7 #[.val (.int p1), .unset, .unset, .unset, .unset, .unset] [(.int ((p1 &&& (2147483647 : Int32)) % (23 : Int32)))])) _
    rw [hk]
    show Steps p.tables e below (s₁.setTop (mkF m 7 #[.val (.int p1), .unset, .unset, .unset, .unset, .unset] [(.int (18 : Int32))])) _
    refine XS.istoreN X0.here hx rfl (hb hby at_7) rfl (l' := #[.val (.int p1), .val (.int (18 : Int32)), .unset, .unset, .unset, .unset]) rfl ?_
    show Steps p.tables e below (s₁.setTop (mkF m 8 #[.val (.int p1), .val (.int (18 : Int32)), .unset, .unset, .unset, .unset] [])) _
    refine XS.iloadN X0.here hx rfl (hb hby at_8) rfl ?_
    show Steps p.tables e below (s₁.setTop (mkF m 9 #[.val (.int p1), .val (.int (18 : Int32)), .unset, .unset, .unset, .unset] [(.int (18 : Int32))])) _
    refine st1 _ ?_
    show Steps p.tables e below (T1.setTop (mkF m 12 #[.val (.int p1), .val (.int (18 : Int32)), .unset, .unset, .unset, .unset] [(.ref w_UNION)])) _
    refine XS.astoreN X1.here hx rfl (hb hby at_12) rfl rfl (l' := #[.val (.int p1), .val (.int (18 : Int32)), .val (.ref w_UNION), .unset, .unset, .unset]) rfl ?_
    show Steps p.tables e below (T1.setTop (mkF m 13 #[.val (.int p1), .val (.int (18 : Int32)), .val (.ref w_UNION), .unset, .unset, .unset] [])) _
    refine XS.iloadN X1.here hx rfl (hb hby at_13) rfl ?_
    show Steps p.tables e below (T1.setTop (mkF m 14 #[.val (.int p1), .val (.int (18 : Int32)), .val (.ref w_UNION), .unset, .unset, .unset] [(.int (18 : Int32))])) _
    refine XS.bipush X1.here hx rfl (hb hby at_14) ?_
    show Steps p.tables e below (T1.setTop (mkF m 16 #[.val (.int p1), .val (.int (18 : Int32)), .val (.ref w_UNION), .unset, .unset, .unset] [(.int (17 : Int32)), (.int (18 : Int32))])) _
    refine XS.icmpNo X1.here hx rfl (hb hby at_16) rfl (feq (by decide)).1 ?_
    show Steps p.tables e below (T1.setTop (mkF m 19 #[.val (.int p1), .val (.int (18 : Int32)), .val (.ref w_UNION), .unset, .unset, .unset] [])) _
    refine XS.iloadN X1.here hx rfl (hb hby at_19) rfl ?_
    show Steps p.tables e below (T1.setTop (mkF m 20 #[.val (.int p1), .val (.int (18 : Int32)), .val (.ref w_UNION), .unset, .unset, .unset] [(.int (18 : Int32))])) _
    refine XS.bipush X1.here hx rfl (hb hby at_20) ?_
    show Steps p.tables e below (T1.setTop (mkF m 22 #[.val (.int p1), .val (.int (18 : Int32)), .val (.ref w_UNION), .unset, .unset, .unset] [(.int (18 : Int32)), (.int (18 : Int32))])) _
    refine XS.icmpNo X1.here hx rfl (hb hby at_22) rfl (teq (by decide)).2 ?_
    show Steps p.tables e below (T1.setTop (mkF m 25 #[.val (.int p1), .val (.int (18 : Int32)), .val (.ref w_UNION), .unset, .unset, .unset] [])) _
    refine XS.iconst X1.here hx rfl (hb hby at_25) ?_
    show Steps p.tables e below (T1.setTop (mkF m 26 #[.val (.int p1), .val (.int (18 : Int32)), .val (.ref w_UNION), .unset, .unset, .unset] [(.int (1 : Int32))])) _
    refine XS.goto X1.here hx rfl (pc0 := 26) (pc' := 30) rfl (hb hby at_26) (by decide) (by decide) ?_
    show Steps p.tables e below (T1.setTop (mkF m 30 #[.val (.int p1), .val (.int (18 : Int32)), .val (.ref w_UNION), .unset, .unset, .unset] [(.int (1 : Int32))])) _
    refine XS.istoreN X1.here hx rfl (hb hby at_30) rfl (l' := #[.val (.int p1), .val (.int (18 : Int32)), .val (.ref w_UNION), .val (.int (1 : Int32)), .unset, .unset]) rfl ?_
    show Steps p.tables e below (T1.setTop (mkF m 31 #[.val (.int p1), .val (.int (18 : Int32)), .val (.ref w_UNION), .val (.int (1 : Int32)), .unset, .unset] [])) _
    refine XS.iloadN X1.here hx rfl (hb hby at_31) rfl ?_
    show Steps p.tables e below (T1.setTop (mkF m 32 #[.val (.int p1), .val (.int (18 : Int32)), .val (.ref w_UNION), .val (.int (1 : Int32)), .unset, .unset] [(.int (18 : Int32))])) _
    refine XS.iconst X1.here hx rfl (hb hby at_32) ?_
    show Steps p.tables e below (T1.setTop (mkF m 33 #[.val (.int p1), .val (.int (18 : Int32)), .val (.ref w_UNION), .val (.int (1 : Int32)), .unset, .unset] [(.int (3 : Int32)), (.int (18 : Int32))])) _
    refine XS.icmpNo X1.here hx rfl (hb hby at_33) rfl (feq (by decide)).1 ?_
    show Steps p.tables e below (T1.setTop (mkF m 36 #[.val (.int p1), .val (.int (18 : Int32)), .val (.ref w_UNION), .val (.int (1 : Int32)), .unset, .unset] [])) _
    refine XS.iloadN X1.here hx rfl (hb hby at_36) rfl ?_
    show Steps p.tables e below (T1.setTop (mkF m 37 #[.val (.int p1), .val (.int (18 : Int32)), .val (.ref w_UNION), .val (.int (1 : Int32)), .unset, .unset] [(.int (18 : Int32))])) _
    refine XS.bipush X1.here hx rfl (hb hby at_37) ?_
    show Steps p.tables e below (T1.setTop (mkF m 39 #[.val (.int p1), .val (.int (18 : Int32)), .val (.ref w_UNION), .val (.int (1 : Int32)), .unset, .unset] [(.int (7 : Int32)), (.int (18 : Int32))])) _
    refine XS.icmpYes X1.here hx rfl (pc0 := 39) (pc' := 46) rfl (hb hby at_39) rfl (feq (by decide)).2 (by decide) (by decide) ?_
    show Steps p.tables e below (T1.setTop (mkF m 46 #[.val (.int p1), .val (.int (18 : Int32)), .val (.ref w_UNION), .val (.int (1 : Int32)), .unset, .unset] [])) _
    refine XS.iconst X1.here hx rfl (hb hby at_46) ?_
    show Steps p.tables e below (T1.setTop (mkF m 47 #[.val (.int p1), .val (.int (18 : Int32)), .val (.ref w_UNION), .val (.int (1 : Int32)), .unset, .unset] [(.int (0 : Int32))])) _
    refine XS.istore X1.here hx rfl (hb hby at_47) rfl (l' := #[.val (.int p1), .val (.int (18 : Int32)), .val (.ref w_UNION), .val (.int (1 : Int32)), .val (.int (0 : Int32)), .unset]) rfl ?_
    show Steps p.tables e below (T1.setTop (mkF m 49 #[.val (.int p1), .val (.int (18 : Int32)), .val (.ref w_UNION), .val (.int (1 : Int32)), .val (.int (0 : Int32)), .unset] [])) _
    refine XS.iloadN X1.here hx rfl (hb hby at_49) rfl ?_
    show Steps p.tables e below (T1.setTop (mkF m 50 #[.val (.int p1), .val (.int (18 : Int32)), .val (.ref w_UNION), .val (.int (1 : Int32)), .val (.int (0 : Int32)), .unset] [(.int (1 : Int32))])) _
    refine XS.ifYes X1.here hx rfl (pc0 := 50) (pc' := 58) rfl (hb hby at_50) rfl ((if0 _ _).trans (feq (by decide)).2) (by decide) (by decide) ?_
    show Steps p.tables e below (T1.setTop (mkF m 58 #[.val (.int p1), .val (.int (18 : Int32)), .val (.ref w_UNION), .val (.int (1 : Int32)), .val (.int (0 : Int32)), .unset] [])) _
    refine XS.iconst X1.here hx rfl (hb hby at_58) ?_
    show Steps p.tables e below (T1.setTop (mkF m 59 #[.val (.int p1), .val (.int (18 : Int32)), .val (.ref w_UNION), .val (.int (1 : Int32)), .val (.int (0 : Int32)), .unset] [(.int (1 : Int32))])) _
    refine XS.goto X1.here hx rfl (pc0 := 59) (pc' := 63) rfl (hb hby at_59) (by decide) (by decide) ?_
    show Steps p.tables e below (T1.setTop (mkF m 63 #[.val (.int p1), .val (.int (18 : Int32)), .val (.ref w_UNION), .val (.int (1 : Int32)), .val (.int (0 : Int32)), .unset] [(.int (1 : Int32))])) _
    refine XS.istore X1.here hx rfl (hb hby at_63) rfl (l' := #[.val (.int p1), .val (.int (18 : Int32)), .val (.ref w_UNION), .val (.int (1 : Int32)), .val (.int (0 : Int32)), .val (.int (1 : Int32))]) rfl ?_
    show Steps p.tables e below (T1.setTop (mkF m 65 #[.val (.int p1), .val (.int (18 : Int32)), .val (.ref w_UNION), .val (.int (1 : Int32)), .val (.int (0 : Int32)), .val (.int (1 : Int32))] [])) _
    refine XS.aloadN X1.here hx rfl (hb hby at_65) rfl rfl ?_
    show Steps p.tables e below (T1.setTop (mkF m 66 #[.val (.int p1), .val (.int (18 : Int32)), .val (.ref w_UNION), .val (.int (1 : Int32)), .val (.int (0 : Int32)), .val (.int (1 : Int32))] [(.ref w_UNION)])) _
    refine st2.trans ?_
    show Steps p.tables e below (T2.setTop (mkF m 69 #[.val (.int p1), .val (.int (18 : Int32)), .val (.ref w_UNION), .val (.int (1 : Int32)), .val (.int (0 : Int32)), .val (.int (1 : Int32))] [(.int (1 : Int32))])) _
    refine XS.iload X2.here hx rfl (hb hby at_69) rfl ?_
    show Steps p.tables e below (T2.setTop (mkF m 71 #[.val (.int p1), .val (.int (18 : Int32)), .val (.ref w_UNION), .val (.int (1 : Int32)), .val (.int (0 : Int32)), .val (.int (1 : Int32))] [(.int (1 : Int32)), (.int (1 : Int32))])) _
    refine XS.icmpNo X2.here hx rfl (hb hby at_71) rfl (teq (by decide)).2 ?_
    show Steps p.tables e below (T2.setTop (mkF m 74 #[.val (.int p1), .val (.int (18 : Int32)), .val (.ref w_UNION), .val (.int (1 : Int32)), .val (.int (0 : Int32)), .val (.int (1 : Int32))] [])) _
    refine XS.iconst X2.here hx rfl (hb hby at_74) ?_
    show Steps p.tables e below (T2.setTop (mkF m 75 #[.val (.int p1), .val (.int (18 : Int32)), .val (.ref w_UNION), .val (.int (1 : Int32)), .val (.int (0 : Int32)), .val (.int (1 : Int32))] [(.int (1 : Int32))])) _
    refine XS.goto X2.here hx rfl (pc0 := 75) (pc' := 79) rfl (hb hby at_75) (by decide) (by decide) ?_
    exact k)
  obtain ⟨fs, hr, hrun, hended, hW, hsame⟩ := X2.leave (v := some (.int (1 : Int32))) (fun h => by rw [Bd.returns] at h; cases h)
  refine ⟨_, _, pre3 _ ?_, hrun, hended, _, _, rfl, ?_, ⟨_, rfl⟩, hW, hsame.mono (by decide) (by decide)⟩
  · show Steps p.tables e below (T2.setTop (mkF m 79 #[.val (.int p1), .val (.int (18 : Int32)), .val (.ref w_UNION), .val (.int (1 : Int32)), .val (.int (0 : Int32)), .val (.int (1 : Int32))] [(.int (1 : Int32))])) _
    exact retN X2 hx (t := .boolean) Bd.returns (by simp) (hb hby at_79) hr
  · exact ⟨rfl, N2, e2⟩
theorem ef_law19 (m : MethodId) (x0 : Int32) : entryFrame m #[(.int x0)] maxLocals = mkF m 0 #[.val (.int x0), .unset, .unset, .unset, .unset, .unset] [] := by first | (simp [entryFrame, mkF, argsToLocals, Value.category, maxLocals]; done) | rfl
set_option maxRecDepth 65536 in
set_option maxHeartbeats 40000000 in
theorem rm_law19 (l : Launch) (Z : State) (a0 : Array Value) (hw : ∀ d ∈ tables_1, d.before a0 Z = true) (ws : List Jvm.Cond) (p1 : Int32) (h0 : Heap) (n0 : Nat) (w_BLOB w_STRUCTURE w_UNION w_ENUM w_INT_ENUM w_BIG_INTEGER w_BIG_DECIMAL w_SHORT w_STRING w_BYTE w_LONG w_BOOLEAN w_RESOURCE w_MAP w_DOUBLE w_FLOAT w_MEMBER w_SERVICE w_LIST w_OPERATION w_DOCUMENT w_INTEGER w_TIMESTAMP : Addr) (hK : own_K Z h0 w_BLOB w_STRUCTURE w_UNION w_ENUM w_INT_ENUM w_BIG_INTEGER w_BIG_DECIMAL w_SHORT w_STRING w_BYTE w_LONG w_BOOLEAN w_RESOURCE w_MAP w_DOUBLE w_FLOAT w_MEMBER w_SERVICE w_LIST w_OPERATION w_DOCUMENT w_INTEGER w_TIMESTAMP) (hk : ((p1 &&& (2147483647 : Int32)) % (23 : Int32)) = (19 : Int32)) :
    MetFree l x (head1 (Jvm.Cond.code x code maxLocals ret :: ws) room_1) (fun a U => a = #[(.int p1)] ∧ Z.Warmed39 U.vm ∧ U.heap = h0) (fun _ _ _ _ _ => True) (fun _ U o U' => ∃ v L, o = .returned v ∧ own_Q (some (.int (1 : Int32))) h0 n0 v U'.heap L ∧ FrameEnd U o U' L room_1.cells room_1.slots) := by
  refine MetFree.of_bodySF (plainFor_of_name pn_0) hisR ?_
  intro p e s m args below meth c s₁ Bd hml0 hP hK0
  obtain ⟨rfl, hZ, hh⟩ := hP
  have hx := Bd.exec
  have hby := Bd.bytes
  have hml : c.maxLocals = 6 := hml0
  have hown : s.vm.findClass "com/example/falkirk/falkirk/model/ShapeTypeHasNamedMembersPinLaw" = some m.cls := findClass_of_methodNamed Bd.named
  have hnm := (name_of_methodNamed Bd.named Bd.method).1
  have X0 : Stand p l e room_1 s m #[(.int p1)] below meth c s₁ [] 0 0 := Stand.of_body Bd
  have e0 : s₁.heap = h0 := by rw [← hh, Bd.state]; rfl
  have N0 := Fr.nil n0
  have pre0 : ∀ t, Steps p.tables e below (s₁.setTop (mkF m 0 #[.val (.int p1), .unset, .unset, .unset, .unset, .unset] [])) t → Steps p.tables e below (s₁.setTop (entryFrame m #[(.int p1)] maxLocals)) t := fun t k => castTop (ef_law19 m p1) k
  have hK' := hK
  obtain ⟨S_w_BLOB, E_w_BLOB, S_w_STRUCTURE, E_w_STRUCTURE, F_ordinal_w_BLOB, F_ordinal_w_STRUCTURE, S_w_UNION, E_w_UNION, F_ordinal_w_UNION, S_w_ENUM, E_w_ENUM, F_ordinal_w_ENUM, S_w_INT_ENUM, E_w_INT_ENUM, F_ordinal_w_INT_ENUM, S_w_BIG_INTEGER, E_w_BIG_INTEGER, F_ordinal_w_BIG_INTEGER, S_w_BIG_DECIMAL, E_w_BIG_DECIMAL, F_ordinal_w_BIG_DECIMAL, S_w_SHORT, E_w_SHORT, F_ordinal_w_SHORT, S_w_STRING, E_w_STRING, F_ordinal_w_STRING, S_w_BYTE, E_w_BYTE, F_ordinal_w_BYTE, S_w_LONG, E_w_LONG, F_ordinal_w_LONG, S_w_BOOLEAN, E_w_BOOLEAN, F_ordinal_w_BOOLEAN, S_w_RESOURCE, E_w_RESOURCE, F_ordinal_w_RESOURCE, S_w_MAP, E_w_MAP, F_ordinal_w_MAP, S_w_DOUBLE, E_w_DOUBLE, F_ordinal_w_DOUBLE, S_w_FLOAT, E_w_FLOAT, F_ordinal_w_FLOAT, S_w_MEMBER, E_w_MEMBER, F_ordinal_w_MEMBER, S_w_SERVICE, E_w_SERVICE, F_ordinal_w_SERVICE, S_w_LIST, E_w_LIST, F_ordinal_w_LIST, S_w_OPERATION, E_w_OPERATION, F_ordinal_w_OPERATION, S_w_DOCUMENT, E_w_DOCUMENT, F_ordinal_w_DOCUMENT, S_w_INTEGER, E_w_INTEGER, F_ordinal_w_INTEGER, S_w_TIMESTAMP, E_w_TIMESTAMP, F_ordinal_w_TIMESTAMP⟩ := hK'
  obtain ⟨v1, _, ⟨T1, L1, k1, n1⟩, -, X1, ⟨Lc1, hQ1, l1, y1, z1⟩, st1⟩ := Jvm.LawKit.callS X0 hx (y := (⟨"com/example/falkirk/falkirk/model/ShapeTypeHasNamedMembersPinLaw", "pick", "(I)Lcom/example/falkirk/falkirk/model/ShapeType;"⟩ : MethodName)) hown (mvT hZ (hw _ (ow 1 rfl))) (mvT hZ (hw _ (ow 2 rfl))) (mvT hZ (hw _ (ow 3 rfl))) (mvT hZ (hw _ (ow 4 rfl))) (by decide) (backOf (W := 0) (rm_pick l Z a0 hw [] (19 : Int32) h0 n0 w_BLOB w_STRUCTURE w_UNION w_ENUM w_INT_ENUM w_BIG_INTEGER w_BIG_DECIMAL w_SHORT w_STRING w_BYTE w_LONG w_BOOLEAN w_RESOURCE w_MAP w_DOUBLE w_FLOAT w_MEMBER w_SERVICE w_LIST w_OPERATION w_DOCUMENT w_INTEGER w_TIMESTAMP hK) hZ (hw _ (ow 4 rfl)) (hw _ (ow 3 rfl)) (by decide) (by decide)) (g := (mkF m 9 #[.val (.int p1), .val (.int (19 : Int32)), .unset, .unset, .unset, .unset] [(.int (19 : Int32))])) rfl (by rw [hml]; rfl) (argsL := [(.int (19 : Int32))]) (rest := []) (lenOf pd_0 rfl) rfl (Nat.le_of_eq rfl) (hb hby at_9) (fun _ _ => ⟨rfl, e0, (by decide : 0 + 0 ≤ _), (by decide : 0 + 0 ≤ _)⟩)
  dsimp only [Pt.U, Pt.locs, Pt.cells, Pt.slots] at X1 l1 y1 z1 st1 hQ1
  subst l1 y1 z1
  obtain ⟨hv1, Nq1, e1⟩ := hQ1
  obtain rfl : v1 = some (.ref w_SERVICE) := hv1.trans (congrArg some (congrArg Value.ref ((if_neg (by decide)).trans ((if_neg (by decide)).trans ((if_neg (by decide)).trans ((if_neg (by decide)).trans ((if_neg (by decide)).trans ((if_neg (by decide)).trans ((if_neg (by decide)).trans ((if_neg (by decide)).trans ((if_neg (by decide)).trans ((if_neg (by decide)).trans ((if_neg (by decide)).trans ((if_neg (by decide)).trans ((if_neg (by decide)).trans ((if_neg (by decide)).trans ((if_neg (by decide)).trans ((if_neg (by decide)).trans ((if_neg (by decide)).trans ((if_neg (by decide)).trans ((if_neg (by decide)).trans (if_pos (by decide)))))))))))))))))))))))
  have N1 := Fr.app N0 Nq1
  obtain ⟨cq2, kq2, q2a, q2b, q2c⟩ := isOf hZ e1 E_w_SERVICE
  obtain ⟨v2, _, ⟨T2, L2, k2, n2⟩, -, X2, ⟨Lc2, hQ2, l2, y2, z2⟩, st2⟩ := X1.virtualBack hx (y := (⟨"com/example/falkirk/falkirk/model/ShapeType", "hasNamedMembers", "()Z"⟩ : MethodName)) (z := (⟨"com/example/falkirk/falkirk/model/ShapeType", "hasNamedMembers", "()Z"⟩ : MethodName)) hown (mvT hZ (hw _ (ow 8 rfl))) (mvT hZ (hw _ (ow 9 rfl))) (notFace_of_selects (args := #[]) (mvT hZ (hw _ (ow 11 rfl)))) (mvT hZ (hw _ (ow 11 rfl))) (mvT hZ (hw _ (ow 10 rfl))) (by decide) (backOf (W := 0) (rm_hasNamedMembers l Z a0 hw [] w_SERVICE h0 n0 w_BLOB w_STRUCTURE w_UNION w_ENUM w_INT_ENUM w_BIG_INTEGER w_BIG_DECIMAL w_SHORT w_STRING w_BYTE w_LONG w_BOOLEAN w_RESOURCE w_MAP w_DOUBLE w_FLOAT w_MEMBER w_SERVICE w_LIST w_OPERATION w_DOCUMENT w_INTEGER w_TIMESTAMP hK) hZ (hw _ (ow 12 rfl)) (hw _ (ow 6 rfl)) (by decide) (by decide)) q2a q2c (g := (mkF m 66 #[.val (.int p1), .val (.int (19 : Int32)), .val (.ref w_SERVICE), .val (.int (0 : Int32)), .val (.int (0 : Int32)), .val (.int (0 : Int32))] [(.ref w_SERVICE)])) rfl (by rw [hml]; rfl) (Steps.refl _) (argsL := []) (rest := []) (lenOf pd_1 rfl) rfl (Nat.le_of_eq rfl) (hb hby at_66) (fun _ _ => ⟨rfl, e1, (by decide : 0 + 0 ≤ _), (by decide : 0 + 0 ≤ _)⟩)
  dsimp only [Pt.U, Pt.locs, Pt.cells, Pt.slots] at X2 l2 y2 z2 st2 hQ2
  subst l2 y2 z2
  obtain ⟨hv2, Nq2, e2⟩ := hQ2
  obtain rfl : v2 = some (.int (0 : Int32)) := hv2.trans (congrArg some (congrArg Value.int ((if_neg (Fld.ne F_ordinal_w_SERVICE F_ordinal_w_STRUCTURE (by decide))).trans ((if_neg (Fld.ne F_ordinal_w_SERVICE F_ordinal_w_UNION (by decide))).trans ((if_neg (Fld.ne F_ordinal_w_SERVICE F_ordinal_w_ENUM (by decide))).trans (if_neg (Fld.ne F_ordinal_w_SERVICE F_ordinal_w_INT_ENUM (by decide))))))))
  have N2 := Fr.app N1 Nq2
  have pre3 : ∀ t, Steps p.tables e below (T2.setTop (mkF m 79 #[.val (.int p1), .val (.int (19 : Int32)), .val (.ref w_SERVICE), .val (.int (0 : Int32)), .val (.int (0 : Int32)), .val (.int (0 : Int32))] [(.int (1 : Int32))])) t → Steps p.tables e below (s₁.setTop (entryFrame m #[(.int p1)] maxLocals)) t := fun t k => pre0 t (by
    show Steps p.tables e below (s₁.setTop (mkF m 0 #[.val (.int p1), .unset, .unset, .unset, .unset, .unset] [])) _
    refine XS.iloadN X0.here hx rfl (hb hby at_0) rfl ?_
    show Steps p.tables e below (s₁.setTop (mkF m 1 #[.val (.int p1), .unset, .unset, .unset, .unset, .unset] [(.int p1)])) _
    refine X0.ldcInt hx hown (mvT hZ (hw _ (ow 0 rfl))) (g := (mkF m 1 #[.val (.int p1), .unset, .unset, .unset, .unset, .unset] [(.int p1)])) rfl (hb hby at_1) _ ?_
    show Steps p.tables e below (s₁.setTop (mkF m 3 #[.val (.int p1), .unset, .unset, .unset, .unset, .unset] [(.int (2147483647 : Int32)), (.int p1)])) _
    refine XS.iand X0.here hx rfl (hb hby at_3) rfl ?_
    show Steps p.tables e below (s₁.setTop (mkF m 4 #[.val (.int p1), .unset, .unset, .unset, .unset, .unset] [(.int (p1 &&& (2147483647 : Int32)))])) _
    refine XS.bipush X0.here hx rfl (hb hby at_4) ?_
    show Steps p.tables e below (s₁.setTop (mkF m 6 #[.val (.int p1), .unset, .unset, .unset, .unset, .unset] [(.int (23 : Int32)), (.int (p1 &&& (2147483647 : Int32)))])) _
    refine iremM X0 hx rfl (hb hby at_6) rfl (by decide) ?_
    show Steps p.tables e below (s₁.setTop (mkF m 7 #[.val (.int p1), .unset, .unset, .unset, .unset, .unset] [(.int ((p1 &&& (2147483647 : Int32)) % (23 : Int32)))])) _
    rw [hk]
    show Steps p.tables e below (s₁.setTop (mkF m 7 #[.val (.int p1), .unset, .unset, .unset, .unset, .unset] [(.int (19 : Int32))])) _
    refine XS.istoreN X0.here hx rfl (hb hby at_7) rfl (l' := #[.val (.int p1), .val (.int (19 : Int32)), .unset, .unset, .unset, .unset]) rfl ?_
    show Steps p.tables e below (s₁.setTop (mkF m 8 #[.val (.int p1), .val (.int (19 : Int32)), .unset, .unset, .unset, .unset] [])) _
    refine XS.iloadN X0.here hx rfl (hb hby at_8) rfl ?_
    show Steps p.tables e below (s₁.setTop (mkF m 9 #[.val (.int p1), .val (.int (19 : Int32)), .unset, .unset, .unset, .unset] [(.int (19 : Int32))])) _
    refine st1 _ ?_
    show Steps p.tables e below (T1.setTop (mkF m 12 #[.val (.int p1), .val (.int (19 : Int32)), .unset, .unset, .unset, .unset] [(.ref w_SERVICE)])) _
    refine XS.astoreN X1.here hx rfl (hb hby at_12) rfl rfl (l' := #[.val (.int p1), .val (.int (19 : Int32)), .val (.ref w_SERVICE), .unset, .unset, .unset]) rfl ?_
    show Steps p.tables e below (T1.setTop (mkF m 13 #[.val (.int p1), .val (.int (19 : Int32)), .val (.ref w_SERVICE), .unset, .unset, .unset] [])) _
    refine XS.iloadN X1.here hx rfl (hb hby at_13) rfl ?_
    show Steps p.tables e below (T1.setTop (mkF m 14 #[.val (.int p1), .val (.int (19 : Int32)), .val (.ref w_SERVICE), .unset, .unset, .unset] [(.int (19 : Int32))])) _
    refine XS.bipush X1.here hx rfl (hb hby at_14) ?_
    show Steps p.tables e below (T1.setTop (mkF m 16 #[.val (.int p1), .val (.int (19 : Int32)), .val (.ref w_SERVICE), .unset, .unset, .unset] [(.int (17 : Int32)), (.int (19 : Int32))])) _
    refine XS.icmpNo X1.here hx rfl (hb hby at_16) rfl (feq (by decide)).1 ?_
    show Steps p.tables e below (T1.setTop (mkF m 19 #[.val (.int p1), .val (.int (19 : Int32)), .val (.ref w_SERVICE), .unset, .unset, .unset] [])) _
    refine XS.iloadN X1.here hx rfl (hb hby at_19) rfl ?_
    show Steps p.tables e below (T1.setTop (mkF m 20 #[.val (.int p1), .val (.int (19 : Int32)), .val (.ref w_SERVICE), .unset, .unset, .unset] [(.int (19 : Int32))])) _
    refine XS.bipush X1.here hx rfl (hb hby at_20) ?_
    show Steps p.tables e below (T1.setTop (mkF m 22 #[.val (.int p1), .val (.int (19 : Int32)), .val (.ref w_SERVICE), .unset, .unset, .unset] [(.int (18 : Int32)), (.int (19 : Int32))])) _
    refine XS.icmpYes X1.here hx rfl (pc0 := 22) (pc' := 29) rfl (hb hby at_22) rfl (feq (by decide)).2 (by decide) (by decide) ?_
    show Steps p.tables e below (T1.setTop (mkF m 29 #[.val (.int p1), .val (.int (19 : Int32)), .val (.ref w_SERVICE), .unset, .unset, .unset] [])) _
    refine XS.iconst X1.here hx rfl (hb hby at_29) ?_
    show Steps p.tables e below (T1.setTop (mkF m 30 #[.val (.int p1), .val (.int (19 : Int32)), .val (.ref w_SERVICE), .unset, .unset, .unset] [(.int (0 : Int32))])) _
    refine XS.istoreN X1.here hx rfl (hb hby at_30) rfl (l' := #[.val (.int p1), .val (.int (19 : Int32)), .val (.ref w_SERVICE), .val (.int (0 : Int32)), .unset, .unset]) rfl ?_
    show Steps p.tables e below (T1.setTop (mkF m 31 #[.val (.int p1), .val (.int (19 : Int32)), .val (.ref w_SERVICE), .val (.int (0 : Int32)), .unset, .unset] [])) _
    refine XS.iloadN X1.here hx rfl (hb hby at_31) rfl ?_
    show Steps p.tables e below (T1.setTop (mkF m 32 #[.val (.int p1), .val (.int (19 : Int32)), .val (.ref w_SERVICE), .val (.int (0 : Int32)), .unset, .unset] [(.int (19 : Int32))])) _
    refine XS.iconst X1.here hx rfl (hb hby at_32) ?_
    show Steps p.tables e below (T1.setTop (mkF m 33 #[.val (.int p1), .val (.int (19 : Int32)), .val (.ref w_SERVICE), .val (.int (0 : Int32)), .unset, .unset] [(.int (3 : Int32)), (.int (19 : Int32))])) _
    refine XS.icmpNo X1.here hx rfl (hb hby at_33) rfl (feq (by decide)).1 ?_
    show Steps p.tables e below (T1.setTop (mkF m 36 #[.val (.int p1), .val (.int (19 : Int32)), .val (.ref w_SERVICE), .val (.int (0 : Int32)), .unset, .unset] [])) _
    refine XS.iloadN X1.here hx rfl (hb hby at_36) rfl ?_
    show Steps p.tables e below (T1.setTop (mkF m 37 #[.val (.int p1), .val (.int (19 : Int32)), .val (.ref w_SERVICE), .val (.int (0 : Int32)), .unset, .unset] [(.int (19 : Int32))])) _
    refine XS.bipush X1.here hx rfl (hb hby at_37) ?_
    show Steps p.tables e below (T1.setTop (mkF m 39 #[.val (.int p1), .val (.int (19 : Int32)), .val (.ref w_SERVICE), .val (.int (0 : Int32)), .unset, .unset] [(.int (7 : Int32)), (.int (19 : Int32))])) _
    refine XS.icmpYes X1.here hx rfl (pc0 := 39) (pc' := 46) rfl (hb hby at_39) rfl (feq (by decide)).2 (by decide) (by decide) ?_
    show Steps p.tables e below (T1.setTop (mkF m 46 #[.val (.int p1), .val (.int (19 : Int32)), .val (.ref w_SERVICE), .val (.int (0 : Int32)), .unset, .unset] [])) _
    refine XS.iconst X1.here hx rfl (hb hby at_46) ?_
    show Steps p.tables e below (T1.setTop (mkF m 47 #[.val (.int p1), .val (.int (19 : Int32)), .val (.ref w_SERVICE), .val (.int (0 : Int32)), .unset, .unset] [(.int (0 : Int32))])) _
    refine XS.istore X1.here hx rfl (hb hby at_47) rfl (l' := #[.val (.int p1), .val (.int (19 : Int32)), .val (.ref w_SERVICE), .val (.int (0 : Int32)), .val (.int (0 : Int32)), .unset]) rfl ?_
    show Steps p.tables e below (T1.setTop (mkF m 49 #[.val (.int p1), .val (.int (19 : Int32)), .val (.ref w_SERVICE), .val (.int (0 : Int32)), .val (.int (0 : Int32)), .unset] [])) _
    refine XS.iloadN X1.here hx rfl (hb hby at_49) rfl ?_
    show Steps p.tables e below (T1.setTop (mkF m 50 #[.val (.int p1), .val (.int (19 : Int32)), .val (.ref w_SERVICE), .val (.int (0 : Int32)), .val (.int (0 : Int32)), .unset] [(.int (0 : Int32))])) _
    refine XS.ifNo X1.here hx rfl (hb hby at_50) rfl ((if0 _ _).trans (teq (by decide)).2) ?_
    show Steps p.tables e below (T1.setTop (mkF m 53 #[.val (.int p1), .val (.int (19 : Int32)), .val (.ref w_SERVICE), .val (.int (0 : Int32)), .val (.int (0 : Int32)), .unset] [])) _
    refine XS.iload X1.here hx rfl (hb hby at_53) rfl ?_
    show Steps p.tables e below (T1.setTop (mkF m 55 #[.val (.int p1), .val (.int (19 : Int32)), .val (.ref w_SERVICE), .val (.int (0 : Int32)), .val (.int (0 : Int32)), .unset] [(.int (0 : Int32))])) _
    refine XS.ifYes X1.here hx rfl (pc0 := 55) (pc' := 62) rfl (hb hby at_55) rfl ((if0 _ _).trans (teq (by decide)).1) (by decide) (by decide) ?_
    show Steps p.tables e below (T1.setTop (mkF m 62 #[.val (.int p1), .val (.int (19 : Int32)), .val (.ref w_SERVICE), .val (.int (0 : Int32)), .val (.int (0 : Int32)), .unset] [])) _
    refine XS.iconst X1.here hx rfl (hb hby at_62) ?_
    show Steps p.tables e below (T1.setTop (mkF m 63 #[.val (.int p1), .val (.int (19 : Int32)), .val (.ref w_SERVICE), .val (.int (0 : Int32)), .val (.int (0 : Int32)), .unset] [(.int (0 : Int32))])) _
    refine XS.istore X1.here hx rfl (hb hby at_63) rfl (l' := #[.val (.int p1), .val (.int (19 : Int32)), .val (.ref w_SERVICE), .val (.int (0 : Int32)), .val (.int (0 : Int32)), .val (.int (0 : Int32))]) rfl ?_
    show Steps p.tables e below (T1.setTop (mkF m 65 #[.val (.int p1), .val (.int (19 : Int32)), .val (.ref w_SERVICE), .val (.int (0 : Int32)), .val (.int (0 : Int32)), .val (.int (0 : Int32))] [])) _
    refine XS.aloadN X1.here hx rfl (hb hby at_65) rfl rfl ?_
    show Steps p.tables e below (T1.setTop (mkF m 66 #[.val (.int p1), .val (.int (19 : Int32)), .val (.ref w_SERVICE), .val (.int (0 : Int32)), .val (.int (0 : Int32)), .val (.int (0 : Int32))] [(.ref w_SERVICE)])) _
    refine st2.trans ?_
    show Steps p.tables e below (T2.setTop (mkF m 69 #[.val (.int p1), .val (.int (19 : Int32)), .val (.ref w_SERVICE), .val (.int (0 : Int32)), .val (.int (0 : Int32)), .val (.int (0 : Int32))] [(.int (0 : Int32))])) _
    refine XS.iload X2.here hx rfl (hb hby at_69) rfl ?_
    show Steps p.tables e below (T2.setTop (mkF m 71 #[.val (.int p1), .val (.int (19 : Int32)), .val (.ref w_SERVICE), .val (.int (0 : Int32)), .val (.int (0 : Int32)), .val (.int (0 : Int32))] [(.int (0 : Int32)), (.int (0 : Int32))])) _
    refine XS.icmpNo X2.here hx rfl (hb hby at_71) rfl (teq (by decide)).2 ?_
    show Steps p.tables e below (T2.setTop (mkF m 74 #[.val (.int p1), .val (.int (19 : Int32)), .val (.ref w_SERVICE), .val (.int (0 : Int32)), .val (.int (0 : Int32)), .val (.int (0 : Int32))] [])) _
    refine XS.iconst X2.here hx rfl (hb hby at_74) ?_
    show Steps p.tables e below (T2.setTop (mkF m 75 #[.val (.int p1), .val (.int (19 : Int32)), .val (.ref w_SERVICE), .val (.int (0 : Int32)), .val (.int (0 : Int32)), .val (.int (0 : Int32))] [(.int (1 : Int32))])) _
    refine XS.goto X2.here hx rfl (pc0 := 75) (pc' := 79) rfl (hb hby at_75) (by decide) (by decide) ?_
    exact k)
  obtain ⟨fs, hr, hrun, hended, hW, hsame⟩ := X2.leave (v := some (.int (1 : Int32))) (fun h => by rw [Bd.returns] at h; cases h)
  refine ⟨_, _, pre3 _ ?_, hrun, hended, _, _, rfl, ?_, ⟨_, rfl⟩, hW, hsame.mono (by decide) (by decide)⟩
  · show Steps p.tables e below (T2.setTop (mkF m 79 #[.val (.int p1), .val (.int (19 : Int32)), .val (.ref w_SERVICE), .val (.int (0 : Int32)), .val (.int (0 : Int32)), .val (.int (0 : Int32))] [(.int (1 : Int32))])) _
    exact retN X2 hx (t := .boolean) Bd.returns (by simp) (hb hby at_79) hr
  · exact ⟨rfl, N2, e2⟩
theorem ef_law20 (m : MethodId) (x0 : Int32) : entryFrame m #[(.int x0)] maxLocals = mkF m 0 #[.val (.int x0), .unset, .unset, .unset, .unset, .unset] [] := by first | (simp [entryFrame, mkF, argsToLocals, Value.category, maxLocals]; done) | rfl
set_option maxRecDepth 65536 in
set_option maxHeartbeats 40000000 in
theorem rm_law20 (l : Launch) (Z : State) (a0 : Array Value) (hw : ∀ d ∈ tables_1, d.before a0 Z = true) (ws : List Jvm.Cond) (p1 : Int32) (h0 : Heap) (n0 : Nat) (w_BLOB w_STRUCTURE w_UNION w_ENUM w_INT_ENUM w_BIG_INTEGER w_BIG_DECIMAL w_SHORT w_STRING w_BYTE w_LONG w_BOOLEAN w_RESOURCE w_MAP w_DOUBLE w_FLOAT w_MEMBER w_SERVICE w_LIST w_OPERATION w_DOCUMENT w_INTEGER w_TIMESTAMP : Addr) (hK : own_K Z h0 w_BLOB w_STRUCTURE w_UNION w_ENUM w_INT_ENUM w_BIG_INTEGER w_BIG_DECIMAL w_SHORT w_STRING w_BYTE w_LONG w_BOOLEAN w_RESOURCE w_MAP w_DOUBLE w_FLOAT w_MEMBER w_SERVICE w_LIST w_OPERATION w_DOCUMENT w_INTEGER w_TIMESTAMP) (hk : ((p1 &&& (2147483647 : Int32)) % (23 : Int32)) = (20 : Int32)) :
    MetFree l x (head1 (Jvm.Cond.code x code maxLocals ret :: ws) room_1) (fun a U => a = #[(.int p1)] ∧ Z.Warmed39 U.vm ∧ U.heap = h0) (fun _ _ _ _ _ => True) (fun _ U o U' => ∃ v L, o = .returned v ∧ own_Q (some (.int (1 : Int32))) h0 n0 v U'.heap L ∧ FrameEnd U o U' L room_1.cells room_1.slots) := by
  refine MetFree.of_bodySF (plainFor_of_name pn_0) hisR ?_
  intro p e s m args below meth c s₁ Bd hml0 hP hK0
  obtain ⟨rfl, hZ, hh⟩ := hP
  have hx := Bd.exec
  have hby := Bd.bytes
  have hml : c.maxLocals = 6 := hml0
  have hown : s.vm.findClass "com/example/falkirk/falkirk/model/ShapeTypeHasNamedMembersPinLaw" = some m.cls := findClass_of_methodNamed Bd.named
  have hnm := (name_of_methodNamed Bd.named Bd.method).1
  have X0 : Stand p l e room_1 s m #[(.int p1)] below meth c s₁ [] 0 0 := Stand.of_body Bd
  have e0 : s₁.heap = h0 := by rw [← hh, Bd.state]; rfl
  have N0 := Fr.nil n0
  have pre0 : ∀ t, Steps p.tables e below (s₁.setTop (mkF m 0 #[.val (.int p1), .unset, .unset, .unset, .unset, .unset] [])) t → Steps p.tables e below (s₁.setTop (entryFrame m #[(.int p1)] maxLocals)) t := fun t k => castTop (ef_law20 m p1) k
  have hK' := hK
  obtain ⟨S_w_BLOB, E_w_BLOB, S_w_STRUCTURE, E_w_STRUCTURE, F_ordinal_w_BLOB, F_ordinal_w_STRUCTURE, S_w_UNION, E_w_UNION, F_ordinal_w_UNION, S_w_ENUM, E_w_ENUM, F_ordinal_w_ENUM, S_w_INT_ENUM, E_w_INT_ENUM, F_ordinal_w_INT_ENUM, S_w_BIG_INTEGER, E_w_BIG_INTEGER, F_ordinal_w_BIG_INTEGER, S_w_BIG_DECIMAL, E_w_BIG_DECIMAL, F_ordinal_w_BIG_DECIMAL, S_w_SHORT, E_w_SHORT, F_ordinal_w_SHORT, S_w_STRING, E_w_STRING, F_ordinal_w_STRING, S_w_BYTE, E_w_BYTE, F_ordinal_w_BYTE, S_w_LONG, E_w_LONG, F_ordinal_w_LONG, S_w_BOOLEAN, E_w_BOOLEAN, F_ordinal_w_BOOLEAN, S_w_RESOURCE, E_w_RESOURCE, F_ordinal_w_RESOURCE, S_w_MAP, E_w_MAP, F_ordinal_w_MAP, S_w_DOUBLE, E_w_DOUBLE, F_ordinal_w_DOUBLE, S_w_FLOAT, E_w_FLOAT, F_ordinal_w_FLOAT, S_w_MEMBER, E_w_MEMBER, F_ordinal_w_MEMBER, S_w_SERVICE, E_w_SERVICE, F_ordinal_w_SERVICE, S_w_LIST, E_w_LIST, F_ordinal_w_LIST, S_w_OPERATION, E_w_OPERATION, F_ordinal_w_OPERATION, S_w_DOCUMENT, E_w_DOCUMENT, F_ordinal_w_DOCUMENT, S_w_INTEGER, E_w_INTEGER, F_ordinal_w_INTEGER, S_w_TIMESTAMP, E_w_TIMESTAMP, F_ordinal_w_TIMESTAMP⟩ := hK'
  obtain ⟨v1, _, ⟨T1, L1, k1, n1⟩, -, X1, ⟨Lc1, hQ1, l1, y1, z1⟩, st1⟩ := Jvm.LawKit.callS X0 hx (y := (⟨"com/example/falkirk/falkirk/model/ShapeTypeHasNamedMembersPinLaw", "pick", "(I)Lcom/example/falkirk/falkirk/model/ShapeType;"⟩ : MethodName)) hown (mvT hZ (hw _ (ow 1 rfl))) (mvT hZ (hw _ (ow 2 rfl))) (mvT hZ (hw _ (ow 3 rfl))) (mvT hZ (hw _ (ow 4 rfl))) (by decide) (backOf (W := 0) (rm_pick l Z a0 hw [] (20 : Int32) h0 n0 w_BLOB w_STRUCTURE w_UNION w_ENUM w_INT_ENUM w_BIG_INTEGER w_BIG_DECIMAL w_SHORT w_STRING w_BYTE w_LONG w_BOOLEAN w_RESOURCE w_MAP w_DOUBLE w_FLOAT w_MEMBER w_SERVICE w_LIST w_OPERATION w_DOCUMENT w_INTEGER w_TIMESTAMP hK) hZ (hw _ (ow 4 rfl)) (hw _ (ow 3 rfl)) (by decide) (by decide)) (g := (mkF m 9 #[.val (.int p1), .val (.int (20 : Int32)), .unset, .unset, .unset, .unset] [(.int (20 : Int32))])) rfl (by rw [hml]; rfl) (argsL := [(.int (20 : Int32))]) (rest := []) (lenOf pd_0 rfl) rfl (Nat.le_of_eq rfl) (hb hby at_9) (fun _ _ => ⟨rfl, e0, (by decide : 0 + 0 ≤ _), (by decide : 0 + 0 ≤ _)⟩)
  dsimp only [Pt.U, Pt.locs, Pt.cells, Pt.slots] at X1 l1 y1 z1 st1 hQ1
  subst l1 y1 z1
  obtain ⟨hv1, Nq1, e1⟩ := hQ1
  obtain rfl : v1 = some (.ref w_OPERATION) := hv1.trans (congrArg some (congrArg Value.ref ((if_neg (by decide)).trans ((if_neg (by decide)).trans ((if_neg (by decide)).trans ((if_neg (by decide)).trans ((if_neg (by decide)).trans ((if_neg (by decide)).trans ((if_neg (by decide)).trans ((if_neg (by decide)).trans ((if_neg (by decide)).trans ((if_neg (by decide)).trans ((if_neg (by decide)).trans ((if_neg (by decide)).trans ((if_neg (by decide)).trans ((if_neg (by decide)).trans ((if_neg (by decide)).trans ((if_neg (by decide)).trans ((if_neg (by decide)).trans ((if_neg (by decide)).trans ((if_neg (by decide)).trans ((if_neg (by decide)).trans (if_pos (by decide))))))))))))))))))))))))
  have N1 := Fr.app N0 Nq1
  obtain ⟨cq2, kq2, q2a, q2b, q2c⟩ := isOf hZ e1 E_w_OPERATION
  obtain ⟨v2, _, ⟨T2, L2, k2, n2⟩, -, X2, ⟨Lc2, hQ2, l2, y2, z2⟩, st2⟩ := X1.virtualBack hx (y := (⟨"com/example/falkirk/falkirk/model/ShapeType", "hasNamedMembers", "()Z"⟩ : MethodName)) (z := (⟨"com/example/falkirk/falkirk/model/ShapeType", "hasNamedMembers", "()Z"⟩ : MethodName)) hown (mvT hZ (hw _ (ow 8 rfl))) (mvT hZ (hw _ (ow 9 rfl))) (notFace_of_selects (args := #[]) (mvT hZ (hw _ (ow 11 rfl)))) (mvT hZ (hw _ (ow 11 rfl))) (mvT hZ (hw _ (ow 10 rfl))) (by decide) (backOf (W := 0) (rm_hasNamedMembers l Z a0 hw [] w_OPERATION h0 n0 w_BLOB w_STRUCTURE w_UNION w_ENUM w_INT_ENUM w_BIG_INTEGER w_BIG_DECIMAL w_SHORT w_STRING w_BYTE w_LONG w_BOOLEAN w_RESOURCE w_MAP w_DOUBLE w_FLOAT w_MEMBER w_SERVICE w_LIST w_OPERATION w_DOCUMENT w_INTEGER w_TIMESTAMP hK) hZ (hw _ (ow 12 rfl)) (hw _ (ow 6 rfl)) (by decide) (by decide)) q2a q2c (g := (mkF m 66 #[.val (.int p1), .val (.int (20 : Int32)), .val (.ref w_OPERATION), .val (.int (0 : Int32)), .val (.int (0 : Int32)), .val (.int (0 : Int32))] [(.ref w_OPERATION)])) rfl (by rw [hml]; rfl) (Steps.refl _) (argsL := []) (rest := []) (lenOf pd_1 rfl) rfl (Nat.le_of_eq rfl) (hb hby at_66) (fun _ _ => ⟨rfl, e1, (by decide : 0 + 0 ≤ _), (by decide : 0 + 0 ≤ _)⟩)
  dsimp only [Pt.U, Pt.locs, Pt.cells, Pt.slots] at X2 l2 y2 z2 st2 hQ2
  subst l2 y2 z2
  obtain ⟨hv2, Nq2, e2⟩ := hQ2
  obtain rfl : v2 = some (.int (0 : Int32)) := hv2.trans (congrArg some (congrArg Value.int ((if_neg (Fld.ne F_ordinal_w_OPERATION F_ordinal_w_STRUCTURE (by decide))).trans ((if_neg (Fld.ne F_ordinal_w_OPERATION F_ordinal_w_UNION (by decide))).trans ((if_neg (Fld.ne F_ordinal_w_OPERATION F_ordinal_w_ENUM (by decide))).trans (if_neg (Fld.ne F_ordinal_w_OPERATION F_ordinal_w_INT_ENUM (by decide))))))))
  have N2 := Fr.app N1 Nq2
  have pre3 : ∀ t, Steps p.tables e below (T2.setTop (mkF m 79 #[.val (.int p1), .val (.int (20 : Int32)), .val (.ref w_OPERATION), .val (.int (0 : Int32)), .val (.int (0 : Int32)), .val (.int (0 : Int32))] [(.int (1 : Int32))])) t → Steps p.tables e below (s₁.setTop (entryFrame m #[(.int p1)] maxLocals)) t := fun t k => pre0 t (by
    show Steps p.tables e below (s₁.setTop (mkF m 0 #[.val (.int p1), .unset, .unset, .unset, .unset, .unset] [])) _
    refine XS.iloadN X0.here hx rfl (hb hby at_0) rfl ?_
    show Steps p.tables e below (s₁.setTop (mkF m 1 #[.val (.int p1), .unset, .unset, .unset, .unset, .unset] [(.int p1)])) _
    refine X0.ldcInt hx hown (mvT hZ (hw _ (ow 0 rfl))) (g := (mkF m 1 #[.val (.int p1), .unset, .unset, .unset, .unset, .unset] [(.int p1)])) rfl (hb hby at_1) _ ?_
    show Steps p.tables e below (s₁.setTop (mkF m 3 #[.val (.int p1), .unset, .unset, .unset, .unset, .unset] [(.int (2147483647 : Int32)), (.int p1)])) _
    refine XS.iand X0.here hx rfl (hb hby at_3) rfl ?_
    show Steps p.tables e below (s₁.setTop (mkF m 4 #[.val (.int p1), .unset, .unset, .unset, .unset, .unset] [(.int (p1 &&& (2147483647 : Int32)))])) _
    refine XS.bipush X0.here hx rfl (hb hby at_4) ?_
    show Steps p.tables e below (s₁.setTop (mkF m 6 #[.val (.int p1), .unset, .unset, .unset, .unset, .unset] [(.int (23 : Int32)), (.int (p1 &&& (2147483647 : Int32)))])) _
    refine iremM X0 hx rfl (hb hby at_6) rfl (by decide) ?_
    show Steps p.tables e below (s₁.setTop (mkF m 7 #[.val (.int p1), .unset, .unset, .unset, .unset, .unset] [(.int ((p1 &&& (2147483647 : Int32)) % (23 : Int32)))])) _
    rw [hk]
    show Steps p.tables e below (s₁.setTop (mkF m 7 #[.val (.int p1), .unset, .unset, .unset, .unset, .unset] [(.int (20 : Int32))])) _
    refine XS.istoreN X0.here hx rfl (hb hby at_7) rfl (l' := #[.val (.int p1), .val (.int (20 : Int32)), .unset, .unset, .unset, .unset]) rfl ?_
    show Steps p.tables e below (s₁.setTop (mkF m 8 #[.val (.int p1), .val (.int (20 : Int32)), .unset, .unset, .unset, .unset] [])) _
    refine XS.iloadN X0.here hx rfl (hb hby at_8) rfl ?_
    show Steps p.tables e below (s₁.setTop (mkF m 9 #[.val (.int p1), .val (.int (20 : Int32)), .unset, .unset, .unset, .unset] [(.int (20 : Int32))])) _
    refine st1 _ ?_
    show Steps p.tables e below (T1.setTop (mkF m 12 #[.val (.int p1), .val (.int (20 : Int32)), .unset, .unset, .unset, .unset] [(.ref w_OPERATION)])) _
    refine XS.astoreN X1.here hx rfl (hb hby at_12) rfl rfl (l' := #[.val (.int p1), .val (.int (20 : Int32)), .val (.ref w_OPERATION), .unset, .unset, .unset]) rfl ?_
    show Steps p.tables e below (T1.setTop (mkF m 13 #[.val (.int p1), .val (.int (20 : Int32)), .val (.ref w_OPERATION), .unset, .unset, .unset] [])) _
    refine XS.iloadN X1.here hx rfl (hb hby at_13) rfl ?_
    show Steps p.tables e below (T1.setTop (mkF m 14 #[.val (.int p1), .val (.int (20 : Int32)), .val (.ref w_OPERATION), .unset, .unset, .unset] [(.int (20 : Int32))])) _
    refine XS.bipush X1.here hx rfl (hb hby at_14) ?_
    show Steps p.tables e below (T1.setTop (mkF m 16 #[.val (.int p1), .val (.int (20 : Int32)), .val (.ref w_OPERATION), .unset, .unset, .unset] [(.int (17 : Int32)), (.int (20 : Int32))])) _
    refine XS.icmpNo X1.here hx rfl (hb hby at_16) rfl (feq (by decide)).1 ?_
    show Steps p.tables e below (T1.setTop (mkF m 19 #[.val (.int p1), .val (.int (20 : Int32)), .val (.ref w_OPERATION), .unset, .unset, .unset] [])) _
    refine XS.iloadN X1.here hx rfl (hb hby at_19) rfl ?_
    show Steps p.tables e below (T1.setTop (mkF m 20 #[.val (.int p1), .val (.int (20 : Int32)), .val (.ref w_OPERATION), .unset, .unset, .unset] [(.int (20 : Int32))])) _
    refine XS.bipush X1.here hx rfl (hb hby at_20) ?_
    show Steps p.tables e below (T1.setTop (mkF m 22 #[.val (.int p1), .val (.int (20 : Int32)), .val (.ref w_OPERATION), .unset, .unset, .unset] [(.int (18 : Int32)), (.int (20 : Int32))])) _
    refine XS.icmpYes X1.here hx rfl (pc0 := 22) (pc' := 29) rfl (hb hby at_22) rfl (feq (by decide)).2 (by decide) (by decide) ?_
    show Steps p.tables e below (T1.setTop (mkF m 29 #[.val (.int p1), .val (.int (20 : Int32)), .val (.ref w_OPERATION), .unset, .unset, .unset] [])) _
    refine XS.iconst X1.here hx rfl (hb hby at_29) ?_
    show Steps p.tables e below (T1.setTop (mkF m 30 #[.val (.int p1), .val (.int (20 : Int32)), .val (.ref w_OPERATION), .unset, .unset, .unset] [(.int (0 : Int32))])) _
    refine XS.istoreN X1.here hx rfl (hb hby at_30) rfl (l' := #[.val (.int p1), .val (.int (20 : Int32)), .val (.ref w_OPERATION), .val (.int (0 : Int32)), .unset, .unset]) rfl ?_
    show Steps p.tables e below (T1.setTop (mkF m 31 #[.val (.int p1), .val (.int (20 : Int32)), .val (.ref w_OPERATION), .val (.int (0 : Int32)), .unset, .unset] [])) _
    refine XS.iloadN X1.here hx rfl (hb hby at_31) rfl ?_
    show Steps p.tables e below (T1.setTop (mkF m 32 #[.val (.int p1), .val (.int (20 : Int32)), .val (.ref w_OPERATION), .val (.int (0 : Int32)), .unset, .unset] [(.int (20 : Int32))])) _
    refine XS.iconst X1.here hx rfl (hb hby at_32) ?_
    show Steps p.tables e below (T1.setTop (mkF m 33 #[.val (.int p1), .val (.int (20 : Int32)), .val (.ref w_OPERATION), .val (.int (0 : Int32)), .unset, .unset] [(.int (3 : Int32)), (.int (20 : Int32))])) _
    refine XS.icmpNo X1.here hx rfl (hb hby at_33) rfl (feq (by decide)).1 ?_
    show Steps p.tables e below (T1.setTop (mkF m 36 #[.val (.int p1), .val (.int (20 : Int32)), .val (.ref w_OPERATION), .val (.int (0 : Int32)), .unset, .unset] [])) _
    refine XS.iloadN X1.here hx rfl (hb hby at_36) rfl ?_
    show Steps p.tables e below (T1.setTop (mkF m 37 #[.val (.int p1), .val (.int (20 : Int32)), .val (.ref w_OPERATION), .val (.int (0 : Int32)), .unset, .unset] [(.int (20 : Int32))])) _
    refine XS.bipush X1.here hx rfl (hb hby at_37) ?_
    show Steps p.tables e below (T1.setTop (mkF m 39 #[.val (.int p1), .val (.int (20 : Int32)), .val (.ref w_OPERATION), .val (.int (0 : Int32)), .unset, .unset] [(.int (7 : Int32)), (.int (20 : Int32))])) _
    refine XS.icmpYes X1.here hx rfl (pc0 := 39) (pc' := 46) rfl (hb hby at_39) rfl (feq (by decide)).2 (by decide) (by decide) ?_
    show Steps p.tables e below (T1.setTop (mkF m 46 #[.val (.int p1), .val (.int (20 : Int32)), .val (.ref w_OPERATION), .val (.int (0 : Int32)), .unset, .unset] [])) _
    refine XS.iconst X1.here hx rfl (hb hby at_46) ?_
    show Steps p.tables e below (T1.setTop (mkF m 47 #[.val (.int p1), .val (.int (20 : Int32)), .val (.ref w_OPERATION), .val (.int (0 : Int32)), .unset, .unset] [(.int (0 : Int32))])) _
    refine XS.istore X1.here hx rfl (hb hby at_47) rfl (l' := #[.val (.int p1), .val (.int (20 : Int32)), .val (.ref w_OPERATION), .val (.int (0 : Int32)), .val (.int (0 : Int32)), .unset]) rfl ?_
    show Steps p.tables e below (T1.setTop (mkF m 49 #[.val (.int p1), .val (.int (20 : Int32)), .val (.ref w_OPERATION), .val (.int (0 : Int32)), .val (.int (0 : Int32)), .unset] [])) _
    refine XS.iloadN X1.here hx rfl (hb hby at_49) rfl ?_
    show Steps p.tables e below (T1.setTop (mkF m 50 #[.val (.int p1), .val (.int (20 : Int32)), .val (.ref w_OPERATION), .val (.int (0 : Int32)), .val (.int (0 : Int32)), .unset] [(.int (0 : Int32))])) _
    refine XS.ifNo X1.here hx rfl (hb hby at_50) rfl ((if0 _ _).trans (teq (by decide)).2) ?_
    show Steps p.tables e below (T1.setTop (mkF m 53 #[.val (.int p1), .val (.int (20 : Int32)), .val (.ref w_OPERATION), .val (.int (0 : Int32)), .val (.int (0 : Int32)), .unset] [])) _
    refine XS.iload X1.here hx rfl (hb hby at_53) rfl ?_
    show Steps p.tables e below (T1.setTop (mkF m 55 #[.val (.int p1), .val (.int (20 : Int32)), .val (.ref w_OPERATION), .val (.int (0 : Int32)), .val (.int (0 : Int32)), .unset] [(.int (0 : Int32))])) _
    refine XS.ifYes X1.here hx rfl (pc0 := 55) (pc' := 62) rfl (hb hby at_55) rfl ((if0 _ _).trans (teq (by decide)).1) (by decide) (by decide) ?_
    show Steps p.tables e below (T1.setTop (mkF m 62 #[.val (.int p1), .val (.int (20 : Int32)), .val (.ref w_OPERATION), .val (.int (0 : Int32)), .val (.int (0 : Int32)), .unset] [])) _
    refine XS.iconst X1.here hx rfl (hb hby at_62) ?_
    show Steps p.tables e below (T1.setTop (mkF m 63 #[.val (.int p1), .val (.int (20 : Int32)), .val (.ref w_OPERATION), .val (.int (0 : Int32)), .val (.int (0 : Int32)), .unset] [(.int (0 : Int32))])) _
    refine XS.istore X1.here hx rfl (hb hby at_63) rfl (l' := #[.val (.int p1), .val (.int (20 : Int32)), .val (.ref w_OPERATION), .val (.int (0 : Int32)), .val (.int (0 : Int32)), .val (.int (0 : Int32))]) rfl ?_
    show Steps p.tables e below (T1.setTop (mkF m 65 #[.val (.int p1), .val (.int (20 : Int32)), .val (.ref w_OPERATION), .val (.int (0 : Int32)), .val (.int (0 : Int32)), .val (.int (0 : Int32))] [])) _
    refine XS.aloadN X1.here hx rfl (hb hby at_65) rfl rfl ?_
    show Steps p.tables e below (T1.setTop (mkF m 66 #[.val (.int p1), .val (.int (20 : Int32)), .val (.ref w_OPERATION), .val (.int (0 : Int32)), .val (.int (0 : Int32)), .val (.int (0 : Int32))] [(.ref w_OPERATION)])) _
    refine st2.trans ?_
    show Steps p.tables e below (T2.setTop (mkF m 69 #[.val (.int p1), .val (.int (20 : Int32)), .val (.ref w_OPERATION), .val (.int (0 : Int32)), .val (.int (0 : Int32)), .val (.int (0 : Int32))] [(.int (0 : Int32))])) _
    refine XS.iload X2.here hx rfl (hb hby at_69) rfl ?_
    show Steps p.tables e below (T2.setTop (mkF m 71 #[.val (.int p1), .val (.int (20 : Int32)), .val (.ref w_OPERATION), .val (.int (0 : Int32)), .val (.int (0 : Int32)), .val (.int (0 : Int32))] [(.int (0 : Int32)), (.int (0 : Int32))])) _
    refine XS.icmpNo X2.here hx rfl (hb hby at_71) rfl (teq (by decide)).2 ?_
    show Steps p.tables e below (T2.setTop (mkF m 74 #[.val (.int p1), .val (.int (20 : Int32)), .val (.ref w_OPERATION), .val (.int (0 : Int32)), .val (.int (0 : Int32)), .val (.int (0 : Int32))] [])) _
    refine XS.iconst X2.here hx rfl (hb hby at_74) ?_
    show Steps p.tables e below (T2.setTop (mkF m 75 #[.val (.int p1), .val (.int (20 : Int32)), .val (.ref w_OPERATION), .val (.int (0 : Int32)), .val (.int (0 : Int32)), .val (.int (0 : Int32))] [(.int (1 : Int32))])) _
    refine XS.goto X2.here hx rfl (pc0 := 75) (pc' := 79) rfl (hb hby at_75) (by decide) (by decide) ?_
    exact k)
  obtain ⟨fs, hr, hrun, hended, hW, hsame⟩ := X2.leave (v := some (.int (1 : Int32))) (fun h => by rw [Bd.returns] at h; cases h)
  refine ⟨_, _, pre3 _ ?_, hrun, hended, _, _, rfl, ?_, ⟨_, rfl⟩, hW, hsame.mono (by decide) (by decide)⟩
  · show Steps p.tables e below (T2.setTop (mkF m 79 #[.val (.int p1), .val (.int (20 : Int32)), .val (.ref w_OPERATION), .val (.int (0 : Int32)), .val (.int (0 : Int32)), .val (.int (0 : Int32))] [(.int (1 : Int32))])) _
    exact retN X2 hx (t := .boolean) Bd.returns (by simp) (hb hby at_79) hr
  · exact ⟨rfl, N2, e2⟩
theorem ef_law21 (m : MethodId) (x0 : Int32) : entryFrame m #[(.int x0)] maxLocals = mkF m 0 #[.val (.int x0), .unset, .unset, .unset, .unset, .unset] [] := by first | (simp [entryFrame, mkF, argsToLocals, Value.category, maxLocals]; done) | rfl
set_option maxRecDepth 65536 in
set_option maxHeartbeats 40000000 in
theorem rm_law21 (l : Launch) (Z : State) (a0 : Array Value) (hw : ∀ d ∈ tables_1, d.before a0 Z = true) (ws : List Jvm.Cond) (p1 : Int32) (h0 : Heap) (n0 : Nat) (w_BLOB w_STRUCTURE w_UNION w_ENUM w_INT_ENUM w_BIG_INTEGER w_BIG_DECIMAL w_SHORT w_STRING w_BYTE w_LONG w_BOOLEAN w_RESOURCE w_MAP w_DOUBLE w_FLOAT w_MEMBER w_SERVICE w_LIST w_OPERATION w_DOCUMENT w_INTEGER w_TIMESTAMP : Addr) (hK : own_K Z h0 w_BLOB w_STRUCTURE w_UNION w_ENUM w_INT_ENUM w_BIG_INTEGER w_BIG_DECIMAL w_SHORT w_STRING w_BYTE w_LONG w_BOOLEAN w_RESOURCE w_MAP w_DOUBLE w_FLOAT w_MEMBER w_SERVICE w_LIST w_OPERATION w_DOCUMENT w_INTEGER w_TIMESTAMP) (hk : ((p1 &&& (2147483647 : Int32)) % (23 : Int32)) = (21 : Int32)) :
    MetFree l x (head1 (Jvm.Cond.code x code maxLocals ret :: ws) room_1) (fun a U => a = #[(.int p1)] ∧ Z.Warmed39 U.vm ∧ U.heap = h0) (fun _ _ _ _ _ => True) (fun _ U o U' => ∃ v L, o = .returned v ∧ own_Q (some (.int (1 : Int32))) h0 n0 v U'.heap L ∧ FrameEnd U o U' L room_1.cells room_1.slots) := by
  refine MetFree.of_bodySF (plainFor_of_name pn_0) hisR ?_
  intro p e s m args below meth c s₁ Bd hml0 hP hK0
  obtain ⟨rfl, hZ, hh⟩ := hP
  have hx := Bd.exec
  have hby := Bd.bytes
  have hml : c.maxLocals = 6 := hml0
  have hown : s.vm.findClass "com/example/falkirk/falkirk/model/ShapeTypeHasNamedMembersPinLaw" = some m.cls := findClass_of_methodNamed Bd.named
  have hnm := (name_of_methodNamed Bd.named Bd.method).1
  have X0 : Stand p l e room_1 s m #[(.int p1)] below meth c s₁ [] 0 0 := Stand.of_body Bd
  have e0 : s₁.heap = h0 := by rw [← hh, Bd.state]; rfl
  have N0 := Fr.nil n0
  have pre0 : ∀ t, Steps p.tables e below (s₁.setTop (mkF m 0 #[.val (.int p1), .unset, .unset, .unset, .unset, .unset] [])) t → Steps p.tables e below (s₁.setTop (entryFrame m #[(.int p1)] maxLocals)) t := fun t k => castTop (ef_law21 m p1) k
  have hK' := hK
  obtain ⟨S_w_BLOB, E_w_BLOB, S_w_STRUCTURE, E_w_STRUCTURE, F_ordinal_w_BLOB, F_ordinal_w_STRUCTURE, S_w_UNION, E_w_UNION, F_ordinal_w_UNION, S_w_ENUM, E_w_ENUM, F_ordinal_w_ENUM, S_w_INT_ENUM, E_w_INT_ENUM, F_ordinal_w_INT_ENUM, S_w_BIG_INTEGER, E_w_BIG_INTEGER, F_ordinal_w_BIG_INTEGER, S_w_BIG_DECIMAL, E_w_BIG_DECIMAL, F_ordinal_w_BIG_DECIMAL, S_w_SHORT, E_w_SHORT, F_ordinal_w_SHORT, S_w_STRING, E_w_STRING, F_ordinal_w_STRING, S_w_BYTE, E_w_BYTE, F_ordinal_w_BYTE, S_w_LONG, E_w_LONG, F_ordinal_w_LONG, S_w_BOOLEAN, E_w_BOOLEAN, F_ordinal_w_BOOLEAN, S_w_RESOURCE, E_w_RESOURCE, F_ordinal_w_RESOURCE, S_w_MAP, E_w_MAP, F_ordinal_w_MAP, S_w_DOUBLE, E_w_DOUBLE, F_ordinal_w_DOUBLE, S_w_FLOAT, E_w_FLOAT, F_ordinal_w_FLOAT, S_w_MEMBER, E_w_MEMBER, F_ordinal_w_MEMBER, S_w_SERVICE, E_w_SERVICE, F_ordinal_w_SERVICE, S_w_LIST, E_w_LIST, F_ordinal_w_LIST, S_w_OPERATION, E_w_OPERATION, F_ordinal_w_OPERATION, S_w_DOCUMENT, E_w_DOCUMENT, F_ordinal_w_DOCUMENT, S_w_INTEGER, E_w_INTEGER, F_ordinal_w_INTEGER, S_w_TIMESTAMP, E_w_TIMESTAMP, F_ordinal_w_TIMESTAMP⟩ := hK'
  obtain ⟨v1, _, ⟨T1, L1, k1, n1⟩, -, X1, ⟨Lc1, hQ1, l1, y1, z1⟩, st1⟩ := Jvm.LawKit.callS X0 hx (y := (⟨"com/example/falkirk/falkirk/model/ShapeTypeHasNamedMembersPinLaw", "pick", "(I)Lcom/example/falkirk/falkirk/model/ShapeType;"⟩ : MethodName)) hown (mvT hZ (hw _ (ow 1 rfl))) (mvT hZ (hw _ (ow 2 rfl))) (mvT hZ (hw _ (ow 3 rfl))) (mvT hZ (hw _ (ow 4 rfl))) (by decide) (backOf (W := 0) (rm_pick l Z a0 hw [] (21 : Int32) h0 n0 w_BLOB w_STRUCTURE w_UNION w_ENUM w_INT_ENUM w_BIG_INTEGER w_BIG_DECIMAL w_SHORT w_STRING w_BYTE w_LONG w_BOOLEAN w_RESOURCE w_MAP w_DOUBLE w_FLOAT w_MEMBER w_SERVICE w_LIST w_OPERATION w_DOCUMENT w_INTEGER w_TIMESTAMP hK) hZ (hw _ (ow 4 rfl)) (hw _ (ow 3 rfl)) (by decide) (by decide)) (g := (mkF m 9 #[.val (.int p1), .val (.int (21 : Int32)), .unset, .unset, .unset, .unset] [(.int (21 : Int32))])) rfl (by rw [hml]; rfl) (argsL := [(.int (21 : Int32))]) (rest := []) (lenOf pd_0 rfl) rfl (Nat.le_of_eq rfl) (hb hby at_9) (fun _ _ => ⟨rfl, e0, (by decide : 0 + 0 ≤ _), (by decide : 0 + 0 ≤ _)⟩)
  dsimp only [Pt.U, Pt.locs, Pt.cells, Pt.slots] at X1 l1 y1 z1 st1 hQ1
  subst l1 y1 z1
  obtain ⟨hv1, Nq1, e1⟩ := hQ1
  obtain rfl : v1 = some (.ref w_RESOURCE) := hv1.trans (congrArg some (congrArg Value.ref ((if_neg (by decide)).trans ((if_neg (by decide)).trans ((if_neg (by decide)).trans ((if_neg (by decide)).trans ((if_neg (by decide)).trans ((if_neg (by decide)).trans ((if_neg (by decide)).trans ((if_neg (by decide)).trans ((if_neg (by decide)).trans ((if_neg (by decide)).trans ((if_neg (by decide)).trans ((if_neg (by decide)).trans ((if_neg (by decide)).trans ((if_neg (by decide)).trans ((if_neg (by decide)).trans ((if_neg (by decide)).trans ((if_neg (by decide)).trans ((if_neg (by decide)).trans ((if_neg (by decide)).trans ((if_neg (by decide)).trans ((if_neg (by decide)).trans (if_pos (by decide)))))))))))))))))))))))))
  have N1 := Fr.app N0 Nq1
  obtain ⟨cq2, kq2, q2a, q2b, q2c⟩ := isOf hZ e1 E_w_RESOURCE
  obtain ⟨v2, _, ⟨T2, L2, k2, n2⟩, -, X2, ⟨Lc2, hQ2, l2, y2, z2⟩, st2⟩ := X1.virtualBack hx (y := (⟨"com/example/falkirk/falkirk/model/ShapeType", "hasNamedMembers", "()Z"⟩ : MethodName)) (z := (⟨"com/example/falkirk/falkirk/model/ShapeType", "hasNamedMembers", "()Z"⟩ : MethodName)) hown (mvT hZ (hw _ (ow 8 rfl))) (mvT hZ (hw _ (ow 9 rfl))) (notFace_of_selects (args := #[]) (mvT hZ (hw _ (ow 11 rfl)))) (mvT hZ (hw _ (ow 11 rfl))) (mvT hZ (hw _ (ow 10 rfl))) (by decide) (backOf (W := 0) (rm_hasNamedMembers l Z a0 hw [] w_RESOURCE h0 n0 w_BLOB w_STRUCTURE w_UNION w_ENUM w_INT_ENUM w_BIG_INTEGER w_BIG_DECIMAL w_SHORT w_STRING w_BYTE w_LONG w_BOOLEAN w_RESOURCE w_MAP w_DOUBLE w_FLOAT w_MEMBER w_SERVICE w_LIST w_OPERATION w_DOCUMENT w_INTEGER w_TIMESTAMP hK) hZ (hw _ (ow 12 rfl)) (hw _ (ow 6 rfl)) (by decide) (by decide)) q2a q2c (g := (mkF m 66 #[.val (.int p1), .val (.int (21 : Int32)), .val (.ref w_RESOURCE), .val (.int (0 : Int32)), .val (.int (0 : Int32)), .val (.int (0 : Int32))] [(.ref w_RESOURCE)])) rfl (by rw [hml]; rfl) (Steps.refl _) (argsL := []) (rest := []) (lenOf pd_1 rfl) rfl (Nat.le_of_eq rfl) (hb hby at_66) (fun _ _ => ⟨rfl, e1, (by decide : 0 + 0 ≤ _), (by decide : 0 + 0 ≤ _)⟩)
  dsimp only [Pt.U, Pt.locs, Pt.cells, Pt.slots] at X2 l2 y2 z2 st2 hQ2
  subst l2 y2 z2
  obtain ⟨hv2, Nq2, e2⟩ := hQ2
  obtain rfl : v2 = some (.int (0 : Int32)) := hv2.trans (congrArg some (congrArg Value.int ((if_neg (Fld.ne F_ordinal_w_RESOURCE F_ordinal_w_STRUCTURE (by decide))).trans ((if_neg (Fld.ne F_ordinal_w_RESOURCE F_ordinal_w_UNION (by decide))).trans ((if_neg (Fld.ne F_ordinal_w_RESOURCE F_ordinal_w_ENUM (by decide))).trans (if_neg (Fld.ne F_ordinal_w_RESOURCE F_ordinal_w_INT_ENUM (by decide))))))))
  have N2 := Fr.app N1 Nq2
  have pre3 : ∀ t, Steps p.tables e below (T2.setTop (mkF m 79 #[.val (.int p1), .val (.int (21 : Int32)), .val (.ref w_RESOURCE), .val (.int (0 : Int32)), .val (.int (0 : Int32)), .val (.int (0 : Int32))] [(.int (1 : Int32))])) t → Steps p.tables e below (s₁.setTop (entryFrame m #[(.int p1)] maxLocals)) t := fun t k => pre0 t (by
    show Steps p.tables e below (s₁.setTop (mkF m 0 #[.val (.int p1), .unset, .unset, .unset, .unset, .unset] [])) _
    refine XS.iloadN X0.here hx rfl (hb hby at_0) rfl ?_
    show Steps p.tables e below (s₁.setTop (mkF m 1 #[.val (.int p1), .unset, .unset, .unset, .unset, .unset] [(.int p1)])) _
    refine X0.ldcInt hx hown (mvT hZ (hw _ (ow 0 rfl))) (g := (mkF m 1 #[.val (.int p1), .unset, .unset, .unset, .unset, .unset] [(.int p1)])) rfl (hb hby at_1) _ ?_
    show Steps p.tables e below (s₁.setTop (mkF m 3 #[.val (.int p1), .unset, .unset, .unset, .unset, .unset] [(.int (2147483647 : Int32)), (.int p1)])) _
    refine XS.iand X0.here hx rfl (hb hby at_3) rfl ?_
    show Steps p.tables e below (s₁.setTop (mkF m 4 #[.val (.int p1), .unset, .unset, .unset, .unset, .unset] [(.int (p1 &&& (2147483647 : Int32)))])) _
    refine XS.bipush X0.here hx rfl (hb hby at_4) ?_
    show Steps p.tables e below (s₁.setTop (mkF m 6 #[.val (.int p1), .unset, .unset, .unset, .unset, .unset] [(.int (23 : Int32)), (.int (p1 &&& (2147483647 : Int32)))])) _
    refine iremM X0 hx rfl (hb hby at_6) rfl (by decide) ?_
    show Steps p.tables e below (s₁.setTop (mkF m 7 #[.val (.int p1), .unset, .unset, .unset, .unset, .unset] [(.int ((p1 &&& (2147483647 : Int32)) % (23 : Int32)))])) _
    rw [hk]
    show Steps p.tables e below (s₁.setTop (mkF m 7 #[.val (.int p1), .unset, .unset, .unset, .unset, .unset] [(.int (21 : Int32))])) _
    refine XS.istoreN X0.here hx rfl (hb hby at_7) rfl (l' := #[.val (.int p1), .val (.int (21 : Int32)), .unset, .unset, .unset, .unset]) rfl ?_
    show Steps p.tables e below (s₁.setTop (mkF m 8 #[.val (.int p1), .val (.int (21 : Int32)), .unset, .unset, .unset, .unset] [])) _
    refine XS.iloadN X0.here hx rfl (hb hby at_8) rfl ?_
    show Steps p.tables e below (s₁.setTop (mkF m 9 #[.val (.int p1), .val (.int (21 : Int32)), .unset, .unset, .unset, .unset] [(.int (21 : Int32))])) _
    refine st1 _ ?_
    show Steps p.tables e below (T1.setTop (mkF m 12 #[.val (.int p1), .val (.int (21 : Int32)), .unset, .unset, .unset, .unset] [(.ref w_RESOURCE)])) _
    refine XS.astoreN X1.here hx rfl (hb hby at_12) rfl rfl (l' := #[.val (.int p1), .val (.int (21 : Int32)), .val (.ref w_RESOURCE), .unset, .unset, .unset]) rfl ?_
    show Steps p.tables e below (T1.setTop (mkF m 13 #[.val (.int p1), .val (.int (21 : Int32)), .val (.ref w_RESOURCE), .unset, .unset, .unset] [])) _
    refine XS.iloadN X1.here hx rfl (hb hby at_13) rfl ?_
    show Steps p.tables e below (T1.setTop (mkF m 14 #[.val (.int p1), .val (.int (21 : Int32)), .val (.ref w_RESOURCE), .unset, .unset, .unset] [(.int (21 : Int32))])) _
    refine XS.bipush X1.here hx rfl (hb hby at_14) ?_
    show Steps p.tables e below (T1.setTop (mkF m 16 #[.val (.int p1), .val (.int (21 : Int32)), .val (.ref w_RESOURCE), .unset, .unset, .unset] [(.int (17 : Int32)), (.int (21 : Int32))])) _
    refine XS.icmpNo X1.here hx rfl (hb hby at_16) rfl (feq (by decide)).1 ?_
    show Steps p.tables e below (T1.setTop (mkF m 19 #[.val (.int p1), .val (.int (21 : Int32)), .val (.ref w_RESOURCE), .unset, .unset, .unset] [])) _
    refine XS.iloadN X1.here hx rfl (hb hby at_19) rfl ?_
    show Steps p.tables e below (T1.setTop (mkF m 20 #[.val (.int p1), .val (.int (21 : Int32)), .val (.ref w_RESOURCE), .unset, .unset, .unset] [(.int (21 : Int32))])) _
    refine XS.bipush X1.here hx rfl (hb hby at_20) ?_
    show Steps p.tables e below (T1.setTop (mkF m 22 #[.val (.int p1), .val (.int (21 : Int32)), .val (.ref w_RESOURCE), .unset, .unset, .unset] [(.int (18 : Int32)), (.int (21 : Int32))])) _
    refine XS.icmpYes X1.here hx rfl (pc0 := 22) (pc' := 29) rfl (hb hby at_22) rfl (feq (by decide)).2 (by decide) (by decide) ?_
    show Steps p.tables e below (T1.setTop (mkF m 29 #[.val (.int p1), .val (.int (21 : Int32)), .val (.ref w_RESOURCE), .unset, .unset, .unset] [])) _
    refine XS.iconst X1.here hx rfl (hb hby at_29) ?_
    show Steps p.tables e below (T1.setTop (mkF m 30 #[.val (.int p1), .val (.int (21 : Int32)), .val (.ref w_RESOURCE), .unset, .unset, .unset] [(.int (0 : Int32))])) _
    refine XS.istoreN X1.here hx rfl (hb hby at_30) rfl (l' := #[.val (.int p1), .val (.int (21 : Int32)), .val (.ref w_RESOURCE), .val (.int (0 : Int32)), .unset, .unset]) rfl ?_
    show Steps p.tables e below (T1.setTop (mkF m 31 #[.val (.int p1), .val (.int (21 : Int32)), .val (.ref w_RESOURCE), .val (.int (0 : Int32)), .unset, .unset] [])) _
    refine XS.iloadN X1.here hx rfl (hb hby at_31) rfl ?_
    show Steps p.tables e below (T1.setTop (mkF m 32 #[.val (.int p1), .val (.int (21 : Int32)), .val (.ref w_RESOURCE), .val (.int (0 : Int32)), .unset, .unset] [(.int (21 : Int32))])) _
    refine XS.iconst X1.here hx rfl (hb hby at_32) ?_
    show Steps p.tables e below (T1.setTop (mkF m 33 #[.val (.int p1), .val (.int (21 : Int32)), .val (.ref w_RESOURCE), .val (.int (0 : Int32)), .unset, .unset] [(.int (3 : Int32)), (.int (21 : Int32))])) _
    refine XS.icmpNo X1.here hx rfl (hb hby at_33) rfl (feq (by decide)).1 ?_
    show Steps p.tables e below (T1.setTop (mkF m 36 #[.val (.int p1), .val (.int (21 : Int32)), .val (.ref w_RESOURCE), .val (.int (0 : Int32)), .unset, .unset] [])) _
    refine XS.iloadN X1.here hx rfl (hb hby at_36) rfl ?_
    show Steps p.tables e below (T1.setTop (mkF m 37 #[.val (.int p1), .val (.int (21 : Int32)), .val (.ref w_RESOURCE), .val (.int (0 : Int32)), .unset, .unset] [(.int (21 : Int32))])) _
    refine XS.bipush X1.here hx rfl (hb hby at_37) ?_
    show Steps p.tables e below (T1.setTop (mkF m 39 #[.val (.int p1), .val (.int (21 : Int32)), .val (.ref w_RESOURCE), .val (.int (0 : Int32)), .unset, .unset] [(.int (7 : Int32)), (.int (21 : Int32))])) _
    refine XS.icmpYes X1.here hx rfl (pc0 := 39) (pc' := 46) rfl (hb hby at_39) rfl (feq (by decide)).2 (by decide) (by decide) ?_
    show Steps p.tables e below (T1.setTop (mkF m 46 #[.val (.int p1), .val (.int (21 : Int32)), .val (.ref w_RESOURCE), .val (.int (0 : Int32)), .unset, .unset] [])) _
    refine XS.iconst X1.here hx rfl (hb hby at_46) ?_
    show Steps p.tables e below (T1.setTop (mkF m 47 #[.val (.int p1), .val (.int (21 : Int32)), .val (.ref w_RESOURCE), .val (.int (0 : Int32)), .unset, .unset] [(.int (0 : Int32))])) _
    refine XS.istore X1.here hx rfl (hb hby at_47) rfl (l' := #[.val (.int p1), .val (.int (21 : Int32)), .val (.ref w_RESOURCE), .val (.int (0 : Int32)), .val (.int (0 : Int32)), .unset]) rfl ?_
    show Steps p.tables e below (T1.setTop (mkF m 49 #[.val (.int p1), .val (.int (21 : Int32)), .val (.ref w_RESOURCE), .val (.int (0 : Int32)), .val (.int (0 : Int32)), .unset] [])) _
    refine XS.iloadN X1.here hx rfl (hb hby at_49) rfl ?_
    show Steps p.tables e below (T1.setTop (mkF m 50 #[.val (.int p1), .val (.int (21 : Int32)), .val (.ref w_RESOURCE), .val (.int (0 : Int32)), .val (.int (0 : Int32)), .unset] [(.int (0 : Int32))])) _
    refine XS.ifNo X1.here hx rfl (hb hby at_50) rfl ((if0 _ _).trans (teq (by decide)).2) ?_
    show Steps p.tables e below (T1.setTop (mkF m 53 #[.val (.int p1), .val (.int (21 : Int32)), .val (.ref w_RESOURCE), .val (.int (0 : Int32)), .val (.int (0 : Int32)), .unset] [])) _
    refine XS.iload X1.here hx rfl (hb hby at_53) rfl ?_
    show Steps p.tables e below (T1.setTop (mkF m 55 #[.val (.int p1), .val (.int (21 : Int32)), .val (.ref w_RESOURCE), .val (.int (0 : Int32)), .val (.int (0 : Int32)), .unset] [(.int (0 : Int32))])) _
    refine XS.ifYes X1.here hx rfl (pc0 := 55) (pc' := 62) rfl (hb hby at_55) rfl ((if0 _ _).trans (teq (by decide)).1) (by decide) (by decide) ?_
    show Steps p.tables e below (T1.setTop (mkF m 62 #[.val (.int p1), .val (.int (21 : Int32)), .val (.ref w_RESOURCE), .val (.int (0 : Int32)), .val (.int (0 : Int32)), .unset] [])) _
    refine XS.iconst X1.here hx rfl (hb hby at_62) ?_
    show Steps p.tables e below (T1.setTop (mkF m 63 #[.val (.int p1), .val (.int (21 : Int32)), .val (.ref w_RESOURCE), .val (.int (0 : Int32)), .val (.int (0 : Int32)), .unset] [(.int (0 : Int32))])) _
    refine XS.istore X1.here hx rfl (hb hby at_63) rfl (l' := #[.val (.int p1), .val (.int (21 : Int32)), .val (.ref w_RESOURCE), .val (.int (0 : Int32)), .val (.int (0 : Int32)), .val (.int (0 : Int32))]) rfl ?_
    show Steps p.tables e below (T1.setTop (mkF m 65 #[.val (.int p1), .val (.int (21 : Int32)), .val (.ref w_RESOURCE), .val (.int (0 : Int32)), .val (.int (0 : Int32)), .val (.int (0 : Int32))] [])) _
    refine XS.aloadN X1.here hx rfl (hb hby at_65) rfl rfl ?_
    show Steps p.tables e below (T1.setTop (mkF m 66 #[.val (.int p1), .val (.int (21 : Int32)), .val (.ref w_RESOURCE), .val (.int (0 : Int32)), .val (.int (0 : Int32)), .val (.int (0 : Int32))] [(.ref w_RESOURCE)])) _
    refine st2.trans ?_
    show Steps p.tables e below (T2.setTop (mkF m 69 #[.val (.int p1), .val (.int (21 : Int32)), .val (.ref w_RESOURCE), .val (.int (0 : Int32)), .val (.int (0 : Int32)), .val (.int (0 : Int32))] [(.int (0 : Int32))])) _
    refine XS.iload X2.here hx rfl (hb hby at_69) rfl ?_
    show Steps p.tables e below (T2.setTop (mkF m 71 #[.val (.int p1), .val (.int (21 : Int32)), .val (.ref w_RESOURCE), .val (.int (0 : Int32)), .val (.int (0 : Int32)), .val (.int (0 : Int32))] [(.int (0 : Int32)), (.int (0 : Int32))])) _
    refine XS.icmpNo X2.here hx rfl (hb hby at_71) rfl (teq (by decide)).2 ?_
    show Steps p.tables e below (T2.setTop (mkF m 74 #[.val (.int p1), .val (.int (21 : Int32)), .val (.ref w_RESOURCE), .val (.int (0 : Int32)), .val (.int (0 : Int32)), .val (.int (0 : Int32))] [])) _
    refine XS.iconst X2.here hx rfl (hb hby at_74) ?_
    show Steps p.tables e below (T2.setTop (mkF m 75 #[.val (.int p1), .val (.int (21 : Int32)), .val (.ref w_RESOURCE), .val (.int (0 : Int32)), .val (.int (0 : Int32)), .val (.int (0 : Int32))] [(.int (1 : Int32))])) _
    refine XS.goto X2.here hx rfl (pc0 := 75) (pc' := 79) rfl (hb hby at_75) (by decide) (by decide) ?_
    exact k)
  obtain ⟨fs, hr, hrun, hended, hW, hsame⟩ := X2.leave (v := some (.int (1 : Int32))) (fun h => by rw [Bd.returns] at h; cases h)
  refine ⟨_, _, pre3 _ ?_, hrun, hended, _, _, rfl, ?_, ⟨_, rfl⟩, hW, hsame.mono (by decide) (by decide)⟩
  · show Steps p.tables e below (T2.setTop (mkF m 79 #[.val (.int p1), .val (.int (21 : Int32)), .val (.ref w_RESOURCE), .val (.int (0 : Int32)), .val (.int (0 : Int32)), .val (.int (0 : Int32))] [(.int (1 : Int32))])) _
    exact retN X2 hx (t := .boolean) Bd.returns (by simp) (hb hby at_79) hr
  · exact ⟨rfl, N2, e2⟩
theorem ef_law22 (m : MethodId) (x0 : Int32) : entryFrame m #[(.int x0)] maxLocals = mkF m 0 #[.val (.int x0), .unset, .unset, .unset, .unset, .unset] [] := by first | (simp [entryFrame, mkF, argsToLocals, Value.category, maxLocals]; done) | rfl
set_option maxRecDepth 65536 in
set_option maxHeartbeats 40000000 in
theorem rm_law22 (l : Launch) (Z : State) (a0 : Array Value) (hw : ∀ d ∈ tables_1, d.before a0 Z = true) (ws : List Jvm.Cond) (p1 : Int32) (h0 : Heap) (n0 : Nat) (w_BLOB w_STRUCTURE w_UNION w_ENUM w_INT_ENUM w_BIG_INTEGER w_BIG_DECIMAL w_SHORT w_STRING w_BYTE w_LONG w_BOOLEAN w_RESOURCE w_MAP w_DOUBLE w_FLOAT w_MEMBER w_SERVICE w_LIST w_OPERATION w_DOCUMENT w_INTEGER w_TIMESTAMP : Addr) (hK : own_K Z h0 w_BLOB w_STRUCTURE w_UNION w_ENUM w_INT_ENUM w_BIG_INTEGER w_BIG_DECIMAL w_SHORT w_STRING w_BYTE w_LONG w_BOOLEAN w_RESOURCE w_MAP w_DOUBLE w_FLOAT w_MEMBER w_SERVICE w_LIST w_OPERATION w_DOCUMENT w_INTEGER w_TIMESTAMP) (hk : ((p1 &&& (2147483647 : Int32)) % (23 : Int32)) = (22 : Int32)) :
    MetFree l x (head1 (Jvm.Cond.code x code maxLocals ret :: ws) room_1) (fun a U => a = #[(.int p1)] ∧ Z.Warmed39 U.vm ∧ U.heap = h0) (fun _ _ _ _ _ => True) (fun _ U o U' => ∃ v L, o = .returned v ∧ own_Q (some (.int (1 : Int32))) h0 n0 v U'.heap L ∧ FrameEnd U o U' L room_1.cells room_1.slots) := by
  refine MetFree.of_bodySF (plainFor_of_name pn_0) hisR ?_
  intro p e s m args below meth c s₁ Bd hml0 hP hK0
  obtain ⟨rfl, hZ, hh⟩ := hP
  have hx := Bd.exec
  have hby := Bd.bytes
  have hml : c.maxLocals = 6 := hml0
  have hown : s.vm.findClass "com/example/falkirk/falkirk/model/ShapeTypeHasNamedMembersPinLaw" = some m.cls := findClass_of_methodNamed Bd.named
  have hnm := (name_of_methodNamed Bd.named Bd.method).1
  have X0 : Stand p l e room_1 s m #[(.int p1)] below meth c s₁ [] 0 0 := Stand.of_body Bd
  have e0 : s₁.heap = h0 := by rw [← hh, Bd.state]; rfl
  have N0 := Fr.nil n0
  have pre0 : ∀ t, Steps p.tables e below (s₁.setTop (mkF m 0 #[.val (.int p1), .unset, .unset, .unset, .unset, .unset] [])) t → Steps p.tables e below (s₁.setTop (entryFrame m #[(.int p1)] maxLocals)) t := fun t k => castTop (ef_law22 m p1) k
  have hK' := hK
  obtain ⟨S_w_BLOB, E_w_BLOB, S_w_STRUCTURE, E_w_STRUCTURE, F_ordinal_w_BLOB, F_ordinal_w_STRUCTURE, S_w_UNION, E_w_UNION, F_ordinal_w_UNION, S_w_ENUM, E_w_ENUM, F_ordinal_w_ENUM, S_w_INT_ENUM, E_w_INT_ENUM, F_ordinal_w_INT_ENUM, S_w_BIG_INTEGER, E_w_BIG_INTEGER, F_ordinal_w_BIG_INTEGER, S_w_BIG_DECIMAL, E_w_BIG_DECIMAL, F_ordinal_w_BIG_DECIMAL, S_w_SHORT, E_w_SHORT, F_ordinal_w_SHORT, S_w_STRING, E_w_STRING, F_ordinal_w_STRING, S_w_BYTE, E_w_BYTE, F_ordinal_w_BYTE, S_w_LONG, E_w_LONG, F_ordinal_w_LONG, S_w_BOOLEAN, E_w_BOOLEAN, F_ordinal_w_BOOLEAN, S_w_RESOURCE, E_w_RESOURCE, F_ordinal_w_RESOURCE, S_w_MAP, E_w_MAP, F_ordinal_w_MAP, S_w_DOUBLE, E_w_DOUBLE, F_ordinal_w_DOUBLE, S_w_FLOAT, E_w_FLOAT, F_ordinal_w_FLOAT, S_w_MEMBER, E_w_MEMBER, F_ordinal_w_MEMBER, S_w_SERVICE, E_w_SERVICE, F_ordinal_w_SERVICE, S_w_LIST, E_w_LIST, F_ordinal_w_LIST, S_w_OPERATION, E_w_OPERATION, F_ordinal_w_OPERATION, S_w_DOCUMENT, E_w_DOCUMENT, F_ordinal_w_DOCUMENT, S_w_INTEGER, E_w_INTEGER, F_ordinal_w_INTEGER, S_w_TIMESTAMP, E_w_TIMESTAMP, F_ordinal_w_TIMESTAMP⟩ := hK'
  obtain ⟨v1, _, ⟨T1, L1, k1, n1⟩, -, X1, ⟨Lc1, hQ1, l1, y1, z1⟩, st1⟩ := Jvm.LawKit.callS X0 hx (y := (⟨"com/example/falkirk/falkirk/model/ShapeTypeHasNamedMembersPinLaw", "pick", "(I)Lcom/example/falkirk/falkirk/model/ShapeType;"⟩ : MethodName)) hown (mvT hZ (hw _ (ow 1 rfl))) (mvT hZ (hw _ (ow 2 rfl))) (mvT hZ (hw _ (ow 3 rfl))) (mvT hZ (hw _ (ow 4 rfl))) (by decide) (backOf (W := 0) (rm_pick l Z a0 hw [] (22 : Int32) h0 n0 w_BLOB w_STRUCTURE w_UNION w_ENUM w_INT_ENUM w_BIG_INTEGER w_BIG_DECIMAL w_SHORT w_STRING w_BYTE w_LONG w_BOOLEAN w_RESOURCE w_MAP w_DOUBLE w_FLOAT w_MEMBER w_SERVICE w_LIST w_OPERATION w_DOCUMENT w_INTEGER w_TIMESTAMP hK) hZ (hw _ (ow 4 rfl)) (hw _ (ow 3 rfl)) (by decide) (by decide)) (g := (mkF m 9 #[.val (.int p1), .val (.int (22 : Int32)), .unset, .unset, .unset, .unset] [(.int (22 : Int32))])) rfl (by rw [hml]; rfl) (argsL := [(.int (22 : Int32))]) (rest := []) (lenOf pd_0 rfl) rfl (Nat.le_of_eq rfl) (hb hby at_9) (fun _ _ => ⟨rfl, e0, (by decide : 0 + 0 ≤ _), (by decide : 0 + 0 ≤ _)⟩)
  dsimp only [Pt.U, Pt.locs, Pt.cells, Pt.slots] at X1 l1 y1 z1 st1 hQ1
  subst l1 y1 z1
  obtain ⟨hv1, Nq1, e1⟩ := hQ1
  obtain rfl : v1 = some (.ref w_MEMBER) := hv1.trans (congrArg some (congrArg Value.ref ((if_neg (by decide)).trans ((if_neg (by decide)).trans ((if_neg (by decide)).trans ((if_neg (by decide)).trans ((if_neg (by decide)).trans ((if_neg (by decide)).trans ((if_neg (by decide)).trans ((if_neg (by decide)).trans ((if_neg (by decide)).trans ((if_neg (by decide)).trans ((if_neg (by decide)).trans ((if_neg (by decide)).trans ((if_neg (by decide)).trans ((if_neg (by decide)).trans ((if_neg (by decide)).trans ((if_neg (by decide)).trans ((if_neg (by decide)).trans ((if_neg (by decide)).trans ((if_neg (by decide)).trans ((if_neg (by decide)).trans ((if_neg (by decide)).trans (if_neg (by decide)))))))))))))))))))))))))
  have N1 := Fr.app N0 Nq1
  obtain ⟨cq2, kq2, q2a, q2b, q2c⟩ := isOf hZ e1 E_w_MEMBER
  obtain ⟨v2, _, ⟨T2, L2, k2, n2⟩, -, X2, ⟨Lc2, hQ2, l2, y2, z2⟩, st2⟩ := X1.virtualBack hx (y := (⟨"com/example/falkirk/falkirk/model/ShapeType", "hasNamedMembers", "()Z"⟩ : MethodName)) (z := (⟨"com/example/falkirk/falkirk/model/ShapeType", "hasNamedMembers", "()Z"⟩ : MethodName)) hown (mvT hZ (hw _ (ow 8 rfl))) (mvT hZ (hw _ (ow 9 rfl))) (notFace_of_selects (args := #[]) (mvT hZ (hw _ (ow 11 rfl)))) (mvT hZ (hw _ (ow 11 rfl))) (mvT hZ (hw _ (ow 10 rfl))) (by decide) (backOf (W := 0) (rm_hasNamedMembers l Z a0 hw [] w_MEMBER h0 n0 w_BLOB w_STRUCTURE w_UNION w_ENUM w_INT_ENUM w_BIG_INTEGER w_BIG_DECIMAL w_SHORT w_STRING w_BYTE w_LONG w_BOOLEAN w_RESOURCE w_MAP w_DOUBLE w_FLOAT w_MEMBER w_SERVICE w_LIST w_OPERATION w_DOCUMENT w_INTEGER w_TIMESTAMP hK) hZ (hw _ (ow 12 rfl)) (hw _ (ow 6 rfl)) (by decide) (by decide)) q2a q2c (g := (mkF m 66 #[.val (.int p1), .val (.int (22 : Int32)), .val (.ref w_MEMBER), .val (.int (0 : Int32)), .val (.int (0 : Int32)), .val (.int (0 : Int32))] [(.ref w_MEMBER)])) rfl (by rw [hml]; rfl) (Steps.refl _) (argsL := []) (rest := []) (lenOf pd_1 rfl) rfl (Nat.le_of_eq rfl) (hb hby at_66) (fun _ _ => ⟨rfl, e1, (by decide : 0 + 0 ≤ _), (by decide : 0 + 0 ≤ _)⟩)
  dsimp only [Pt.U, Pt.locs, Pt.cells, Pt.slots] at X2 l2 y2 z2 st2 hQ2
  subst l2 y2 z2
  obtain ⟨hv2, Nq2, e2⟩ := hQ2
  obtain rfl : v2 = some (.int (0 : Int32)) := hv2.trans (congrArg some (congrArg Value.int ((if_neg (Fld.ne F_ordinal_w_MEMBER F_ordinal_w_STRUCTURE (by decide))).trans ((if_neg (Fld.ne F_ordinal_w_MEMBER F_ordinal_w_UNION (by decide))).trans ((if_neg (Fld.ne F_ordinal_w_MEMBER F_ordinal_w_ENUM (by decide))).trans (if_neg (Fld.ne F_ordinal_w_MEMBER F_ordinal_w_INT_ENUM (by decide))))))))
  have N2 := Fr.app N1 Nq2
  have pre3 : ∀ t, Steps p.tables e below (T2.setTop (mkF m 79 #[.val (.int p1), .val (.int (22 : Int32)), .val (.ref w_MEMBER), .val (.int (0 : Int32)), .val (.int (0 : Int32)), .val (.int (0 : Int32))] [(.int (1 : Int32))])) t → Steps p.tables e below (s₁.setTop (entryFrame m #[(.int p1)] maxLocals)) t := fun t k => pre0 t (by
    show Steps p.tables e below (s₁.setTop (mkF m 0 #[.val (.int p1), .unset, .unset, .unset, .unset, .unset] [])) _
    refine XS.iloadN X0.here hx rfl (hb hby at_0) rfl ?_
    show Steps p.tables e below (s₁.setTop (mkF m 1 #[.val (.int p1), .unset, .unset, .unset, .unset, .unset] [(.int p1)])) _
    refine X0.ldcInt hx hown (mvT hZ (hw _ (ow 0 rfl))) (g := (mkF m 1 #[.val (.int p1), .unset, .unset, .unset, .unset, .unset] [(.int p1)])) rfl (hb hby at_1) _ ?_
    show Steps p.tables e below (s₁.setTop (mkF m 3 #[.val (.int p1), .unset, .unset, .unset, .unset, .unset] [(.int (2147483647 : Int32)), (.int p1)])) _
    refine XS.iand X0.here hx rfl (hb hby at_3) rfl ?_
    show Steps p.tables e below (s₁.setTop (mkF m 4 #[.val (.int p1), .unset, .unset, .unset, .unset, .unset] [(.int (p1 &&& (2147483647 : Int32)))])) _
    refine XS.bipush X0.here hx rfl (hb hby at_4) ?_
    show Steps p.tables e below (s₁.setTop (mkF m 6 #[.val (.int p1), .unset, .unset, .unset, .unset, .unset] [(.int (23 : Int32)), (.int (p1 &&& (2147483647 : Int32)))])) _
    refine iremM X0 hx rfl (hb hby at_6) rfl (by decide) ?_
    show Steps p.tables e below (s₁.setTop (mkF m 7 #[.val (.int p1), .unset, .unset, .unset, .unset, .unset] [(.int ((p1 &&& (2147483647 : Int32)) % (23 : Int32)))])) _
    rw [hk]
    show Steps p.tables e below (s₁.setTop (mkF m 7 #[.val (.int p1), .unset, .unset, .unset, .unset, .unset] [(.int (22 : Int32))])) _
    refine XS.istoreN X0.here hx rfl (hb hby at_7) rfl (l' := #[.val (.int p1), .val (.int (22 : Int32)), .unset, .unset, .unset, .unset]) rfl ?_
    show Steps p.tables e below (s₁.setTop (mkF m 8 #[.val (.int p1), .val (.int (22 : Int32)), .unset, .unset, .unset, .unset] [])) _
    refine XS.iloadN X0.here hx rfl (hb hby at_8) rfl ?_
    show Steps p.tables e below (s₁.setTop (mkF m 9 #[.val (.int p1), .val (.int (22 : Int32)), .unset, .unset, .unset, .unset] [(.int (22 : Int32))])) _
    refine st1 _ ?_
    show Steps p.tables e below (T1.setTop (mkF m 12 #[.val (.int p1), .val (.int (22 : Int32)), .unset, .unset, .unset, .unset] [(.ref w_MEMBER)])) _
    refine XS.astoreN X1.here hx rfl (hb hby at_12) rfl rfl (l' := #[.val (.int p1), .val (.int (22 : Int32)), .val (.ref w_MEMBER), .unset, .unset, .unset]) rfl ?_
    show Steps p.tables e below (T1.setTop (mkF m 13 #[.val (.int p1), .val (.int (22 : Int32)), .val (.ref w_MEMBER), .unset, .unset, .unset] [])) _
    refine XS.iloadN X1.here hx rfl (hb hby at_13) rfl ?_
    show Steps p.tables e below (T1.setTop (mkF m 14 #[.val (.int p1), .val (.int (22 : Int32)), .val (.ref w_MEMBER), .unset, .unset, .unset] [(.int (22 : Int32))])) _
    refine XS.bipush X1.here hx rfl (hb hby at_14) ?_
    show Steps p.tables e below (T1.setTop (mkF m 16 #[.val (.int p1), .val (.int (22 : Int32)), .val (.ref w_MEMBER), .unset, .unset, .unset] [(.int (17 : Int32)), (.int (22 : Int32))])) _
    refine XS.icmpNo X1.here hx rfl (hb hby at_16) rfl (feq (by decide)).1 ?_
    show Steps p.tables e below (T1.setTop (mkF m 19 #[.val (.int p1), .val (.int (22 : Int32)), .val (.ref w_MEMBER), .unset, .unset, .unset] [])) _
    refine XS.iloadN X1.here hx rfl (hb hby at_19) rfl ?_
    show Steps p.tables e below (T1.setTop (mkF m 20 #[.val (.int p1), .val (.int (22 : Int32)), .val (.ref w_MEMBER), .unset, .unset, .unset] [(.int (22 : Int32))])) _
    refine XS.bipush X1.here hx rfl (hb hby at_20) ?_
    show Steps p.tables e below (T1.setTop (mkF m 22 #[.val (.int p1), .val (.int (22 : Int32)), .val (.ref w_MEMBER), .unset, .unset, .unset] [(.int (18 : Int32)), (.int (22 : Int32))])) _
    refine XS.icmpYes X1.here hx rfl (pc0 := 22) (pc' := 29) rfl (hb hby at_22) rfl (feq (by decide)).2 (by decide) (by decide) ?_
    show Steps p.tables e below (T1.setTop (mkF m 29 #[.val (.int p1), .val (.int (22 : Int32)), .val (.ref w_MEMBER), .unset, .unset, .unset] [])) _
    refine XS.iconst X1.here hx rfl (hb hby at_29) ?_
    show Steps p.tables e below (T1.setTop (mkF m 30 #[.val (.int p1), .val (.int (22 : Int32)), .val (.ref w_MEMBER), .unset, .unset, .unset] [(.int (0 : Int32))])) _
    refine XS.istoreN X1.here hx rfl (hb hby at_30) rfl (l' := #[.val (.int p1), .val (.int (22 : Int32)), .val (.ref w_MEMBER), .val (.int (0 : Int32)), .unset, .unset]) rfl ?_
    show Steps p.tables e below (T1.setTop (mkF m 31 #[.val (.int p1), .val (.int (22 : Int32)), .val (.ref w_MEMBER), .val (.int (0 : Int32)), .unset, .unset] [])) _
    refine XS.iloadN X1.here hx rfl (hb hby at_31) rfl ?_
    show Steps p.tables e below (T1.setTop (mkF m 32 #[.val (.int p1), .val (.int (22 : Int32)), .val (.ref w_MEMBER), .val (.int (0 : Int32)), .unset, .unset] [(.int (22 : Int32))])) _
    refine XS.iconst X1.here hx rfl (hb hby at_32) ?_
    show Steps p.tables e below (T1.setTop (mkF m 33 #[.val (.int p1), .val (.int (22 : Int32)), .val (.ref w_MEMBER), .val (.int (0 : Int32)), .unset, .unset] [(.int (3 : Int32)), (.int (22 : Int32))])) _
    refine XS.icmpNo X1.here hx rfl (hb hby at_33) rfl (feq (by decide)).1 ?_
    show Steps p.tables e below (T1.setTop (mkF m 36 #[.val (.int p1), .val (.int (22 : Int32)), .val (.ref w_MEMBER), .val (.int (0 : Int32)), .unset, .unset] [])) _
    refine XS.iloadN X1.here hx rfl (hb hby at_36) rfl ?_
    show Steps p.tables e below (T1.setTop (mkF m 37 #[.val (.int p1), .val (.int (22 : Int32)), .val (.ref w_MEMBER), .val (.int (0 : Int32)), .unset, .unset] [(.int (22 : Int32))])) _
    refine XS.bipush X1.here hx rfl (hb hby at_37) ?_
    show Steps p.tables e below (T1.setTop (mkF m 39 #[.val (.int p1), .val (.int (22 : Int32)), .val (.ref w_MEMBER), .val (.int (0 : Int32)), .unset, .unset] [(.int (7 : Int32)), (.int (22 : Int32))])) _
    refine XS.icmpYes X1.here hx rfl (pc0 := 39) (pc' := 46) rfl (hb hby at_39) rfl (feq (by decide)).2 (by decide) (by decide) ?_
    show Steps p.tables e below (T1.setTop (mkF m 46 #[.val (.int p1), .val (.int (22 : Int32)), .val (.ref w_MEMBER), .val (.int (0 : Int32)), .unset, .unset] [])) _
    refine XS.iconst X1.here hx rfl (hb hby at_46) ?_
    show Steps p.tables e below (T1.setTop (mkF m 47 #[.val (.int p1), .val (.int (22 : Int32)), .val (.ref w_MEMBER), .val (.int (0 : Int32)), .unset, .unset] [(.int (0 : Int32))])) _
    refine XS.istore X1.here hx rfl (hb hby at_47) rfl (l' := #[.val (.int p1), .val (.int (22 : Int32)), .val (.ref w_MEMBER), .val (.int (0 : Int32)), .val (.int (0 : Int32)), .unset]) rfl ?_
    show Steps p.tables e below (T1.setTop (mkF m 49 #[.val (.int p1), .val (.int (22 : Int32)), .val (.ref w_MEMBER), .val (.int (0 : Int32)), .val (.int (0 : Int32)), .unset] [])) _
    refine XS.iloadN X1.here hx rfl (hb hby at_49) rfl ?_
    show Steps p.tables e below (T1.setTop (mkF m 50 #[.val (.int p1), .val (.int (22 : Int32)), .val (.ref w_MEMBER), .val (.int (0 : Int32)), .val (.int (0 : Int32)), .unset] [(.int (0 : Int32))])) _
    refine XS.ifNo X1.here hx rfl (hb hby at_50) rfl ((if0 _ _).trans (teq (by decide)).2) ?_
    show Steps p.tables e below (T1.setTop (mkF m 53 #[.val (.int p1), .val (.int (22 : Int32)), .val (.ref w_MEMBER), .val (.int (0 : Int32)), .val (.int (0 : Int32)), .unset] [])) _
    refine XS.iload X1.here hx rfl (hb hby at_53) rfl ?_
    show Steps p.tables e below (T1.setTop (mkF m 55 #[.val (.int p1), .val (.int (22 : Int32)), .val (.ref w_MEMBER), .val (.int (0 : Int32)), .val (.int (0 : Int32)), .unset] [(.int (0 : Int32))])) _
    refine XS.ifYes X1.here hx rfl (pc0 := 55) (pc' := 62) rfl (hb hby at_55) rfl ((if0 _ _).trans (teq (by decide)).1) (by decide) (by decide) ?_
    show Steps p.tables e below (T1.setTop (mkF m 62 #[.val (.int p1), .val (.int (22 : Int32)), .val (.ref w_MEMBER), .val (.int (0 : Int32)), .val (.int (0 : Int32)), .unset] [])) _
    refine XS.iconst X1.here hx rfl (hb hby at_62) ?_
    show Steps p.tables e below (T1.setTop (mkF m 63 #[.val (.int p1), .val (.int (22 : Int32)), .val (.ref w_MEMBER), .val (.int (0 : Int32)), .val (.int (0 : Int32)), .unset] [(.int (0 : Int32))])) _
    refine XS.istore X1.here hx rfl (hb hby at_63) rfl (l' := #[.val (.int p1), .val (.int (22 : Int32)), .val (.ref w_MEMBER), .val (.int (0 : Int32)), .val (.int (0 : Int32)), .val (.int (0 : Int32))]) rfl ?_
    show Steps p.tables e below (T1.setTop (mkF m 65 #[.val (.int p1), .val (.int (22 : Int32)), .val (.ref w_MEMBER), .val (.int (0 : Int32)), .val (.int (0 : Int32)), .val (.int (0 : Int32))] [])) _
    refine XS.aloadN X1.here hx rfl (hb hby at_65) rfl rfl ?_
    show Steps p.tables e below (T1.setTop (mkF m 66 #[.val (.int p1), .val (.int (22 : Int32)), .val (.ref w_MEMBER), .val (.int (0 : Int32)), .val (.int (0 : Int32)), .val (.int (0 : Int32))] [(.ref w_MEMBER)])) _
    refine st2.trans ?_
    show Steps p.tables e below (T2.setTop (mkF m 69 #[.val (.int p1), .val (.int (22 : Int32)), .val (.ref w_MEMBER), .val (.int (0 : Int32)), .val (.int (0 : Int32)), .val (.int (0 : Int32))] [(.int (0 : Int32))])) _
    refine XS.iload X2.here hx rfl (hb hby at_69) rfl ?_
    show Steps p.tables e below (T2.setTop (mkF m 71 #[.val (.int p1), .val (.int (22 : Int32)), .val (.ref w_MEMBER), .val (.int (0 : Int32)), .val (.int (0 : Int32)), .val (.int (0 : Int32))] [(.int (0 : Int32)), (.int (0 : Int32))])) _
    refine XS.icmpNo X2.here hx rfl (hb hby at_71) rfl (teq (by decide)).2 ?_
    show Steps p.tables e below (T2.setTop (mkF m 74 #[.val (.int p1), .val (.int (22 : Int32)), .val (.ref w_MEMBER), .val (.int (0 : Int32)), .val (.int (0 : Int32)), .val (.int (0 : Int32))] [])) _
    refine XS.iconst X2.here hx rfl (hb hby at_74) ?_
    show Steps p.tables e below (T2.setTop (mkF m 75 #[.val (.int p1), .val (.int (22 : Int32)), .val (.ref w_MEMBER), .val (.int (0 : Int32)), .val (.int (0 : Int32)), .val (.int (0 : Int32))] [(.int (1 : Int32))])) _
    refine XS.goto X2.here hx rfl (pc0 := 75) (pc' := 79) rfl (hb hby at_75) (by decide) (by decide) ?_
    exact k)
  obtain ⟨fs, hr, hrun, hended, hW, hsame⟩ := X2.leave (v := some (.int (1 : Int32))) (fun h => by rw [Bd.returns] at h; cases h)
  refine ⟨_, _, pre3 _ ?_, hrun, hended, _, _, rfl, ?_, ⟨_, rfl⟩, hW, hsame.mono (by decide) (by decide)⟩
  · show Steps p.tables e below (T2.setTop (mkF m 79 #[.val (.int p1), .val (.int (22 : Int32)), .val (.ref w_MEMBER), .val (.int (0 : Int32)), .val (.int (0 : Int32)), .val (.int (0 : Int32))] [(.int (1 : Int32))])) _
    exact retN X2 hx (t := .boolean) Bd.returns (by simp) (hb hby at_79) hr
  · exact ⟨rfl, N2, e2⟩
theorem own_cases (y : Int32) (h0 : 0 ≤ y.toInt) (h1 : y.toInt < 23) : y = (0 : Int32) ∨ y = (1 : Int32) ∨ y = (2 : Int32) ∨ y = (3 : Int32) ∨ y = (4 : Int32) ∨ y = (5 : Int32) ∨ y = (6 : Int32) ∨ y = (7 : Int32) ∨ y = (8 : Int32) ∨ y = (9 : Int32) ∨ y = (10 : Int32) ∨ y = (11 : Int32) ∨ y = (12 : Int32) ∨ y = (13 : Int32) ∨ y = (14 : Int32) ∨ y = (15 : Int32) ∨ y = (16 : Int32) ∨ y = (17 : Int32) ∨ y = (18 : Int32) ∨ y = (19 : Int32) ∨ y = (20 : Int32) ∨ y = (21 : Int32) ∨ y = (22 : Int32) := by
  have q : y.toInt = 0 ∨ y.toInt = 1 ∨ y.toInt = 2 ∨ y.toInt = 3 ∨ y.toInt = 4 ∨ y.toInt = 5 ∨ y.toInt = 6 ∨ y.toInt = 7 ∨ y.toInt = 8 ∨ y.toInt = 9 ∨ y.toInt = 10 ∨ y.toInt = 11 ∨ y.toInt = 12 ∨ y.toInt = 13 ∨ y.toInt = 14 ∨ y.toInt = 15 ∨ y.toInt = 16 ∨ y.toInt = 17 ∨ y.toInt = 18 ∨ y.toInt = 19 ∨ y.toInt = 20 ∨ y.toInt = 21 ∨ y.toInt = 22 := by omega
  rcases q with q | q | q | q | q | q | q | q | q | q | q | q | q | q | q | q | q | q | q | q | q | q | q
  · exact Or.inl (Int32.toInt_inj.mp q)
  · exact Or.inr (Or.inl (Int32.toInt_inj.mp q))
  · exact Or.inr (Or.inr (Or.inl (Int32.toInt_inj.mp q)))
  · exact Or.inr (Or.inr (Or.inr (Or.inl (Int32.toInt_inj.mp q))))
  · exact Or.inr (Or.inr (Or.inr (Or.inr (Or.inl (Int32.toInt_inj.mp q)))))
  · exact Or.inr (Or.inr (Or.inr (Or.inr (Or.inr (Or.inl (Int32.toInt_inj.mp q))))))
  · exact Or.inr (Or.inr (Or.inr (Or.inr (Or.inr (Or.inr (Or.inl (Int32.toInt_inj.mp q)))))))
  · exact Or.inr (Or.inr (Or.inr (Or.inr (Or.inr (Or.inr (Or.inr (Or.inl (Int32.toInt_inj.mp q))))))))
  · exact Or.inr (Or.inr (Or.inr (Or.inr (Or.inr (Or.inr (Or.inr (Or.inr (Or.inl (Int32.toInt_inj.mp q)))))))))
  · exact Or.inr (Or.inr (Or.inr (Or.inr (Or.inr (Or.inr (Or.inr (Or.inr (Or.inr (Or.inl (Int32.toInt_inj.mp q))))))))))
  · exact Or.inr (Or.inr (Or.inr (Or.inr (Or.inr (Or.inr (Or.inr (Or.inr (Or.inr (Or.inr (Or.inl (Int32.toInt_inj.mp q)))))))))))
  · exact Or.inr (Or.inr (Or.inr (Or.inr (Or.inr (Or.inr (Or.inr (Or.inr (Or.inr (Or.inr (Or.inr (Or.inl (Int32.toInt_inj.mp q))))))))))))
  · exact Or.inr (Or.inr (Or.inr (Or.inr (Or.inr (Or.inr (Or.inr (Or.inr (Or.inr (Or.inr (Or.inr (Or.inr (Or.inl (Int32.toInt_inj.mp q)))))))))))))
  · exact Or.inr (Or.inr (Or.inr (Or.inr (Or.inr (Or.inr (Or.inr (Or.inr (Or.inr (Or.inr (Or.inr (Or.inr (Or.inr (Or.inl (Int32.toInt_inj.mp q))))))))))))))
  · exact Or.inr (Or.inr (Or.inr (Or.inr (Or.inr (Or.inr (Or.inr (Or.inr (Or.inr (Or.inr (Or.inr (Or.inr (Or.inr (Or.inr (Or.inl (Int32.toInt_inj.mp q)))))))))))))))
  · exact Or.inr (Or.inr (Or.inr (Or.inr (Or.inr (Or.inr (Or.inr (Or.inr (Or.inr (Or.inr (Or.inr (Or.inr (Or.inr (Or.inr (Or.inr (Or.inl (Int32.toInt_inj.mp q))))))))))))))))
  · exact Or.inr (Or.inr (Or.inr (Or.inr (Or.inr (Or.inr (Or.inr (Or.inr (Or.inr (Or.inr (Or.inr (Or.inr (Or.inr (Or.inr (Or.inr (Or.inr (Or.inl (Int32.toInt_inj.mp q)))))))))))))))))
  · exact Or.inr (Or.inr (Or.inr (Or.inr (Or.inr (Or.inr (Or.inr (Or.inr (Or.inr (Or.inr (Or.inr (Or.inr (Or.inr (Or.inr (Or.inr (Or.inr (Or.inr (Or.inl (Int32.toInt_inj.mp q))))))))))))))))))
  · exact Or.inr (Or.inr (Or.inr (Or.inr (Or.inr (Or.inr (Or.inr (Or.inr (Or.inr (Or.inr (Or.inr (Or.inr (Or.inr (Or.inr (Or.inr (Or.inr (Or.inr (Or.inr (Or.inl (Int32.toInt_inj.mp q)))))))))))))))))))
  · exact Or.inr (Or.inr (Or.inr (Or.inr (Or.inr (Or.inr (Or.inr (Or.inr (Or.inr (Or.inr (Or.inr (Or.inr (Or.inr (Or.inr (Or.inr (Or.inr (Or.inr (Or.inr (Or.inr (Or.inl (Int32.toInt_inj.mp q))))))))))))))))))))
  · exact Or.inr (Or.inr (Or.inr (Or.inr (Or.inr (Or.inr (Or.inr (Or.inr (Or.inr (Or.inr (Or.inr (Or.inr (Or.inr (Or.inr (Or.inr (Or.inr (Or.inr (Or.inr (Or.inr (Or.inr (Or.inl (Int32.toInt_inj.mp q)))))))))))))))))))))
  · exact Or.inr (Or.inr (Or.inr (Or.inr (Or.inr (Or.inr (Or.inr (Or.inr (Or.inr (Or.inr (Or.inr (Or.inr (Or.inr (Or.inr (Or.inr (Or.inr (Or.inr (Or.inr (Or.inr (Or.inr (Or.inr (Or.inl (Int32.toInt_inj.mp q))))))))))))))))))))))
  · exact Or.inr (Or.inr (Or.inr (Or.inr (Or.inr (Or.inr (Or.inr (Or.inr (Or.inr (Or.inr (Or.inr (Or.inr (Or.inr (Or.inr (Or.inr (Or.inr (Or.inr (Or.inr (Or.inr (Or.inr (Or.inr (Or.inr (Int32.toInt_inj.mp q))))))))))))))))))))))
theorem rm_law (l : Launch) (Z : State) (a0 : Array Value) (hw : ∀ d ∈ tables_1, d.before a0 Z = true) (ws : List Jvm.Cond) (p1 : Int32) (h0 : Heap) (n0 : Nat) (w_BLOB w_STRUCTURE w_UNION w_ENUM w_INT_ENUM w_BIG_INTEGER w_BIG_DECIMAL w_SHORT w_STRING w_BYTE w_LONG w_BOOLEAN w_RESOURCE w_MAP w_DOUBLE w_FLOAT w_MEMBER w_SERVICE w_LIST w_OPERATION w_DOCUMENT w_INTEGER w_TIMESTAMP : Addr) (hK : own_K Z h0 w_BLOB w_STRUCTURE w_UNION w_ENUM w_INT_ENUM w_BIG_INTEGER w_BIG_DECIMAL w_SHORT w_STRING w_BYTE w_LONG w_BOOLEAN w_RESOURCE w_MAP w_DOUBLE w_FLOAT w_MEMBER w_SERVICE w_LIST w_OPERATION w_DOCUMENT w_INTEGER w_TIMESTAMP) :
    MetFree l x (head1 (Jvm.Cond.code x code maxLocals ret :: ws) room_1) (fun a U => a = #[(.int p1)] ∧ Z.Warmed39 U.vm ∧ U.heap = h0) (fun _ _ _ _ _ => True) (fun _ U o U' => ∃ v L, o = .returned v ∧ own_Q (some (.int (1 : Int32))) h0 n0 v U'.heap L ∧ FrameEnd U o U' L room_1.cells room_1.slots) := by
  have q0 := c_mask p1 2147483647 31 (by decide) (by decide)
  have q := (c_irem (p1 &&& 2147483647) 23 23 (by decide)).1 (by omega)
  rcases own_cases ((p1 &&& (2147483647 : Int32)) % (23 : Int32)) (by omega) (by omega) with hk | hk | hk | hk | hk | hk | hk | hk | hk | hk | hk | hk | hk | hk | hk | hk | hk | hk | hk | hk | hk | hk | hk
  · exact rm_law0 l Z a0 hw ws p1 h0 n0 w_BLOB w_STRUCTURE w_UNION w_ENUM w_INT_ENUM w_BIG_INTEGER w_BIG_DECIMAL w_SHORT w_STRING w_BYTE w_LONG w_BOOLEAN w_RESOURCE w_MAP w_DOUBLE w_FLOAT w_MEMBER w_SERVICE w_LIST w_OPERATION w_DOCUMENT w_INTEGER w_TIMESTAMP hK hk
  · exact rm_law1 l Z a0 hw ws p1 h0 n0 w_BLOB w_STRUCTURE w_UNION w_ENUM w_INT_ENUM w_BIG_INTEGER w_BIG_DECIMAL w_SHORT w_STRING w_BYTE w_LONG w_BOOLEAN w_RESOURCE w_MAP w_DOUBLE w_FLOAT w_MEMBER w_SERVICE w_LIST w_OPERATION w_DOCUMENT w_INTEGER w_TIMESTAMP hK hk
  · exact rm_law2 l Z a0 hw ws p1 h0 n0 w_BLOB w_STRUCTURE w_UNION w_ENUM w_INT_ENUM w_BIG_INTEGER w_BIG_DECIMAL w_SHORT w_STRING w_BYTE w_LONG w_BOOLEAN w_RESOURCE w_MAP w_DOUBLE w_FLOAT w_MEMBER w_SERVICE w_LIST w_OPERATION w_DOCUMENT w_INTEGER w_TIMESTAMP hK hk
  · exact rm_law3 l Z a0 hw ws p1 h0 n0 w_BLOB w_STRUCTURE w_UNION w_ENUM w_INT_ENUM w_BIG_INTEGER w_BIG_DECIMAL w_SHORT w_STRING w_BYTE w_LONG w_BOOLEAN w_RESOURCE w_MAP w_DOUBLE w_FLOAT w_MEMBER w_SERVICE w_LIST w_OPERATION w_DOCUMENT w_INTEGER w_TIMESTAMP hK hk
  · exact rm_law4 l Z a0 hw ws p1 h0 n0 w_BLOB w_STRUCTURE w_UNION w_ENUM w_INT_ENUM w_BIG_INTEGER w_BIG_DECIMAL w_SHORT w_STRING w_BYTE w_LONG w_BOOLEAN w_RESOURCE w_MAP w_DOUBLE w_FLOAT w_MEMBER w_SERVICE w_LIST w_OPERATION w_DOCUMENT w_INTEGER w_TIMESTAMP hK hk
  · exact rm_law5 l Z a0 hw ws p1 h0 n0 w_BLOB w_STRUCTURE w_UNION w_ENUM w_INT_ENUM w_BIG_INTEGER w_BIG_DECIMAL w_SHORT w_STRING w_BYTE w_LONG w_BOOLEAN w_RESOURCE w_MAP w_DOUBLE w_FLOAT w_MEMBER w_SERVICE w_LIST w_OPERATION w_DOCUMENT w_INTEGER w_TIMESTAMP hK hk
  · exact rm_law6 l Z a0 hw ws p1 h0 n0 w_BLOB w_STRUCTURE w_UNION w_ENUM w_INT_ENUM w_BIG_INTEGER w_BIG_DECIMAL w_SHORT w_STRING w_BYTE w_LONG w_BOOLEAN w_RESOURCE w_MAP w_DOUBLE w_FLOAT w_MEMBER w_SERVICE w_LIST w_OPERATION w_DOCUMENT w_INTEGER w_TIMESTAMP hK hk
  · exact rm_law7 l Z a0 hw ws p1 h0 n0 w_BLOB w_STRUCTURE w_UNION w_ENUM w_INT_ENUM w_BIG_INTEGER w_BIG_DECIMAL w_SHORT w_STRING w_BYTE w_LONG w_BOOLEAN w_RESOURCE w_MAP w_DOUBLE w_FLOAT w_MEMBER w_SERVICE w_LIST w_OPERATION w_DOCUMENT w_INTEGER w_TIMESTAMP hK hk
  · exact rm_law8 l Z a0 hw ws p1 h0 n0 w_BLOB w_STRUCTURE w_UNION w_ENUM w_INT_ENUM w_BIG_INTEGER w_BIG_DECIMAL w_SHORT w_STRING w_BYTE w_LONG w_BOOLEAN w_RESOURCE w_MAP w_DOUBLE w_FLOAT w_MEMBER w_SERVICE w_LIST w_OPERATION w_DOCUMENT w_INTEGER w_TIMESTAMP hK hk
  · exact rm_law9 l Z a0 hw ws p1 h0 n0 w_BLOB w_STRUCTURE w_UNION w_ENUM w_INT_ENUM w_BIG_INTEGER w_BIG_DECIMAL w_SHORT w_STRING w_BYTE w_LONG w_BOOLEAN w_RESOURCE w_MAP w_DOUBLE w_FLOAT w_MEMBER w_SERVICE w_LIST w_OPERATION w_DOCUMENT w_INTEGER w_TIMESTAMP hK hk
  · exact rm_law10 l Z a0 hw ws p1 h0 n0 w_BLOB w_STRUCTURE w_UNION w_ENUM w_INT_ENUM w_BIG_INTEGER w_BIG_DECIMAL w_SHORT w_STRING w_BYTE w_LONG w_BOOLEAN w_RESOURCE w_MAP w_DOUBLE w_FLOAT w_MEMBER w_SERVICE w_LIST w_OPERATION w_DOCUMENT w_INTEGER w_TIMESTAMP hK hk
  · exact rm_law11 l Z a0 hw ws p1 h0 n0 w_BLOB w_STRUCTURE w_UNION w_ENUM w_INT_ENUM w_BIG_INTEGER w_BIG_DECIMAL w_SHORT w_STRING w_BYTE w_LONG w_BOOLEAN w_RESOURCE w_MAP w_DOUBLE w_FLOAT w_MEMBER w_SERVICE w_LIST w_OPERATION w_DOCUMENT w_INTEGER w_TIMESTAMP hK hk
  · exact rm_law12 l Z a0 hw ws p1 h0 n0 w_BLOB w_STRUCTURE w_UNION w_ENUM w_INT_ENUM w_BIG_INTEGER w_BIG_DECIMAL w_SHORT w_STRING w_BYTE w_LONG w_BOOLEAN w_RESOURCE w_MAP w_DOUBLE w_FLOAT w_MEMBER w_SERVICE w_LIST w_OPERATION w_DOCUMENT w_INTEGER w_TIMESTAMP hK hk
  · exact rm_law13 l Z a0 hw ws p1 h0 n0 w_BLOB w_STRUCTURE w_UNION w_ENUM w_INT_ENUM w_BIG_INTEGER w_BIG_DECIMAL w_SHORT w_STRING w_BYTE w_LONG w_BOOLEAN w_RESOURCE w_MAP w_DOUBLE w_FLOAT w_MEMBER w_SERVICE w_LIST w_OPERATION w_DOCUMENT w_INTEGER w_TIMESTAMP hK hk
  · exact rm_law14 l Z a0 hw ws p1 h0 n0 w_BLOB w_STRUCTURE w_UNION w_ENUM w_INT_ENUM w_BIG_INTEGER w_BIG_DECIMAL w_SHORT w_STRING w_BYTE w_LONG w_BOOLEAN w_RESOURCE w_MAP w_DOUBLE w_FLOAT w_MEMBER w_SERVICE w_LIST w_OPERATION w_DOCUMENT w_INTEGER w_TIMESTAMP hK hk
  · exact rm_law15 l Z a0 hw ws p1 h0 n0 w_BLOB w_STRUCTURE w_UNION w_ENUM w_INT_ENUM w_BIG_INTEGER w_BIG_DECIMAL w_SHORT w_STRING w_BYTE w_LONG w_BOOLEAN w_RESOURCE w_MAP w_DOUBLE w_FLOAT w_MEMBER w_SERVICE w_LIST w_OPERATION w_DOCUMENT w_INTEGER w_TIMESTAMP hK hk
  · exact rm_law16 l Z a0 hw ws p1 h0 n0 w_BLOB w_STRUCTURE w_UNION w_ENUM w_INT_ENUM w_BIG_INTEGER w_BIG_DECIMAL w_SHORT w_STRING w_BYTE w_LONG w_BOOLEAN w_RESOURCE w_MAP w_DOUBLE w_FLOAT w_MEMBER w_SERVICE w_LIST w_OPERATION w_DOCUMENT w_INTEGER w_TIMESTAMP hK hk
  · exact rm_law17 l Z a0 hw ws p1 h0 n0 w_BLOB w_STRUCTURE w_UNION w_ENUM w_INT_ENUM w_BIG_INTEGER w_BIG_DECIMAL w_SHORT w_STRING w_BYTE w_LONG w_BOOLEAN w_RESOURCE w_MAP w_DOUBLE w_FLOAT w_MEMBER w_SERVICE w_LIST w_OPERATION w_DOCUMENT w_INTEGER w_TIMESTAMP hK hk
  · exact rm_law18 l Z a0 hw ws p1 h0 n0 w_BLOB w_STRUCTURE w_UNION w_ENUM w_INT_ENUM w_BIG_INTEGER w_BIG_DECIMAL w_SHORT w_STRING w_BYTE w_LONG w_BOOLEAN w_RESOURCE w_MAP w_DOUBLE w_FLOAT w_MEMBER w_SERVICE w_LIST w_OPERATION w_DOCUMENT w_INTEGER w_TIMESTAMP hK hk
  · exact rm_law19 l Z a0 hw ws p1 h0 n0 w_BLOB w_STRUCTURE w_UNION w_ENUM w_INT_ENUM w_BIG_INTEGER w_BIG_DECIMAL w_SHORT w_STRING w_BYTE w_LONG w_BOOLEAN w_RESOURCE w_MAP w_DOUBLE w_FLOAT w_MEMBER w_SERVICE w_LIST w_OPERATION w_DOCUMENT w_INTEGER w_TIMESTAMP hK hk
  · exact rm_law20 l Z a0 hw ws p1 h0 n0 w_BLOB w_STRUCTURE w_UNION w_ENUM w_INT_ENUM w_BIG_INTEGER w_BIG_DECIMAL w_SHORT w_STRING w_BYTE w_LONG w_BOOLEAN w_RESOURCE w_MAP w_DOUBLE w_FLOAT w_MEMBER w_SERVICE w_LIST w_OPERATION w_DOCUMENT w_INTEGER w_TIMESTAMP hK hk
  · exact rm_law21 l Z a0 hw ws p1 h0 n0 w_BLOB w_STRUCTURE w_UNION w_ENUM w_INT_ENUM w_BIG_INTEGER w_BIG_DECIMAL w_SHORT w_STRING w_BYTE w_LONG w_BOOLEAN w_RESOURCE w_MAP w_DOUBLE w_FLOAT w_MEMBER w_SERVICE w_LIST w_OPERATION w_DOCUMENT w_INTEGER w_TIMESTAMP hK hk
  · exact rm_law22 l Z a0 hw ws p1 h0 n0 w_BLOB w_STRUCTURE w_UNION w_ENUM w_INT_ENUM w_BIG_INTEGER w_BIG_DECIMAL w_SHORT w_STRING w_BYTE w_LONG w_BOOLEAN w_RESOURCE w_MAP w_DOUBLE w_FLOAT w_MEMBER w_SERVICE w_LIST w_OPERATION w_DOCUMENT w_INTEGER w_TIMESTAMP hK hk
set_option maxRecDepth 65536 in
set_option maxHeartbeats 40000000 in
theorem comes_1 {Post : Tables → Env → Array Value → State → Outcome → State → Prop} (hpost : ∀ tb e args s v u, (limb_1_1.after args s (.returned v) u = true ∧ limb_1_2.after args s (.returned v) u = true ∧ True) → FrameEnd s (.returned v) u (Jvm.fieldLocs frame_1_writes args s ++ Jvm.arrayLocs frame_1_arrays args s ++ Jvm.staticLocs frame_1_statics s) 0 0 → Post tb e args s (.returned v) u) :
    ArmFor flags0 classFile x code maxLocals ret World_1 tables_1 room_1 Calls_1 rest_1 Pre_1 Post := by
  intro l hfl _ _ p e ha hc hk s m args below hf hA hF happ hP
  obtain ⟨hcalls, hrest, hpre⟩ := hP
  obtain ⟨-, -, -, hnamed, -, -, -, hat⟩ := (Spec.applies_iff hf).mp happ
  obtain ⟨hg, hn⟩ := and_e (Cond.before_iff.mp (show (Jvm.Cond.and given_1 narrow_1).before args s = true from hpre))
  obtain ⟨g0, hg⟩ := and_e hg
  obtain ⟨w0, rfl⟩ : ∃ w0 : Value, args = #[w0] := by
    have hs : args.size = 1 := by simpa [Cond.value, given_1] using g0
    obtain ⟨L⟩ := args
    match L, hs with
    | [w0], _ => exact ⟨w0, rfl⟩
  have hw := fun d (hd : d ∈ tables_1) => atoms_spec (ws := Jvm.Cond.code x code maxLocals ret :: tables_1) hat d (List.mem_cons_of_mem _ hd)
  have hfit : Fit s := fun {y c} hc i hi => by
    obtain ⟨ha, rfl⟩ := Array.getElem?_eq_some_iff.mp hc
    have q := List.all_eq_true.mp ((Array.all_eq_true_iff_forall_mem.mp hF) _ (Array.getElem_mem ha)) i (List.mem_range.mpr hi)
    simpa [Array.getElem?_eq_getElem hi] using q
  obtain ⟨i0, ei0⟩ := is_v hg
  obtain rfl : w0 = (.int i0) := Option.some.inj ei0
  obtain ⟨c0, hn⟩ := and_e hn
  obtain ⟨w_BLOB, v_w_BLOB⟩ := exa_v c0
  have S_w_BLOB := Sta.start v_w_BLOB (Or.inr ⟨(hw _ (ow 6 rfl)), (hw _ (ow 7 rfl))⟩)
  have E_w_BLOB := Exa.start v_w_BLOB c0
  obtain ⟨c1, hn⟩ := and_e hn
  obtain ⟨w_STRUCTURE, v_w_STRUCTURE⟩ := exa_v c1
  have S_w_STRUCTURE := Sta.start v_w_STRUCTURE (Or.inr ⟨(hw _ (ow 6 rfl)), (hw _ (ow 14 rfl))⟩)
  have E_w_STRUCTURE := Exa.start v_w_STRUCTURE c1
  obtain ⟨c2, hn⟩ := and_e hn
  have F_ordinal_w_BLOB := Fld.start ((fld_at v_w_BLOB).symm.trans (own_eqI c2))
  obtain ⟨c3, hn⟩ := and_e hn
  have F_ordinal_w_STRUCTURE := Fld.start ((fld_at v_w_STRUCTURE).symm.trans (own_eqI c3))
  obtain ⟨c4, hn⟩ := and_e hn
  obtain ⟨w_UNION, v_w_UNION⟩ := exa_v c4
  have S_w_UNION := Sta.start v_w_UNION (Or.inr ⟨(hw _ (ow 6 rfl)), (hw _ (ow 16 rfl))⟩)
  have E_w_UNION := Exa.start v_w_UNION c4
  obtain ⟨c5, hn⟩ := and_e hn
  have F_ordinal_w_UNION := Fld.start ((fld_at v_w_UNION).symm.trans (own_eqI c5))
  obtain ⟨c6, hn⟩ := and_e hn
  obtain ⟨w_ENUM, v_w_ENUM⟩ := exa_v c6
  have S_w_ENUM := Sta.start v_w_ENUM (Or.inr ⟨(hw _ (ow 6 rfl)), (hw _ (ow 18 rfl))⟩)
  have E_w_ENUM := Exa.start v_w_ENUM c6
  obtain ⟨c7, hn⟩ := and_e hn
  have F_ordinal_w_ENUM := Fld.start ((fld_at v_w_ENUM).symm.trans (own_eqI c7))
  obtain ⟨c8, hn⟩ := and_e hn
  obtain ⟨w_INT_ENUM, v_w_INT_ENUM⟩ := exa_v c8
  have S_w_INT_ENUM := Sta.start v_w_INT_ENUM (Or.inr ⟨(hw _ (ow 6 rfl)), (hw _ (ow 20 rfl))⟩)
  have E_w_INT_ENUM := Exa.start v_w_INT_ENUM c8
  obtain ⟨c9, hn⟩ := and_e hn
  have F_ordinal_w_INT_ENUM := Fld.start ((fld_at v_w_INT_ENUM).symm.trans (own_eqI c9))
  obtain ⟨c10, hn⟩ := and_e hn
  obtain ⟨w_BIG_INTEGER, v_w_BIG_INTEGER⟩ := exa_v c10
  have S_w_BIG_INTEGER := Sta.start v_w_BIG_INTEGER (Or.inr ⟨(hw _ (ow 6 rfl)), (hw _ (ow 24 rfl))⟩)
  have E_w_BIG_INTEGER := Exa.start v_w_BIG_INTEGER c10
  obtain ⟨c11, hn⟩ := and_e hn
  have F_ordinal_w_BIG_INTEGER := Fld.start ((fld_at v_w_BIG_INTEGER).symm.trans (own_eqI c11))
  obtain ⟨c12, hn⟩ := and_e hn
  obtain ⟨w_BIG_DECIMAL, v_w_BIG_DECIMAL⟩ := exa_v c12
  have S_w_BIG_DECIMAL := Sta.start v_w_BIG_DECIMAL (Or.inr ⟨(hw _ (ow 6 rfl)), (hw _ (ow 26 rfl))⟩)
  have E_w_BIG_DECIMAL := Exa.start v_w_BIG_DECIMAL c12
  obtain ⟨c13, hn⟩ := and_e hn
  have F_ordinal_w_BIG_DECIMAL := Fld.start ((fld_at v_w_BIG_DECIMAL).symm.trans (own_eqI c13))
  obtain ⟨c14, hn⟩ := and_e hn
  obtain ⟨w_SHORT, v_w_SHORT⟩ := exa_v c14
  have S_w_SHORT := Sta.start v_w_SHORT (Or.inr ⟨(hw _ (ow 6 rfl)), (hw _ (ow 28 rfl))⟩)
  have E_w_SHORT := Exa.start v_w_SHORT c14
  obtain ⟨c15, hn⟩ := and_e hn
  have F_ordinal_w_SHORT := Fld.start ((fld_at v_w_SHORT).symm.trans (own_eqI c15))
  obtain ⟨c16, hn⟩ := and_e hn
  obtain ⟨w_STRING, v_w_STRING⟩ := exa_v c16
  have S_w_STRING := Sta.start v_w_STRING (Or.inr ⟨(hw _ (ow 6 rfl)), (hw _ (ow 31 rfl))⟩)
  have E_w_STRING := Exa.start v_w_STRING c16
  obtain ⟨c17, hn⟩ := and_e hn
  have F_ordinal_w_STRING := Fld.start ((fld_at v_w_STRING).symm.trans (own_eqI c17))
  obtain ⟨c18, hn⟩ := and_e hn
  obtain ⟨w_BYTE, v_w_BYTE⟩ := exa_v c18
  have S_w_BYTE := Sta.start v_w_BYTE (Or.inr ⟨(hw _ (ow 6 rfl)), (hw _ (ow 33 rfl))⟩)
  have E_w_BYTE := Exa.start v_w_BYTE c18
  obtain ⟨c19, hn⟩ := and_e hn
  have F_ordinal_w_BYTE := Fld.start ((fld_at v_w_BYTE).symm.trans (own_eqI c19))
  obtain ⟨c20, hn⟩ := and_e hn
  obtain ⟨w_LONG, v_w_LONG⟩ := exa_v c20
  have S_w_LONG := Sta.start v_w_LONG (Or.inr ⟨(hw _ (ow 6 rfl)), (hw _ (ow 35 rfl))⟩)
  have E_w_LONG := Exa.start v_w_LONG c20
  obtain ⟨c21, hn⟩ := and_e hn
  have F_ordinal_w_LONG := Fld.start ((fld_at v_w_LONG).symm.trans (own_eqI c21))
  obtain ⟨c22, hn⟩ := and_e hn
  obtain ⟨w_BOOLEAN, v_w_BOOLEAN⟩ := exa_v c22
  have S_w_BOOLEAN := Sta.start v_w_BOOLEAN (Or.inr ⟨(hw _ (ow 6 rfl)), (hw _ (ow 37 rfl))⟩)
  have E_w_BOOLEAN := Exa.start v_w_BOOLEAN c22
  obtain ⟨c23, hn⟩ := and_e hn
  have F_ordinal_w_BOOLEAN := Fld.start ((fld_at v_w_BOOLEAN).symm.trans (own_eqI c23))
  obtain ⟨c24, hn⟩ := and_e hn
  obtain ⟨w_RESOURCE, v_w_RESOURCE⟩ := exa_v c24
  have S_w_RESOURCE := Sta.start v_w_RESOURCE (Or.inr ⟨(hw _ (ow 6 rfl)), (hw _ (ow 39 rfl))⟩)
  have E_w_RESOURCE := Exa.start v_w_RESOURCE c24
  obtain ⟨c25, hn⟩ := and_e hn
  have F_ordinal_w_RESOURCE := Fld.start ((fld_at v_w_RESOURCE).symm.trans (own_eqI c25))
  obtain ⟨c26, hn⟩ := and_e hn
  obtain ⟨w_MAP, v_w_MAP⟩ := exa_v c26
  have S_w_MAP := Sta.start v_w_MAP (Or.inr ⟨(hw _ (ow 6 rfl)), (hw _ (ow 41 rfl))⟩)
  have E_w_MAP := Exa.start v_w_MAP c26
  obtain ⟨c27, hn⟩ := and_e hn
  have F_ordinal_w_MAP := Fld.start ((fld_at v_w_MAP).symm.trans (own_eqI c27))
  obtain ⟨c28, hn⟩ := and_e hn
  obtain ⟨w_DOUBLE, v_w_DOUBLE⟩ := exa_v c28
  have S_w_DOUBLE := Sta.start v_w_DOUBLE (Or.inr ⟨(hw _ (ow 6 rfl)), (hw _ (ow 43 rfl))⟩)
  have E_w_DOUBLE := Exa.start v_w_DOUBLE c28
  obtain ⟨c29, hn⟩ := and_e hn
  have F_ordinal_w_DOUBLE := Fld.start ((fld_at v_w_DOUBLE).symm.trans (own_eqI c29))
  obtain ⟨c30, hn⟩ := and_e hn
  obtain ⟨w_FLOAT, v_w_FLOAT⟩ := exa_v c30
  have S_w_FLOAT := Sta.start v_w_FLOAT (Or.inr ⟨(hw _ (ow 6 rfl)), (hw _ (ow 45 rfl))⟩)
  have E_w_FLOAT := Exa.start v_w_FLOAT c30
  obtain ⟨c31, hn⟩ := and_e hn
  have F_ordinal_w_FLOAT := Fld.start ((fld_at v_w_FLOAT).symm.trans (own_eqI c31))
  obtain ⟨c32, hn⟩ := and_e hn
  obtain ⟨w_MEMBER, v_w_MEMBER⟩ := exa_v c32
  have S_w_MEMBER := Sta.start v_w_MEMBER (Or.inr ⟨(hw _ (ow 6 rfl)), (hw _ (ow 47 rfl))⟩)
  have E_w_MEMBER := Exa.start v_w_MEMBER c32
  obtain ⟨c33, hn⟩ := and_e hn
  have F_ordinal_w_MEMBER := Fld.start ((fld_at v_w_MEMBER).symm.trans (own_eqI c33))
  obtain ⟨c34, hn⟩ := and_e hn
  obtain ⟨w_SERVICE, v_w_SERVICE⟩ := exa_v c34
  have S_w_SERVICE := Sta.start v_w_SERVICE (Or.inr ⟨(hw _ (ow 6 rfl)), (hw _ (ow 49 rfl))⟩)
  have E_w_SERVICE := Exa.start v_w_SERVICE c34
  obtain ⟨c35, hn⟩ := and_e hn
  have F_ordinal_w_SERVICE := Fld.start ((fld_at v_w_SERVICE).symm.trans (own_eqI c35))
  obtain ⟨c36, hn⟩ := and_e hn
  obtain ⟨w_LIST, v_w_LIST⟩ := exa_v c36
  have S_w_LIST := Sta.start v_w_LIST (Or.inr ⟨(hw _ (ow 6 rfl)), (hw _ (ow 51 rfl))⟩)
  have E_w_LIST := Exa.start v_w_LIST c36
  obtain ⟨c37, hn⟩ := and_e hn
  have F_ordinal_w_LIST := Fld.start ((fld_at v_w_LIST).symm.trans (own_eqI c37))
  obtain ⟨c38, hn⟩ := and_e hn
  obtain ⟨w_OPERATION, v_w_OPERATION⟩ := exa_v c38
  have S_w_OPERATION := Sta.start v_w_OPERATION (Or.inr ⟨(hw _ (ow 6 rfl)), (hw _ (ow 54 rfl))⟩)
  have E_w_OPERATION := Exa.start v_w_OPERATION c38
  obtain ⟨c39, hn⟩ := and_e hn
  have F_ordinal_w_OPERATION := Fld.start ((fld_at v_w_OPERATION).symm.trans (own_eqI c39))
  obtain ⟨c40, hn⟩ := and_e hn
  obtain ⟨w_DOCUMENT, v_w_DOCUMENT⟩ := exa_v c40
  have S_w_DOCUMENT := Sta.start v_w_DOCUMENT (Or.inr ⟨(hw _ (ow 6 rfl)), (hw _ (ow 56 rfl))⟩)
  have E_w_DOCUMENT := Exa.start v_w_DOCUMENT c40
  obtain ⟨c41, hn⟩ := and_e hn
  have F_ordinal_w_DOCUMENT := Fld.start ((fld_at v_w_DOCUMENT).symm.trans (own_eqI c41))
  obtain ⟨c42, hn⟩ := and_e hn
  obtain ⟨w_INTEGER, v_w_INTEGER⟩ := exa_v c42
  have S_w_INTEGER := Sta.start v_w_INTEGER (Or.inr ⟨(hw _ (ow 6 rfl)), (hw _ (ow 58 rfl))⟩)
  have E_w_INTEGER := Exa.start v_w_INTEGER c42
  obtain ⟨c43, hn⟩ := and_e hn
  have F_ordinal_w_INTEGER := Fld.start ((fld_at v_w_INTEGER).symm.trans (own_eqI c43))
  obtain ⟨c44, hn⟩ := and_e hn
  obtain ⟨w_TIMESTAMP, v_w_TIMESTAMP⟩ := exa_v c44
  have S_w_TIMESTAMP := Sta.start v_w_TIMESTAMP (Or.inr ⟨(hw _ (ow 6 rfl)), (hw _ (ow 60 rfl))⟩)
  have E_w_TIMESTAMP := Exa.start v_w_TIMESTAMP c44
  have F_ordinal_w_TIMESTAMP := Fld.start ((fld_at v_w_TIMESTAMP).symm.trans (own_eqI hn))
  have hK : own_K s s.heap w_BLOB w_STRUCTURE w_UNION w_ENUM w_INT_ENUM w_BIG_INTEGER w_BIG_DECIMAL w_SHORT w_STRING w_BYTE w_LONG w_BOOLEAN w_RESOURCE w_MAP w_DOUBLE w_FLOAT w_MEMBER w_SERVICE w_LIST w_OPERATION w_DOCUMENT w_INTEGER w_TIMESTAMP := ⟨S_w_BLOB, E_w_BLOB, S_w_STRUCTURE, E_w_STRUCTURE, F_ordinal_w_BLOB, F_ordinal_w_STRUCTURE, S_w_UNION, E_w_UNION, F_ordinal_w_UNION, S_w_ENUM, E_w_ENUM, F_ordinal_w_ENUM, S_w_INT_ENUM, E_w_INT_ENUM, F_ordinal_w_INT_ENUM, S_w_BIG_INTEGER, E_w_BIG_INTEGER, F_ordinal_w_BIG_INTEGER, S_w_BIG_DECIMAL, E_w_BIG_DECIMAL, F_ordinal_w_BIG_DECIMAL, S_w_SHORT, E_w_SHORT, F_ordinal_w_SHORT, S_w_STRING, E_w_STRING, F_ordinal_w_STRING, S_w_BYTE, E_w_BYTE, F_ordinal_w_BYTE, S_w_LONG, E_w_LONG, F_ordinal_w_LONG, S_w_BOOLEAN, E_w_BOOLEAN, F_ordinal_w_BOOLEAN, S_w_RESOURCE, E_w_RESOURCE, F_ordinal_w_RESOURCE, S_w_MAP, E_w_MAP, F_ordinal_w_MAP, S_w_DOUBLE, E_w_DOUBLE, F_ordinal_w_DOUBLE, S_w_FLOAT, E_w_FLOAT, F_ordinal_w_FLOAT, S_w_MEMBER, E_w_MEMBER, F_ordinal_w_MEMBER, S_w_SERVICE, E_w_SERVICE, F_ordinal_w_SERVICE, S_w_LIST, E_w_LIST, F_ordinal_w_LIST, S_w_OPERATION, E_w_OPERATION, F_ordinal_w_OPERATION, S_w_DOCUMENT, E_w_DOCUMENT, F_ordinal_w_DOCUMENT, S_w_INTEGER, E_w_INTEGER, F_ordinal_w_INTEGER, S_w_TIMESTAMP, E_w_TIMESTAMP, F_ordinal_w_TIMESTAMP⟩
  obtain ⟨n, o, h1, h2, h3, _, L, rfl, ⟨rfl, N, -⟩, hq⟩ := rm_law l s _ hw tables_1 i0 s.heap s.heap.size w_BLOB w_STRUCTURE w_UNION w_ENUM w_INT_ENUM w_BIG_INTEGER w_BIG_DECIMAL w_SHORT w_STRING w_BYTE w_LONG w_BOOLEAN w_RESOURCE w_MAP w_DOUBLE w_FLOAT w_MEMBER w_SERVICE w_LIST w_OPERATION w_DOCUMENT w_INTEGER w_TIMESTAMP hK p e ha hc hk s m _ below hf ((Spec.applies_iff_loose hf).mp happ).1 ⟨rfl, State.Warmed39.refl s, rfl⟩ trivial
  refine ⟨n, _, h1, h2, h3, hpost _ _ _ _ _ _ ⟨Cond.after_iff.mpr rfl, Cond.after_iff.mpr (eq_i res_at (Term.int_eval (1)) rfl), trivial⟩ ⟨hq.1, hq.2.1, (hq.2.2.sift fun y hy => Or.inr (N y hy)).mono (by decide) (by decide)⟩⟩
theorem main_1_1 : Claimed_1_1 := comes_1 fun _ _ _ _ _ _ h hF => ⟨h.1, hF⟩
theorem main_1_2 : Claimed_1_2 := comes_1 fun _ _ _ _ _ _ h hF => ⟨h.2.1, hF⟩
end Jvm.Pilot.@@N@@
namespace Jvm.Pilot.@@N@@
open Jvm Jvm.ClassFile Sem Op Lib Jvm.Free Jvm.Stand Jvm.Pilot.@@N@@.Jvm.D
/-! MADE BY PROGRAM (witnessworld.py) out of the Statement's table words and the real class files: 10 classes; the members and pool entries that the words name. The judged class is class 1, her method 2. -/
namespace start1
open Jvm.ClassFile
def u (s : String) : CpInfo := .utf8 (stringToUtf16 s)
/-- a pool by its gaps: so many unusable entries, then the entry; so many at the end -/
def gap : Nat → List CpInfo → List CpInfo
  | 0, r => r
  | n + 1, r => .unusable :: gap n r
def poolList (es : List (Nat × CpInfo)) (last : Nat) : List CpInfo := es.foldr (fun e r => gap e.1 (e.2 :: r)) (gap last [])
def pool (es : List (Nat × CpInfo)) (last : Nat) : Array CpInfo := ⟨poolList es last⟩
def fileOf (pool : Array CpInfo) (this : Nat) (attrs : Array Attribute := #[]) (ms : Array MethodInfo := #[]) (fl : Nat := 33) (sup : Nat := 0) (ifs : Array Nat := #[]) (fds : Array FieldInfo := #[]) : ClassFile where
  minorVersion := 0
  majorVersion := 65
  constantPool := pool
  accessFlags := fl
  thisClass := this
  superClass := sup
  interfaces := ifs
  fields := fds
  methods := ms
  attributes := attrs
def plain (name : String) (sup : Option ClassId) : Class where
  name := name
  kind := .ordinary
  loader := none
  accessFlags := 33
  super := sup
  interfaces := #[]
  cf := none
  fields := #[]
  methods := #[]
  instanceTypes := #[]
  staticTypes := #[]
  resolved := #[]
  callSites := []
  init := .initialized
  statics := none
  mirror := none

def pool0 : Array CpInfo := pool [(5, u "<init>"), (0, u "()V"), (1, .class_ 10), (1, u "java/lang/Object")] 113

def k0m0 : Method := { name := "<init>", desc := "()V", sig := { parameters := [], returnType := none }, accessFlags := 1, code := none }
/-- java/lang/Object -/
def k0 : Class := { plain "java/lang/Object" none with
  accessFlags := 33
  interfaces := #[]
  cf := some (fileOf pool0 8 #[] #[{ accessFlags := 1, nameIndex := 5, descriptorIndex := 6, attributes := #[] }] 33 0 #[] #[])
  fields := #[]
  methods := #[k0m0]
  instanceTypes := #[]
  staticTypes := #[]
  resolved := Array.replicate 124 none
  statics := none }

def pool1 : Array CpInfo := pool [(2, .class_ 4), (1, u "java/lang/Object"), (0, u "<init>"), (0, u "()V"), (0, .fieldref 8 9), (0, .class_ 10), (0, .nameAndType 11 12), (0, u "com/example/falkirk/falkirk/model/ShapeType"), (0, u "BLOB"), (0, u "Lcom/example/falkirk/falkirk/model/ShapeType;"), (0, .fieldref 8 14), (0, .nameAndType 15 12), (0, u "BOOLEAN"), (0, .fieldref 8 17), (0, .nameAndType 18 12), (0, u "STRING"), (0, .fieldref 8 20), (0, .nameAndType 21 12), (0, u "ENUM"), (0, .fieldref 8 23), (0, .nameAndType 24 12), (0, u "BYTE"), (0, .fieldref 8 26), (0, .nameAndType 27 12), (0, u "SHORT"), (0, .fieldref 8 29), (0, .nameAndType 30 12), (0, u "INTEGER"), (0, .fieldref 8 32), (0, .nameAndType 33 12), (0, u "INT_ENUM"), (0, .fieldref 8 35), (0, .nameAndType 36 12), (0, u "LONG"), (0, .fieldref 8 38), (0, .nameAndType 39 12), (0, u "FLOAT"), (0, .fieldref 8 41), (0, .nameAndType 42 12), (0, u "DOUBLE"), (0, .fieldref 8 44), (0, .nameAndType 45 12), (0, u "BIG_INTEGER"), (0, .fieldref 8 47), (0, .nameAndType 48 12), (0, u "BIG_DECIMAL"), (0, .fieldref 8 50), (0, .nameAndType 51 12), (0, u "TIMESTAMP"), (0, .fieldref 8 53), (0, .nameAndType 54 12), (0, u "DOCUMENT"), (0, .fieldref 8 56), (0, .nameAndType 57 12), (0, u "LIST"), (0, .fieldref 8 59), (0, .nameAndType 60 12), (0, u "MAP"), (0, .fieldref 8 62), (0, .nameAndType 63 12), (0, u "STRUCTURE"), (0, .fieldref 8 65), (0, .nameAndType 66 12), (0, u "UNION"), (0, .fieldref 8 68), (0, .nameAndType 69 12), (0, u "SERVICE"), (0, .fieldref 8 71), (0, .nameAndType 72 12), (0, u "OPERATION"), (0, .fieldref 8 74), (0, .nameAndType 75 12), (0, u "RESOURCE"), (0, .fieldref 8 77), (0, .nameAndType 78 12), (0, u "MEMBER"), (0, .integer 2147483647), (0, .methodref 81 82), (0, .class_ 83), (0, .nameAndType 84 85), (0, u "com/example/falkirk/falkirk/model/ShapeTypeHasNamedMembersPinLaw"), (0, u "pick"), (0, u "(I)Lcom/example/falkirk/falkirk/model/ShapeType;"), (0, .methodref 8 87), (0, .nameAndType 88 89), (0, u "hasNamedMembers"), (0, u "()Z"), (3, u "law"), (0, u "(I)Z")] 2

def k1m0 : Method := { name := "<init>", desc := "()V", sig := { parameters := [], returnType := none }, accessFlags := 1, code := none }
def k1c1 : Code := { maxStack := 2, maxLocals := 1, code := method_2_code, exceptionTable := #[], attributes := #[] }
def k1m1 : Method := { name := "pick", desc := "(I)Lcom/example/falkirk/falkirk/model/ShapeType;", sig := { parameters := [.int], returnType := some (.object "com/example/falkirk/falkirk/model/ShapeType") }, accessFlags := 10, code := some k1c1 }
def k1c2 : Code := { maxStack := 2, maxLocals := 6, code := code, exceptionTable := #[], attributes := #[] }
def k1m2 : Method := { name := "law", desc := "(I)Z", sig := { parameters := [.int], returnType := some .boolean }, accessFlags := 9, code := some k1c2 }
/-- com/example/falkirk/falkirk/model/ShapeTypeHasNamedMembersPinLaw -/
def k1 : Class := { plain "com/example/falkirk/falkirk/model/ShapeTypeHasNamedMembersPinLaw" (some 0) with
  accessFlags := 49
  interfaces := #[]
  cf := some (fileOf pool1 81 #[] #[{ accessFlags := 1, nameIndex := 5, descriptorIndex := 6, attributes := #[] }, { accessFlags := 10, nameIndex := 84, descriptorIndex := 85, attributes := #[] }, { accessFlags := 9, nameIndex := 93, descriptorIndex := 94, attributes := #[] }] 49 2 #[] #[])
  fields := #[]
  methods := #[k1m0, k1m1, k1m2]
  instanceTypes := #[]
  staticTypes := #[]
  resolved := Array.replicate 97 none
  statics := none }

def pool2 : Array CpInfo := pool [(1, .class_ 2), (0, u "java/lang/constant/Constable"), (0, .class_ 4), (0, u "java/lang/Object")] 6

/-- java/lang/constant/Constable -/
def k2 : Class := { plain "java/lang/constant/Constable" (some 0) with
  accessFlags := 1537
  interfaces := #[]
  cf := some (fileOf pool2 1 #[] #[] 1537 3 #[] #[])
  fields := #[]
  methods := #[]
  instanceTypes := #[]
  staticTypes := #[]
  resolved := Array.replicate 11 none
  statics := none }

def pool3 : Array CpInfo := pool [(1, .class_ 2), (0, u "java/lang/Comparable"), (0, .class_ 4), (0, u "java/lang/Object")] 7

/-- java/lang/Comparable -/
def k3 : Class := { plain "java/lang/Comparable" (some 0) with
  accessFlags := 1537
  interfaces := #[]
  cf := some (fileOf pool3 1 #[] #[] 1537 3 #[] #[])
  fields := #[]
  methods := #[]
  instanceTypes := #[]
  staticTypes := #[]
  resolved := Array.replicate 12 none
  statics := none }

def pool4 : Array CpInfo := pool [(1, .class_ 2), (0, u "java/io/Serializable"), (0, .class_ 4), (0, u "java/lang/Object")] 2

/-- java/io/Serializable -/
def k4 : Class := { plain "java/io/Serializable" (some 0) with
  accessFlags := 1537
  interfaces := #[]
  cf := some (fileOf pool4 1 #[] #[] 1537 3 #[] #[])
  fields := #[]
  methods := #[]
  instanceTypes := #[]
  staticTypes := #[]
  resolved := Array.replicate 7 none
  statics := none }

def pool5 : Array CpInfo := pool [(2, .class_ 4), (1, u "java/lang/Enum"), (0, u "name"), (0, u "Ljava/lang/String;"), (2, u "ordinal"), (0, u "I"), (1, .class_ 14), (1, u "java/lang/Object"), (4, u "hash"), (86, .class_ 108), (1, u "java/lang/Enum$EnumDesc"), (2, .class_ 112), (0, u "java/lang/constant/Constable"), (0, .class_ 114), (0, u "java/lang/Comparable"), (0, .class_ 116), (0, u "java/io/Serializable")] 87

/-- java/lang/Enum -/
def k5 : Class := { plain "java/lang/Enum" (some 0) with
  accessFlags := 1057
  interfaces := #[2, 3, 4]
  cf := some (fileOf pool5 2 #[.nestMembers #[106]] #[] 1057 12 #[111, 113, 115] #[{ accessFlags := 18, nameIndex := 5, descriptorIndex := 6, attributes := #[] }, { accessFlags := 18, nameIndex := 9, descriptorIndex := 10, attributes := #[] }, { accessFlags := 2, nameIndex := 19, descriptorIndex := 10, attributes := #[] }])
  fields := #[{ name := "name", type := (.object "java/lang/String"), accessFlags := 18, slot := 0, constantValue := 0 }, { name := "ordinal", type := .int, accessFlags := 18, slot := 1, constantValue := 0 }, { name := "hash", type := .int, accessFlags := 2, slot := 2, constantValue := 0 }]
  methods := #[]
  instanceTypes := #[(.object "java/lang/String"), .int, .int]
  staticTypes := #[]
  resolved := Array.replicate 204 none
  statics := none }

def pool6 : Array CpInfo := pool [(1, .class_ 2), (0, u "com/example/falkirk/falkirk/model/ShapeType"), (2, u "BLOB"), (0, u "Lcom/example/falkirk/falkirk/model/ShapeType;"), (2, u "BOOLEAN"), (2, u "STRING"), (0, .fieldref 1 14), (0, .nameAndType 15 6), (0, u "ENUM"), (2, u "BYTE"), (2, u "SHORT"), (2, u "INTEGER"), (0, .fieldref 1 26), (0, .nameAndType 27 6), (0, u "INT_ENUM"), (2, u "LONG"), (2, u "FLOAT"), (2, u "DOUBLE"), (2, u "BIG_INTEGER"), (2, u "BIG_DECIMAL"), (2, u "TIMESTAMP"), (2, u "DOCUMENT"), (2, u "LIST"), (2, u "MAP"), (0, .fieldref 1 56), (0, .nameAndType 57 6), (0, u "STRUCTURE"), (0, .fieldref 1 59), (0, .nameAndType 60 6), (0, u "UNION"), (2, u "SERVICE"), (2, u "OPERATION"), (2, u "RESOURCE"), (2, u "MEMBER"), (2, u "$VALUES"), (0, u "[Lcom/example/falkirk/falkirk/model/ShapeType;"), (6, .class_ 85), (1, u "java/lang/Enum"), (8, u "name"), (0, u "Ljava/lang/String;"), (8, u "fixedMemberNames"), (0, u "Ljava/util/List;"), (38, u "()Z"), (127, u "hasNamedMembers")] 30

def k6c0 : Code := { maxStack := 2, maxLocals := 1, code := prog_48_method_7_code, exceptionTable := #[], attributes := #[] }
def k6m0 : Method := { name := "hasNamedMembers", desc := "()Z", sig := { parameters := [], returnType := some .boolean }, accessFlags := 1, code := some k6c0 }
/-- com/example/falkirk/falkirk/model/ShapeType -/
def k6 : Class := { plain "com/example/falkirk/falkirk/model/ShapeType" (some 5) with
  accessFlags := 16433
  interfaces := #[]
  cf := some (fileOf pool6 1 #[] #[{ accessFlags := 1, nameIndex := 272, descriptorIndex := 144, attributes := #[] }] 16433 83 #[] #[{ accessFlags := 16409, nameIndex := 5, descriptorIndex := 6, attributes := #[] }, { accessFlags := 16409, nameIndex := 9, descriptorIndex := 6, attributes := #[] }, { accessFlags := 16409, nameIndex := 12, descriptorIndex := 6, attributes := #[] }, { accessFlags := 16409, nameIndex := 15, descriptorIndex := 6, attributes := #[] }, { accessFlags := 16409, nameIndex := 18, descriptorIndex := 6, attributes := #[] }, { accessFlags := 16409, nameIndex := 21, descriptorIndex := 6, attributes := #[] }, { accessFlags := 16409, nameIndex := 24, descriptorIndex := 6, attributes := #[] }, { accessFlags := 16409, nameIndex := 27, descriptorIndex := 6, attributes := #[] }, { accessFlags := 16409, nameIndex := 30, descriptorIndex := 6, attributes := #[] }, { accessFlags := 16409, nameIndex := 33, descriptorIndex := 6, attributes := #[] }, { accessFlags := 16409, nameIndex := 36, descriptorIndex := 6, attributes := #[] }, { accessFlags := 16409, nameIndex := 39, descriptorIndex := 6, attributes := #[] }, { accessFlags := 16409, nameIndex := 42, descriptorIndex := 6, attributes := #[] }, { accessFlags := 16409, nameIndex := 45, descriptorIndex := 6, attributes := #[] }, { accessFlags := 16409, nameIndex := 48, descriptorIndex := 6, attributes := #[] }, { accessFlags := 16409, nameIndex := 51, descriptorIndex := 6, attributes := #[] }, { accessFlags := 16409, nameIndex := 54, descriptorIndex := 6, attributes := #[] }, { accessFlags := 16409, nameIndex := 57, descriptorIndex := 6, attributes := #[] }, { accessFlags := 16409, nameIndex := 60, descriptorIndex := 6, attributes := #[] }, { accessFlags := 16409, nameIndex := 63, descriptorIndex := 6, attributes := #[] }, { accessFlags := 16409, nameIndex := 66, descriptorIndex := 6, attributes := #[] }, { accessFlags := 16409, nameIndex := 69, descriptorIndex := 6, attributes := #[] }, { accessFlags := 16409, nameIndex := 72, descriptorIndex := 6, attributes := #[] }, { accessFlags := 18, nameIndex := 94, descriptorIndex := 95, attributes := #[] }, { accessFlags := 18, nameIndex := 104, descriptorIndex := 105, attributes := #[] }, { accessFlags := 4122, nameIndex := 75, descriptorIndex := 76, attributes := #[] }])
  fields := #[{ name := "BLOB", type := (.object "com/example/falkirk/falkirk/model/ShapeType"), accessFlags := 16409, slot := 0, constantValue := 0 }, { name := "BOOLEAN", type := (.object "com/example/falkirk/falkirk/model/ShapeType"), accessFlags := 16409, slot := 1, constantValue := 0 }, { name := "STRING", type := (.object "com/example/falkirk/falkirk/model/ShapeType"), accessFlags := 16409, slot := 2, constantValue := 0 }, { name := "ENUM", type := (.object "com/example/falkirk/falkirk/model/ShapeType"), accessFlags := 16409, slot := 3, constantValue := 0 }, { name := "BYTE", type := (.object "com/example/falkirk/falkirk/model/ShapeType"), accessFlags := 16409, slot := 4, constantValue := 0 }, { name := "SHORT", type := (.object "com/example/falkirk/falkirk/model/ShapeType"), accessFlags := 16409, slot := 5, constantValue := 0 }, { name := "INTEGER", type := (.object "com/example/falkirk/falkirk/model/ShapeType"), accessFlags := 16409, slot := 6, constantValue := 0 }, { name := "INT_ENUM", type := (.object "com/example/falkirk/falkirk/model/ShapeType"), accessFlags := 16409, slot := 7, constantValue := 0 }, { name := "LONG", type := (.object "com/example/falkirk/falkirk/model/ShapeType"), accessFlags := 16409, slot := 8, constantValue := 0 }, { name := "FLOAT", type := (.object "com/example/falkirk/falkirk/model/ShapeType"), accessFlags := 16409, slot := 9, constantValue := 0 }, { name := "DOUBLE", type := (.object "com/example/falkirk/falkirk/model/ShapeType"), accessFlags := 16409, slot := 10, constantValue := 0 }, { name := "BIG_INTEGER", type := (.object "com/example/falkirk/falkirk/model/ShapeType"), accessFlags := 16409, slot := 11, constantValue := 0 }, { name := "BIG_DECIMAL", type := (.object "com/example/falkirk/falkirk/model/ShapeType"), accessFlags := 16409, slot := 12, constantValue := 0 }, { name := "TIMESTAMP", type := (.object "com/example/falkirk/falkirk/model/ShapeType"), accessFlags := 16409, slot := 13, constantValue := 0 }, { name := "DOCUMENT", type := (.object "com/example/falkirk/falkirk/model/ShapeType"), accessFlags := 16409, slot := 14, constantValue := 0 }, { name := "LIST", type := (.object "com/example/falkirk/falkirk/model/ShapeType"), accessFlags := 16409, slot := 15, constantValue := 0 }, { name := "MAP", type := (.object "com/example/falkirk/falkirk/model/ShapeType"), accessFlags := 16409, slot := 16, constantValue := 0 }, { name := "STRUCTURE", type := (.object "com/example/falkirk/falkirk/model/ShapeType"), accessFlags := 16409, slot := 17, constantValue := 0 }, { name := "UNION", type := (.object "com/example/falkirk/falkirk/model/ShapeType"), accessFlags := 16409, slot := 18, constantValue := 0 }, { name := "SERVICE", type := (.object "com/example/falkirk/falkirk/model/ShapeType"), accessFlags := 16409, slot := 19, constantValue := 0 }, { name := "OPERATION", type := (.object "com/example/falkirk/falkirk/model/ShapeType"), accessFlags := 16409, slot := 20, constantValue := 0 }, { name := "RESOURCE", type := (.object "com/example/falkirk/falkirk/model/ShapeType"), accessFlags := 16409, slot := 21, constantValue := 0 }, { name := "MEMBER", type := (.object "com/example/falkirk/falkirk/model/ShapeType"), accessFlags := 16409, slot := 22, constantValue := 0 }, { name := "name", type := (.object "java/lang/String"), accessFlags := 18, slot := 3, constantValue := 0 }, { name := "fixedMemberNames", type := (.object "java/util/List"), accessFlags := 18, slot := 4, constantValue := 0 }, { name := "$VALUES", type := (.array (.object "com/example/falkirk/falkirk/model/ShapeType")), accessFlags := 4122, slot := 23, constantValue := 0 }]
  methods := #[k6m0]
  instanceTypes := #[(.object "java/lang/String"), .int, .int, (.object "java/lang/String"), (.object "java/util/List")]
  staticTypes := #[(.object "com/example/falkirk/falkirk/model/ShapeType"), (.object "com/example/falkirk/falkirk/model/ShapeType"), (.object "com/example/falkirk/falkirk/model/ShapeType"), (.object "com/example/falkirk/falkirk/model/ShapeType"), (.object "com/example/falkirk/falkirk/model/ShapeType"), (.object "com/example/falkirk/falkirk/model/ShapeType"), (.object "com/example/falkirk/falkirk/model/ShapeType"), (.object "com/example/falkirk/falkirk/model/ShapeType"), (.object "com/example/falkirk/falkirk/model/ShapeType"), (.object "com/example/falkirk/falkirk/model/ShapeType"), (.object "com/example/falkirk/falkirk/model/ShapeType"), (.object "com/example/falkirk/falkirk/model/ShapeType"), (.object "com/example/falkirk/falkirk/model/ShapeType"), (.object "com/example/falkirk/falkirk/model/ShapeType"), (.object "com/example/falkirk/falkirk/model/ShapeType"), (.object "com/example/falkirk/falkirk/model/ShapeType"), (.object "com/example/falkirk/falkirk/model/ShapeType"), (.object "com/example/falkirk/falkirk/model/ShapeType"), (.object "com/example/falkirk/falkirk/model/ShapeType"), (.object "com/example/falkirk/falkirk/model/ShapeType"), (.object "com/example/falkirk/falkirk/model/ShapeType"), (.object "com/example/falkirk/falkirk/model/ShapeType"), (.object "com/example/falkirk/falkirk/model/ShapeType"), (.array (.object "com/example/falkirk/falkirk/model/ShapeType"))]
  resolved := Array.replicate 303 none
  statics := some 0 }

def pool7 : Array CpInfo := pool [(1, u "java/lang/Cloneable"), (0, .class_ 1), (0, u "java/lang/Object"), (0, .class_ 3)] 3

/-- java/lang/Cloneable -/
def k7 : Class := { plain "java/lang/Cloneable" (some 0) with
  accessFlags := 1537
  interfaces := #[]
  cf := some (fileOf pool7 2 #[] #[] 1537 4 #[] #[])
  fields := #[]
  methods := #[]
  instanceTypes := #[]
  staticTypes := #[]
  resolved := Array.replicate 8 none
  statics := none }

/-- the primitive byte -/
def k8 : Class := { plain "byte" none with kind := .primitive 'B', accessFlags := 0x411 }
/-- [B -/
def k9 : Class := { plain "[B" (some 0) with kind := .array 8 .byte, interfaces := #[7, 4], accessFlags := 1041 }

def heap : Heap := #[{ cls := 6, slots := #[.ref 1, .ref 12, .ref 9, .ref 4, .ref 10, .ref 8, .ref 22, .ref 5, .ref 11, .ref 16, .ref 15, .ref 6, .ref 7, .ref 23, .ref 21, .ref 19, .ref 14, .ref 2, .ref 3, .ref 18, .ref 20, .ref 13, .ref 17, .null], vm := .statics 6 },
  { cls := 6, slots := #[.null, .int 0, .int 0, .null, .null], vm := .none },
  { cls := 6, slots := #[.null, .int 17, .int 0, .null, .null], vm := .none },
  { cls := 6, slots := #[.null, .int 18, .int 0, .null, .null], vm := .none },
  { cls := 6, slots := #[.null, .int 3, .int 0, .null, .null], vm := .none },
  { cls := 6, slots := #[.null, .int 7, .int 0, .null, .null], vm := .none },
  { cls := 6, slots := #[.null, .int 11, .int 0, .null, .null], vm := .none },
  { cls := 6, slots := #[.null, .int 12, .int 0, .null, .null], vm := .none },
  { cls := 6, slots := #[.null, .int 5, .int 0, .null, .null], vm := .none },
  { cls := 6, slots := #[.null, .int 2, .int 0, .null, .null], vm := .none },
  { cls := 6, slots := #[.null, .int 4, .int 0, .null, .null], vm := .none },
  { cls := 6, slots := #[.null, .int 8, .int 0, .null, .null], vm := .none },
  { cls := 6, slots := #[.null, .int 1, .int 0, .null, .null], vm := .none },
  { cls := 6, slots := #[.null, .int 21, .int 0, .null, .null], vm := .none },
  { cls := 6, slots := #[.null, .int 16, .int 0, .null, .null], vm := .none },
  { cls := 6, slots := #[.null, .int 10, .int 0, .null, .null], vm := .none },
  { cls := 6, slots := #[.null, .int 9, .int 0, .null, .null], vm := .none },
  { cls := 6, slots := #[.null, .int 22, .int 0, .null, .null], vm := .none },
  { cls := 6, slots := #[.null, .int 19, .int 0, .null, .null], vm := .none },
  { cls := 6, slots := #[.null, .int 15, .int 0, .null, .null], vm := .none },
  { cls := 6, slots := #[.null, .int 20, .int 0, .null, .null], vm := .none },
  { cls := 6, slots := #[.null, .int 14, .int 0, .null, .null], vm := .none },
  { cls := 6, slots := #[.null, .int 6, .int 0, .null, .null], vm := .none },
  { cls := 6, slots := #[.null, .int 13, .int 0, .null, .null], vm := .none }]
def classes : Array Class := #[k0, k1, k2, k3, k4, k5, k6, k7, k8, k9]
def interned : List (Array UInt16 × Addr) := []
def slotsUsed : Nat := 139
def theMethod : MethodId := ⟨1, 2⟩
def args0 : Array Value := #[.int 5]
def aboutOver (below : List Frame) : State where
  vm := { classes := classes, interned := interned.toArray }
  heap := heap
  slotsUsed := slotsUsed
  threads := #[{ frames := .invoking theMethod args0 :: below }]
def below0 : List Frame := [.native { method := ⟨0, 0⟩, args := #[] }]
def about1 : State := aboutOver below0
def p0 : Program := .bare "" "" ""
def e0 : Env := launch0.env 0 0 0
theorem w_frames : about1.frames = Frame.invoking theMethod args0 :: below0 := rfl
set_option maxRecDepth 65536 in
theorem w_args : argsFit about1.vm theMethod args0 = true := by decide +kernel
set_option maxRecDepth 65536 in
theorem w_heap : heapFits about1 = true := by decide +kernel
set_option maxRecDepth 65536 in
theorem w_runnable : about1.curStatus? = some .runnable := by decide +kernel
set_option maxRecDepth 65536 in
theorem w_alone : about1.alone = true := by decide +kernel
set_option maxRecDepth 65536 in
theorem w_named : about1.methodNamed? x = some theMethod := by decide +kernel
set_option maxRecDepth 65536 in
theorem w_hears : about1.hears theMethod below0 = true := by decide +kernel
set_option maxRecDepth 65536 in
theorem w_ripe : about1.ripe theMethod args0 below0 = true := by decide +kernel
theorem w_running : about1.status = .running := rfl
set_option maxRecDepth 65536 in
theorem w_room : about1.hasRoom e0.platform room_1 = true :=
  launch0.hasRoom_least _ room_1 (by decide +kernel) (by decide +kernel) (by decide +kernel) (by decide +kernel) (by decide +kernel) (by decide +kernel)
theorem allAtoms_all (ts : List Jvm.Cond) (a : Array Jvm.Value) (st : Jvm.State) : (allAtoms ts).before a st = ts.all (fun c => c.before a st) := by
  induction ts with
  | nil => rfl
  | cons c t ih =>
    show (Jvm.Cond.and c (allAtoms t)).before a st = _
    rw [Jvm.Cond.before_and, ih, List.all_cons]
def words1 : List Jvm.Cond := Jvm.Cond.code x code maxLocals ret :: tables_1
/-- a 'code' word, met by the world's own term for the bytes: nothing is compared byte by byte -/
theorem code_word {y : MethodName} {bytes : ByteArray} {mx : Nat} {rt : Option FieldType} {a : Array Value} {s : State} {m : MethodId} {meth : Method} {c : Code} (h1 : s.methodNamed? y = some m) (h2 : s.vm.method? m = some meth) (h3 : meth.code = some c) (h4 : c.code = bytes)
    (h5 : (c.maxLocals == mx && c.exceptionTable.isEmpty && decide (c.maxStack ≤ mostOperands) && decide (meth.sig.returnType = rt) && !meth.locks && decide (parseMethodDescriptor y.desc = some meth.sig)) = true) : (Jvm.Cond.code y bytes mx rt).before a s = true := by
  simp only [Bool.and_eq_true, beq_iff_eq, Bool.not_eq_true', decide_eq_true_eq] at h5
  obtain ⟨⟨⟨⟨⟨g1, g2⟩, g3⟩, g4⟩, g5⟩, g6⟩ := h5
  simp [Cond.before, Cond.holds, Cond.value, h1, h2, h3, h4, g1, g2, g3, g4, g5, g6]
def isCode : Jvm.Cond → Bool
  | .code _ _ _ _ => true
  | _ => false
theorem all_split {L : List Jvm.Cond} {P : Jvm.Cond → Bool} (h1 : L.all (fun c => isCode c || P c) = true) (h2 : ∀ c ∈ L.filter isCode, P c = true) : L.all P = true := by
  refine List.all_eq_true.mpr fun c hc => ?_
  have h := List.all_eq_true.mp h1 c hc
  rcases Bool.eq_false_or_eq_true (isCode c) with hi | hi
  · exact h2 c (List.mem_filter.mpr ⟨hc, hi⟩)
  · simpa [hi] using h
set_option maxRecDepth 65536 in
theorem w_c0 : (Jvm.Cond.code x code maxLocals ret).before args0 about1 = true := code_word (m := ⟨1, 2⟩) (meth := k1m2) (c := k1c2) (by decide +kernel) rfl rfl rfl (by decide +kernel)
set_option maxRecDepth 65536 in
theorem w_c1 : (Jvm.Cond.code ({ cls := "com/example/falkirk/falkirk/model/ShapeTypeHasNamedMembersPinLaw", name := "pick", desc := "(I)Lcom/example/falkirk/falkirk/model/ShapeType;" } : Jvm.MethodName) method_2_code (1 : Nat) (Option.some (Jvm.ClassFile.FieldType.object "com/example/falkirk/falkirk/model/ShapeType"))).before args0 about1 = true := code_word (m := ⟨1, 1⟩) (meth := k1m1) (c := k1c1) (by decide +kernel) rfl rfl rfl (by decide +kernel)
set_option maxRecDepth 65536 in
theorem w_c2 : (Jvm.Cond.code ({ cls := "com/example/falkirk/falkirk/model/ShapeType", name := "hasNamedMembers", desc := "()Z" } : Jvm.MethodName) prog_48_method_7_code (1 : Nat) (Option.some Jvm.ClassFile.FieldType.boolean)).before args0 about1 = true := code_word (m := ⟨6, 0⟩) (meth := k6m0) (c := k6c0) (by decide +kernel) rfl rfl rfl (by decide +kernel)
def codes1 : List Jvm.Cond := [Jvm.Cond.code x code maxLocals ret, Jvm.Cond.code ({ cls := "com/example/falkirk/falkirk/model/ShapeTypeHasNamedMembersPinLaw", name := "pick", desc := "(I)Lcom/example/falkirk/falkirk/model/ShapeType;" } : Jvm.MethodName) method_2_code (1 : Nat) (Option.some (Jvm.ClassFile.FieldType.object "com/example/falkirk/falkirk/model/ShapeType")), Jvm.Cond.code ({ cls := "com/example/falkirk/falkirk/model/ShapeType", name := "hasNamedMembers", desc := "()Z" } : Jvm.MethodName) prog_48_method_7_code (1 : Nat) (Option.some Jvm.ClassFile.FieldType.boolean)]
set_option maxRecDepth 65536 in
theorem codes_eq : words1.filter isCode = codes1 := rfl
theorem w_codes : ∀ c ∈ words1.filter isCode, c.before args0 about1 = true := by
  rw [codes_eq]
  intro c hc
  simp only [codes1, List.mem_cons, List.not_mem_nil, or_false] at hc
  rcases hc with rfl | rfl | rfl
  · exact w_c0
  · exact w_c1
  · exact w_c2
set_option maxRecDepth 65536 in
theorem w_t1 : (words1.take 24).all (fun c => isCode c || c.before args0 about1) = true := by decide +kernel
set_option maxRecDepth 65536 in
theorem w_t2 : ((words1.drop 24).take 24).all (fun c => isCode c || c.before args0 about1) = true := by decide +kernel
set_option maxRecDepth 65536 in
theorem w_t3 : ((words1.drop 24).drop 24).all (fun c => isCode c || c.before args0 about1) = true := by decide +kernel
theorem w_tables : (allAtoms (Jvm.Cond.code x code maxLocals ret :: tables_1)).before args0 about1 = true := by
  rw [allAtoms_all]
  show words1.all (fun c => c.before args0 about1) = true
  refine all_split ?_ w_codes
  rw [← List.take_append_drop 24 words1, List.all_append, w_t1, ← List.take_append_drop 24 (words1.drop 24), List.all_append, w_t2, w_t3]
  rfl
set_option maxRecDepth 65536 in
theorem w_case : (Jvm.Cond.and given_1 narrow_1).before args0 about1 = true := by decide +kernel
theorem w_applies : (headSpec (Jvm.Cond.code x code maxLocals ret :: tables_1) room_1).applies x e0.platform about1 = true :=
  (Spec.applies_iff w_frames).mpr ⟨w_running, w_runnable, w_alone, w_named, w_hears, w_ripe, w_room, w_tables⟩
theorem atStart : AtStart classFile x code maxLocals ret World_1 tables_1 room_1 Calls_1 rest_1 Pre_1 launch0 p0 e0 about1 theMethod args0 below0 :=
  ⟨lists_1, trivial, launch0.admits_env _ _ _, launch0.least_env, fairChoices_fair.cas, fairChoices_fair.clock, w_frames, w_args, w_heap, w_applies, trivial, trivial, w_case⟩
end start1
theorem witness_1 : WitnessClaimed_1 := ⟨start1.p0, start1.e0, start1.about1, start1.theMethod, start1.args0, start1.below0, start1.atStart⟩
end Jvm.Pilot.@@N@@
