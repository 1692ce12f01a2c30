import JvmDerived
import JvmDerived.Pilot.@@N@@Statement
import JvmDerived.Pilot.@@N@@Code
set_option linter.unusedVariables false
set_option linter.unusedSimpArgs false
namespace Jvm.RoadKit
open Sem ClassFile Op Lib Jvm.Stand Jvm.Free Jvm.LawKit
section New
variable {p : Program} {l : Launch} {e : Env} {R : Room} {s : State} {m : MethodId} {args : Array Value} {below : List Frame} {meth : Method} {c : Code} {T : State} {locs : List Loc} {cells slots : Nat}
theorem retI (X : Stand p l e R s m args below meth c T locs cells slots) (hx : p.tables.exec = Jvm.exec) {pc : Nat} {Ls : Array Slot} {z : Int32} {rest : List Value} (hret : meth.sig.returnType = some .int) (hd : decode c.code pc = .ok (.ireturn, 1)) {fs : List Frame}
    (hl : ∀ (f : JFrame) (acts : List Action), f.method = m → f.locked = none → f.entered = [] → (doReturn e (T.setTop f) acts (some (.int z))).1 = T.setFrames fs) : Steps p.tables e below (T.setTop (mkF m pc Ls (.int z :: rest))) (T.setFrames fs) :=
  retOut X hx hret rfl (Or.inl ⟨rfl, Or.inl rfl, z, rfl⟩) hd hl
end New
end Jvm.RoadKit
namespace Jvm.Pilot.@@N@@
open Jvm Jvm.ClassFile Sem Op Lib Jvm.Free Jvm.Stand Jvm.LawKit Jvm.RoadKit Bundle Jvm.Pilot.@@N@@.Jvm.D
theorem ow {d : Jvm.Cond} (i : Nat) (h : tables_1[i]? = some d) : d ∈ tables_1 := List.mem_of_getElem? h
/-- what a body that only reads leaves: its answer, nothing written, the heap as it was -/
def own_Q (r : Option Value) (h0 : Heap) (n0 : Nat) (v : Option Value) (h : Heap) (L : List Loc) : Prop := v = r ∧ Fr n0 L ∧ h = h0
section OwnWords
variable {args : Array Value} {first s : State} {o : Option Outcome} {idx : List Nat} {a b : Term}
theorem own_eqI {k : Int32} (h : (Jvm.Cond.eq a (.int k)).value args first o s idx = some true) : a.eval args first o idx s = some (.int k) := by
  obtain ⟨x, y, hx, hy, k1, -⟩ := cmp_v (r := true) (Or.inl h)
  have hy' : y = .int k := (Option.some.inj hy).symm
  subst hy'
  cases x <;> simp [Kin, Value.isRef] at k1
  simp [Jvm.Cond.value, hx, Term.eval] at h
  rw [hx, h]
theorem own_eqR {y : Addr} (h : (Jvm.Cond.eq a b).value args first o s idx = some true) (hb : b.eval args first o idx s = some (.ref y)) : a.eval args first o idx s = some (.ref y) := by
  obtain ⟨x, z, hx, hy, k1, -⟩ := cmp_v (r := true) (Or.inl h)
  cases hb.symm.trans hy
  cases x <;> simp [Kin, Value.isRef] at k1
  · simp [Jvm.Cond.value, hx, hb] at h
  · simp [Jvm.Cond.value, hx, hb] at h
    rw [hx, h]
theorem own_len {y : Addr} {c : Cell} {n : Int32} (h : (Term.length a).eval args first o idx s = some (.int n)) (ht : a.eval args first o idx s = some (.ref y)) (hc : s.heap[y]? = some c) : (c.slots.size : Int) = n.toInt := by
  simp only [Term.eval, Option.bind_eq_bind, ht, Option.bind_some] at h
  obtain ⟨cell, hcell, h⟩ := Option.bind_eq_some_iff.mp h
  cases hc.symm.trans (State.arrayAt?_spec hcell).1
  by_cases hn : c.slots.size < 2147483648
  · rw [if_pos hn] at h; cases h; exact (len_toInt hn).symm
  · rw [if_neg hn] at h; cases h
end OwnWords
/-- an array that stands in the heap, with all that lies in it -/
def own_Arr (Z : State) (h : Heap) (a : Addr) (ty : FieldType) (vs : List Value) : Prop := ∃ c : Cell, Arr Z h a c ty ∧ c.slots = vs.toArray
/-- what a law leaves that makes arrays of its own -/
def own_QH (r : Option Value) (n0 : Nat) (v : Option Value) (h : Heap) (L : List Loc) : Prop := v = r ∧ Fr n0 L ∧ True
/-- the same of an array whose class is known -/
def own_ArrK (Z : State) (h : Heap) (a : Addr) (k : ClassId) (ty : FieldType) (vs : List Value) : Prop := ∃ c : Cell, Arr Z h a c ty ∧ c.cls = k ∧ c.slots = vs.toArray
section OwnArr
variable {Z : State} {h0 h h' : Heap} {a b : Addr} {k : ClassId} {ty : FieldType} {vs : List Value} {v : Value} {sl : Nat} {c : Cell}
theorem own_Arr.ext (F : own_Arr Z h a ty vs) (E : Ext h h') : own_Arr Z h' a ty vs := by obtain ⟨c, A, r⟩ := F; exact ⟨c, A.ext E, r⟩
theorem own_ArrK.lt (F : own_ArrK Z h a k ty vs) : a < h.size := by obtain ⟨c, A, -⟩ := F; exact A.lt
theorem own_ArrK.ext (F : own_ArrK Z h a k ty vs) (E : Ext h h') : own_ArrK Z h' a k ty vs := by obtain ⟨c, A, r⟩ := F; exact ⟨c, A.ext E, r⟩
theorem own_ArrK.other (F : own_ArrK Z h b k ty vs) (W : Wr h h' a sl v) (q : b ≠ a) : own_ArrK Z h' b k ty vs := by obtain ⟨c, A, r⟩ := F; exact ⟨c, A.other W q, r⟩
theorem own_set (W : Wr h h' a sl v) (A : Arr Z h a c ty) (q : c.cls = k) (e : c.slots = vs.toArray) : own_ArrK Z h' a k ty (vs.set sl v) := ⟨_, A.same W, q, by simp [Cell.setSlot, e]⟩
theorem own_inb {j : Int32} (n : Nat) (e : c.slots = vs.toArray) (hl : vs.length = n) (h0 : ¬ j < 0) (h1 : j.toNatClampNeg < n) : ¬ (j < 0 ∨ c.slots.size ≤ j.toNatClampNeg) := by
  rw [e]
  rintro (h | h)
  · exact h0 h
  · simp at h; omega
theorem own_get {j : Int32} (e : c.slots = vs.toArray) (hj : ¬ j < 0) (q : vs[j.toNatClampNeg]? = some v) : (¬ (j < 0 ∨ c.slots.size ≤ j.toNatClampNeg)) ∧ c.slots[j.toNatClampNeg]? = some v := by
  have hl := (List.getElem?_eq_some_iff.mp q).1
  rw [e]
  refine ⟨?_, by simpa using q⟩
  rintro (h | h)
  · exact hj h
  · simp at h; omega
theorem own_ext_trans {h'' : Heap} (E : Ext h h') (E' : Ext h' h'') : Ext h h'' := ⟨Nat.le_trans E.1 E'.1, fun x y q => E'.2 x y (E.2 x y q)⟩
theorem own_ext_wr (E : Ext h0 h) (W : Wr h h' a sl v) (q : h0.size ≤ a) : Ext h0 h' := by
  refine ⟨Nat.le_trans E.1 (Nat.le_of_eq W.size.symm), fun x y hx => ?_⟩
  have hlt := (Array.getElem?_eq_some_iff.mp hx).1
  obtain ⟨c', e1, -, -, -, e5, -⟩ := wr_at W (E.2 x y hx)
  rw [← e5 (Nat.ne_of_lt (Nat.lt_of_lt_of_le hlt q))]; exact e1
theorem own_ext_keep (E : Ext h0 h) (K : Keep h h' [a]) (q : h0.size ≤ a) : Ext h0 h' := ⟨Nat.le_trans E.1 K.1, fun x y hx => K.2.1 x y (E.2 x y hx) (ninS (Nat.ne_of_lt (Nat.lt_of_lt_of_le (Array.getElem?_eq_some_iff.mp hx).1 q)) nin0)⟩
end OwnArr
def own_K (Z : State) (h : Heap) (w_BLOB w_BOOLEAN w_STRING w_ENUM w_BYTE w_SHORT w_INTEGER w_INT_ENUM w_LONG w_FLOAT w_DOUBLE w_BIG_INTEGER w_BIG_DECIMAL w_TIMESTAMP w_DOCUMENT w_LIST w_MAP w_STRUCTURE w_UNION w_SERVICE w_OPERATION w_RESOURCE w_MEMBER : Addr) : Prop := Sta Z h "com/example/falkirk/falkirk/model/ShapeType" "BLOB" "Lcom/example/falkirk/falkirk/model/ShapeType;" (.ref w_BLOB) ∧ Exa Z h w_BLOB "com/example/falkirk/falkirk/model/ShapeType" ∧ Sta Z h "com/example/falkirk/falkirk/model/ShapeType" "BOOLEAN" "Lcom/example/falkirk/falkirk/model/ShapeType;" (.ref w_BOOLEAN) ∧ Exa Z h w_BOOLEAN "com/example/falkirk/falkirk/model/ShapeType" ∧ Sta Z h "com/example/falkirk/falkirk/model/ShapeType" "STRING" "Lcom/example/falkirk/falkirk/model/ShapeType;" (.ref w_STRING) ∧ Exa Z h w_STRING "com/example/falkirk/falkirk/model/ShapeType" ∧ Sta Z h "com/example/falkirk/falkirk/model/ShapeType" "ENUM" "Lcom/example/falkirk/falkirk/model/ShapeType;" (.ref w_ENUM) ∧ Exa Z h w_ENUM "com/example/falkirk/falkirk/model/ShapeType" ∧ Sta Z h "com/example/falkirk/falkirk/model/ShapeType" "BYTE" "Lcom/example/falkirk/falkirk/model/ShapeType;" (.ref w_BYTE) ∧ Exa Z h w_BYTE "com/example/falkirk/falkirk/model/ShapeType" ∧ Sta Z h "com/example/falkirk/falkirk/model/ShapeType" "SHORT" "Lcom/example/falkirk/falkirk/model/ShapeType;" (.ref w_SHORT) ∧ Exa Z h w_SHORT "com/example/falkirk/falkirk/model/ShapeType" ∧ Sta Z h "com/example/falkirk/falkirk/model/ShapeType" "INTEGER" "Lcom/example/falkirk/falkirk/model/ShapeType;" (.ref w_INTEGER) ∧ Exa Z h w_INTEGER "com/example/falkirk/falkirk/model/ShapeType" ∧ Sta Z h "com/example/falkirk/falkirk/model/ShapeType" "INT_ENUM" "Lcom/example/falkirk/falkirk/model/ShapeType;" (.ref w_INT_ENUM) ∧ Exa Z h w_INT_ENUM "com/example/falkirk/falkirk/model/ShapeType" ∧ Sta Z h "com/example/falkirk/falkirk/model/ShapeType" "LONG" "Lcom/example/falkirk/falkirk/model/ShapeType;" (.ref w_LONG) ∧ Exa Z h w_LONG "com/example/falkirk/falkirk/model/ShapeType" ∧ Sta Z h "com/example/falkirk/falkirk/model/ShapeType" "FLOAT" "Lcom/example/falkirk/falkirk/model/ShapeType;" (.ref w_FLOAT) ∧ Exa Z h w_FLOAT "com/example/falkirk/falkirk/model/ShapeType" ∧ Sta Z h "com/example/falkirk/falkirk/model/ShapeType" "DOUBLE" "Lcom/example/falkirk/falkirk/model/ShapeType;" (.ref w_DOUBLE) ∧ Exa Z h w_DOUBLE "com/example/falkirk/falkirk/model/ShapeType" ∧ Sta Z h "com/example/falkirk/falkirk/model/ShapeType" "BIG_INTEGER" "Lcom/example/falkirk/falkirk/model/ShapeType;" (.ref w_BIG_INTEGER) ∧ Exa Z h w_BIG_INTEGER "com/example/falkirk/falkirk/model/ShapeType" ∧ Sta Z h "com/example/falkirk/falkirk/model/ShapeType" "BIG_DECIMAL" "Lcom/example/falkirk/falkirk/model/ShapeType;" (.ref w_BIG_DECIMAL) ∧ Exa Z h w_BIG_DECIMAL "com/example/falkirk/falkirk/model/ShapeType" ∧ Sta Z h "com/example/falkirk/falkirk/model/ShapeType" "TIMESTAMP" "Lcom/example/falkirk/falkirk/model/ShapeType;" (.ref w_TIMESTAMP) ∧ Exa Z h w_TIMESTAMP "com/example/falkirk/falkirk/model/ShapeType" ∧ Sta Z h "com/example/falkirk/falkirk/model/ShapeType" "DOCUMENT" "Lcom/example/falkirk/falkirk/model/ShapeType;" (.ref w_DOCUMENT) ∧ Exa Z h w_DOCUMENT "com/example/falkirk/falkirk/model/ShapeType" ∧ Sta Z h "com/example/falkirk/falkirk/model/ShapeType" "LIST" "Lcom/example/falkirk/falkirk/model/ShapeType;" (.ref w_LIST) ∧ Exa Z h w_LIST "com/example/falkirk/falkirk/model/ShapeType" ∧ Sta Z h "com/example/falkirk/falkirk/model/ShapeType" "MAP" "Lcom/example/falkirk/falkirk/model/ShapeType;" (.ref w_MAP) ∧ Exa Z h w_MAP "com/example/falkirk/falkirk/model/ShapeType" ∧ Sta Z h "com/example/falkirk/falkirk/model/ShapeType" "STRUCTURE" "Lcom/example/falkirk/falkirk/model/ShapeType;" (.ref w_STRUCTURE) ∧ Exa Z h w_STRUCTURE "com/example/falkirk/falkirk/model/ShapeType" ∧ Sta Z h "com/example/falkirk/falkirk/model/ShapeType" "UNION" "Lcom/example/falkirk/falkirk/model/ShapeType;" (.ref w_UNION) ∧ Exa Z h w_UNION "com/example/falkirk/falkirk/model/ShapeType" ∧ Sta Z h "com/example/falkirk/falkirk/model/ShapeType" "SERVICE" "Lcom/example/falkirk/falkirk/model/ShapeType;" (.ref w_SERVICE) ∧ Exa Z h w_SERVICE "com/example/falkirk/falkirk/model/ShapeType" ∧ Sta Z h "com/example/falkirk/falkirk/model/ShapeType" "OPERATION" "Lcom/example/falkirk/falkirk/model/ShapeType;" (.ref w_OPERATION) ∧ Exa Z h w_OPERATION "com/example/falkirk/falkirk/model/ShapeType" ∧ Sta Z h "com/example/falkirk/falkirk/model/ShapeType" "RESOURCE" "Lcom/example/falkirk/falkirk/model/ShapeType;" (.ref w_RESOURCE) ∧ Exa Z h w_RESOURCE "com/example/falkirk/falkirk/model/ShapeType" ∧ Sta Z h "com/example/falkirk/falkirk/model/ShapeType" "MEMBER" "Lcom/example/falkirk/falkirk/model/ShapeType;" (.ref w_MEMBER) ∧ Exa Z h w_MEMBER "com/example/falkirk/falkirk/model/ShapeType" ∧ Fld Z h w_BLOB "java/lang/Enum" "ordinal" "I" (.int (0 : Int32)) ∧ Fld Z h w_ENUM "java/lang/Enum" "ordinal" "I" (.int (3 : Int32)) ∧ Fld Z h w_INT_ENUM "java/lang/Enum" "ordinal" "I" (.int (7 : Int32)) ∧ Fld Z h w_DOCUMENT "java/lang/Enum" "ordinal" "I" (.int (14 : Int32)) ∧ Fld Z h w_BOOLEAN "java/lang/Enum" "ordinal" "I" (.int (1 : Int32)) ∧ Fld Z h w_STRING "java/lang/Enum" "ordinal" "I" (.int (2 : Int32)) ∧ Fld Z h w_DOUBLE "java/lang/Enum" "ordinal" "I" (.int (10 : Int32)) ∧ Fld Z h w_TIMESTAMP "java/lang/Enum" "ordinal" "I" (.int (13 : Int32)) ∧ Fld Z h w_INTEGER "java/lang/Enum" "ordinal" "I" (.int (6 : Int32)) ∧ Fld Z h w_BYTE "java/lang/Enum" "ordinal" "I" (.int (4 : Int32)) ∧ Fld Z h w_LONG "java/lang/Enum" "ordinal" "I" (.int (8 : Int32)) ∧ Fld Z h w_SHORT "java/lang/Enum" "ordinal" "I" (.int (5 : Int32)) ∧ Fld Z h w_BIG_DECIMAL "java/lang/Enum" "ordinal" "I" (.int (12 : Int32)) ∧ Fld Z h w_RESOURCE "java/lang/Enum" "ordinal" "I" (.int (21 : Int32)) ∧ Fld Z h w_FLOAT "java/lang/Enum" "ordinal" "I" (.int (9 : Int32)) ∧ Fld Z h w_MAP "java/lang/Enum" "ordinal" "I" (.int (16 : Int32)) ∧ Fld Z h w_OPERATION "java/lang/Enum" "ordinal" "I" (.int (20 : Int32)) ∧ Fld Z h w_SERVICE "java/lang/Enum" "ordinal" "I" (.int (19 : Int32)) ∧ Fld Z h w_BIG_INTEGER "java/lang/Enum" "ordinal" "I" (.int (11 : Int32)) ∧ Fld Z h w_LIST "java/lang/Enum" "ordinal" "I" (.int (15 : Int32)) ∧ Fld Z h w_STRUCTURE "java/lang/Enum" "ordinal" "I" (.int (17 : Int32)) ∧ Fld Z h w_MEMBER "java/lang/Enum" "ordinal" "I" (.int (22 : Int32)) ∧ Fld Z h w_UNION "java/lang/Enum" "ordinal" "I" (.int (18 : Int32))
theorem own_K_ext {Z : State} {h h' : Heap} {w_BLOB w_BOOLEAN w_STRING w_ENUM w_BYTE w_SHORT w_INTEGER w_INT_ENUM w_LONG w_FLOAT w_DOUBLE w_BIG_INTEGER w_BIG_DECIMAL w_TIMESTAMP w_DOCUMENT w_LIST w_MAP w_STRUCTURE w_UNION w_SERVICE w_OPERATION w_RESOURCE w_MEMBER : Addr} (E : Ext h h') (hK : own_K Z h w_BLOB w_BOOLEAN w_STRING w_ENUM w_BYTE w_SHORT w_INTEGER w_INT_ENUM w_LONG w_FLOAT w_DOUBLE w_BIG_INTEGER w_BIG_DECIMAL w_TIMESTAMP w_DOCUMENT w_LIST w_MAP w_STRUCTURE w_UNION w_SERVICE w_OPERATION w_RESOURCE w_MEMBER) : own_K Z h' w_BLOB w_BOOLEAN w_STRING w_ENUM w_BYTE w_SHORT w_INTEGER w_INT_ENUM w_LONG w_FLOAT w_DOUBLE w_BIG_INTEGER w_BIG_DECIMAL w_TIMESTAMP w_DOCUMENT w_LIST w_MAP w_STRUCTURE w_UNION w_SERVICE w_OPERATION w_RESOURCE w_MEMBER := by
  obtain ⟨S_w_BLOB, E_w_BLOB, S_w_BOOLEAN, E_w_BOOLEAN, S_w_STRING, E_w_STRING, S_w_ENUM, E_w_ENUM, S_w_BYTE, E_w_BYTE, S_w_SHORT, E_w_SHORT, S_w_INTEGER, E_w_INTEGER, S_w_INT_ENUM, E_w_INT_ENUM, S_w_LONG, E_w_LONG, S_w_FLOAT, E_w_FLOAT, S_w_DOUBLE, E_w_DOUBLE, S_w_BIG_INTEGER, E_w_BIG_INTEGER, S_w_BIG_DECIMAL, E_w_BIG_DECIMAL, S_w_TIMESTAMP, E_w_TIMESTAMP, S_w_DOCUMENT, E_w_DOCUMENT, S_w_LIST, E_w_LIST, S_w_MAP, E_w_MAP, S_w_STRUCTURE, E_w_STRUCTURE, S_w_UNION, E_w_UNION, S_w_SERVICE, E_w_SERVICE, S_w_OPERATION, E_w_OPERATION, S_w_RESOURCE, E_w_RESOURCE, S_w_MEMBER, E_w_MEMBER, F_ordinal_w_BLOB, F_ordinal_w_ENUM, F_ordinal_w_INT_ENUM, F_ordinal_w_DOCUMENT, F_ordinal_w_BOOLEAN, F_ordinal_w_STRING, F_ordinal_w_DOUBLE, F_ordinal_w_TIMESTAMP, F_ordinal_w_INTEGER, F_ordinal_w_BYTE, F_ordinal_w_LONG, F_ordinal_w_SHORT, F_ordinal_w_BIG_DECIMAL, F_ordinal_w_RESOURCE, F_ordinal_w_FLOAT, F_ordinal_w_MAP, F_ordinal_w_OPERATION, F_ordinal_w_SERVICE, F_ordinal_w_BIG_INTEGER, F_ordinal_w_LIST, F_ordinal_w_STRUCTURE, F_ordinal_w_MEMBER, F_ordinal_w_UNION⟩ := hK
  exact ⟨S_w_BLOB.ext E, E_w_BLOB.ext E, S_w_BOOLEAN.ext E, E_w_BOOLEAN.ext E, S_w_STRING.ext E, E_w_STRING.ext E, S_w_ENUM.ext E, E_w_ENUM.ext E, S_w_BYTE.ext E, E_w_BYTE.ext E, S_w_SHORT.ext E, E_w_SHORT.ext E, S_w_INTEGER.ext E, E_w_INTEGER.ext E, S_w_INT_ENUM.ext E, E_w_INT_ENUM.ext E, S_w_LONG.ext E, E_w_LONG.ext E, S_w_FLOAT.ext E, E_w_FLOAT.ext E, S_w_DOUBLE.ext E, E_w_DOUBLE.ext E, S_w_BIG_INTEGER.ext E, E_w_BIG_INTEGER.ext E, S_w_BIG_DECIMAL.ext E, E_w_BIG_DECIMAL.ext E, S_w_TIMESTAMP.ext E, E_w_TIMESTAMP.ext E, S_w_DOCUMENT.ext E, E_w_DOCUMENT.ext E, S_w_LIST.ext E, E_w_LIST.ext E, S_w_MAP.ext E, E_w_MAP.ext E, S_w_STRUCTURE.ext E, E_w_STRUCTURE.ext E, S_w_UNION.ext E, E_w_UNION.ext E, S_w_SERVICE.ext E, E_w_SERVICE.ext E, S_w_OPERATION.ext E, E_w_OPERATION.ext E, S_w_RESOURCE.ext E, E_w_RESOURCE.ext E, S_w_MEMBER.ext E, E_w_MEMBER.ext E, F_ordinal_w_BLOB.ext E, F_ordinal_w_ENUM.ext E, F_ordinal_w_INT_ENUM.ext E, F_ordinal_w_DOCUMENT.ext E, F_ordinal_w_BOOLEAN.ext E, F_ordinal_w_STRING.ext E, F_ordinal_w_DOUBLE.ext E, F_ordinal_w_TIMESTAMP.ext E, F_ordinal_w_INTEGER.ext E, F_ordinal_w_BYTE.ext E, F_ordinal_w_LONG.ext E, F_ordinal_w_SHORT.ext E, F_ordinal_w_BIG_DECIMAL.ext E, F_ordinal_w_RESOURCE.ext E, F_ordinal_w_FLOAT.ext E, F_ordinal_w_MAP.ext E, F_ordinal_w_OPERATION.ext E, F_ordinal_w_SERVICE.ext E, F_ordinal_w_BIG_INTEGER.ext E, F_ordinal_w_LIST.ext E, F_ordinal_w_STRUCTURE.ext E, F_ordinal_w_MEMBER.ext E, F_ordinal_w_UNION.ext E⟩
theorem d_prog_48_method_8_0 : decode prog_48_method_8_code 0 = .ok (.aload_n 0, 1) := by decide +kernel
theorem d_prog_48_method_8_1 : decode prog_48_method_8_code 1 = .ok (.aload_n 1, 1) := by decide +kernel
theorem d_prog_48_method_8_2 : decode prog_48_method_8_code 2 = .ok (.if_acmp .eq 31, 3) := by decide +kernel
theorem d_prog_48_method_8_33 : decode prog_48_method_8_code 33 = .ok (.iconst 1, 1) := by decide +kernel
theorem d_prog_48_method_8_34 : decode prog_48_method_8_code 34 = .ok (.goto 4, 3) := by decide +kernel
theorem d_prog_48_method_8_38 : decode prog_48_method_8_code 38 = .ok (.ireturn, 1) := by decide +kernel
theorem d_prog_48_method_8_5 : decode prog_48_method_8_code 5 = .ok (.aload_n 0, 1) := by decide +kernel
theorem d_prog_48_method_8_6 : decode prog_48_method_8_code 6 = .ok (.getstatic 13, 3) := by decide +kernel
theorem d_prog_48_method_8_9 : decode prog_48_method_8_code 9 = .ok (.if_acmp .ne 10, 3) := by decide +kernel
theorem d_prog_48_method_8_12 : decode prog_48_method_8_code 12 = .ok (.aload_n 1, 1) := by decide +kernel
theorem d_prog_48_method_8_13 : decode prog_48_method_8_code 13 = .ok (.getstatic 10, 3) := by decide +kernel
theorem d_prog_48_method_8_16 : decode prog_48_method_8_code 16 = .ok (.if_acmp .eq 17, 3) := by decide +kernel
theorem d_prog_48_method_8_19 : decode prog_48_method_8_code 19 = .ok (.aload_n 0, 1) := by decide +kernel
theorem d_prog_48_method_8_20 : decode prog_48_method_8_code 20 = .ok (.getstatic 25, 3) := by decide +kernel
theorem d_prog_48_method_8_23 : decode prog_48_method_8_code 23 = .ok (.if_acmp .ne 14, 3) := by decide +kernel
theorem d_prog_48_method_8_26 : decode prog_48_method_8_code 26 = .ok (.aload_n 1, 1) := by decide +kernel
theorem d_prog_48_method_8_27 : decode prog_48_method_8_code 27 = .ok (.getstatic 22, 3) := by decide +kernel
theorem d_prog_48_method_8_30 : decode prog_48_method_8_code 30 = .ok (.if_acmp .ne 7, 3) := by decide +kernel
theorem d_prog_48_method_8_37 : decode prog_48_method_8_code 37 = .ok (.iconst 0, 1) := by decide +kernel
theorem pn_0 : plainName "com/example/falkirk/falkirk/model/ShapeType" = true := by first | (simp [plainName, overriddenIn]; done) | decide +kernel
theorem ef_isA (m : MethodId) (x0 : Addr) (x1 : Addr) : entryFrame m #[(.ref x0), (.ref x1)] 2 = mkF m 0 #[.val (.ref x0), .val (.ref x1)] [] := by first | (simp [entryFrame, mkF, argsToLocals, Value.category]; done) | rfl
set_option maxRecDepth 65536 in
set_option maxHeartbeats 40000000 in
theorem rm_isA (l : Launch) (Z : State) (a0 : Array Value) (hw : ∀ d ∈ tables_1, d.before a0 Z = true) (ws : List Jvm.Cond) (a1 : Addr) (a2 : Addr) (h0 : Heap) (n0 : Nat) (w_BLOB w_BOOLEAN w_STRING w_ENUM w_BYTE w_SHORT w_INTEGER w_INT_ENUM w_LONG w_FLOAT w_DOUBLE w_BIG_INTEGER w_BIG_DECIMAL w_TIMESTAMP w_DOCUMENT w_LIST w_MAP w_STRUCTURE w_UNION w_SERVICE w_OPERATION w_RESOURCE w_MEMBER : Addr) (hK : own_K Z h0 w_BLOB w_BOOLEAN w_STRING w_ENUM w_BYTE w_SHORT w_INTEGER w_INT_ENUM w_LONG w_FLOAT w_DOUBLE w_BIG_INTEGER w_BIG_DECIMAL w_TIMESTAMP w_DOCUMENT w_LIST w_MAP w_STRUCTURE w_UNION w_SERVICE w_OPERATION w_RESOURCE w_MEMBER) :
    MetFree l (⟨"com/example/falkirk/falkirk/model/ShapeType", "isA", "(Lcom/example/falkirk/falkirk/model/ShapeType;)Z"⟩ : MethodName) (head1 (Jvm.Cond.code (⟨"com/example/falkirk/falkirk/model/ShapeType", "isA", "(Lcom/example/falkirk/falkirk/model/ShapeType;)Z"⟩ : MethodName) prog_48_method_8_code 2 (some .boolean) :: ws) ({ frames := 0, cells := 0, slots := 0, locals := 0 } : Room)) (fun a U => a = #[(.ref a1), (.ref a2)] ∧ Z.Warmed39 U.vm ∧ U.heap = h0) (fun _ _ _ _ _ => True) (fun _ U o U' => ∃ v L, o = .returned v ∧ own_Q (some (.int (if a1 = a2 then (1 : Int32) else (if a1 = w_ENUM then (if a2 = w_STRING then (1 : Int32) else (if a1 = w_INT_ENUM then (if a2 = w_INTEGER then (1 : Int32) else (0 : Int32)) else (0 : Int32))) else (if a1 = w_INT_ENUM then (if a2 = w_INTEGER then (1 : Int32) else (0 : Int32)) else (0 : Int32)))))) h0 n0 v U'.heap L ∧ FrameEnd U o U' L ({ frames := 0, cells := 0, slots := 0, locals := 0 } : Room).cells ({ frames := 0, cells := 0, slots := 0, locals := 0 } : Room).slots) := by
  refine MetFree.of_bodySF (plainFor_of_name pn_0) hisR ?_
  intro p e s m args below meth c s₁ Bd hml0 hP hK0
  obtain ⟨rfl, hZ, hh⟩ := hP
  have hx := Bd.exec
  have hby := Bd.bytes
  have hml : c.maxLocals = 2 := hml0
  have hown : s.vm.findClass "com/example/falkirk/falkirk/model/ShapeType" = some m.cls := findClass_of_methodNamed Bd.named
  have hnm := (name_of_methodNamed Bd.named Bd.method).1
  have X0 : Stand p l e ({ frames := 0, cells := 0, slots := 0, locals := 0 } : Room) s m #[(.ref a1), (.ref a2)] below meth c s₁ [] 0 0 := Stand.of_body Bd
  have e0 : s₁.heap = h0 := by rw [← hh, Bd.state]; rfl
  have N0 := Fr.nil n0
  have pre0 : ∀ t, Steps p.tables e below (s₁.setTop (mkF m 0 #[.val (.ref a1), .val (.ref a2)] [])) t → Steps p.tables e below (s₁.setTop (entryFrame m #[(.ref a1), (.ref a2)] 2)) t := fun t k => castTop (ef_isA m a1 a2) k
  have hK' := hK
  obtain ⟨S_w_BLOB, E_w_BLOB, S_w_BOOLEAN, E_w_BOOLEAN, S_w_STRING, E_w_STRING, S_w_ENUM, E_w_ENUM, S_w_BYTE, E_w_BYTE, S_w_SHORT, E_w_SHORT, S_w_INTEGER, E_w_INTEGER, S_w_INT_ENUM, E_w_INT_ENUM, S_w_LONG, E_w_LONG, S_w_FLOAT, E_w_FLOAT, S_w_DOUBLE, E_w_DOUBLE, S_w_BIG_INTEGER, E_w_BIG_INTEGER, S_w_BIG_DECIMAL, E_w_BIG_DECIMAL, S_w_TIMESTAMP, E_w_TIMESTAMP, S_w_DOCUMENT, E_w_DOCUMENT, S_w_LIST, E_w_LIST, S_w_MAP, E_w_MAP, S_w_STRUCTURE, E_w_STRUCTURE, S_w_UNION, E_w_UNION, S_w_SERVICE, E_w_SERVICE, S_w_OPERATION, E_w_OPERATION, S_w_RESOURCE, E_w_RESOURCE, S_w_MEMBER, E_w_MEMBER, F_ordinal_w_BLOB, F_ordinal_w_ENUM, F_ordinal_w_INT_ENUM, F_ordinal_w_DOCUMENT, F_ordinal_w_BOOLEAN, F_ordinal_w_STRING, F_ordinal_w_DOUBLE, F_ordinal_w_TIMESTAMP, F_ordinal_w_INTEGER, F_ordinal_w_BYTE, F_ordinal_w_LONG, F_ordinal_w_SHORT, F_ordinal_w_BIG_DECIMAL, F_ordinal_w_RESOURCE, F_ordinal_w_FLOAT, F_ordinal_w_MAP, F_ordinal_w_OPERATION, F_ordinal_w_SERVICE, F_ordinal_w_BIG_INTEGER, F_ordinal_w_LIST, F_ordinal_w_STRUCTURE, F_ordinal_w_MEMBER, F_ordinal_w_UNION⟩ := hK'
  have pre2 : ∀ t, Steps p.tables e below (s₁.setTop (mkF m 2 #[.val (.ref a1), .val (.ref a2)] [(.ref a2), (.ref a1)])) t → Steps p.tables e below (s₁.setTop (entryFrame m #[(.ref a1), (.ref a2)] 2)) t := fun t k => pre0 t (by
    show Steps p.tables e below (s₁.setTop (mkF m 0 #[.val (.ref a1), .val (.ref a2)] [])) _
    refine XS.aloadN X0.here hx rfl (hb hby d_prog_48_method_8_0) rfl rfl ?_
    show Steps p.tables e below (s₁.setTop (mkF m 1 #[.val (.ref a1), .val (.ref a2)] [(.ref a1)])) _
    refine XS.aloadN X0.here hx rfl (hb hby d_prog_48_method_8_1) rfl rfl ?_
    exact k)
  by_cases hc2_1 : a1 = a2
  · have pre3 : ∀ t, Steps p.tables e below (s₁.setTop (mkF m 38 #[.val (.ref a1), .val (.ref a2)] [(.int (1 : Int32))])) t → Steps p.tables e below (s₁.setTop (entryFrame m #[(.ref a1), (.ref a2)] 2)) t := fun t k => pre2 t (by
      show Steps p.tables e below (s₁.setTop (mkF m 2 #[.val (.ref a1), .val (.ref a2)] [(.ref a2), (.ref a1)])) _
      refine Jvm.RoadKit.acmp (g := (mkF m 2 #[.val (.ref a1), .val (.ref a2)] [(.ref a2), (.ref a1)])) X0 hx rfl rfl rfl (pc0 := 2) (pc' := 33) (same := true) rfl (hb hby d_prog_48_method_8_2) rfl (decide_eq_true (congrArg Value.ref hc2_1)) (by decide) (by decide) ?_
      show Steps p.tables e below (s₁.setTop (mkF m 33 #[.val (.ref a1), .val (.ref a2)] [])) _
      refine XS.iconst X0.here hx rfl (hb hby d_prog_48_method_8_33) ?_
      show Steps p.tables e below (s₁.setTop (mkF m 34 #[.val (.ref a1), .val (.ref a2)] [(.int (1 : Int32))])) _
      refine XS.goto X0.here hx rfl (pc0 := 34) (pc' := 38) rfl (hb hby d_prog_48_method_8_34) (by decide) (by decide) ?_
      exact k)
    obtain ⟨fs, hr, hrun, hended, hW, hsame⟩ := X0.leave (v := some (.int (1 : Int32))) (fun h => by rw [Bd.returns] at h; cases h)
    refine ⟨_, _, pre3 _ ?_, hrun, hended, _, _, rfl, ?_, ⟨_, rfl⟩, hW, hsame.mono (by decide) (by decide)⟩
    · show Steps p.tables e below (s₁.setTop (mkF m 38 #[.val (.ref a1), .val (.ref a2)] [(.int (1 : Int32))])) _
      exact retN X0 hx (t := .boolean) Bd.returns (by simp) (hb hby d_prog_48_method_8_38) hr
    · exact ⟨congrArg (fun z => some (Value.int z)) (Eq.symm (if_pos hc2_1)), N0, e0⟩
  · obtain ⟨T4, X4, e4, st4⟩ := getS2 X0 hx hZ hown (host := "") (Or.inl (hw _ (ow 56 rfl))) Via.refl e0 S_w_ENUM (g := (mkF m 6 #[.val (.ref a1), .val (.ref a2)] [(.ref a1)])) rfl (hb hby d_prog_48_method_8_6)
    have pre6 : ∀ t, Steps p.tables e below (T4.setTop (mkF m 9 #[.val (.ref a1), .val (.ref a2)] [(.ref w_ENUM), (.ref a1)])) t → Steps p.tables e below (s₁.setTop (entryFrame m #[(.ref a1), (.ref a2)] 2)) t := fun t k => pre2 t (by
      show Steps p.tables e below (s₁.setTop (mkF m 2 #[.val (.ref a1), .val (.ref a2)] [(.ref a2), (.ref a1)])) _
      refine Jvm.RoadKit.acmp (g := (mkF m 2 #[.val (.ref a1), .val (.ref a2)] [(.ref a2), (.ref a1)])) X0 hx rfl rfl rfl (pc0 := 2) (pc' := 5) (same := false) rfl (hb hby d_prog_48_method_8_2) rfl (decide_eq_false fun q => hc2_1 (Value.ref.inj q)) (by decide) (by decide) ?_
      show Steps p.tables e below (s₁.setTop (mkF m 5 #[.val (.ref a1), .val (.ref a2)] [])) _
      refine XS.aloadN X0.here hx rfl (hb hby d_prog_48_method_8_5) rfl rfl ?_
      show Steps p.tables e below (s₁.setTop (mkF m 6 #[.val (.ref a1), .val (.ref a2)] [(.ref a1)])) _
      refine st4 _ ?_
      exact k)
    by_cases hc9_5 : a1 = w_ENUM
    · obtain ⟨T7, X7, e7, st7⟩ := getS2 X4 hx hZ hown (host := "") (Or.inl (hw _ (ow 58 rfl))) Via.refl e4 S_w_STRING (g := (mkF m 13 #[.val (.ref a1), .val (.ref a2)] [(.ref a2)])) rfl (hb hby d_prog_48_method_8_13)
      have pre9 : ∀ t, Steps p.tables e below (T7.setTop (mkF m 16 #[.val (.ref a1), .val (.ref a2)] [(.ref w_STRING), (.ref a2)])) t → Steps p.tables e below (s₁.setTop (entryFrame m #[(.ref a1), (.ref a2)] 2)) t := fun t k => pre6 t (by
        show Steps p.tables e below (T4.setTop (mkF m 9 #[.val (.ref a1), .val (.ref a2)] [(.ref w_ENUM), (.ref a1)])) _
        refine Jvm.RoadKit.acmp (g := (mkF m 9 #[.val (.ref a1), .val (.ref a2)] [(.ref w_ENUM), (.ref a1)])) X4 hx rfl rfl rfl (pc0 := 9) (pc' := 12) (same := true) rfl (hb hby d_prog_48_method_8_9) rfl (decide_eq_true (congrArg Value.ref hc9_5)) (by decide) (by decide) ?_
        show Steps p.tables e below (T4.setTop (mkF m 12 #[.val (.ref a1), .val (.ref a2)] [])) _
        refine XS.aloadN X4.here hx rfl (hb hby d_prog_48_method_8_12) rfl rfl ?_
        show Steps p.tables e below (T4.setTop (mkF m 13 #[.val (.ref a1), .val (.ref a2)] [(.ref a2)])) _
        refine st7 _ ?_
        exact k)
      by_cases hc16_8 : a2 = w_STRING
      · have pre10 : ∀ t, Steps p.tables e below (T7.setTop (mkF m 38 #[.val (.ref a1), .val (.ref a2)] [(.int (1 : Int32))])) t → Steps p.tables e below (s₁.setTop (entryFrame m #[(.ref a1), (.ref a2)] 2)) t := fun t k => pre9 t (by
          show Steps p.tables e below (T7.setTop (mkF m 16 #[.val (.ref a1), .val (.ref a2)] [(.ref w_STRING), (.ref a2)])) _
          refine Jvm.RoadKit.acmp (g := (mkF m 16 #[.val (.ref a1), .val (.ref a2)] [(.ref w_STRING), (.ref a2)])) X7 hx rfl rfl rfl (pc0 := 16) (pc' := 33) (same := true) rfl (hb hby d_prog_48_method_8_16) rfl (decide_eq_true (congrArg Value.ref hc16_8)) (by decide) (by decide) ?_
          show Steps p.tables e below (T7.setTop (mkF m 33 #[.val (.ref a1), .val (.ref a2)] [])) _
          refine XS.iconst X7.here hx rfl (hb hby d_prog_48_method_8_33) ?_
          show Steps p.tables e below (T7.setTop (mkF m 34 #[.val (.ref a1), .val (.ref a2)] [(.int (1 : Int32))])) _
          refine XS.goto X7.here hx rfl (pc0 := 34) (pc' := 38) rfl (hb hby d_prog_48_method_8_34) (by decide) (by decide) ?_
          exact k)
        obtain ⟨fs, hr, hrun, hended, hW, hsame⟩ := X7.leave (v := some (.int (1 : Int32))) (fun h => by rw [Bd.returns] at h; cases h)
        refine ⟨_, _, pre10 _ ?_, hrun, hended, _, _, rfl, ?_, ⟨_, rfl⟩, hW, hsame.mono (by decide) (by decide)⟩
        · show Steps p.tables e below (T7.setTop (mkF m 38 #[.val (.ref a1), .val (.ref a2)] [(.int (1 : Int32))])) _
          exact retN X7 hx (t := .boolean) Bd.returns (by simp) (hb hby d_prog_48_method_8_38) hr
        · exact ⟨congrArg (fun z => some (Value.int z)) (Eq.symm ((if_neg hc2_1).trans ((if_pos hc9_5).trans (if_pos hc16_8)))), N0, e7⟩
      · obtain ⟨T11, X11, e11, st11⟩ := getS2 X7 hx hZ hown (host := "") (Or.inl (hw _ (ow 57 rfl))) Via.refl e7 S_w_INT_ENUM (g := (mkF m 20 #[.val (.ref a1), .val (.ref a2)] [(.ref a1)])) rfl (hb hby d_prog_48_method_8_20)
        have pre13 : ∀ t, Steps p.tables e below (T11.setTop (mkF m 23 #[.val (.ref a1), .val (.ref a2)] [(.ref w_INT_ENUM), (.ref a1)])) t → Steps p.tables e below (s₁.setTop (entryFrame m #[(.ref a1), (.ref a2)] 2)) t := fun t k => pre9 t (by
          show Steps p.tables e below (T7.setTop (mkF m 16 #[.val (.ref a1), .val (.ref a2)] [(.ref w_STRING), (.ref a2)])) _
          refine Jvm.RoadKit.acmp (g := (mkF m 16 #[.val (.ref a1), .val (.ref a2)] [(.ref w_STRING), (.ref a2)])) X7 hx rfl rfl rfl (pc0 := 16) (pc' := 19) (same := false) rfl (hb hby d_prog_48_method_8_16) rfl (decide_eq_false fun q => hc16_8 (Value.ref.inj q)) (by decide) (by decide) ?_
          show Steps p.tables e below (T7.setTop (mkF m 19 #[.val (.ref a1), .val (.ref a2)] [])) _
          refine XS.aloadN X7.here hx rfl (hb hby d_prog_48_method_8_19) rfl rfl ?_
          show Steps p.tables e below (T7.setTop (mkF m 20 #[.val (.ref a1), .val (.ref a2)] [(.ref a1)])) _
          refine st11 _ ?_
          exact k)
        by_cases hc23_12 : a1 = w_INT_ENUM
        · obtain ⟨T14, X14, e14, st14⟩ := getS2 X11 hx hZ hown (host := "") (Or.inl (hw _ (ow 59 rfl))) Via.refl e11 S_w_INTEGER (g := (mkF m 27 #[.val (.ref a1), .val (.ref a2)] [(.ref a2)])) rfl (hb hby d_prog_48_method_8_27)
          have pre16 : ∀ t, Steps p.tables e below (T14.setTop (mkF m 30 #[.val (.ref a1), .val (.ref a2)] [(.ref w_INTEGER), (.ref a2)])) t → Steps p.tables e below (s₁.setTop (entryFrame m #[(.ref a1), (.ref a2)] 2)) t := fun t k => pre13 t (by
            show Steps p.tables e below (T11.setTop (mkF m 23 #[.val (.ref a1), .val (.ref a2)] [(.ref w_INT_ENUM), (.ref a1)])) _
            refine Jvm.RoadKit.acmp (g := (mkF m 23 #[.val (.ref a1), .val (.ref a2)] [(.ref w_INT_ENUM), (.ref a1)])) X11 hx rfl rfl rfl (pc0 := 23) (pc' := 26) (same := true) rfl (hb hby d_prog_48_method_8_23) rfl (decide_eq_true (congrArg Value.ref hc23_12)) (by decide) (by decide) ?_
            show Steps p.tables e below (T11.setTop (mkF m 26 #[.val (.ref a1), .val (.ref a2)] [])) _
            refine XS.aloadN X11.here hx rfl (hb hby d_prog_48_method_8_26) rfl rfl ?_
            show Steps p.tables e below (T11.setTop (mkF m 27 #[.val (.ref a1), .val (.ref a2)] [(.ref a2)])) _
            refine st14 _ ?_
            exact k)
          by_cases hc30_15 : a2 = w_INTEGER
          · have pre17 : ∀ t, Steps p.tables e below (T14.setTop (mkF m 38 #[.val (.ref a1), .val (.ref a2)] [(.int (1 : Int32))])) t → Steps p.tables e below (s₁.setTop (entryFrame m #[(.ref a1), (.ref a2)] 2)) t := fun t k => pre16 t (by
              show Steps p.tables e below (T14.setTop (mkF m 30 #[.val (.ref a1), .val (.ref a2)] [(.ref w_INTEGER), (.ref a2)])) _
              refine Jvm.RoadKit.acmp (g := (mkF m 30 #[.val (.ref a1), .val (.ref a2)] [(.ref w_INTEGER), (.ref a2)])) X14 hx rfl rfl rfl (pc0 := 30) (pc' := 33) (same := true) rfl (hb hby d_prog_48_method_8_30) rfl (decide_eq_true (congrArg Value.ref hc30_15)) (by decide) (by decide) ?_
              show Steps p.tables e below (T14.setTop (mkF m 33 #[.val (.ref a1), .val (.ref a2)] [])) _
              refine XS.iconst X14.here hx rfl (hb hby d_prog_48_method_8_33) ?_
              show Steps p.tables e below (T14.setTop (mkF m 34 #[.val (.ref a1), .val (.ref a2)] [(.int (1 : Int32))])) _
              refine XS.goto X14.here hx rfl (pc0 := 34) (pc' := 38) rfl (hb hby d_prog_48_method_8_34) (by decide) (by decide) ?_
              exact k)
            obtain ⟨fs, hr, hrun, hended, hW, hsame⟩ := X14.leave (v := some (.int (1 : Int32))) (fun h => by rw [Bd.returns] at h; cases h)
            refine ⟨_, _, pre17 _ ?_, hrun, hended, _, _, rfl, ?_, ⟨_, rfl⟩, hW, hsame.mono (by decide) (by decide)⟩
            · show Steps p.tables e below (T14.setTop (mkF m 38 #[.val (.ref a1), .val (.ref a2)] [(.int (1 : Int32))])) _
              exact retN X14 hx (t := .boolean) Bd.returns (by simp) (hb hby d_prog_48_method_8_38) hr
            · exact ⟨congrArg (fun z => some (Value.int z)) (Eq.symm ((if_neg hc2_1).trans ((if_pos hc9_5).trans ((if_neg hc16_8).trans ((if_pos hc23_12).trans (if_pos hc30_15)))))), N0, e14⟩
          · have pre18 : ∀ t, Steps p.tables e below (T14.setTop (mkF m 38 #[.val (.ref a1), .val (.ref a2)] [(.int (0 : Int32))])) t → Steps p.tables e below (s₁.setTop (entryFrame m #[(.ref a1), (.ref a2)] 2)) t := fun t k => pre16 t (by
              show Steps p.tables e below (T14.setTop (mkF m 30 #[.val (.ref a1), .val (.ref a2)] [(.ref w_INTEGER), (.ref a2)])) _
              refine Jvm.RoadKit.acmp (g := (mkF m 30 #[.val (.ref a1), .val (.ref a2)] [(.ref w_INTEGER), (.ref a2)])) X14 hx rfl rfl rfl (pc0 := 30) (pc' := 37) (same := false) rfl (hb hby d_prog_48_method_8_30) rfl (decide_eq_false fun q => hc30_15 (Value.ref.inj q)) (by decide) (by decide) ?_
              show Steps p.tables e below (T14.setTop (mkF m 37 #[.val (.ref a1), .val (.ref a2)] [])) _
              refine XS.iconst X14.here hx rfl (hb hby d_prog_48_method_8_37) ?_
              exact k)
            obtain ⟨fs, hr, hrun, hended, hW, hsame⟩ := X14.leave (v := some (.int (0 : Int32))) (fun h => by rw [Bd.returns] at h; cases h)
            refine ⟨_, _, pre18 _ ?_, hrun, hended, _, _, rfl, ?_, ⟨_, rfl⟩, hW, hsame.mono (by decide) (by decide)⟩
            · show Steps p.tables e below (T14.setTop (mkF m 38 #[.val (.ref a1), .val (.ref a2)] [(.int (0 : Int32))])) _
              exact retN X14 hx (t := .boolean) Bd.returns (by simp) (hb hby d_prog_48_method_8_38) hr
            · exact ⟨congrArg (fun z => some (Value.int z)) (Eq.symm ((if_neg hc2_1).trans ((if_pos hc9_5).trans ((if_neg hc16_8).trans ((if_pos hc23_12).trans (if_neg hc30_15)))))), N0, e14⟩
        · have pre19 : ∀ t, Steps p.tables e below (T11.setTop (mkF m 38 #[.val (.ref a1), .val (.ref a2)] [(.int (0 : Int32))])) t → Steps p.tables e below (s₁.setTop (entryFrame m #[(.ref a1), (.ref a2)] 2)) t := fun t k => pre13 t (by
            show Steps p.tables e below (T11.setTop (mkF m 23 #[.val (.ref a1), .val (.ref a2)] [(.ref w_INT_ENUM), (.ref a1)])) _
            refine Jvm.RoadKit.acmp (g := (mkF m 23 #[.val (.ref a1), .val (.ref a2)] [(.ref w_INT_ENUM), (.ref a1)])) X11 hx rfl rfl rfl (pc0 := 23) (pc' := 37) (same := false) rfl (hb hby d_prog_48_method_8_23) rfl (decide_eq_false fun q => hc23_12 (Value.ref.inj q)) (by decide) (by decide) ?_
            show Steps p.tables e below (T11.setTop (mkF m 37 #[.val (.ref a1), .val (.ref a2)] [])) _
            refine XS.iconst X11.here hx rfl (hb hby d_prog_48_method_8_37) ?_
            exact k)
          obtain ⟨fs, hr, hrun, hended, hW, hsame⟩ := X11.leave (v := some (.int (0 : Int32))) (fun h => by rw [Bd.returns] at h; cases h)
          refine ⟨_, _, pre19 _ ?_, hrun, hended, _, _, rfl, ?_, ⟨_, rfl⟩, hW, hsame.mono (by decide) (by decide)⟩
          · show Steps p.tables e below (T11.setTop (mkF m 38 #[.val (.ref a1), .val (.ref a2)] [(.int (0 : Int32))])) _
            exact retN X11 hx (t := .boolean) Bd.returns (by simp) (hb hby d_prog_48_method_8_38) hr
          · exact ⟨congrArg (fun z => some (Value.int z)) (Eq.symm ((if_neg hc2_1).trans ((if_pos hc9_5).trans ((if_neg hc16_8).trans (if_neg hc23_12))))), N0, e11⟩
    · obtain ⟨T20, X20, e20, st20⟩ := getS2 X4 hx hZ hown (host := "") (Or.inl (hw _ (ow 57 rfl))) Via.refl e4 S_w_INT_ENUM (g := (mkF m 20 #[.val (.ref a1), .val (.ref a2)] [(.ref a1)])) rfl (hb hby d_prog_48_method_8_20)
      have pre22 : ∀ t, Steps p.tables e below (T20.setTop (mkF m 23 #[.val (.ref a1), .val (.ref a2)] [(.ref w_INT_ENUM), (.ref a1)])) t → Steps p.tables e below (s₁.setTop (entryFrame m #[(.ref a1), (.ref a2)] 2)) t := fun t k => pre6 t (by
        show Steps p.tables e below (T4.setTop (mkF m 9 #[.val (.ref a1), .val (.ref a2)] [(.ref w_ENUM), (.ref a1)])) _
        refine Jvm.RoadKit.acmp (g := (mkF m 9 #[.val (.ref a1), .val (.ref a2)] [(.ref w_ENUM), (.ref a1)])) X4 hx rfl rfl rfl (pc0 := 9) (pc' := 19) (same := false) rfl (hb hby d_prog_48_method_8_9) rfl (decide_eq_false fun q => hc9_5 (Value.ref.inj q)) (by decide) (by decide) ?_
        show Steps p.tables e below (T4.setTop (mkF m 19 #[.val (.ref a1), .val (.ref a2)] [])) _
        refine XS.aloadN X4.here hx rfl (hb hby d_prog_48_method_8_19) rfl rfl ?_
        show Steps p.tables e below (T4.setTop (mkF m 20 #[.val (.ref a1), .val (.ref a2)] [(.ref a1)])) _
        refine st20 _ ?_
        exact k)
      by_cases hc23_21 : a1 = w_INT_ENUM
      · obtain ⟨T23, X23, e23, st23⟩ := getS2 X20 hx hZ hown (host := "") (Or.inl (hw _ (ow 59 rfl))) Via.refl e20 S_w_INTEGER (g := (mkF m 27 #[.val (.ref a1), .val (.ref a2)] [(.ref a2)])) rfl (hb hby d_prog_48_method_8_27)
        have pre25 : ∀ t, Steps p.tables e below (T23.setTop (mkF m 30 #[.val (.ref a1), .val (.ref a2)] [(.ref w_INTEGER), (.ref a2)])) t → Steps p.tables e below (s₁.setTop (entryFrame m #[(.ref a1), (.ref a2)] 2)) t := fun t k => pre22 t (by
          show Steps p.tables e below (T20.setTop (mkF m 23 #[.val (.ref a1), .val (.ref a2)] [(.ref w_INT_ENUM), (.ref a1)])) _
          refine Jvm.RoadKit.acmp (g := (mkF m 23 #[.val (.ref a1), .val (.ref a2)] [(.ref w_INT_ENUM), (.ref a1)])) X20 hx rfl rfl rfl (pc0 := 23) (pc' := 26) (same := true) rfl (hb hby d_prog_48_method_8_23) rfl (decide_eq_true (congrArg Value.ref hc23_21)) (by decide) (by decide) ?_
          show Steps p.tables e below (T20.setTop (mkF m 26 #[.val (.ref a1), .val (.ref a2)] [])) _
          refine XS.aloadN X20.here hx rfl (hb hby d_prog_48_method_8_26) rfl rfl ?_
          show Steps p.tables e below (T20.setTop (mkF m 27 #[.val (.ref a1), .val (.ref a2)] [(.ref a2)])) _
          refine st23 _ ?_
          exact k)
        by_cases hc30_24 : a2 = w_INTEGER
        · have pre26 : ∀ t, Steps p.tables e below (T23.setTop (mkF m 38 #[.val (.ref a1), .val (.ref a2)] [(.int (1 : Int32))])) t → Steps p.tables e below (s₁.setTop (entryFrame m #[(.ref a1), (.ref a2)] 2)) t := fun t k => pre25 t (by
            show Steps p.tables e below (T23.setTop (mkF m 30 #[.val (.ref a1), .val (.ref a2)] [(.ref w_INTEGER), (.ref a2)])) _
            refine Jvm.RoadKit.acmp (g := (mkF m 30 #[.val (.ref a1), .val (.ref a2)] [(.ref w_INTEGER), (.ref a2)])) X23 hx rfl rfl rfl (pc0 := 30) (pc' := 33) (same := true) rfl (hb hby d_prog_48_method_8_30) rfl (decide_eq_true (congrArg Value.ref hc30_24)) (by decide) (by decide) ?_
            show Steps p.tables e below (T23.setTop (mkF m 33 #[.val (.ref a1), .val (.ref a2)] [])) _
            refine XS.iconst X23.here hx rfl (hb hby d_prog_48_method_8_33) ?_
            show Steps p.tables e below (T23.setTop (mkF m 34 #[.val (.ref a1), .val (.ref a2)] [(.int (1 : Int32))])) _
            refine XS.goto X23.here hx rfl (pc0 := 34) (pc' := 38) rfl (hb hby d_prog_48_method_8_34) (by decide) (by decide) ?_
            exact k)
          obtain ⟨fs, hr, hrun, hended, hW, hsame⟩ := X23.leave (v := some (.int (1 : Int32))) (fun h => by rw [Bd.returns] at h; cases h)
          refine ⟨_, _, pre26 _ ?_, hrun, hended, _, _, rfl, ?_, ⟨_, rfl⟩, hW, hsame.mono (by decide) (by decide)⟩
          · show Steps p.tables e below (T23.setTop (mkF m 38 #[.val (.ref a1), .val (.ref a2)] [(.int (1 : Int32))])) _
            exact retN X23 hx (t := .boolean) Bd.returns (by simp) (hb hby d_prog_48_method_8_38) hr
          · exact ⟨congrArg (fun z => some (Value.int z)) (Eq.symm ((if_neg hc2_1).trans ((if_neg hc9_5).trans ((if_pos hc23_21).trans (if_pos hc30_24))))), N0, e23⟩
        · have pre27 : ∀ t, Steps p.tables e below (T23.setTop (mkF m 38 #[.val (.ref a1), .val (.ref a2)] [(.int (0 : Int32))])) t → Steps p.tables e below (s₁.setTop (entryFrame m #[(.ref a1), (.ref a2)] 2)) t := fun t k => pre25 t (by
            show Steps p.tables e below (T23.setTop (mkF m 30 #[.val (.ref a1), .val (.ref a2)] [(.ref w_INTEGER), (.ref a2)])) _
            refine Jvm.RoadKit.acmp (g := (mkF m 30 #[.val (.ref a1), .val (.ref a2)] [(.ref w_INTEGER), (.ref a2)])) X23 hx rfl rfl rfl (pc0 := 30) (pc' := 37) (same := false) rfl (hb hby d_prog_48_method_8_30) rfl (decide_eq_false fun q => hc30_24 (Value.ref.inj q)) (by decide) (by decide) ?_
            show Steps p.tables e below (T23.setTop (mkF m 37 #[.val (.ref a1), .val (.ref a2)] [])) _
            refine XS.iconst X23.here hx rfl (hb hby d_prog_48_method_8_37) ?_
            exact k)
          obtain ⟨fs, hr, hrun, hended, hW, hsame⟩ := X23.leave (v := some (.int (0 : Int32))) (fun h => by rw [Bd.returns] at h; cases h)
          refine ⟨_, _, pre27 _ ?_, hrun, hended, _, _, rfl, ?_, ⟨_, rfl⟩, hW, hsame.mono (by decide) (by decide)⟩
          · show Steps p.tables e below (T23.setTop (mkF m 38 #[.val (.ref a1), .val (.ref a2)] [(.int (0 : Int32))])) _
            exact retN X23 hx (t := .boolean) Bd.returns (by simp) (hb hby d_prog_48_method_8_38) hr
          · exact ⟨congrArg (fun z => some (Value.int z)) (Eq.symm ((if_neg hc2_1).trans ((if_neg hc9_5).trans ((if_pos hc23_21).trans (if_neg hc30_24))))), N0, e23⟩
      · have pre28 : ∀ t, Steps p.tables e below (T20.setTop (mkF m 38 #[.val (.ref a1), .val (.ref a2)] [(.int (0 : Int32))])) t → Steps p.tables e below (s₁.setTop (entryFrame m #[(.ref a1), (.ref a2)] 2)) t := fun t k => pre22 t (by
          show Steps p.tables e below (T20.setTop (mkF m 23 #[.val (.ref a1), .val (.ref a2)] [(.ref w_INT_ENUM), (.ref a1)])) _
          refine Jvm.RoadKit.acmp (g := (mkF m 23 #[.val (.ref a1), .val (.ref a2)] [(.ref w_INT_ENUM), (.ref a1)])) X20 hx rfl rfl rfl (pc0 := 23) (pc' := 37) (same := false) rfl (hb hby d_prog_48_method_8_23) rfl (decide_eq_false fun q => hc23_21 (Value.ref.inj q)) (by decide) (by decide) ?_
          show Steps p.tables e below (T20.setTop (mkF m 37 #[.val (.ref a1), .val (.ref a2)] [])) _
          refine XS.iconst X20.here hx rfl (hb hby d_prog_48_method_8_37) ?_
          exact k)
        obtain ⟨fs, hr, hrun, hended, hW, hsame⟩ := X20.leave (v := some (.int (0 : Int32))) (fun h => by rw [Bd.returns] at h; cases h)
        refine ⟨_, _, pre28 _ ?_, hrun, hended, _, _, rfl, ?_, ⟨_, rfl⟩, hW, hsame.mono (by decide) (by decide)⟩
        · show Steps p.tables e below (T20.setTop (mkF m 38 #[.val (.ref a1), .val (.ref a2)] [(.int (0 : Int32))])) _
          exact retN X20 hx (t := .boolean) Bd.returns (by simp) (hb hby d_prog_48_method_8_38) hr
        · exact ⟨congrArg (fun z => some (Value.int z)) (Eq.symm ((if_neg hc2_1).trans ((if_neg hc9_5).trans (if_neg hc23_21)))), N0, e20⟩
theorem pd_0 : parseMethodDescriptor "(Lcom/example/falkirk/falkirk/model/ShapeType;)Z" = some ⟨[(.object "com/example/falkirk/falkirk/model/ShapeType")], some .boolean⟩ := by decide +kernel
theorem pn_1 : plainName "com/example/falkirk/falkirk/model/ShapeTypeIsAPinLaw" = true := by first | (simp [plainName, overriddenIn]; done) | decide +kernel
theorem ef_lawS (m : MethodId) (x0 : Int32) (x1 : Int32) : entryFrame m #[(.int x0), (.int x1)] maxLocals = mkF m 0 #[.val (.int x0), .val (.int x1), .unset, .unset, .unset, .unset] [] := by first | (simp [entryFrame, mkF, argsToLocals, Value.category, maxLocals]; done) | rfl
set_option maxRecDepth 65536 in
set_option maxHeartbeats 40000000 in
theorem rm_lawS (l : Launch) (Z : State) (a0 : Array Value) (hw : ∀ d ∈ tables_1, d.before a0 Z = true) (ws : List Jvm.Cond) (p1 : Int32) (p2 : Int32) (h0 : Heap) (n0 : Nat) (Z0 : n0 ≤ h0.size) (w_BLOB w_BOOLEAN w_STRING w_ENUM w_BYTE w_SHORT w_INTEGER w_INT_ENUM w_LONG w_FLOAT w_DOUBLE w_BIG_INTEGER w_BIG_DECIMAL w_TIMESTAMP w_DOCUMENT w_LIST w_MAP w_STRUCTURE w_UNION w_SERVICE w_OPERATION w_RESOURCE w_MEMBER : Addr) (hK : own_K Z h0 w_BLOB w_BOOLEAN w_STRING w_ENUM w_BYTE w_SHORT w_INTEGER w_INT_ENUM w_LONG w_FLOAT w_DOUBLE w_BIG_INTEGER w_BIG_DECIMAL w_TIMESTAMP w_DOCUMENT w_LIST w_MAP w_STRUCTURE w_UNION w_SERVICE w_OPERATION w_RESOURCE w_MEMBER) (ii jj : Int32) (A B : Addr) (hi : ((p1 &&& (2147483647 : Int32)) % (23 : Int32)) = ii) (hj : ((p2 &&& (2147483647 : Int32)) % (23 : Int32)) = jj) (hi0 : ¬ ii < 0) (hj0 : ¬ jj < 0) (hA : [Value.ref w_BLOB, Value.ref w_BOOLEAN, Value.ref w_STRING, Value.ref w_ENUM, Value.ref w_BYTE, Value.ref w_SHORT, Value.ref w_INTEGER, Value.ref w_INT_ENUM, Value.ref w_LONG, Value.ref w_FLOAT, Value.ref w_DOUBLE, Value.ref w_BIG_INTEGER, Value.ref w_BIG_DECIMAL, Value.ref w_TIMESTAMP, Value.ref w_DOCUMENT, Value.ref w_LIST, Value.ref w_MAP, Value.ref w_STRUCTURE, Value.ref w_UNION, Value.ref w_SERVICE, Value.ref w_OPERATION, Value.ref w_RESOURCE, Value.ref w_MEMBER][ii.toNatClampNeg]? = some (Value.ref A)) (hB : [Value.ref w_BLOB, Value.ref w_BOOLEAN, Value.ref w_STRING, Value.ref w_ENUM, Value.ref w_BYTE, Value.ref w_SHORT, Value.ref w_INTEGER, Value.ref w_INT_ENUM, Value.ref w_LONG, Value.ref w_FLOAT, Value.ref w_DOUBLE, Value.ref w_BIG_INTEGER, Value.ref w_BIG_DECIMAL, Value.ref w_TIMESTAMP, Value.ref w_DOCUMENT, Value.ref w_LIST, Value.ref w_MAP, Value.ref w_STRUCTURE, Value.ref w_UNION, Value.ref w_SERVICE, Value.ref w_OPERATION, Value.ref w_RESOURCE, Value.ref w_MEMBER][jj.toNatClampNeg]? = some (Value.ref B)) (E_A : Exa Z h0 A "com/example/falkirk/falkirk/model/ShapeType") (hAB : A = B ↔ ii = jj) (hA3 : A = w_ENUM ↔ ii = (3 : Int32)) (hB2 : B = w_STRING ↔ jj = (2 : Int32)) (hA7 : A = w_INT_ENUM ↔ ii = (7 : Int32)) (hB6 : B = w_INTEGER ↔ jj = (6 : Int32)) :
    MetFree l x (head1 (Jvm.Cond.code x code maxLocals ret :: ws) room_1) (fun a U => a = #[(.int p1), (.int p2)] ∧ Z.Warmed39 U.vm ∧ U.heap = h0) (fun _ _ _ _ _ => True) (fun _ U o U' => ∃ v L, o = .returned v ∧ own_QH (some (.int (1 : Int32))) n0 v U'.heap L ∧ FrameEnd U o U' L room_1.cells room_1.slots) := by
  refine MetFree.of_bodySF (plainFor_of_name pn_1) hisR ?_
  intro p e s m args below meth c s₁ Bd hml0 hP hK0
  obtain ⟨rfl, hZ, hh⟩ := hP
  have hx := Bd.exec
  have hby := Bd.bytes
  have hml : c.maxLocals = 6 := hml0
  have hown : s.vm.findClass "com/example/falkirk/falkirk/model/ShapeTypeIsAPinLaw" = some m.cls := findClass_of_methodNamed Bd.named
  have hnm := (name_of_methodNamed Bd.named Bd.method).1
  have X0 : Stand p l e room_1 s m #[(.int p1), (.int p2)] below meth c s₁ [] 0 0 := Stand.of_body Bd
  have e0 : s₁.heap = h0 := by rw [← hh, Bd.state]; rfl
  have N0 := Fr.nil n0
  have pre0 : ∀ t, Steps p.tables e below (s₁.setTop (mkF m 0 #[.val (.int p1), .val (.int p2), .unset, .unset, .unset, .unset] [])) t → Steps p.tables e below (s₁.setTop (entryFrame m #[(.int p1), (.int p2)] maxLocals)) t := fun t k => castTop (ef_lawS m p1 p2) k
  have hK' := hK
  obtain ⟨S_w_BLOB, E_w_BLOB, S_w_BOOLEAN, E_w_BOOLEAN, S_w_STRING, E_w_STRING, S_w_ENUM, E_w_ENUM, S_w_BYTE, E_w_BYTE, S_w_SHORT, E_w_SHORT, S_w_INTEGER, E_w_INTEGER, S_w_INT_ENUM, E_w_INT_ENUM, S_w_LONG, E_w_LONG, S_w_FLOAT, E_w_FLOAT, S_w_DOUBLE, E_w_DOUBLE, S_w_BIG_INTEGER, E_w_BIG_INTEGER, S_w_BIG_DECIMAL, E_w_BIG_DECIMAL, S_w_TIMESTAMP, E_w_TIMESTAMP, S_w_DOCUMENT, E_w_DOCUMENT, S_w_LIST, E_w_LIST, S_w_MAP, E_w_MAP, S_w_STRUCTURE, E_w_STRUCTURE, S_w_UNION, E_w_UNION, S_w_SERVICE, E_w_SERVICE, S_w_OPERATION, E_w_OPERATION, S_w_RESOURCE, E_w_RESOURCE, S_w_MEMBER, E_w_MEMBER, F_ordinal_w_BLOB, F_ordinal_w_ENUM, F_ordinal_w_INT_ENUM, F_ordinal_w_DOCUMENT, F_ordinal_w_BOOLEAN, F_ordinal_w_STRING, F_ordinal_w_DOUBLE, F_ordinal_w_TIMESTAMP, F_ordinal_w_INTEGER, F_ordinal_w_BYTE, F_ordinal_w_LONG, F_ordinal_w_SHORT, F_ordinal_w_BIG_DECIMAL, F_ordinal_w_RESOURCE, F_ordinal_w_FLOAT, F_ordinal_w_MAP, F_ordinal_w_OPERATION, F_ordinal_w_SERVICE, F_ordinal_w_BIG_INTEGER, F_ordinal_w_LIST, F_ordinal_w_STRUCTURE, F_ordinal_w_MEMBER, F_ordinal_w_UNION⟩ := hK'
  obtain ⟨T1, h1, k1, X1, e1, Eq1, A1, O1, st1⟩ := newR X0 hx hZ hown (hw _ (ow 0 rfl)) (hw _ (ow 1 rfl)) e0 (g := (mkF m 2 #[.val (.int p1), .val (.int p2), .unset, .unset, .unset, .unset] [(.int (23 : Int32))])) rfl (hb hby at_2) rfl (by decide) (cap := 23) (by decide) (by decide) (by decide) (by decide)
  obtain ⟨b1, gb1⟩ : ∃ z, z = h0.size := ⟨_, rfl⟩
  rw [← gb1] at A1 st1
  have B1 : own_ArrK Z h1 b1 k1 (.object "com/example/falkirk/falkirk/model/ShapeType") [.null, .null, .null, .null, .null, .null, .null, .null, .null, .null, .null, .null, .null, .null, .null, .null, .null, .null, .null, .null, .null, .null, .null] := ⟨_, A1, rfl, rfl⟩
  have sz_b1 : h0.size ≤ b1 := Nat.le_of_eq gb1.symm
  have g_b1 : n0 ≤ b1 := Nat.le_trans Z0 sz_b1
  have EX1 : Ext h0 h1 := Eq1
  obtain ⟨T2, X2, e2, st2⟩ := getS2 X1 hx hZ hown (host := "") (Or.inl (hw _ (ow 2 rfl))) Via.refl e1 (S_w_BLOB.ext EX1) (g := (mkF m 7 #[.val (.int p1), .val (.int p2), .unset, .unset, .unset, .unset] [(.int (0 : Int32)), (.ref b1), (.ref b1)])) rfl (hb hby at_7)
  obtain ⟨cl3, Ar3, qk3, hs3⟩ := id B1
  obtain ⟨T3, h3, X3, e3, W3, st3⟩ := stR X2 hx hZ e2 Ar3 (j := (0 : Int32)) (own_inb 23 hs3 rfl (by decide) (by decide)) rfl (Sto.ofV Ar3 qk3 O1 (Ins.self (E_w_BLOB.ext EX1))) (g := (mkF m 10 #[.val (.int p1), .val (.int p2), .unset, .unset, .unset, .unset] [(.ref w_BLOB), (.int (0 : Int32)), (.ref b1), (.ref b1)])) rfl rfl (hb hby at_10)
  have B3 : own_ArrK Z h3 b1 k1 (.object "com/example/falkirk/falkirk/model/ShapeType") [(.ref w_BLOB), .null, .null, .null, .null, .null, .null, .null, .null, .null, .null, .null, .null, .null, .null, .null, .null, .null, .null, .null, .null, .null, .null] := own_set W3 Ar3 qk3 hs3
  have N3 := Fr.snoc X3 N0 g_b1
  have EX3 : Ext h0 h3 := own_ext_wr EX1 W3 sz_b1
  obtain ⟨T4, X4, e4, st4⟩ := getS2 X3 hx hZ hown (host := "") (Or.inl (hw _ (ow 6 rfl))) Via.refl e3 (S_w_BOOLEAN.ext EX3) (g := (mkF m 13 #[.val (.int p1), .val (.int p2), .unset, .unset, .unset, .unset] [(.int (1 : Int32)), (.ref b1), (.ref b1)])) rfl (hb hby at_13)
  obtain ⟨cl5, Ar5, qk5, hs5⟩ := id B3
  obtain ⟨T5, h5, X5, e5, W5, st5⟩ := stR X4 hx hZ e4 Ar5 (j := (1 : Int32)) (own_inb 23 hs5 rfl (by decide) (by decide)) rfl (Sto.ofV Ar5 qk5 O1 (Ins.self (E_w_BOOLEAN.ext EX3))) (g := (mkF m 16 #[.val (.int p1), .val (.int p2), .unset, .unset, .unset, .unset] [(.ref w_BOOLEAN), (.int (1 : Int32)), (.ref b1), (.ref b1)])) rfl rfl (hb hby at_16)
  have B5 : own_ArrK Z h5 b1 k1 (.object "com/example/falkirk/falkirk/model/ShapeType") [(.ref w_BLOB), (.ref w_BOOLEAN), .null, .null, .null, .null, .null, .null, .null, .null, .null, .null, .null, .null, .null, .null, .null, .null, .null, .null, .null, .null, .null] := own_set W5 Ar5 qk5 hs5
  have N5 := Fr.snoc X5 N3 g_b1
  have EX5 : Ext h0 h5 := own_ext_wr EX3 W5 sz_b1
  obtain ⟨T6, X6, e6, st6⟩ := getS2 X5 hx hZ hown (host := "") (Or.inl (hw _ (ow 8 rfl))) Via.refl e5 (S_w_STRING.ext EX5) (g := (mkF m 19 #[.val (.int p1), .val (.int p2), .unset, .unset, .unset, .unset] [(.int (2 : Int32)), (.ref b1), (.ref b1)])) rfl (hb hby at_19)
  obtain ⟨cl7, Ar7, qk7, hs7⟩ := id B5
  obtain ⟨T7, h7, X7, e7, W7, st7⟩ := stR X6 hx hZ e6 Ar7 (j := (2 : Int32)) (own_inb 23 hs7 rfl (by decide) (by decide)) rfl (Sto.ofV Ar7 qk7 O1 (Ins.self (E_w_STRING.ext EX5))) (g := (mkF m 22 #[.val (.int p1), .val (.int p2), .unset, .unset, .unset, .unset] [(.ref w_STRING), (.int (2 : Int32)), (.ref b1), (.ref b1)])) rfl rfl (hb hby at_22)
  have B7 : own_ArrK Z h7 b1 k1 (.object "com/example/falkirk/falkirk/model/ShapeType") [(.ref w_BLOB), (.ref w_BOOLEAN), (.ref w_STRING), .null, .null, .null, .null, .null, .null, .null, .null, .null, .null, .null, .null, .null, .null, .null, .null, .null, .null, .null, .null] := own_set W7 Ar7 qk7 hs7
  have N7 := Fr.snoc X7 N5 g_b1
  have EX7 : Ext h0 h7 := own_ext_wr EX5 W7 sz_b1
  obtain ⟨T8, X8, e8, st8⟩ := getS2 X7 hx hZ hown (host := "") (Or.inl (hw _ (ow 10 rfl))) Via.refl e7 (S_w_ENUM.ext EX7) (g := (mkF m 25 #[.val (.int p1), .val (.int p2), .unset, .unset, .unset, .unset] [(.int (3 : Int32)), (.ref b1), (.ref b1)])) rfl (hb hby at_25)
  obtain ⟨cl9, Ar9, qk9, hs9⟩ := id B7
  obtain ⟨T9, h9, X9, e9, W9, st9⟩ := stR X8 hx hZ e8 Ar9 (j := (3 : Int32)) (own_inb 23 hs9 rfl (by decide) (by decide)) rfl (Sto.ofV Ar9 qk9 O1 (Ins.self (E_w_ENUM.ext EX7))) (g := (mkF m 28 #[.val (.int p1), .val (.int p2), .unset, .unset, .unset, .unset] [(.ref w_ENUM), (.int (3 : Int32)), (.ref b1), (.ref b1)])) rfl rfl (hb hby at_28)
  have B9 : own_ArrK Z h9 b1 k1 (.object "com/example/falkirk/falkirk/model/ShapeType") [(.ref w_BLOB), (.ref w_BOOLEAN), (.ref w_STRING), (.ref w_ENUM), .null, .null, .null, .null, .null, .null, .null, .null, .null, .null, .null, .null, .null, .null, .null, .null, .null, .null, .null] := own_set W9 Ar9 qk9 hs9
  have N9 := Fr.snoc X9 N7 g_b1
  have EX9 : Ext h0 h9 := own_ext_wr EX7 W9 sz_b1
  obtain ⟨T10, X10, e10, st10⟩ := getS2 X9 hx hZ hown (host := "") (Or.inl (hw _ (ow 12 rfl))) Via.refl e9 (S_w_BYTE.ext EX9) (g := (mkF m 31 #[.val (.int p1), .val (.int p2), .unset, .unset, .unset, .unset] [(.int (4 : Int32)), (.ref b1), (.ref b1)])) rfl (hb hby at_31)
  obtain ⟨cl11, Ar11, qk11, hs11⟩ := id B9
  obtain ⟨T11, h11, X11, e11, W11, st11⟩ := stR X10 hx hZ e10 Ar11 (j := (4 : Int32)) (own_inb 23 hs11 rfl (by decide) (by decide)) rfl (Sto.ofV Ar11 qk11 O1 (Ins.self (E_w_BYTE.ext EX9))) (g := (mkF m 34 #[.val (.int p1), .val (.int p2), .unset, .unset, .unset, .unset] [(.ref w_BYTE), (.int (4 : Int32)), (.ref b1), (.ref b1)])) rfl rfl (hb hby at_34)
  have B11 : own_ArrK Z h11 b1 k1 (.object "com/example/falkirk/falkirk/model/ShapeType") [(.ref w_BLOB), (.ref w_BOOLEAN), (.ref w_STRING), (.ref w_ENUM), (.ref w_BYTE), .null, .null, .null, .null, .null, .null, .null, .null, .null, .null, .null, .null, .null, .null, .null, .null, .null, .null] := own_set W11 Ar11 qk11 hs11
  have N11 := Fr.snoc X11 N9 g_b1
  have EX11 : Ext h0 h11 := own_ext_wr EX9 W11 sz_b1
  obtain ⟨T12, X12, e12, st12⟩ := getS2 X11 hx hZ hown (host := "") (Or.inl (hw _ (ow 14 rfl))) Via.refl e11 (S_w_SHORT.ext EX11) (g := (mkF m 37 #[.val (.int p1), .val (.int p2), .unset, .unset, .unset, .unset] [(.int (5 : Int32)), (.ref b1), (.ref b1)])) rfl (hb hby at_37)
  obtain ⟨cl13, Ar13, qk13, hs13⟩ := id B11
  obtain ⟨T13, h13, X13, e13, W13, st13⟩ := stR X12 hx hZ e12 Ar13 (j := (5 : Int32)) (own_inb 23 hs13 rfl (by decide) (by decide)) rfl (Sto.ofV Ar13 qk13 O1 (Ins.self (E_w_SHORT.ext EX11))) (g := (mkF m 40 #[.val (.int p1), .val (.int p2), .unset, .unset, .unset, .unset] [(.ref w_SHORT), (.int (5 : Int32)), (.ref b1), (.ref b1)])) rfl rfl (hb hby at_40)
  have B13 : own_ArrK Z h13 b1 k1 (.object "com/example/falkirk/falkirk/model/ShapeType") [(.ref w_BLOB), (.ref w_BOOLEAN), (.ref w_STRING), (.ref w_ENUM), (.ref w_BYTE), (.ref w_SHORT), .null, .null, .null, .null, .null, .null, .null, .null, .null, .null, .null, .null, .null, .null, .null, .null, .null] := own_set W13 Ar13 qk13 hs13
  have N13 := Fr.snoc X13 N11 g_b1
  have EX13 : Ext h0 h13 := own_ext_wr EX11 W13 sz_b1
  obtain ⟨T14, X14, e14, st14⟩ := getS2 X13 hx hZ hown (host := "") (Or.inl (hw _ (ow 16 rfl))) Via.refl e13 (S_w_INTEGER.ext EX13) (g := (mkF m 44 #[.val (.int p1), .val (.int p2), .unset, .unset, .unset, .unset] [(.int (6 : Int32)), (.ref b1), (.ref b1)])) rfl (hb hby at_44)
  obtain ⟨cl15, Ar15, qk15, hs15⟩ := id B13
  obtain ⟨T15, h15, X15, e15, W15, st15⟩ := stR X14 hx hZ e14 Ar15 (j := (6 : Int32)) (own_inb 23 hs15 rfl (by decide) (by decide)) rfl (Sto.ofV Ar15 qk15 O1 (Ins.self (E_w_INTEGER.ext EX13))) (g := (mkF m 47 #[.val (.int p1), .val (.int p2), .unset, .unset, .unset, .unset] [(.ref w_INTEGER), (.int (6 : Int32)), (.ref b1), (.ref b1)])) rfl rfl (hb hby at_47)
  have B15 : own_ArrK Z h15 b1 k1 (.object "com/example/falkirk/falkirk/model/ShapeType") [(.ref w_BLOB), (.ref w_BOOLEAN), (.ref w_STRING), (.ref w_ENUM), (.ref w_BYTE), (.ref w_SHORT), (.ref w_INTEGER), .null, .null, .null, .null, .null, .null, .null, .null, .null, .null, .null, .null, .null, .null, .null, .null] := own_set W15 Ar15 qk15 hs15
  have N15 := Fr.snoc X15 N13 g_b1
  have EX15 : Ext h0 h15 := own_ext_wr EX13 W15 sz_b1
  obtain ⟨T16, X16, e16, st16⟩ := getS2 X15 hx hZ hown (host := "") (Or.inl (hw _ (ow 18 rfl))) Via.refl e15 (S_w_INT_ENUM.ext EX15) (g := (mkF m 51 #[.val (.int p1), .val (.int p2), .unset, .unset, .unset, .unset] [(.int (7 : Int32)), (.ref b1), (.ref b1)])) rfl (hb hby at_51)
  obtain ⟨cl17, Ar17, qk17, hs17⟩ := id B15
  obtain ⟨T17, h17, X17, e17, W17, st17⟩ := stR X16 hx hZ e16 Ar17 (j := (7 : Int32)) (own_inb 23 hs17 rfl (by decide) (by decide)) rfl (Sto.ofV Ar17 qk17 O1 (Ins.self (E_w_INT_ENUM.ext EX15))) (g := (mkF m 54 #[.val (.int p1), .val (.int p2), .unset, .unset, .unset, .unset] [(.ref w_INT_ENUM), (.int (7 : Int32)), (.ref b1), (.ref b1)])) rfl rfl (hb hby at_54)
  have B17 : own_ArrK Z h17 b1 k1 (.object "com/example/falkirk/falkirk/model/ShapeType") [(.ref w_BLOB), (.ref w_BOOLEAN), (.ref w_STRING), (.ref w_ENUM), (.ref w_BYTE), (.ref w_SHORT), (.ref w_INTEGER), (.ref w_INT_ENUM), .null, .null, .null, .null, .null, .null, .null, .null, .null, .null, .null, .null, .null, .null, .null] := own_set W17 Ar17 qk17 hs17
  have N17 := Fr.snoc X17 N15 g_b1
  have EX17 : Ext h0 h17 := own_ext_wr EX15 W17 sz_b1
  obtain ⟨T18, X18, e18, st18⟩ := getS2 X17 hx hZ hown (host := "") (Or.inl (hw _ (ow 20 rfl))) Via.refl e17 (S_w_LONG.ext EX17) (g := (mkF m 58 #[.val (.int p1), .val (.int p2), .unset, .unset, .unset, .unset] [(.int (8 : Int32)), (.ref b1), (.ref b1)])) rfl (hb hby at_58)
  obtain ⟨cl19, Ar19, qk19, hs19⟩ := id B17
  obtain ⟨T19, h19, X19, e19, W19, st19⟩ := stR X18 hx hZ e18 Ar19 (j := (8 : Int32)) (own_inb 23 hs19 rfl (by decide) (by decide)) rfl (Sto.ofV Ar19 qk19 O1 (Ins.self (E_w_LONG.ext EX17))) (g := (mkF m 61 #[.val (.int p1), .val (.int p2), .unset, .unset, .unset, .unset] [(.ref w_LONG), (.int (8 : Int32)), (.ref b1), (.ref b1)])) rfl rfl (hb hby at_61)
  have B19 : own_ArrK Z h19 b1 k1 (.object "com/example/falkirk/falkirk/model/ShapeType") [(.ref w_BLOB), (.ref w_BOOLEAN), (.ref w_STRING), (.ref w_ENUM), (.ref w_BYTE), (.ref w_SHORT), (.ref w_INTEGER), (.ref w_INT_ENUM), (.ref w_LONG), .null, .null, .null, .null, .null, .null, .null, .null, .null, .null, .null, .null, .null, .null] := own_set W19 Ar19 qk19 hs19
  have N19 := Fr.snoc X19 N17 g_b1
  have EX19 : Ext h0 h19 := own_ext_wr EX17 W19 sz_b1
  obtain ⟨T20, X20, e20, st20⟩ := getS2 X19 hx hZ hown (host := "") (Or.inl (hw _ (ow 22 rfl))) Via.refl e19 (S_w_FLOAT.ext EX19) (g := (mkF m 65 #[.val (.int p1), .val (.int p2), .unset, .unset, .unset, .unset] [(.int (9 : Int32)), (.ref b1), (.ref b1)])) rfl (hb hby at_65)
  obtain ⟨cl21, Ar21, qk21, hs21⟩ := id B19
  obtain ⟨T21, h21, X21, e21, W21, st21⟩ := stR X20 hx hZ e20 Ar21 (j := (9 : Int32)) (own_inb 23 hs21 rfl (by decide) (by decide)) rfl (Sto.ofV Ar21 qk21 O1 (Ins.self (E_w_FLOAT.ext EX19))) (g := (mkF m 68 #[.val (.int p1), .val (.int p2), .unset, .unset, .unset, .unset] [(.ref w_FLOAT), (.int (9 : Int32)), (.ref b1), (.ref b1)])) rfl rfl (hb hby at_68)
  have B21 : own_ArrK Z h21 b1 k1 (.object "com/example/falkirk/falkirk/model/ShapeType") [(.ref w_BLOB), (.ref w_BOOLEAN), (.ref w_STRING), (.ref w_ENUM), (.ref w_BYTE), (.ref w_SHORT), (.ref w_INTEGER), (.ref w_INT_ENUM), (.ref w_LONG), (.ref w_FLOAT), .null, .null, .null, .null, .null, .null, .null, .null, .null, .null, .null, .null, .null] := own_set W21 Ar21 qk21 hs21
  have N21 := Fr.snoc X21 N19 g_b1
  have EX21 : Ext h0 h21 := own_ext_wr EX19 W21 sz_b1
  obtain ⟨T22, X22, e22, st22⟩ := getS2 X21 hx hZ hown (host := "") (Or.inl (hw _ (ow 24 rfl))) Via.refl e21 (S_w_DOUBLE.ext EX21) (g := (mkF m 72 #[.val (.int p1), .val (.int p2), .unset, .unset, .unset, .unset] [(.int (10 : Int32)), (.ref b1), (.ref b1)])) rfl (hb hby at_72)
  obtain ⟨cl23, Ar23, qk23, hs23⟩ := id B21
  obtain ⟨T23, h23, X23, e23, W23, st23⟩ := stR X22 hx hZ e22 Ar23 (j := (10 : Int32)) (own_inb 23 hs23 rfl (by decide) (by decide)) rfl (Sto.ofV Ar23 qk23 O1 (Ins.self (E_w_DOUBLE.ext EX21))) (g := (mkF m 75 #[.val (.int p1), .val (.int p2), .unset, .unset, .unset, .unset] [(.ref w_DOUBLE), (.int (10 : Int32)), (.ref b1), (.ref b1)])) rfl rfl (hb hby at_75)
  have B23 : own_ArrK Z h23 b1 k1 (.object "com/example/falkirk/falkirk/model/ShapeType") [(.ref w_BLOB), (.ref w_BOOLEAN), (.ref w_STRING), (.ref w_ENUM), (.ref w_BYTE), (.ref w_SHORT), (.ref w_INTEGER), (.ref w_INT_ENUM), (.ref w_LONG), (.ref w_FLOAT), (.ref w_DOUBLE), .null, .null, .null, .null, .null, .null, .null, .null, .null, .null, .null, .null] := own_set W23 Ar23 qk23 hs23
  have N23 := Fr.snoc X23 N21 g_b1
  have EX23 : Ext h0 h23 := own_ext_wr EX21 W23 sz_b1
  obtain ⟨T24, X24, e24, st24⟩ := getS2 X23 hx hZ hown (host := "") (Or.inl (hw _ (ow 26 rfl))) Via.refl e23 (S_w_BIG_INTEGER.ext EX23) (g := (mkF m 79 #[.val (.int p1), .val (.int p2), .unset, .unset, .unset, .unset] [(.int (11 : Int32)), (.ref b1), (.ref b1)])) rfl (hb hby at_79)
  obtain ⟨cl25, Ar25, qk25, hs25⟩ := id B23
  obtain ⟨T25, h25, X25, e25, W25, st25⟩ := stR X24 hx hZ e24 Ar25 (j := (11 : Int32)) (own_inb 23 hs25 rfl (by decide) (by decide)) rfl (Sto.ofV Ar25 qk25 O1 (Ins.self (E_w_BIG_INTEGER.ext EX23))) (g := (mkF m 82 #[.val (.int p1), .val (.int p2), .unset, .unset, .unset, .unset] [(.ref w_BIG_INTEGER), (.int (11 : Int32)), (.ref b1), (.ref b1)])) rfl rfl (hb hby at_82)
  have B25 : own_ArrK Z h25 b1 k1 (.object "com/example/falkirk/falkirk/model/ShapeType") [(.ref w_BLOB), (.ref w_BOOLEAN), (.ref w_STRING), (.ref w_ENUM), (.ref w_BYTE), (.ref w_SHORT), (.ref w_INTEGER), (.ref w_INT_ENUM), (.ref w_LONG), (.ref w_FLOAT), (.ref w_DOUBLE), (.ref w_BIG_INTEGER), .null, .null, .null, .null, .null, .null, .null, .null, .null, .null, .null] := own_set W25 Ar25 qk25 hs25
  have N25 := Fr.snoc X25 N23 g_b1
  have EX25 : Ext h0 h25 := own_ext_wr EX23 W25 sz_b1
  obtain ⟨T26, X26, e26, st26⟩ := getS2 X25 hx hZ hown (host := "") (Or.inl (hw _ (ow 28 rfl))) Via.refl e25 (S_w_BIG_DECIMAL.ext EX25) (g := (mkF m 86 #[.val (.int p1), .val (.int p2), .unset, .unset, .unset, .unset] [(.int (12 : Int32)), (.ref b1), (.ref b1)])) rfl (hb hby at_86)
  obtain ⟨cl27, Ar27, qk27, hs27⟩ := id B25
  obtain ⟨T27, h27, X27, e27, W27, st27⟩ := stR X26 hx hZ e26 Ar27 (j := (12 : Int32)) (own_inb 23 hs27 rfl (by decide) (by decide)) rfl (Sto.ofV Ar27 qk27 O1 (Ins.self (E_w_BIG_DECIMAL.ext EX25))) (g := (mkF m 89 #[.val (.int p1), .val (.int p2), .unset, .unset, .unset, .unset] [(.ref w_BIG_DECIMAL), (.int (12 : Int32)), (.ref b1), (.ref b1)])) rfl rfl (hb hby at_89)
  have B27 : own_ArrK Z h27 b1 k1 (.object "com/example/falkirk/falkirk/model/ShapeType") [(.ref w_BLOB), (.ref w_BOOLEAN), (.ref w_STRING), (.ref w_ENUM), (.ref w_BYTE), (.ref w_SHORT), (.ref w_INTEGER), (.ref w_INT_ENUM), (.ref w_LONG), (.ref w_FLOAT), (.ref w_DOUBLE), (.ref w_BIG_INTEGER), (.ref w_BIG_DECIMAL), .null, .null, .null, .null, .null, .null, .null, .null, .null, .null] := own_set W27 Ar27 qk27 hs27
  have N27 := Fr.snoc X27 N25 g_b1
  have EX27 : Ext h0 h27 := own_ext_wr EX25 W27 sz_b1
  obtain ⟨T28, X28, e28, st28⟩ := getS2 X27 hx hZ hown (host := "") (Or.inl (hw _ (ow 30 rfl))) Via.refl e27 (S_w_TIMESTAMP.ext EX27) (g := (mkF m 93 #[.val (.int p1), .val (.int p2), .unset, .unset, .unset, .unset] [(.int (13 : Int32)), (.ref b1), (.ref b1)])) rfl (hb hby at_93)
  obtain ⟨cl29, Ar29, qk29, hs29⟩ := id B27
  obtain ⟨T29, h29, X29, e29, W29, st29⟩ := stR X28 hx hZ e28 Ar29 (j := (13 : Int32)) (own_inb 23 hs29 rfl (by decide) (by decide)) rfl (Sto.ofV Ar29 qk29 O1 (Ins.self (E_w_TIMESTAMP.ext EX27))) (g := (mkF m 96 #[.val (.int p1), .val (.int p2), .unset, .unset, .unset, .unset] [(.ref w_TIMESTAMP), (.int (13 : Int32)), (.ref b1), (.ref b1)])) rfl rfl (hb hby at_96)
  have B29 : own_ArrK Z h29 b1 k1 (.object "com/example/falkirk/falkirk/model/ShapeType") [(.ref w_BLOB), (.ref w_BOOLEAN), (.ref w_STRING), (.ref w_ENUM), (.ref w_BYTE), (.ref w_SHORT), (.ref w_INTEGER), (.ref w_INT_ENUM), (.ref w_LONG), (.ref w_FLOAT), (.ref w_DOUBLE), (.ref w_BIG_INTEGER), (.ref w_BIG_DECIMAL), (.ref w_TIMESTAMP), .null, .null, .null, .null, .null, .null, .null, .null, .null] := own_set W29 Ar29 qk29 hs29
  have N29 := Fr.snoc X29 N27 g_b1
  have EX29 : Ext h0 h29 := own_ext_wr EX27 W29 sz_b1
  obtain ⟨T30, X30, e30, st30⟩ := getS2 X29 hx hZ hown (host := "") (Or.inl (hw _ (ow 32 rfl))) Via.refl e29 (S_w_DOCUMENT.ext EX29) (g := (mkF m 100 #[.val (.int p1), .val (.int p2), .unset, .unset, .unset, .unset] [(.int (14 : Int32)), (.ref b1), (.ref b1)])) rfl (hb hby at_100)
  obtain ⟨cl31, Ar31, qk31, hs31⟩ := id B29
  obtain ⟨T31, h31, X31, e31, W31, st31⟩ := stR X30 hx hZ e30 Ar31 (j := (14 : Int32)) (own_inb 23 hs31 rfl (by decide) (by decide)) rfl (Sto.ofV Ar31 qk31 O1 (Ins.self (E_w_DOCUMENT.ext EX29))) (g := (mkF m 103 #[.val (.int p1), .val (.int p2), .unset, .unset, .unset, .unset] [(.ref w_DOCUMENT), (.int (14 : Int32)), (.ref b1), (.ref b1)])) rfl rfl (hb hby at_103)
  have B31 : own_ArrK Z h31 b1 k1 (.object "com/example/falkirk/falkirk/model/ShapeType") [(.ref w_BLOB), (.ref w_BOOLEAN), (.ref w_STRING), (.ref w_ENUM), (.ref w_BYTE), (.ref w_SHORT), (.ref w_INTEGER), (.ref w_INT_ENUM), (.ref w_LONG), (.ref w_FLOAT), (.ref w_DOUBLE), (.ref w_BIG_INTEGER), (.ref w_BIG_DECIMAL), (.ref w_TIMESTAMP), (.ref w_DOCUMENT), .null, .null, .null, .null, .null, .null, .null, .null] := own_set W31 Ar31 qk31 hs31
  have N31 := Fr.snoc X31 N29 g_b1
  have EX31 : Ext h0 h31 := own_ext_wr EX29 W31 sz_b1
  obtain ⟨T32, X32, e32, st32⟩ := getS2 X31 hx hZ hown (host := "") (Or.inl (hw _ (ow 34 rfl))) Via.refl e31 (S_w_LIST.ext EX31) (g := (mkF m 107 #[.val (.int p1), .val (.int p2), .unset, .unset, .unset, .unset] [(.int (15 : Int32)), (.ref b1), (.ref b1)])) rfl (hb hby at_107)
  obtain ⟨cl33, Ar33, qk33, hs33⟩ := id B31
  obtain ⟨T33, h33, X33, e33, W33, st33⟩ := stR X32 hx hZ e32 Ar33 (j := (15 : Int32)) (own_inb 23 hs33 rfl (by decide) (by decide)) rfl (Sto.ofV Ar33 qk33 O1 (Ins.self (E_w_LIST.ext EX31))) (g := (mkF m 110 #[.val (.int p1), .val (.int p2), .unset, .unset, .unset, .unset] [(.ref w_LIST), (.int (15 : Int32)), (.ref b1), (.ref b1)])) rfl rfl (hb hby at_110)
  have B33 : own_ArrK Z h33 b1 k1 (.object "com/example/falkirk/falkirk/model/ShapeType") [(.ref w_BLOB), (.ref w_BOOLEAN), (.ref w_STRING), (.ref w_ENUM), (.ref w_BYTE), (.ref w_SHORT), (.ref w_INTEGER), (.ref w_INT_ENUM), (.ref w_LONG), (.ref w_FLOAT), (.ref w_DOUBLE), (.ref w_BIG_INTEGER), (.ref w_BIG_DECIMAL), (.ref w_TIMESTAMP), (.ref w_DOCUMENT), (.ref w_LIST), .null, .null, .null, .null, .null, .null, .null] := own_set W33 Ar33 qk33 hs33
  have N33 := Fr.snoc X33 N31 g_b1
  have EX33 : Ext h0 h33 := own_ext_wr EX31 W33 sz_b1
  obtain ⟨T34, X34, e34, st34⟩ := getS2 X33 hx hZ hown (host := "") (Or.inl (hw _ (ow 36 rfl))) Via.refl e33 (S_w_MAP.ext EX33) (g := (mkF m 114 #[.val (.int p1), .val (.int p2), .unset, .unset, .unset, .unset] [(.int (16 : Int32)), (.ref b1), (.ref b1)])) rfl (hb hby at_114)
  obtain ⟨cl35, Ar35, qk35, hs35⟩ := id B33
  obtain ⟨T35, h35, X35, e35, W35, st35⟩ := stR X34 hx hZ e34 Ar35 (j := (16 : Int32)) (own_inb 23 hs35 rfl (by decide) (by decide)) rfl (Sto.ofV Ar35 qk35 O1 (Ins.self (E_w_MAP.ext EX33))) (g := (mkF m 117 #[.val (.int p1), .val (.int p2), .unset, .unset, .unset, .unset] [(.ref w_MAP), (.int (16 : Int32)), (.ref b1), (.ref b1)])) rfl rfl (hb hby at_117)
  have B35 : own_ArrK Z h35 b1 k1 (.object "com/example/falkirk/falkirk/model/ShapeType") [(.ref w_BLOB), (.ref w_BOOLEAN), (.ref w_STRING), (.ref w_ENUM), (.ref w_BYTE), (.ref w_SHORT), (.ref w_INTEGER), (.ref w_INT_ENUM), (.ref w_LONG), (.ref w_FLOAT), (.ref w_DOUBLE), (.ref w_BIG_INTEGER), (.ref w_BIG_DECIMAL), (.ref w_TIMESTAMP), (.ref w_DOCUMENT), (.ref w_LIST), (.ref w_MAP), .null, .null, .null, .null, .null, .null] := own_set W35 Ar35 qk35 hs35
  have N35 := Fr.snoc X35 N33 g_b1
  have EX35 : Ext h0 h35 := own_ext_wr EX33 W35 sz_b1
  obtain ⟨T36, X36, e36, st36⟩ := getS2 X35 hx hZ hown (host := "") (Or.inl (hw _ (ow 38 rfl))) Via.refl e35 (S_w_STRUCTURE.ext EX35) (g := (mkF m 121 #[.val (.int p1), .val (.int p2), .unset, .unset, .unset, .unset] [(.int (17 : Int32)), (.ref b1), (.ref b1)])) rfl (hb hby at_121)
  obtain ⟨cl37, Ar37, qk37, hs37⟩ := id B35
  obtain ⟨T37, h37, X37, e37, W37, st37⟩ := stR X36 hx hZ e36 Ar37 (j := (17 : Int32)) (own_inb 23 hs37 rfl (by decide) (by decide)) rfl (Sto.ofV Ar37 qk37 O1 (Ins.self (E_w_STRUCTURE.ext EX35))) (g := (mkF m 124 #[.val (.int p1), .val (.int p2), .unset, .unset, .unset, .unset] [(.ref w_STRUCTURE), (.int (17 : Int32)), (.ref b1), (.ref b1)])) rfl rfl (hb hby at_124)
  have B37 : own_ArrK Z h37 b1 k1 (.object "com/example/falkirk/falkirk/model/ShapeType") [(.ref w_BLOB), (.ref w_BOOLEAN), (.ref w_STRING), (.ref w_ENUM), (.ref w_BYTE), (.ref w_SHORT), (.ref w_INTEGER), (.ref w_INT_ENUM), (.ref w_LONG), (.ref w_FLOAT), (.ref w_DOUBLE), (.ref w_BIG_INTEGER), (.ref w_BIG_DECIMAL), (.ref w_TIMESTAMP), (.ref w_DOCUMENT), (.ref w_LIST), (.ref w_MAP), (.ref w_STRUCTURE), .null, .null, .null, .null, .null] := own_set W37 Ar37 qk37 hs37
  have N37 := Fr.snoc X37 N35 g_b1
  have EX37 : Ext h0 h37 := own_ext_wr EX35 W37 sz_b1
  obtain ⟨T38, X38, e38, st38⟩ := getS2 X37 hx hZ hown (host := "") (Or.inl (hw _ (ow 40 rfl))) Via.refl e37 (S_w_UNION.ext EX37) (g := (mkF m 128 #[.val (.int p1), .val (.int p2), .unset, .unset, .unset, .unset] [(.int (18 : Int32)), (.ref b1), (.ref b1)])) rfl (hb hby at_128)
  obtain ⟨cl39, Ar39, qk39, hs39⟩ := id B37
  obtain ⟨T39, h39, X39, e39, W39, st39⟩ := stR X38 hx hZ e38 Ar39 (j := (18 : Int32)) (own_inb 23 hs39 rfl (by decide) (by decide)) rfl (Sto.ofV Ar39 qk39 O1 (Ins.self (E_w_UNION.ext EX37))) (g := (mkF m 131 #[.val (.int p1), .val (.int p2), .unset, .unset, .unset, .unset] [(.ref w_UNION), (.int (18 : Int32)), (.ref b1), (.ref b1)])) rfl rfl (hb hby at_131)
  have B39 : own_ArrK Z h39 b1 k1 (.object "com/example/falkirk/falkirk/model/ShapeType") [(.ref w_BLOB), (.ref w_BOOLEAN), (.ref w_STRING), (.ref w_ENUM), (.ref w_BYTE), (.ref w_SHORT), (.ref w_INTEGER), (.ref w_INT_ENUM), (.ref w_LONG), (.ref w_FLOAT), (.ref w_DOUBLE), (.ref w_BIG_INTEGER), (.ref w_BIG_DECIMAL), (.ref w_TIMESTAMP), (.ref w_DOCUMENT), (.ref w_LIST), (.ref w_MAP), (.ref w_STRUCTURE), (.ref w_UNION), .null, .null, .null, .null] := own_set W39 Ar39 qk39 hs39
  have N39 := Fr.snoc X39 N37 g_b1
  have EX39 : Ext h0 h39 := own_ext_wr EX37 W39 sz_b1
  obtain ⟨T40, X40, e40, st40⟩ := getS2 X39 hx hZ hown (host := "") (Or.inl (hw _ (ow 42 rfl))) Via.refl e39 (S_w_SERVICE.ext EX39) (g := (mkF m 135 #[.val (.int p1), .val (.int p2), .unset, .unset, .unset, .unset] [(.int (19 : Int32)), (.ref b1), (.ref b1)])) rfl (hb hby at_135)
  obtain ⟨cl41, Ar41, qk41, hs41⟩ := id B39
  obtain ⟨T41, h41, X41, e41, W41, st41⟩ := stR X40 hx hZ e40 Ar41 (j := (19 : Int32)) (own_inb 23 hs41 rfl (by decide) (by decide)) rfl (Sto.ofV Ar41 qk41 O1 (Ins.self (E_w_SERVICE.ext EX39))) (g := (mkF m 138 #[.val (.int p1), .val (.int p2), .unset, .unset, .unset, .unset] [(.ref w_SERVICE), (.int (19 : Int32)), (.ref b1), (.ref b1)])) rfl rfl (hb hby at_138)
  have B41 : own_ArrK Z h41 b1 k1 (.object "com/example/falkirk/falkirk/model/ShapeType") [(.ref w_BLOB), (.ref w_BOOLEAN), (.ref w_STRING), (.ref w_ENUM), (.ref w_BYTE), (.ref w_SHORT), (.ref w_INTEGER), (.ref w_INT_ENUM), (.ref w_LONG), (.ref w_FLOAT), (.ref w_DOUBLE), (.ref w_BIG_INTEGER), (.ref w_BIG_DECIMAL), (.ref w_TIMESTAMP), (.ref w_DOCUMENT), (.ref w_LIST), (.ref w_MAP), (.ref w_STRUCTURE), (.ref w_UNION), (.ref w_SERVICE), .null, .null, .null] := own_set W41 Ar41 qk41 hs41
  have N41 := Fr.snoc X41 N39 g_b1
  have EX41 : Ext h0 h41 := own_ext_wr EX39 W41 sz_b1
  obtain ⟨T42, X42, e42, st42⟩ := getS2 X41 hx hZ hown (host := "") (Or.inl (hw _ (ow 44 rfl))) Via.refl e41 (S_w_OPERATION.ext EX41) (g := (mkF m 142 #[.val (.int p1), .val (.int p2), .unset, .unset, .unset, .unset] [(.int (20 : Int32)), (.ref b1), (.ref b1)])) rfl (hb hby at_142)
  obtain ⟨cl43, Ar43, qk43, hs43⟩ := id B41
  obtain ⟨T43, h43, X43, e43, W43, st43⟩ := stR X42 hx hZ e42 Ar43 (j := (20 : Int32)) (own_inb 23 hs43 rfl (by decide) (by decide)) rfl (Sto.ofV Ar43 qk43 O1 (Ins.self (E_w_OPERATION.ext EX41))) (g := (mkF m 145 #[.val (.int p1), .val (.int p2), .unset, .unset, .unset, .unset] [(.ref w_OPERATION), (.int (20 : Int32)), (.ref b1), (.ref b1)])) rfl rfl (hb hby at_145)
  have B43 : own_ArrK Z h43 b1 k1 (.object "com/example/falkirk/falkirk/model/ShapeType") [(.ref w_BLOB), (.ref w_BOOLEAN), (.ref w_STRING), (.ref w_ENUM), (.ref w_BYTE), (.ref w_SHORT), (.ref w_INTEGER), (.ref w_INT_ENUM), (.ref w_LONG), (.ref w_FLOAT), (.ref w_DOUBLE), (.ref w_BIG_INTEGER), (.ref w_BIG_DECIMAL), (.ref w_TIMESTAMP), (.ref w_DOCUMENT), (.ref w_LIST), (.ref w_MAP), (.ref w_STRUCTURE), (.ref w_UNION), (.ref w_SERVICE), (.ref w_OPERATION), .null, .null] := own_set W43 Ar43 qk43 hs43
  have N43 := Fr.snoc X43 N41 g_b1
  have EX43 : Ext h0 h43 := own_ext_wr EX41 W43 sz_b1
  obtain ⟨T44, X44, e44, st44⟩ := getS2 X43 hx hZ hown (host := "") (Or.inl (hw _ (ow 46 rfl))) Via.refl e43 (S_w_RESOURCE.ext EX43) (g := (mkF m 149 #[.val (.int p1), .val (.int p2), .unset, .unset, .unset, .unset] [(.int (21 : Int32)), (.ref b1), (.ref b1)])) rfl (hb hby at_149)
  obtain ⟨cl45, Ar45, qk45, hs45⟩ := id B43
  obtain ⟨T45, h45, X45, e45, W45, st45⟩ := stR X44 hx hZ e44 Ar45 (j := (21 : Int32)) (own_inb 23 hs45 rfl (by decide) (by decide)) rfl (Sto.ofV Ar45 qk45 O1 (Ins.self (E_w_RESOURCE.ext EX43))) (g := (mkF m 152 #[.val (.int p1), .val (.int p2), .unset, .unset, .unset, .unset] [(.ref w_RESOURCE), (.int (21 : Int32)), (.ref b1), (.ref b1)])) rfl rfl (hb hby at_152)
  have B45 : own_ArrK Z h45 b1 k1 (.object "com/example/falkirk/falkirk/model/ShapeType") [(.ref w_BLOB), (.ref w_BOOLEAN), (.ref w_STRING), (.ref w_ENUM), (.ref w_BYTE), (.ref w_SHORT), (.ref w_INTEGER), (.ref w_INT_ENUM), (.ref w_LONG), (.ref w_FLOAT), (.ref w_DOUBLE), (.ref w_BIG_INTEGER), (.ref w_BIG_DECIMAL), (.ref w_TIMESTAMP), (.ref w_DOCUMENT), (.ref w_LIST), (.ref w_MAP), (.ref w_STRUCTURE), (.ref w_UNION), (.ref w_SERVICE), (.ref w_OPERATION), (.ref w_RESOURCE), .null] := own_set W45 Ar45 qk45 hs45
  have N45 := Fr.snoc X45 N43 g_b1
  have EX45 : Ext h0 h45 := own_ext_wr EX43 W45 sz_b1
  obtain ⟨T46, X46, e46, st46⟩ := getS2 X45 hx hZ hown (host := "") (Or.inl (hw _ (ow 48 rfl))) Via.refl e45 (S_w_MEMBER.ext EX45) (g := (mkF m 156 #[.val (.int p1), .val (.int p2), .unset, .unset, .unset, .unset] [(.int (22 : Int32)), (.ref b1), (.ref b1)])) rfl (hb hby at_156)
  obtain ⟨cl47, Ar47, qk47, hs47⟩ := id B45
  obtain ⟨T47, h47, X47, e47, W47, st47⟩ := stR X46 hx hZ e46 Ar47 (j := (22 : Int32)) (own_inb 23 hs47 rfl (by decide) (by decide)) rfl (Sto.ofV Ar47 qk47 O1 (Ins.self (E_w_MEMBER.ext EX45))) (g := (mkF m 159 #[.val (.int p1), .val (.int p2), .unset, .unset, .unset, .unset] [(.ref w_MEMBER), (.int (22 : Int32)), (.ref b1), (.ref b1)])) rfl rfl (hb hby at_159)
  have B47 : own_ArrK Z h47 b1 k1 (.object "com/example/falkirk/falkirk/model/ShapeType") [(.ref w_BLOB), (.ref w_BOOLEAN), (.ref w_STRING), (.ref w_ENUM), (.ref w_BYTE), (.ref w_SHORT), (.ref w_INTEGER), (.ref w_INT_ENUM), (.ref w_LONG), (.ref w_FLOAT), (.ref w_DOUBLE), (.ref w_BIG_INTEGER), (.ref w_BIG_DECIMAL), (.ref w_TIMESTAMP), (.ref w_DOCUMENT), (.ref w_LIST), (.ref w_MAP), (.ref w_STRUCTURE), (.ref w_UNION), (.ref w_SERVICE), (.ref w_OPERATION), (.ref w_RESOURCE), (.ref w_MEMBER)] := own_set W47 Ar47 qk47 hs47
  have N47 := Fr.snoc X47 N45 g_b1
  have EX47 : Ext h0 h47 := own_ext_wr EX45 W47 sz_b1
  have pre49 : ∀ t, Steps p.tables e below (T47.setTop (mkF m 181 #[.val (.int p1), .val (.int p2), .val (.ref b1), .val (.int ii), .val (.int jj), .unset] [(.int jj), (.int ii)])) t → Steps p.tables e below (s₁.setTop (entryFrame m #[(.int p1), (.int p2)] maxLocals)) t := fun t k => pre0 t (by
    show Steps p.tables e below (s₁.setTop (mkF m 0 #[.val (.int p1), .val (.int p2), .unset, .unset, .unset, .unset] [])) _
    refine XS.bipush X0.here hx rfl (hb hby at_0) ?_
    show Steps p.tables e below (s₁.setTop (mkF m 2 #[.val (.int p1), .val (.int p2), .unset, .unset, .unset, .unset] [(.int (23 : Int32))])) _
    refine st1 _ ?_
    show Steps p.tables e below (T1.setTop (mkF m 5 #[.val (.int p1), .val (.int p2), .unset, .unset, .unset, .unset] [(.ref b1)])) _
    refine XS.dup X1.here hx rfl (hb hby at_5) rfl rfl ?_
    show Steps p.tables e below (T1.setTop (mkF m 6 #[.val (.int p1), .val (.int p2), .unset, .unset, .unset, .unset] [(.ref b1), (.ref b1)])) _
    refine XS.iconst X1.here hx rfl (hb hby at_6) ?_
    show Steps p.tables e below (T1.setTop (mkF m 7 #[.val (.int p1), .val (.int p2), .unset, .unset, .unset, .unset] [(.int (0 : Int32)), (.ref b1), (.ref b1)])) _
    refine st2 _ ?_
    show Steps p.tables e below (T2.setTop (mkF m 10 #[.val (.int p1), .val (.int p2), .unset, .unset, .unset, .unset] [(.ref w_BLOB), (.int (0 : Int32)), (.ref b1), (.ref b1)])) _
    refine st3 _ ?_
    show Steps p.tables e below (T3.setTop (mkF m 11 #[.val (.int p1), .val (.int p2), .unset, .unset, .unset, .unset] [(.ref b1)])) _
    refine XS.dup X3.here hx rfl (hb hby at_11) rfl rfl ?_
    show Steps p.tables e below (T3.setTop (mkF m 12 #[.val (.int p1), .val (.int p2), .unset, .unset, .unset, .unset] [(.ref b1), (.ref b1)])) _
    refine XS.iconst X3.here hx rfl (hb hby at_12) ?_
    show Steps p.tables e below (T3.setTop (mkF m 13 #[.val (.int p1), .val (.int p2), .unset, .unset, .unset, .unset] [(.int (1 : Int32)), (.ref b1), (.ref b1)])) _
    refine st4 _ ?_
    show Steps p.tables e below (T4.setTop (mkF m 16 #[.val (.int p1), .val (.int p2), .unset, .unset, .unset, .unset] [(.ref w_BOOLEAN), (.int (1 : Int32)), (.ref b1), (.ref b1)])) _
    refine st5 _ ?_
    show Steps p.tables e below (T5.setTop (mkF m 17 #[.val (.int p1), .val (.int p2), .unset, .unset, .unset, .unset] [(.ref b1)])) _
    refine XS.dup X5.here hx rfl (hb hby at_17) rfl rfl ?_
    show Steps p.tables e below (T5.setTop (mkF m 18 #[.val (.int p1), .val (.int p2), .unset, .unset, .unset, .unset] [(.ref b1), (.ref b1)])) _
    refine XS.iconst X5.here hx rfl (hb hby at_18) ?_
    show Steps p.tables e below (T5.setTop (mkF m 19 #[.val (.int p1), .val (.int p2), .unset, .unset, .unset, .unset] [(.int (2 : Int32)), (.ref b1), (.ref b1)])) _
    refine st6 _ ?_
    show Steps p.tables e below (T6.setTop (mkF m 22 #[.val (.int p1), .val (.int p2), .unset, .unset, .unset, .unset] [(.ref w_STRING), (.int (2 : Int32)), (.ref b1), (.ref b1)])) _
    refine st7 _ ?_
    show Steps p.tables e below (T7.setTop (mkF m 23 #[.val (.int p1), .val (.int p2), .unset, .unset, .unset, .unset] [(.ref b1)])) _
    refine XS.dup X7.here hx rfl (hb hby at_23) rfl rfl ?_
    show Steps p.tables e below (T7.setTop (mkF m 24 #[.val (.int p1), .val (.int p2), .unset, .unset, .unset, .unset] [(.ref b1), (.ref b1)])) _
    refine XS.iconst X7.here hx rfl (hb hby at_24) ?_
    show Steps p.tables e below (T7.setTop (mkF m 25 #[.val (.int p1), .val (.int p2), .unset, .unset, .unset, .unset] [(.int (3 : Int32)), (.ref b1), (.ref b1)])) _
    refine st8 _ ?_
    show Steps p.tables e below (T8.setTop (mkF m 28 #[.val (.int p1), .val (.int p2), .unset, .unset, .unset, .unset] [(.ref w_ENUM), (.int (3 : Int32)), (.ref b1), (.ref b1)])) _
    refine st9 _ ?_
    show Steps p.tables e below (T9.setTop (mkF m 29 #[.val (.int p1), .val (.int p2), .unset, .unset, .unset, .unset] [(.ref b1)])) _
    refine XS.dup X9.here hx rfl (hb hby at_29) rfl rfl ?_
    show Steps p.tables e below (T9.setTop (mkF m 30 #[.val (.int p1), .val (.int p2), .unset, .unset, .unset, .unset] [(.ref b1), (.ref b1)])) _
    refine XS.iconst X9.here hx rfl (hb hby at_30) ?_
    show Steps p.tables e below (T9.setTop (mkF m 31 #[.val (.int p1), .val (.int p2), .unset, .unset, .unset, .unset] [(.int (4 : Int32)), (.ref b1), (.ref b1)])) _
    refine st10 _ ?_
    show Steps p.tables e below (T10.setTop (mkF m 34 #[.val (.int p1), .val (.int p2), .unset, .unset, .unset, .unset] [(.ref w_BYTE), (.int (4 : Int32)), (.ref b1), (.ref b1)])) _
    refine st11 _ ?_
    show Steps p.tables e below (T11.setTop (mkF m 35 #[.val (.int p1), .val (.int p2), .unset, .unset, .unset, .unset] [(.ref b1)])) _
    refine XS.dup X11.here hx rfl (hb hby at_35) rfl rfl ?_
    show Steps p.tables e below (T11.setTop (mkF m 36 #[.val (.int p1), .val (.int p2), .unset, .unset, .unset, .unset] [(.ref b1), (.ref b1)])) _
    refine XS.iconst X11.here hx rfl (hb hby at_36) ?_
    show Steps p.tables e below (T11.setTop (mkF m 37 #[.val (.int p1), .val (.int p2), .unset, .unset, .unset, .unset] [(.int (5 : Int32)), (.ref b1), (.ref b1)])) _
    refine st12 _ ?_
    show Steps p.tables e below (T12.setTop (mkF m 40 #[.val (.int p1), .val (.int p2), .unset, .unset, .unset, .unset] [(.ref w_SHORT), (.int (5 : Int32)), (.ref b1), (.ref b1)])) _
    refine st13 _ ?_
    show Steps p.tables e below (T13.setTop (mkF m 41 #[.val (.int p1), .val (.int p2), .unset, .unset, .unset, .unset] [(.ref b1)])) _
    refine XS.dup X13.here hx rfl (hb hby at_41) rfl rfl ?_
    show Steps p.tables e below (T13.setTop (mkF m 42 #[.val (.int p1), .val (.int p2), .unset, .unset, .unset, .unset] [(.ref b1), (.ref b1)])) _
    refine XS.bipush X13.here hx rfl (hb hby at_42) ?_
    show Steps p.tables e below (T13.setTop (mkF m 44 #[.val (.int p1), .val (.int p2), .unset, .unset, .unset, .unset] [(.int (6 : Int32)), (.ref b1), (.ref b1)])) _
    refine st14 _ ?_
    show Steps p.tables e below (T14.setTop (mkF m 47 #[.val (.int p1), .val (.int p2), .unset, .unset, .unset, .unset] [(.ref w_INTEGER), (.int (6 : Int32)), (.ref b1), (.ref b1)])) _
    refine st15 _ ?_
    show Steps p.tables e below (T15.setTop (mkF m 48 #[.val (.int p1), .val (.int p2), .unset, .unset, .unset, .unset] [(.ref b1)])) _
    refine XS.dup X15.here hx rfl (hb hby at_48) rfl rfl ?_
    show Steps p.tables e below (T15.setTop (mkF m 49 #[.val (.int p1), .val (.int p2), .unset, .unset, .unset, .unset] [(.ref b1), (.ref b1)])) _
    refine XS.bipush X15.here hx rfl (hb hby at_49) ?_
    show Steps p.tables e below (T15.setTop (mkF m 51 #[.val (.int p1), .val (.int p2), .unset, .unset, .unset, .unset] [(.int (7 : Int32)), (.ref b1), (.ref b1)])) _
    refine st16 _ ?_
    show Steps p.tables e below (T16.setTop (mkF m 54 #[.val (.int p1), .val (.int p2), .unset, .unset, .unset, .unset] [(.ref w_INT_ENUM), (.int (7 : Int32)), (.ref b1), (.ref b1)])) _
    refine st17 _ ?_
    show Steps p.tables e below (T17.setTop (mkF m 55 #[.val (.int p1), .val (.int p2), .unset, .unset, .unset, .unset] [(.ref b1)])) _
    refine XS.dup X17.here hx rfl (hb hby at_55) rfl rfl ?_
    show Steps p.tables e below (T17.setTop (mkF m 56 #[.val (.int p1), .val (.int p2), .unset, .unset, .unset, .unset] [(.ref b1), (.ref b1)])) _
    refine XS.bipush X17.here hx rfl (hb hby at_56) ?_
    show Steps p.tables e below (T17.setTop (mkF m 58 #[.val (.int p1), .val (.int p2), .unset, .unset, .unset, .unset] [(.int (8 : Int32)), (.ref b1), (.ref b1)])) _
    refine st18 _ ?_
    show Steps p.tables e below (T18.setTop (mkF m 61 #[.val (.int p1), .val (.int p2), .unset, .unset, .unset, .unset] [(.ref w_LONG), (.int (8 : Int32)), (.ref b1), (.ref b1)])) _
    refine st19 _ ?_
    show Steps p.tables e below (T19.setTop (mkF m 62 #[.val (.int p1), .val (.int p2), .unset, .unset, .unset, .unset] [(.ref b1)])) _
    refine XS.dup X19.here hx rfl (hb hby at_62) rfl rfl ?_
    show Steps p.tables e below (T19.setTop (mkF m 63 #[.val (.int p1), .val (.int p2), .unset, .unset, .unset, .unset] [(.ref b1), (.ref b1)])) _
    refine XS.bipush X19.here hx rfl (hb hby at_63) ?_
    show Steps p.tables e below (T19.setTop (mkF m 65 #[.val (.int p1), .val (.int p2), .unset, .unset, .unset, .unset] [(.int (9 : Int32)), (.ref b1), (.ref b1)])) _
    refine st20 _ ?_
    show Steps p.tables e below (T20.setTop (mkF m 68 #[.val (.int p1), .val (.int p2), .unset, .unset, .unset, .unset] [(.ref w_FLOAT), (.int (9 : Int32)), (.ref b1), (.ref b1)])) _
    refine st21 _ ?_
    show Steps p.tables e below (T21.setTop (mkF m 69 #[.val (.int p1), .val (.int p2), .unset, .unset, .unset, .unset] [(.ref b1)])) _
    refine XS.dup X21.here hx rfl (hb hby at_69) rfl rfl ?_
    show Steps p.tables e below (T21.setTop (mkF m 70 #[.val (.int p1), .val (.int p2), .unset, .unset, .unset, .unset] [(.ref b1), (.ref b1)])) _
    refine XS.bipush X21.here hx rfl (hb hby at_70) ?_
    show Steps p.tables e below (T21.setTop (mkF m 72 #[.val (.int p1), .val (.int p2), .unset, .unset, .unset, .unset] [(.int (10 : Int32)), (.ref b1), (.ref b1)])) _
    refine st22 _ ?_
    show Steps p.tables e below (T22.setTop (mkF m 75 #[.val (.int p1), .val (.int p2), .unset, .unset, .unset, .unset] [(.ref w_DOUBLE), (.int (10 : Int32)), (.ref b1), (.ref b1)])) _
    refine st23 _ ?_
    show Steps p.tables e below (T23.setTop (mkF m 76 #[.val (.int p1), .val (.int p2), .unset, .unset, .unset, .unset] [(.ref b1)])) _
    refine XS.dup X23.here hx rfl (hb hby at_76) rfl rfl ?_
    show Steps p.tables e below (T23.setTop (mkF m 77 #[.val (.int p1), .val (.int p2), .unset, .unset, .unset, .unset] [(.ref b1), (.ref b1)])) _
    refine XS.bipush X23.here hx rfl (hb hby at_77) ?_
    show Steps p.tables e below (T23.setTop (mkF m 79 #[.val (.int p1), .val (.int p2), .unset, .unset, .unset, .unset] [(.int (11 : Int32)), (.ref b1), (.ref b1)])) _
    refine st24 _ ?_
    show Steps p.tables e below (T24.setTop (mkF m 82 #[.val (.int p1), .val (.int p2), .unset, .unset, .unset, .unset] [(.ref w_BIG_INTEGER), (.int (11 : Int32)), (.ref b1), (.ref b1)])) _
    refine st25 _ ?_
    show Steps p.tables e below (T25.setTop (mkF m 83 #[.val (.int p1), .val (.int p2), .unset, .unset, .unset, .unset] [(.ref b1)])) _
    refine XS.dup X25.here hx rfl (hb hby at_83) rfl rfl ?_
    show Steps p.tables e below (T25.setTop (mkF m 84 #[.val (.int p1), .val (.int p2), .unset, .unset, .unset, .unset] [(.ref b1), (.ref b1)])) _
    refine XS.bipush X25.here hx rfl (hb hby at_84) ?_
    show Steps p.tables e below (T25.setTop (mkF m 86 #[.val (.int p1), .val (.int p2), .unset, .unset, .unset, .unset] [(.int (12 : Int32)), (.ref b1), (.ref b1)])) _
    refine st26 _ ?_
    show Steps p.tables e below (T26.setTop (mkF m 89 #[.val (.int p1), .val (.int p2), .unset, .unset, .unset, .unset] [(.ref w_BIG_DECIMAL), (.int (12 : Int32)), (.ref b1), (.ref b1)])) _
    refine st27 _ ?_
    show Steps p.tables e below (T27.setTop (mkF m 90 #[.val (.int p1), .val (.int p2), .unset, .unset, .unset, .unset] [(.ref b1)])) _
    refine XS.dup X27.here hx rfl (hb hby at_90) rfl rfl ?_
    show Steps p.tables e below (T27.setTop (mkF m 91 #[.val (.int p1), .val (.int p2), .unset, .unset, .unset, .unset] [(.ref b1), (.ref b1)])) _
    refine XS.bipush X27.here hx rfl (hb hby at_91) ?_
    show Steps p.tables e below (T27.setTop (mkF m 93 #[.val (.int p1), .val (.int p2), .unset, .unset, .unset, .unset] [(.int (13 : Int32)), (.ref b1), (.ref b1)])) _
    refine st28 _ ?_
    show Steps p.tables e below (T28.setTop (mkF m 96 #[.val (.int p1), .val (.int p2), .unset, .unset, .unset, .unset] [(.ref w_TIMESTAMP), (.int (13 : Int32)), (.ref b1), (.ref b1)])) _
    refine st29 _ ?_
    show Steps p.tables e below (T29.setTop (mkF m 97 #[.val (.int p1), .val (.int p2), .unset, .unset, .unset, .unset] [(.ref b1)])) _
    refine XS.dup X29.here hx rfl (hb hby at_97) rfl rfl ?_
    show Steps p.tables e below (T29.setTop (mkF m 98 #[.val (.int p1), .val (.int p2), .unset, .unset, .unset, .unset] [(.ref b1), (.ref b1)])) _
    refine XS.bipush X29.here hx rfl (hb hby at_98) ?_
    show Steps p.tables e below (T29.setTop (mkF m 100 #[.val (.int p1), .val (.int p2), .unset, .unset, .unset, .unset] [(.int (14 : Int32)), (.ref b1), (.ref b1)])) _
    refine st30 _ ?_
    show Steps p.tables e below (T30.setTop (mkF m 103 #[.val (.int p1), .val (.int p2), .unset, .unset, .unset, .unset] [(.ref w_DOCUMENT), (.int (14 : Int32)), (.ref b1), (.ref b1)])) _
    refine st31 _ ?_
    show Steps p.tables e below (T31.setTop (mkF m 104 #[.val (.int p1), .val (.int p2), .unset, .unset, .unset, .unset] [(.ref b1)])) _
    refine XS.dup X31.here hx rfl (hb hby at_104) rfl rfl ?_
    show Steps p.tables e below (T31.setTop (mkF m 105 #[.val (.int p1), .val (.int p2), .unset, .unset, .unset, .unset] [(.ref b1), (.ref b1)])) _
    refine XS.bipush X31.here hx rfl (hb hby at_105) ?_
    show Steps p.tables e below (T31.setTop (mkF m 107 #[.val (.int p1), .val (.int p2), .unset, .unset, .unset, .unset] [(.int (15 : Int32)), (.ref b1), (.ref b1)])) _
    refine st32 _ ?_
    show Steps p.tables e below (T32.setTop (mkF m 110 #[.val (.int p1), .val (.int p2), .unset, .unset, .unset, .unset] [(.ref w_LIST), (.int (15 : Int32)), (.ref b1), (.ref b1)])) _
    refine st33 _ ?_
    show Steps p.tables e below (T33.setTop (mkF m 111 #[.val (.int p1), .val (.int p2), .unset, .unset, .unset, .unset] [(.ref b1)])) _
    refine XS.dup X33.here hx rfl (hb hby at_111) rfl rfl ?_
    show Steps p.tables e below (T33.setTop (mkF m 112 #[.val (.int p1), .val (.int p2), .unset, .unset, .unset, .unset] [(.ref b1), (.ref b1)])) _
    refine XS.bipush X33.here hx rfl (hb hby at_112) ?_
    show Steps p.tables e below (T33.setTop (mkF m 114 #[.val (.int p1), .val (.int p2), .unset, .unset, .unset, .unset] [(.int (16 : Int32)), (.ref b1), (.ref b1)])) _
    refine st34 _ ?_
    show Steps p.tables e below (T34.setTop (mkF m 117 #[.val (.int p1), .val (.int p2), .unset, .unset, .unset, .unset] [(.ref w_MAP), (.int (16 : Int32)), (.ref b1), (.ref b1)])) _
    refine st35 _ ?_
    show Steps p.tables e below (T35.setTop (mkF m 118 #[.val (.int p1), .val (.int p2), .unset, .unset, .unset, .unset] [(.ref b1)])) _
    refine XS.dup X35.here hx rfl (hb hby at_118) rfl rfl ?_
    show Steps p.tables e below (T35.setTop (mkF m 119 #[.val (.int p1), .val (.int p2), .unset, .unset, .unset, .unset] [(.ref b1), (.ref b1)])) _
    refine XS.bipush X35.here hx rfl (hb hby at_119) ?_
    show Steps p.tables e below (T35.setTop (mkF m 121 #[.val (.int p1), .val (.int p2), .unset, .unset, .unset, .unset] [(.int (17 : Int32)), (.ref b1), (.ref b1)])) _
    refine st36 _ ?_
    show Steps p.tables e below (T36.setTop (mkF m 124 #[.val (.int p1), .val (.int p2), .unset, .unset, .unset, .unset] [(.ref w_STRUCTURE), (.int (17 : Int32)), (.ref b1), (.ref b1)])) _
    refine st37 _ ?_
    show Steps p.tables e below (T37.setTop (mkF m 125 #[.val (.int p1), .val (.int p2), .unset, .unset, .unset, .unset] [(.ref b1)])) _
    refine XS.dup X37.here hx rfl (hb hby at_125) rfl rfl ?_
    show Steps p.tables e below (T37.setTop (mkF m 126 #[.val (.int p1), .val (.int p2), .unset, .unset, .unset, .unset] [(.ref b1), (.ref b1)])) _
    refine XS.bipush X37.here hx rfl (hb hby at_126) ?_
    show Steps p.tables e below (T37.setTop (mkF m 128 #[.val (.int p1), .val (.int p2), .unset, .unset, .unset, .unset] [(.int (18 : Int32)), (.ref b1), (.ref b1)])) _
    refine st38 _ ?_
    show Steps p.tables e below (T38.setTop (mkF m 131 #[.val (.int p1), .val (.int p2), .unset, .unset, .unset, .unset] [(.ref w_UNION), (.int (18 : Int32)), (.ref b1), (.ref b1)])) _
    refine st39 _ ?_
    show Steps p.tables e below (T39.setTop (mkF m 132 #[.val (.int p1), .val (.int p2), .unset, .unset, .unset, .unset] [(.ref b1)])) _
    refine XS.dup X39.here hx rfl (hb hby at_132) rfl rfl ?_
    show Steps p.tables e below (T39.setTop (mkF m 133 #[.val (.int p1), .val (.int p2), .unset, .unset, .unset, .unset] [(.ref b1), (.ref b1)])) _
    refine XS.bipush X39.here hx rfl (hb hby at_133) ?_
    show Steps p.tables e below (T39.setTop (mkF m 135 #[.val (.int p1), .val (.int p2), .unset, .unset, .unset, .unset] [(.int (19 : Int32)), (.ref b1), (.ref b1)])) _
    refine st40 _ ?_
    show Steps p.tables e below (T40.setTop (mkF m 138 #[.val (.int p1), .val (.int p2), .unset, .unset, .unset, .unset] [(.ref w_SERVICE), (.int (19 : Int32)), (.ref b1), (.ref b1)])) _
    refine st41 _ ?_
    show Steps p.tables e below (T41.setTop (mkF m 139 #[.val (.int p1), .val (.int p2), .unset, .unset, .unset, .unset] [(.ref b1)])) _
    refine XS.dup X41.here hx rfl (hb hby at_139) rfl rfl ?_
    show Steps p.tables e below (T41.setTop (mkF m 140 #[.val (.int p1), .val (.int p2), .unset, .unset, .unset, .unset] [(.ref b1), (.ref b1)])) _
    refine XS.bipush X41.here hx rfl (hb hby at_140) ?_
    show Steps p.tables e below (T41.setTop (mkF m 142 #[.val (.int p1), .val (.int p2), .unset, .unset, .unset, .unset] [(.int (20 : Int32)), (.ref b1), (.ref b1)])) _
    refine st42 _ ?_
    show Steps p.tables e below (T42.setTop (mkF m 145 #[.val (.int p1), .val (.int p2), .unset, .unset, .unset, .unset] [(.ref w_OPERATION), (.int (20 : Int32)), (.ref b1), (.ref b1)])) _
    refine st43 _ ?_
    show Steps p.tables e below (T43.setTop (mkF m 146 #[.val (.int p1), .val (.int p2), .unset, .unset, .unset, .unset] [(.ref b1)])) _
    refine XS.dup X43.here hx rfl (hb hby at_146) rfl rfl ?_
    show Steps p.tables e below (T43.setTop (mkF m 147 #[.val (.int p1), .val (.int p2), .unset, .unset, .unset, .unset] [(.ref b1), (.ref b1)])) _
    refine XS.bipush X43.here hx rfl (hb hby at_147) ?_
    show Steps p.tables e below (T43.setTop (mkF m 149 #[.val (.int p1), .val (.int p2), .unset, .unset, .unset, .unset] [(.int (21 : Int32)), (.ref b1), (.ref b1)])) _
    refine st44 _ ?_
    show Steps p.tables e below (T44.setTop (mkF m 152 #[.val (.int p1), .val (.int p2), .unset, .unset, .unset, .unset] [(.ref w_RESOURCE), (.int (21 : Int32)), (.ref b1), (.ref b1)])) _
    refine st45 _ ?_
    show Steps p.tables e below (T45.setTop (mkF m 153 #[.val (.int p1), .val (.int p2), .unset, .unset, .unset, .unset] [(.ref b1)])) _
    refine XS.dup X45.here hx rfl (hb hby at_153) rfl rfl ?_
    show Steps p.tables e below (T45.setTop (mkF m 154 #[.val (.int p1), .val (.int p2), .unset, .unset, .unset, .unset] [(.ref b1), (.ref b1)])) _
    refine XS.bipush X45.here hx rfl (hb hby at_154) ?_
    show Steps p.tables e below (T45.setTop (mkF m 156 #[.val (.int p1), .val (.int p2), .unset, .unset, .unset, .unset] [(.int (22 : Int32)), (.ref b1), (.ref b1)])) _
    refine st46 _ ?_
    show Steps p.tables e below (T46.setTop (mkF m 159 #[.val (.int p1), .val (.int p2), .unset, .unset, .unset, .unset] [(.ref w_MEMBER), (.int (22 : Int32)), (.ref b1), (.ref b1)])) _
    refine st47 _ ?_
    show Steps p.tables e below (T47.setTop (mkF m 160 #[.val (.int p1), .val (.int p2), .unset, .unset, .unset, .unset] [(.ref b1)])) _
    refine XS.astoreN X47.here hx rfl (hb hby at_160) rfl rfl (l' := #[.val (.int p1), .val (.int p2), .val (.ref b1), .unset, .unset, .unset]) rfl ?_
    show Steps p.tables e below (T47.setTop (mkF m 161 #[.val (.int p1), .val (.int p2), .val (.ref b1), .unset, .unset, .unset] [])) _
    refine XS.iloadN X47.here hx rfl (hb hby at_161) rfl ?_
    show Steps p.tables e below (T47.setTop (mkF m 162 #[.val (.int p1), .val (.int p2), .val (.ref b1), .unset, .unset, .unset] [(.int p1)])) _
    refine X47.ldcInt hx hown (mvT hZ (hw _ (ow 50 rfl))) (g := (mkF m 162 #[.val (.int p1), .val (.int p2), .val (.ref b1), .unset, .unset, .unset] [(.int p1)])) rfl (hb hby at_162) _ ?_
    show Steps p.tables e below (T47.setTop (mkF m 164 #[.val (.int p1), .val (.int p2), .val (.ref b1), .unset, .unset, .unset] [(.int (2147483647 : Int32)), (.int p1)])) _
    refine XS.iand X47.here hx rfl (hb hby at_164) rfl ?_
    show Steps p.tables e below (T47.setTop (mkF m 165 #[.val (.int p1), .val (.int p2), .val (.ref b1), .unset, .unset, .unset] [(.int (p1 &&& (2147483647 : Int32)))])) _
    refine XS.bipush X47.here hx rfl (hb hby at_165) ?_
    show Steps p.tables e below (T47.setTop (mkF m 167 #[.val (.int p1), .val (.int p2), .val (.ref b1), .unset, .unset, .unset] [(.int (23 : Int32)), (.int (p1 &&& (2147483647 : Int32)))])) _
    refine iremM X47 hx rfl (hb hby at_167) rfl (by decide) ?_
    show Steps p.tables e below (T47.setTop (mkF m 168 #[.val (.int p1), .val (.int p2), .val (.ref b1), .unset, .unset, .unset] [(.int ((p1 &&& (2147483647 : Int32)) % (23 : Int32)))])) _
    rw [hi]
    show Steps p.tables e below (T47.setTop (mkF m 168 #[.val (.int p1), .val (.int p2), .val (.ref b1), .unset, .unset, .unset] [(.int ii)])) _
    refine XS.istoreN X47.here hx rfl (hb hby at_168) rfl (l' := #[.val (.int p1), .val (.int p2), .val (.ref b1), .val (.int ii), .unset, .unset]) rfl ?_
    show Steps p.tables e below (T47.setTop (mkF m 169 #[.val (.int p1), .val (.int p2), .val (.ref b1), .val (.int ii), .unset, .unset] [])) _
    refine XS.iloadN X47.here hx rfl (hb hby at_169) rfl ?_
    show Steps p.tables e below (T47.setTop (mkF m 170 #[.val (.int p1), .val (.int p2), .val (.ref b1), .val (.int ii), .unset, .unset] [(.int p2)])) _
    refine X47.ldcInt hx hown (mvT hZ (hw _ (ow 50 rfl))) (g := (mkF m 170 #[.val (.int p1), .val (.int p2), .val (.ref b1), .val (.int ii), .unset, .unset] [(.int p2)])) rfl (hb hby at_170) _ ?_
    show Steps p.tables e below (T47.setTop (mkF m 172 #[.val (.int p1), .val (.int p2), .val (.ref b1), .val (.int ii), .unset, .unset] [(.int (2147483647 : Int32)), (.int p2)])) _
    refine XS.iand X47.here hx rfl (hb hby at_172) rfl ?_
    show Steps p.tables e below (T47.setTop (mkF m 173 #[.val (.int p1), .val (.int p2), .val (.ref b1), .val (.int ii), .unset, .unset] [(.int (p2 &&& (2147483647 : Int32)))])) _
    refine XS.bipush X47.here hx rfl (hb hby at_173) ?_
    show Steps p.tables e below (T47.setTop (mkF m 175 #[.val (.int p1), .val (.int p2), .val (.ref b1), .val (.int ii), .unset, .unset] [(.int (23 : Int32)), (.int (p2 &&& (2147483647 : Int32)))])) _
    refine iremM X47 hx rfl (hb hby at_175) rfl (by decide) ?_
    show Steps p.tables e below (T47.setTop (mkF m 176 #[.val (.int p1), .val (.int p2), .val (.ref b1), .val (.int ii), .unset, .unset] [(.int ((p2 &&& (2147483647 : Int32)) % (23 : Int32)))])) _
    rw [hj]
    show Steps p.tables e below (T47.setTop (mkF m 176 #[.val (.int p1), .val (.int p2), .val (.ref b1), .val (.int ii), .unset, .unset] [(.int jj)])) _
    refine XS.istore X47.here hx rfl (hb hby at_176) rfl (l' := #[.val (.int p1), .val (.int p2), .val (.ref b1), .val (.int ii), .val (.int jj), .unset]) rfl ?_
    show Steps p.tables e below (T47.setTop (mkF m 178 #[.val (.int p1), .val (.int p2), .val (.ref b1), .val (.int ii), .val (.int jj), .unset] [])) _
    refine XS.iloadN X47.here hx rfl (hb hby at_178) rfl ?_
    show Steps p.tables e below (T47.setTop (mkF m 179 #[.val (.int p1), .val (.int p2), .val (.ref b1), .val (.int ii), .val (.int jj), .unset] [(.int ii)])) _
    refine XS.iload X47.here hx rfl (hb hby at_179) rfl ?_
    exact k)
  by_cases hc181_48 : ii = jj
  · obtain ⟨cl50, Ar50, qk50, hs50⟩ := id B47
    have gt50 := own_get hs50 hi0 hA
    obtain ⟨cl51, Ar51, qk51, hs51⟩ := id B47
    have gt51 := own_get hs51 hj0 hB
    obtain ⟨cq52, kq52, q52a, q52b, q52c⟩ := isOf hZ e47 (E_A.ext EX47)
    obtain ⟨v52, _, ⟨T52, L52, k52, n52⟩, -, X52, ⟨Lc52, hQ52, l52, y52, z52⟩, st52⟩ := X47.virtualBack hx (y := (⟨"com/example/falkirk/falkirk/model/ShapeType", "isA", "(Lcom/example/falkirk/falkirk/model/ShapeType;)Z"⟩ : MethodName)) (z := (⟨"com/example/falkirk/falkirk/model/ShapeType", "isA", "(Lcom/example/falkirk/falkirk/model/ShapeType;)Z"⟩ : MethodName)) hown (mvT hZ (hw _ (ow 51 rfl))) (mvT hZ (hw _ (ow 52 rfl))) (notFace_of_selects (args := #[]) (mvT hZ (hw _ (ow 54 rfl)))) (mvT hZ (hw _ (ow 54 rfl))) (mvT hZ (hw _ (ow 53 rfl))) (by decide) (backOf (W := 0) (rm_isA l Z a0 hw [] A B h47 n0 w_BLOB w_BOOLEAN w_STRING w_ENUM w_BYTE w_SHORT w_INTEGER w_INT_ENUM w_LONG w_FLOAT w_DOUBLE w_BIG_INTEGER w_BIG_DECIMAL w_TIMESTAMP w_DOCUMENT w_LIST w_MAP w_STRUCTURE w_UNION w_SERVICE w_OPERATION w_RESOURCE w_MEMBER (own_K_ext EX47 hK)) hZ (hw _ (ow 55 rfl)) (hw _ (ow 3 rfl)) (by decide) (by decide)) q52a q52c (g := (mkF m 222 #[.val (.int p1), .val (.int p2), .val (.ref b1), .val (.int ii), .val (.int jj), .val (.int (1 : Int32))] [(.ref B), (.ref A)])) rfl (by rw [hml]; rfl) (Steps.refl _) (argsL := [(.ref B)]) (rest := []) (lenOf pd_0 rfl) rfl (Nat.le_of_eq rfl) (hb hby at_222) (fun _ _ => ⟨rfl, e47, (by decide : 1 + 0 ≤ _), (by decide : 23 + 0 ≤ _)⟩)
    dsimp only [Pt.U, Pt.locs, Pt.cells, Pt.slots] at X52 l52 y52 z52 st52 hQ52
    subst y52 z52
    obtain ⟨hv52, Nq52, e52⟩ := hQ52
    obtain rfl : v52 = some (.int (1 : Int32)) := hv52.trans (congrArg some (congrArg Value.int (if_pos (hAB.mpr hc181_48))))
    have N52 : Fr n0 L52 := by rw [l52]; exact Fr.app N47 Nq52
    have pre53 : ∀ t, Steps p.tables e below (T52.setTop (mkF m 235 #[.val (.int p1), .val (.int p2), .val (.ref b1), .val (.int ii), .val (.int jj), .val (.int (1 : Int32))] [(.int (1 : Int32))])) t → Steps p.tables e below (s₁.setTop (entryFrame m #[(.int p1), (.int p2)] maxLocals)) t := fun t k => pre49 t (by
      show Steps p.tables e below (T47.setTop (mkF m 181 #[.val (.int p1), .val (.int p2), .val (.ref b1), .val (.int ii), .val (.int jj), .unset] [(.int jj), (.int ii)])) _
      refine XS.icmpYes X47.here hx rfl (pc0 := 181) (pc' := 208) rfl (hb hby at_181) rfl (teq hc181_48).1 (by decide) (by decide) ?_
      show Steps p.tables e below (T47.setTop (mkF m 208 #[.val (.int p1), .val (.int p2), .val (.ref b1), .val (.int ii), .val (.int jj), .unset] [])) _
      refine XS.iconst X47.here hx rfl (hb hby at_208) ?_
      show Steps p.tables e below (T47.setTop (mkF m 209 #[.val (.int p1), .val (.int p2), .val (.ref b1), .val (.int ii), .val (.int jj), .unset] [(.int (1 : Int32))])) _
      refine XS.goto X47.here hx rfl (pc0 := 209) (pc' := 213) rfl (hb hby at_209) (by decide) (by decide) ?_
      show Steps p.tables e below (T47.setTop (mkF m 213 #[.val (.int p1), .val (.int p2), .val (.ref b1), .val (.int ii), .val (.int jj), .unset] [(.int (1 : Int32))])) _
      refine XS.istore X47.here hx rfl (hb hby at_213) rfl (l' := #[.val (.int p1), .val (.int p2), .val (.ref b1), .val (.int ii), .val (.int jj), .val (.int (1 : Int32))]) rfl ?_
      show Steps p.tables e below (T47.setTop (mkF m 215 #[.val (.int p1), .val (.int p2), .val (.ref b1), .val (.int ii), .val (.int jj), .val (.int (1 : Int32))] [])) _
      refine XS.aloadN X47.here hx rfl (hb hby at_215) rfl rfl ?_
      show Steps p.tables e below (T47.setTop (mkF m 216 #[.val (.int p1), .val (.int p2), .val (.ref b1), .val (.int ii), .val (.int jj), .val (.int (1 : Int32))] [(.ref b1)])) _
      refine XS.iloadN X47.here hx rfl (hb hby at_216) rfl ?_
      show Steps p.tables e below (T47.setTop (mkF m 217 #[.val (.int p1), .val (.int p2), .val (.ref b1), .val (.int ii), .val (.int jj), .val (.int (1 : Int32))] [(.int ii), (.ref b1)])) _
      refine X47.aaload hx (j := ii) (v := (.ref A)) (by rw [e47]; exact Ar50.1) (State.isArrayOf_alike hZ.alike Ar50.2.1) rfl Ar50.2.2 gt50.1 gt50.2 (g := (mkF m 217 #[.val (.int p1), .val (.int p2), .val (.ref b1), .val (.int ii), .val (.int jj), .val (.int (1 : Int32))] [(.int ii), (.ref b1)])) rfl rfl (hb hby at_217) _ ?_
      show Steps p.tables e below (T47.setTop (mkF m 218 #[.val (.int p1), .val (.int p2), .val (.ref b1), .val (.int ii), .val (.int jj), .val (.int (1 : Int32))] [(.ref A)])) _
      refine XS.aloadN X47.here hx rfl (hb hby at_218) rfl rfl ?_
      show Steps p.tables e below (T47.setTop (mkF m 219 #[.val (.int p1), .val (.int p2), .val (.ref b1), .val (.int ii), .val (.int jj), .val (.int (1 : Int32))] [(.ref b1), (.ref A)])) _
      refine XS.iload X47.here hx rfl (hb hby at_219) rfl ?_
      show Steps p.tables e below (T47.setTop (mkF m 221 #[.val (.int p1), .val (.int p2), .val (.ref b1), .val (.int ii), .val (.int jj), .val (.int (1 : Int32))] [(.int jj), (.ref b1), (.ref A)])) _
      refine X47.aaload hx (j := jj) (v := (.ref B)) (by rw [e47]; exact Ar51.1) (State.isArrayOf_alike hZ.alike Ar51.2.1) rfl Ar51.2.2 gt51.1 gt51.2 (g := (mkF m 221 #[.val (.int p1), .val (.int p2), .val (.ref b1), .val (.int ii), .val (.int jj), .val (.int (1 : Int32))] [(.int jj), (.ref b1), (.ref A)])) rfl rfl (hb hby at_221) _ ?_
      show Steps p.tables e below (T47.setTop (mkF m 222 #[.val (.int p1), .val (.int p2), .val (.ref b1), .val (.int ii), .val (.int jj), .val (.int (1 : Int32))] [(.ref B), (.ref A)])) _
      refine st52.trans ?_
      show Steps p.tables e below (T52.setTop (mkF m 225 #[.val (.int p1), .val (.int p2), .val (.ref b1), .val (.int ii), .val (.int jj), .val (.int (1 : Int32))] [(.int (1 : Int32))])) _
      refine XS.iload X52.here hx rfl (hb hby at_225) rfl ?_
      show Steps p.tables e below (T52.setTop (mkF m 227 #[.val (.int p1), .val (.int p2), .val (.ref b1), .val (.int ii), .val (.int jj), .val (.int (1 : Int32))] [(.int (1 : Int32)), (.int (1 : Int32))])) _
      refine XS.icmpNo X52.here hx rfl (hb hby at_227) rfl (teq (by decide)).2 ?_
      show Steps p.tables e below (T52.setTop (mkF m 230 #[.val (.int p1), .val (.int p2), .val (.ref b1), .val (.int ii), .val (.int jj), .val (.int (1 : Int32))] [])) _
      refine XS.iconst X52.here hx rfl (hb hby at_230) ?_
      show Steps p.tables e below (T52.setTop (mkF m 231 #[.val (.int p1), .val (.int p2), .val (.ref b1), .val (.int ii), .val (.int jj), .val (.int (1 : Int32))] [(.int (1 : Int32))])) _
      refine XS.goto X52.here hx rfl (pc0 := 231) (pc' := 235) rfl (hb hby at_231) (by decide) (by decide) ?_
      exact k)
    obtain ⟨fs, hr, hrun, hended, hW, hsame⟩ := X52.leave (v := some (.int (1 : Int32))) (fun h => by rw [Bd.returns] at h; cases h)
    refine ⟨_, _, pre53 _ ?_, hrun, hended, _, _, rfl, ?_, ⟨_, rfl⟩, hW, hsame.mono (by decide) (by decide)⟩
    · show Steps p.tables e below (T52.setTop (mkF m 235 #[.val (.int p1), .val (.int p2), .val (.ref b1), .val (.int ii), .val (.int jj), .val (.int (1 : Int32))] [(.int (1 : Int32))])) _
      exact retN X52 hx (t := .boolean) Bd.returns (by simp) (hb hby at_235) hr
    · exact ⟨rfl, N52, trivial⟩
  · have pre55 : ∀ t, Steps p.tables e below (T47.setTop (mkF m 186 #[.val (.int p1), .val (.int p2), .val (.ref b1), .val (.int ii), .val (.int jj), .unset] [(.int (3 : Int32)), (.int ii)])) t → Steps p.tables e below (s₁.setTop (entryFrame m #[(.int p1), (.int p2)] maxLocals)) t := fun t k => pre49 t (by
      show Steps p.tables e below (T47.setTop (mkF m 181 #[.val (.int p1), .val (.int p2), .val (.ref b1), .val (.int ii), .val (.int jj), .unset] [(.int jj), (.int ii)])) _
      refine XS.icmpNo X47.here hx rfl (hb hby at_181) rfl (feq hc181_48).1 ?_
      show Steps p.tables e below (T47.setTop (mkF m 184 #[.val (.int p1), .val (.int p2), .val (.ref b1), .val (.int ii), .val (.int jj), .unset] [])) _
      refine XS.iloadN X47.here hx rfl (hb hby at_184) rfl ?_
      show Steps p.tables e below (T47.setTop (mkF m 185 #[.val (.int p1), .val (.int p2), .val (.ref b1), .val (.int ii), .val (.int jj), .unset] [(.int ii)])) _
      refine XS.iconst X47.here hx rfl (hb hby at_185) ?_
      exact k)
    by_cases hc186_54 : ii = (3 : Int32)
    · have pre57 : ∀ t, Steps p.tables e below (T47.setTop (mkF m 192 #[.val (.int p1), .val (.int p2), .val (.ref b1), .val (.int ii), .val (.int jj), .unset] [(.int (2 : Int32)), (.int jj)])) t → Steps p.tables e below (s₁.setTop (entryFrame m #[(.int p1), (.int p2)] maxLocals)) t := fun t k => pre55 t (by
        show Steps p.tables e below (T47.setTop (mkF m 186 #[.val (.int p1), .val (.int p2), .val (.ref b1), .val (.int ii), .val (.int jj), .unset] [(.int (3 : Int32)), (.int ii)])) _
        refine XS.icmpNo X47.here hx rfl (hb hby at_186) rfl (teq hc186_54).2 ?_
        show Steps p.tables e below (T47.setTop (mkF m 189 #[.val (.int p1), .val (.int p2), .val (.ref b1), .val (.int ii), .val (.int jj), .unset] [])) _
        refine XS.iload X47.here hx rfl (hb hby at_189) rfl ?_
        show Steps p.tables e below (T47.setTop (mkF m 191 #[.val (.int p1), .val (.int p2), .val (.ref b1), .val (.int ii), .val (.int jj), .unset] [(.int jj)])) _
        refine XS.iconst X47.here hx rfl (hb hby at_191) ?_
        exact k)
      by_cases hc192_56 : jj = (2 : Int32)
      · obtain ⟨cl58, Ar58, qk58, hs58⟩ := id B47
        have gt58 := own_get hs58 hi0 hA
        obtain ⟨cl59, Ar59, qk59, hs59⟩ := id B47
        have gt59 := own_get hs59 hj0 hB
        obtain ⟨cq60, kq60, q60a, q60b, q60c⟩ := isOf hZ e47 (E_A.ext EX47)
        obtain ⟨v60, _, ⟨T60, L60, k60, n60⟩, -, X60, ⟨Lc60, hQ60, l60, y60, z60⟩, st60⟩ := X47.virtualBack hx (y := (⟨"com/example/falkirk/falkirk/model/ShapeType", "isA", "(Lcom/example/falkirk/falkirk/model/ShapeType;)Z"⟩ : MethodName)) (z := (⟨"com/example/falkirk/falkirk/model/ShapeType", "isA", "(Lcom/example/falkirk/falkirk/model/ShapeType;)Z"⟩ : MethodName)) hown (mvT hZ (hw _ (ow 51 rfl))) (mvT hZ (hw _ (ow 52 rfl))) (notFace_of_selects (args := #[]) (mvT hZ (hw _ (ow 54 rfl)))) (mvT hZ (hw _ (ow 54 rfl))) (mvT hZ (hw _ (ow 53 rfl))) (by decide) (backOf (W := 0) (rm_isA l Z a0 hw [] A B h47 n0 w_BLOB w_BOOLEAN w_STRING w_ENUM w_BYTE w_SHORT w_INTEGER w_INT_ENUM w_LONG w_FLOAT w_DOUBLE w_BIG_INTEGER w_BIG_DECIMAL w_TIMESTAMP w_DOCUMENT w_LIST w_MAP w_STRUCTURE w_UNION w_SERVICE w_OPERATION w_RESOURCE w_MEMBER (own_K_ext EX47 hK)) hZ (hw _ (ow 55 rfl)) (hw _ (ow 3 rfl)) (by decide) (by decide)) q60a q60c (g := (mkF m 222 #[.val (.int p1), .val (.int p2), .val (.ref b1), .val (.int ii), .val (.int jj), .val (.int (1 : Int32))] [(.ref B), (.ref A)])) rfl (by rw [hml]; rfl) (Steps.refl _) (argsL := [(.ref B)]) (rest := []) (lenOf pd_0 rfl) rfl (Nat.le_of_eq rfl) (hb hby at_222) (fun _ _ => ⟨rfl, e47, (by decide : 1 + 0 ≤ _), (by decide : 23 + 0 ≤ _)⟩)
        dsimp only [Pt.U, Pt.locs, Pt.cells, Pt.slots] at X60 l60 y60 z60 st60 hQ60
        subst y60 z60
        obtain ⟨hv60, Nq60, e60⟩ := hQ60
        obtain rfl : v60 = some (.int (1 : Int32)) := hv60.trans (congrArg some (congrArg Value.int ((if_neg (mt hAB.mp hc181_48)).trans ((if_pos (hA3.mpr hc186_54)).trans (if_pos (hB2.mpr hc192_56))))))
        have N60 : Fr n0 L60 := by rw [l60]; exact Fr.app N47 Nq60
        have pre61 : ∀ t, Steps p.tables e below (T60.setTop (mkF m 235 #[.val (.int p1), .val (.int p2), .val (.ref b1), .val (.int ii), .val (.int jj), .val (.int (1 : Int32))] [(.int (1 : Int32))])) t → Steps p.tables e below (s₁.setTop (entryFrame m #[(.int p1), (.int p2)] maxLocals)) t := fun t k => pre57 t (by
          show Steps p.tables e below (T47.setTop (mkF m 192 #[.val (.int p1), .val (.int p2), .val (.ref b1), .val (.int ii), .val (.int jj), .unset] [(.int (2 : Int32)), (.int jj)])) _
          refine XS.icmpYes X47.here hx rfl (pc0 := 192) (pc' := 208) rfl (hb hby at_192) rfl (teq hc192_56).1 (by decide) (by decide) ?_
          show Steps p.tables e below (T47.setTop (mkF m 208 #[.val (.int p1), .val (.int p2), .val (.ref b1), .val (.int ii), .val (.int jj), .unset] [])) _
          refine XS.iconst X47.here hx rfl (hb hby at_208) ?_
          show Steps p.tables e below (T47.setTop (mkF m 209 #[.val (.int p1), .val (.int p2), .val (.ref b1), .val (.int ii), .val (.int jj), .unset] [(.int (1 : Int32))])) _
          refine XS.goto X47.here hx rfl (pc0 := 209) (pc' := 213) rfl (hb hby at_209) (by decide) (by decide) ?_
          show Steps p.tables e below (T47.setTop (mkF m 213 #[.val (.int p1), .val (.int p2), .val (.ref b1), .val (.int ii), .val (.int jj), .unset] [(.int (1 : Int32))])) _
          refine XS.istore X47.here hx rfl (hb hby at_213) rfl (l' := #[.val (.int p1), .val (.int p2), .val (.ref b1), .val (.int ii), .val (.int jj), .val (.int (1 : Int32))]) rfl ?_
          show Steps p.tables e below (T47.setTop (mkF m 215 #[.val (.int p1), .val (.int p2), .val (.ref b1), .val (.int ii), .val (.int jj), .val (.int (1 : Int32))] [])) _
          refine XS.aloadN X47.here hx rfl (hb hby at_215) rfl rfl ?_
          show Steps p.tables e below (T47.setTop (mkF m 216 #[.val (.int p1), .val (.int p2), .val (.ref b1), .val (.int ii), .val (.int jj), .val (.int (1 : Int32))] [(.ref b1)])) _
          refine XS.iloadN X47.here hx rfl (hb hby at_216) rfl ?_
          show Steps p.tables e below (T47.setTop (mkF m 217 #[.val (.int p1), .val (.int p2), .val (.ref b1), .val (.int ii), .val (.int jj), .val (.int (1 : Int32))] [(.int ii), (.ref b1)])) _
          refine X47.aaload hx (j := ii) (v := (.ref A)) (by rw [e47]; exact Ar58.1) (State.isArrayOf_alike hZ.alike Ar58.2.1) rfl Ar58.2.2 gt58.1 gt58.2 (g := (mkF m 217 #[.val (.int p1), .val (.int p2), .val (.ref b1), .val (.int ii), .val (.int jj), .val (.int (1 : Int32))] [(.int ii), (.ref b1)])) rfl rfl (hb hby at_217) _ ?_
          show Steps p.tables e below (T47.setTop (mkF m 218 #[.val (.int p1), .val (.int p2), .val (.ref b1), .val (.int ii), .val (.int jj), .val (.int (1 : Int32))] [(.ref A)])) _
          refine XS.aloadN X47.here hx rfl (hb hby at_218) rfl rfl ?_
          show Steps p.tables e below (T47.setTop (mkF m 219 #[.val (.int p1), .val (.int p2), .val (.ref b1), .val (.int ii), .val (.int jj), .val (.int (1 : Int32))] [(.ref b1), (.ref A)])) _
          refine XS.iload X47.here hx rfl (hb hby at_219) rfl ?_
          show Steps p.tables e below (T47.setTop (mkF m 221 #[.val (.int p1), .val (.int p2), .val (.ref b1), .val (.int ii), .val (.int jj), .val (.int (1 : Int32))] [(.int jj), (.ref b1), (.ref A)])) _
          refine X47.aaload hx (j := jj) (v := (.ref B)) (by rw [e47]; exact Ar59.1) (State.isArrayOf_alike hZ.alike Ar59.2.1) rfl Ar59.2.2 gt59.1 gt59.2 (g := (mkF m 221 #[.val (.int p1), .val (.int p2), .val (.ref b1), .val (.int ii), .val (.int jj), .val (.int (1 : Int32))] [(.int jj), (.ref b1), (.ref A)])) rfl rfl (hb hby at_221) _ ?_
          show Steps p.tables e below (T47.setTop (mkF m 222 #[.val (.int p1), .val (.int p2), .val (.ref b1), .val (.int ii), .val (.int jj), .val (.int (1 : Int32))] [(.ref B), (.ref A)])) _
          refine st60.trans ?_
          show Steps p.tables e below (T60.setTop (mkF m 225 #[.val (.int p1), .val (.int p2), .val (.ref b1), .val (.int ii), .val (.int jj), .val (.int (1 : Int32))] [(.int (1 : Int32))])) _
          refine XS.iload X60.here hx rfl (hb hby at_225) rfl ?_
          show Steps p.tables e below (T60.setTop (mkF m 227 #[.val (.int p1), .val (.int p2), .val (.ref b1), .val (.int ii), .val (.int jj), .val (.int (1 : Int32))] [(.int (1 : Int32)), (.int (1 : Int32))])) _
          refine XS.icmpNo X60.here hx rfl (hb hby at_227) rfl (teq (by decide)).2 ?_
          show Steps p.tables e below (T60.setTop (mkF m 230 #[.val (.int p1), .val (.int p2), .val (.ref b1), .val (.int ii), .val (.int jj), .val (.int (1 : Int32))] [])) _
          refine XS.iconst X60.here hx rfl (hb hby at_230) ?_
          show Steps p.tables e below (T60.setTop (mkF m 231 #[.val (.int p1), .val (.int p2), .val (.ref b1), .val (.int ii), .val (.int jj), .val (.int (1 : Int32))] [(.int (1 : Int32))])) _
          refine XS.goto X60.here hx rfl (pc0 := 231) (pc' := 235) rfl (hb hby at_231) (by decide) (by decide) ?_
          exact k)
        obtain ⟨fs, hr, hrun, hended, hW, hsame⟩ := X60.leave (v := some (.int (1 : Int32))) (fun h => by rw [Bd.returns] at h; cases h)
        refine ⟨_, _, pre61 _ ?_, hrun, hended, _, _, rfl, ?_, ⟨_, rfl⟩, hW, hsame.mono (by decide) (by decide)⟩
        · show Steps p.tables e below (T60.setTop (mkF m 235 #[.val (.int p1), .val (.int p2), .val (.ref b1), .val (.int ii), .val (.int jj), .val (.int (1 : Int32))] [(.int (1 : Int32))])) _
          exact retN X60 hx (t := .boolean) Bd.returns (by simp) (hb hby at_235) hr
        · exact ⟨rfl, N60, trivial⟩
      · have pre63 : ∀ t, Steps p.tables e below (T47.setTop (mkF m 198 #[.val (.int p1), .val (.int p2), .val (.ref b1), .val (.int ii), .val (.int jj), .unset] [(.int (7 : Int32)), (.int ii)])) t → Steps p.tables e below (s₁.setTop (entryFrame m #[(.int p1), (.int p2)] maxLocals)) t := fun t k => pre57 t (by
          show Steps p.tables e below (T47.setTop (mkF m 192 #[.val (.int p1), .val (.int p2), .val (.ref b1), .val (.int ii), .val (.int jj), .unset] [(.int (2 : Int32)), (.int jj)])) _
          refine XS.icmpNo X47.here hx rfl (hb hby at_192) rfl (feq hc192_56).1 ?_
          show Steps p.tables e below (T47.setTop (mkF m 195 #[.val (.int p1), .val (.int p2), .val (.ref b1), .val (.int ii), .val (.int jj), .unset] [])) _
          refine XS.iloadN X47.here hx rfl (hb hby at_195) rfl ?_
          show Steps p.tables e below (T47.setTop (mkF m 196 #[.val (.int p1), .val (.int p2), .val (.ref b1), .val (.int ii), .val (.int jj), .unset] [(.int ii)])) _
          refine XS.bipush X47.here hx rfl (hb hby at_196) ?_
          exact k)
        by_cases hc198_62 : ii = (7 : Int32)
        · have pre65 : ∀ t, Steps p.tables e below (T47.setTop (mkF m 205 #[.val (.int p1), .val (.int p2), .val (.ref b1), .val (.int ii), .val (.int jj), .unset] [(.int (6 : Int32)), (.int jj)])) t → Steps p.tables e below (s₁.setTop (entryFrame m #[(.int p1), (.int p2)] maxLocals)) t := fun t k => pre63 t (by
            show Steps p.tables e below (T47.setTop (mkF m 198 #[.val (.int p1), .val (.int p2), .val (.ref b1), .val (.int ii), .val (.int jj), .unset] [(.int (7 : Int32)), (.int ii)])) _
            refine XS.icmpNo X47.here hx rfl (hb hby at_198) rfl (teq hc198_62).2 ?_
            show Steps p.tables e below (T47.setTop (mkF m 201 #[.val (.int p1), .val (.int p2), .val (.ref b1), .val (.int ii), .val (.int jj), .unset] [])) _
            refine XS.iload X47.here hx rfl (hb hby at_201) rfl ?_
            show Steps p.tables e below (T47.setTop (mkF m 203 #[.val (.int p1), .val (.int p2), .val (.ref b1), .val (.int ii), .val (.int jj), .unset] [(.int jj)])) _
            refine XS.bipush X47.here hx rfl (hb hby at_203) ?_
            exact k)
          by_cases hc205_64 : jj = (6 : Int32)
          · obtain ⟨cl66, Ar66, qk66, hs66⟩ := id B47
            have gt66 := own_get hs66 hi0 hA
            obtain ⟨cl67, Ar67, qk67, hs67⟩ := id B47
            have gt67 := own_get hs67 hj0 hB
            obtain ⟨cq68, kq68, q68a, q68b, q68c⟩ := isOf hZ e47 (E_A.ext EX47)
            obtain ⟨v68, _, ⟨T68, L68, k68, n68⟩, -, X68, ⟨Lc68, hQ68, l68, y68, z68⟩, st68⟩ := X47.virtualBack hx (y := (⟨"com/example/falkirk/falkirk/model/ShapeType", "isA", "(Lcom/example/falkirk/falkirk/model/ShapeType;)Z"⟩ : MethodName)) (z := (⟨"com/example/falkirk/falkirk/model/ShapeType", "isA", "(Lcom/example/falkirk/falkirk/model/ShapeType;)Z"⟩ : MethodName)) hown (mvT hZ (hw _ (ow 51 rfl))) (mvT hZ (hw _ (ow 52 rfl))) (notFace_of_selects (args := #[]) (mvT hZ (hw _ (ow 54 rfl)))) (mvT hZ (hw _ (ow 54 rfl))) (mvT hZ (hw _ (ow 53 rfl))) (by decide) (backOf (W := 0) (rm_isA l Z a0 hw [] A B h47 n0 w_BLOB w_BOOLEAN w_STRING w_ENUM w_BYTE w_SHORT w_INTEGER w_INT_ENUM w_LONG w_FLOAT w_DOUBLE w_BIG_INTEGER w_BIG_DECIMAL w_TIMESTAMP w_DOCUMENT w_LIST w_MAP w_STRUCTURE w_UNION w_SERVICE w_OPERATION w_RESOURCE w_MEMBER (own_K_ext EX47 hK)) hZ (hw _ (ow 55 rfl)) (hw _ (ow 3 rfl)) (by decide) (by decide)) q68a q68c (g := (mkF m 222 #[.val (.int p1), .val (.int p2), .val (.ref b1), .val (.int ii), .val (.int jj), .val (.int (1 : Int32))] [(.ref B), (.ref A)])) rfl (by rw [hml]; rfl) (Steps.refl _) (argsL := [(.ref B)]) (rest := []) (lenOf pd_0 rfl) rfl (Nat.le_of_eq rfl) (hb hby at_222) (fun _ _ => ⟨rfl, e47, (by decide : 1 + 0 ≤ _), (by decide : 23 + 0 ≤ _)⟩)
            dsimp only [Pt.U, Pt.locs, Pt.cells, Pt.slots] at X68 l68 y68 z68 st68 hQ68
            subst y68 z68
            obtain ⟨hv68, Nq68, e68⟩ := hQ68
            obtain rfl : v68 = some (.int (1 : Int32)) := hv68.trans (congrArg some (congrArg Value.int ((if_neg (mt hAB.mp hc181_48)).trans ((if_pos (hA3.mpr hc186_54)).trans ((if_neg (mt hB2.mp hc192_56)).trans ((if_pos (hA7.mpr hc198_62)).trans (if_pos (hB6.mpr hc205_64))))))))
            have N68 : Fr n0 L68 := by rw [l68]; exact Fr.app N47 Nq68
            have pre69 : ∀ t, Steps p.tables e below (T68.setTop (mkF m 235 #[.val (.int p1), .val (.int p2), .val (.ref b1), .val (.int ii), .val (.int jj), .val (.int (1 : Int32))] [(.int (1 : Int32))])) t → Steps p.tables e below (s₁.setTop (entryFrame m #[(.int p1), (.int p2)] maxLocals)) t := fun t k => pre65 t (by
              show Steps p.tables e below (T47.setTop (mkF m 205 #[.val (.int p1), .val (.int p2), .val (.ref b1), .val (.int ii), .val (.int jj), .unset] [(.int (6 : Int32)), (.int jj)])) _
              refine XS.icmpNo X47.here hx rfl (hb hby at_205) rfl (teq hc205_64).2 ?_
              show Steps p.tables e below (T47.setTop (mkF m 208 #[.val (.int p1), .val (.int p2), .val (.ref b1), .val (.int ii), .val (.int jj), .unset] [])) _
              refine XS.iconst X47.here hx rfl (hb hby at_208) ?_
              show Steps p.tables e below (T47.setTop (mkF m 209 #[.val (.int p1), .val (.int p2), .val (.ref b1), .val (.int ii), .val (.int jj), .unset] [(.int (1 : Int32))])) _
              refine XS.goto X47.here hx rfl (pc0 := 209) (pc' := 213) rfl (hb hby at_209) (by decide) (by decide) ?_
              show Steps p.tables e below (T47.setTop (mkF m 213 #[.val (.int p1), .val (.int p2), .val (.ref b1), .val (.int ii), .val (.int jj), .unset] [(.int (1 : Int32))])) _
              refine XS.istore X47.here hx rfl (hb hby at_213) rfl (l' := #[.val (.int p1), .val (.int p2), .val (.ref b1), .val (.int ii), .val (.int jj), .val (.int (1 : Int32))]) rfl ?_
              show Steps p.tables e below (T47.setTop (mkF m 215 #[.val (.int p1), .val (.int p2), .val (.ref b1), .val (.int ii), .val (.int jj), .val (.int (1 : Int32))] [])) _
              refine XS.aloadN X47.here hx rfl (hb hby at_215) rfl rfl ?_
              show Steps p.tables e below (T47.setTop (mkF m 216 #[.val (.int p1), .val (.int p2), .val (.ref b1), .val (.int ii), .val (.int jj), .val (.int (1 : Int32))] [(.ref b1)])) _
              refine XS.iloadN X47.here hx rfl (hb hby at_216) rfl ?_
              show Steps p.tables e below (T47.setTop (mkF m 217 #[.val (.int p1), .val (.int p2), .val (.ref b1), .val (.int ii), .val (.int jj), .val (.int (1 : Int32))] [(.int ii), (.ref b1)])) _
              refine X47.aaload hx (j := ii) (v := (.ref A)) (by rw [e47]; exact Ar66.1) (State.isArrayOf_alike hZ.alike Ar66.2.1) rfl Ar66.2.2 gt66.1 gt66.2 (g := (mkF m 217 #[.val (.int p1), .val (.int p2), .val (.ref b1), .val (.int ii), .val (.int jj), .val (.int (1 : Int32))] [(.int ii), (.ref b1)])) rfl rfl (hb hby at_217) _ ?_
              show Steps p.tables e below (T47.setTop (mkF m 218 #[.val (.int p1), .val (.int p2), .val (.ref b1), .val (.int ii), .val (.int jj), .val (.int (1 : Int32))] [(.ref A)])) _
              refine XS.aloadN X47.here hx rfl (hb hby at_218) rfl rfl ?_
              show Steps p.tables e below (T47.setTop (mkF m 219 #[.val (.int p1), .val (.int p2), .val (.ref b1), .val (.int ii), .val (.int jj), .val (.int (1 : Int32))] [(.ref b1), (.ref A)])) _
              refine XS.iload X47.here hx rfl (hb hby at_219) rfl ?_
              show Steps p.tables e below (T47.setTop (mkF m 221 #[.val (.int p1), .val (.int p2), .val (.ref b1), .val (.int ii), .val (.int jj), .val (.int (1 : Int32))] [(.int jj), (.ref b1), (.ref A)])) _
              refine X47.aaload hx (j := jj) (v := (.ref B)) (by rw [e47]; exact Ar67.1) (State.isArrayOf_alike hZ.alike Ar67.2.1) rfl Ar67.2.2 gt67.1 gt67.2 (g := (mkF m 221 #[.val (.int p1), .val (.int p2), .val (.ref b1), .val (.int ii), .val (.int jj), .val (.int (1 : Int32))] [(.int jj), (.ref b1), (.ref A)])) rfl rfl (hb hby at_221) _ ?_
              show Steps p.tables e below (T47.setTop (mkF m 222 #[.val (.int p1), .val (.int p2), .val (.ref b1), .val (.int ii), .val (.int jj), .val (.int (1 : Int32))] [(.ref B), (.ref A)])) _
              refine st68.trans ?_
              show Steps p.tables e below (T68.setTop (mkF m 225 #[.val (.int p1), .val (.int p2), .val (.ref b1), .val (.int ii), .val (.int jj), .val (.int (1 : Int32))] [(.int (1 : Int32))])) _
              refine XS.iload X68.here hx rfl (hb hby at_225) rfl ?_
              show Steps p.tables e below (T68.setTop (mkF m 227 #[.val (.int p1), .val (.int p2), .val (.ref b1), .val (.int ii), .val (.int jj), .val (.int (1 : Int32))] [(.int (1 : Int32)), (.int (1 : Int32))])) _
              refine XS.icmpNo X68.here hx rfl (hb hby at_227) rfl (teq (by decide)).2 ?_
              show Steps p.tables e below (T68.setTop (mkF m 230 #[.val (.int p1), .val (.int p2), .val (.ref b1), .val (.int ii), .val (.int jj), .val (.int (1 : Int32))] [])) _
              refine XS.iconst X68.here hx rfl (hb hby at_230) ?_
              show Steps p.tables e below (T68.setTop (mkF m 231 #[.val (.int p1), .val (.int p2), .val (.ref b1), .val (.int ii), .val (.int jj), .val (.int (1 : Int32))] [(.int (1 : Int32))])) _
              refine XS.goto X68.here hx rfl (pc0 := 231) (pc' := 235) rfl (hb hby at_231) (by decide) (by decide) ?_
              exact k)
            obtain ⟨fs, hr, hrun, hended, hW, hsame⟩ := X68.leave (v := some (.int (1 : Int32))) (fun h => by rw [Bd.returns] at h; cases h)
            refine ⟨_, _, pre69 _ ?_, hrun, hended, _, _, rfl, ?_, ⟨_, rfl⟩, hW, hsame.mono (by decide) (by decide)⟩
            · show Steps p.tables e below (T68.setTop (mkF m 235 #[.val (.int p1), .val (.int p2), .val (.ref b1), .val (.int ii), .val (.int jj), .val (.int (1 : Int32))] [(.int (1 : Int32))])) _
              exact retN X68 hx (t := .boolean) Bd.returns (by simp) (hb hby at_235) hr
            · exact ⟨rfl, N68, trivial⟩
          · obtain ⟨cl70, Ar70, qk70, hs70⟩ := id B47
            have gt70 := own_get hs70 hi0 hA
            obtain ⟨cl71, Ar71, qk71, hs71⟩ := id B47
            have gt71 := own_get hs71 hj0 hB
            obtain ⟨cq72, kq72, q72a, q72b, q72c⟩ := isOf hZ e47 (E_A.ext EX47)
            obtain ⟨v72, _, ⟨T72, L72, k72, n72⟩, -, X72, ⟨Lc72, hQ72, l72, y72, z72⟩, st72⟩ := X47.virtualBack hx (y := (⟨"com/example/falkirk/falkirk/model/ShapeType", "isA", "(Lcom/example/falkirk/falkirk/model/ShapeType;)Z"⟩ : MethodName)) (z := (⟨"com/example/falkirk/falkirk/model/ShapeType", "isA", "(Lcom/example/falkirk/falkirk/model/ShapeType;)Z"⟩ : MethodName)) hown (mvT hZ (hw _ (ow 51 rfl))) (mvT hZ (hw _ (ow 52 rfl))) (notFace_of_selects (args := #[]) (mvT hZ (hw _ (ow 54 rfl)))) (mvT hZ (hw _ (ow 54 rfl))) (mvT hZ (hw _ (ow 53 rfl))) (by decide) (backOf (W := 0) (rm_isA l Z a0 hw [] A B h47 n0 w_BLOB w_BOOLEAN w_STRING w_ENUM w_BYTE w_SHORT w_INTEGER w_INT_ENUM w_LONG w_FLOAT w_DOUBLE w_BIG_INTEGER w_BIG_DECIMAL w_TIMESTAMP w_DOCUMENT w_LIST w_MAP w_STRUCTURE w_UNION w_SERVICE w_OPERATION w_RESOURCE w_MEMBER (own_K_ext EX47 hK)) hZ (hw _ (ow 55 rfl)) (hw _ (ow 3 rfl)) (by decide) (by decide)) q72a q72c (g := (mkF m 222 #[.val (.int p1), .val (.int p2), .val (.ref b1), .val (.int ii), .val (.int jj), .val (.int (0 : Int32))] [(.ref B), (.ref A)])) rfl (by rw [hml]; rfl) (Steps.refl _) (argsL := [(.ref B)]) (rest := []) (lenOf pd_0 rfl) rfl (Nat.le_of_eq rfl) (hb hby at_222) (fun _ _ => ⟨rfl, e47, (by decide : 1 + 0 ≤ _), (by decide : 23 + 0 ≤ _)⟩)
            dsimp only [Pt.U, Pt.locs, Pt.cells, Pt.slots] at X72 l72 y72 z72 st72 hQ72
            subst y72 z72
            obtain ⟨hv72, Nq72, e72⟩ := hQ72
            obtain rfl : v72 = some (.int (0 : Int32)) := hv72.trans (congrArg some (congrArg Value.int ((if_neg (mt hAB.mp hc181_48)).trans ((if_pos (hA3.mpr hc186_54)).trans ((if_neg (mt hB2.mp hc192_56)).trans ((if_pos (hA7.mpr hc198_62)).trans (if_neg (mt hB6.mp hc205_64))))))))
            have N72 : Fr n0 L72 := by rw [l72]; exact Fr.app N47 Nq72
            have pre73 : ∀ t, Steps p.tables e below (T72.setTop (mkF m 235 #[.val (.int p1), .val (.int p2), .val (.ref b1), .val (.int ii), .val (.int jj), .val (.int (0 : Int32))] [(.int (1 : Int32))])) t → Steps p.tables e below (s₁.setTop (entryFrame m #[(.int p1), (.int p2)] maxLocals)) t := fun t k => pre65 t (by
              show Steps p.tables e below (T47.setTop (mkF m 205 #[.val (.int p1), .val (.int p2), .val (.ref b1), .val (.int ii), .val (.int jj), .unset] [(.int (6 : Int32)), (.int jj)])) _
              refine XS.icmpYes X47.here hx rfl (pc0 := 205) (pc' := 212) rfl (hb hby at_205) rfl (feq hc205_64).2 (by decide) (by decide) ?_
              show Steps p.tables e below (T47.setTop (mkF m 212 #[.val (.int p1), .val (.int p2), .val (.ref b1), .val (.int ii), .val (.int jj), .unset] [])) _
              refine XS.iconst X47.here hx rfl (hb hby at_212) ?_
              show Steps p.tables e below (T47.setTop (mkF m 213 #[.val (.int p1), .val (.int p2), .val (.ref b1), .val (.int ii), .val (.int jj), .unset] [(.int (0 : Int32))])) _
              refine XS.istore X47.here hx rfl (hb hby at_213) rfl (l' := #[.val (.int p1), .val (.int p2), .val (.ref b1), .val (.int ii), .val (.int jj), .val (.int (0 : Int32))]) rfl ?_
              show Steps p.tables e below (T47.setTop (mkF m 215 #[.val (.int p1), .val (.int p2), .val (.ref b1), .val (.int ii), .val (.int jj), .val (.int (0 : Int32))] [])) _
              refine XS.aloadN X47.here hx rfl (hb hby at_215) rfl rfl ?_
              show Steps p.tables e below (T47.setTop (mkF m 216 #[.val (.int p1), .val (.int p2), .val (.ref b1), .val (.int ii), .val (.int jj), .val (.int (0 : Int32))] [(.ref b1)])) _
              refine XS.iloadN X47.here hx rfl (hb hby at_216) rfl ?_
              show Steps p.tables e below (T47.setTop (mkF m 217 #[.val (.int p1), .val (.int p2), .val (.ref b1), .val (.int ii), .val (.int jj), .val (.int (0 : Int32))] [(.int ii), (.ref b1)])) _
              refine X47.aaload hx (j := ii) (v := (.ref A)) (by rw [e47]; exact Ar70.1) (State.isArrayOf_alike hZ.alike Ar70.2.1) rfl Ar70.2.2 gt70.1 gt70.2 (g := (mkF m 217 #[.val (.int p1), .val (.int p2), .val (.ref b1), .val (.int ii), .val (.int jj), .val (.int (0 : Int32))] [(.int ii), (.ref b1)])) rfl rfl (hb hby at_217) _ ?_
              show Steps p.tables e below (T47.setTop (mkF m 218 #[.val (.int p1), .val (.int p2), .val (.ref b1), .val (.int ii), .val (.int jj), .val (.int (0 : Int32))] [(.ref A)])) _
              refine XS.aloadN X47.here hx rfl (hb hby at_218) rfl rfl ?_
              show Steps p.tables e below (T47.setTop (mkF m 219 #[.val (.int p1), .val (.int p2), .val (.ref b1), .val (.int ii), .val (.int jj), .val (.int (0 : Int32))] [(.ref b1), (.ref A)])) _
              refine XS.iload X47.here hx rfl (hb hby at_219) rfl ?_
              show Steps p.tables e below (T47.setTop (mkF m 221 #[.val (.int p1), .val (.int p2), .val (.ref b1), .val (.int ii), .val (.int jj), .val (.int (0 : Int32))] [(.int jj), (.ref b1), (.ref A)])) _
              refine X47.aaload hx (j := jj) (v := (.ref B)) (by rw [e47]; exact Ar71.1) (State.isArrayOf_alike hZ.alike Ar71.2.1) rfl Ar71.2.2 gt71.1 gt71.2 (g := (mkF m 221 #[.val (.int p1), .val (.int p2), .val (.ref b1), .val (.int ii), .val (.int jj), .val (.int (0 : Int32))] [(.int jj), (.ref b1), (.ref A)])) rfl rfl (hb hby at_221) _ ?_
              show Steps p.tables e below (T47.setTop (mkF m 222 #[.val (.int p1), .val (.int p2), .val (.ref b1), .val (.int ii), .val (.int jj), .val (.int (0 : Int32))] [(.ref B), (.ref A)])) _
              refine st72.trans ?_
              show Steps p.tables e below (T72.setTop (mkF m 225 #[.val (.int p1), .val (.int p2), .val (.ref b1), .val (.int ii), .val (.int jj), .val (.int (0 : Int32))] [(.int (0 : Int32))])) _
              refine XS.iload X72.here hx rfl (hb hby at_225) rfl ?_
              show Steps p.tables e below (T72.setTop (mkF m 227 #[.val (.int p1), .val (.int p2), .val (.ref b1), .val (.int ii), .val (.int jj), .val (.int (0 : Int32))] [(.int (0 : Int32)), (.int (0 : Int32))])) _
              refine XS.icmpNo X72.here hx rfl (hb hby at_227) rfl (teq (by decide)).2 ?_
              show Steps p.tables e below (T72.setTop (mkF m 230 #[.val (.int p1), .val (.int p2), .val (.ref b1), .val (.int ii), .val (.int jj), .val (.int (0 : Int32))] [])) _
              refine XS.iconst X72.here hx rfl (hb hby at_230) ?_
              show Steps p.tables e below (T72.setTop (mkF m 231 #[.val (.int p1), .val (.int p2), .val (.ref b1), .val (.int ii), .val (.int jj), .val (.int (0 : Int32))] [(.int (1 : Int32))])) _
              refine XS.goto X72.here hx rfl (pc0 := 231) (pc' := 235) rfl (hb hby at_231) (by decide) (by decide) ?_
              exact k)
            obtain ⟨fs, hr, hrun, hended, hW, hsame⟩ := X72.leave (v := some (.int (1 : Int32))) (fun h => by rw [Bd.returns] at h; cases h)
            refine ⟨_, _, pre73 _ ?_, hrun, hended, _, _, rfl, ?_, ⟨_, rfl⟩, hW, hsame.mono (by decide) (by decide)⟩
            · show Steps p.tables e below (T72.setTop (mkF m 235 #[.val (.int p1), .val (.int p2), .val (.ref b1), .val (.int ii), .val (.int jj), .val (.int (0 : Int32))] [(.int (1 : Int32))])) _
              exact retN X72 hx (t := .boolean) Bd.returns (by simp) (hb hby at_235) hr
            · exact ⟨rfl, N72, trivial⟩
        · obtain ⟨cl74, Ar74, qk74, hs74⟩ := id B47
          have gt74 := own_get hs74 hi0 hA
          obtain ⟨cl75, Ar75, qk75, hs75⟩ := id B47
          have gt75 := own_get hs75 hj0 hB
          obtain ⟨cq76, kq76, q76a, q76b, q76c⟩ := isOf hZ e47 (E_A.ext EX47)
          obtain ⟨v76, _, ⟨T76, L76, k76, n76⟩, -, X76, ⟨Lc76, hQ76, l76, y76, z76⟩, st76⟩ := X47.virtualBack hx (y := (⟨"com/example/falkirk/falkirk/model/ShapeType", "isA", "(Lcom/example/falkirk/falkirk/model/ShapeType;)Z"⟩ : MethodName)) (z := (⟨"com/example/falkirk/falkirk/model/ShapeType", "isA", "(Lcom/example/falkirk/falkirk/model/ShapeType;)Z"⟩ : MethodName)) hown (mvT hZ (hw _ (ow 51 rfl))) (mvT hZ (hw _ (ow 52 rfl))) (notFace_of_selects (args := #[]) (mvT hZ (hw _ (ow 54 rfl)))) (mvT hZ (hw _ (ow 54 rfl))) (mvT hZ (hw _ (ow 53 rfl))) (by decide) (backOf (W := 0) (rm_isA l Z a0 hw [] A B h47 n0 w_BLOB w_BOOLEAN w_STRING w_ENUM w_BYTE w_SHORT w_INTEGER w_INT_ENUM w_LONG w_FLOAT w_DOUBLE w_BIG_INTEGER w_BIG_DECIMAL w_TIMESTAMP w_DOCUMENT w_LIST w_MAP w_STRUCTURE w_UNION w_SERVICE w_OPERATION w_RESOURCE w_MEMBER (own_K_ext EX47 hK)) hZ (hw _ (ow 55 rfl)) (hw _ (ow 3 rfl)) (by decide) (by decide)) q76a q76c (g := (mkF m 222 #[.val (.int p1), .val (.int p2), .val (.ref b1), .val (.int ii), .val (.int jj), .val (.int (0 : Int32))] [(.ref B), (.ref A)])) rfl (by rw [hml]; rfl) (Steps.refl _) (argsL := [(.ref B)]) (rest := []) (lenOf pd_0 rfl) rfl (Nat.le_of_eq rfl) (hb hby at_222) (fun _ _ => ⟨rfl, e47, (by decide : 1 + 0 ≤ _), (by decide : 23 + 0 ≤ _)⟩)
          dsimp only [Pt.U, Pt.locs, Pt.cells, Pt.slots] at X76 l76 y76 z76 st76 hQ76
          subst y76 z76
          obtain ⟨hv76, Nq76, e76⟩ := hQ76
          obtain rfl : v76 = some (.int (0 : Int32)) := hv76.trans (congrArg some (congrArg Value.int ((if_neg (mt hAB.mp hc181_48)).trans ((if_pos (hA3.mpr hc186_54)).trans ((if_neg (mt hB2.mp hc192_56)).trans (if_neg (mt hA7.mp hc198_62)))))))
          have N76 : Fr n0 L76 := by rw [l76]; exact Fr.app N47 Nq76
          have pre77 : ∀ t, Steps p.tables e below (T76.setTop (mkF m 235 #[.val (.int p1), .val (.int p2), .val (.ref b1), .val (.int ii), .val (.int jj), .val (.int (0 : Int32))] [(.int (1 : Int32))])) t → Steps p.tables e below (s₁.setTop (entryFrame m #[(.int p1), (.int p2)] maxLocals)) t := fun t k => pre63 t (by
            show Steps p.tables e below (T47.setTop (mkF m 198 #[.val (.int p1), .val (.int p2), .val (.ref b1), .val (.int ii), .val (.int jj), .unset] [(.int (7 : Int32)), (.int ii)])) _
            refine XS.icmpYes X47.here hx rfl (pc0 := 198) (pc' := 212) rfl (hb hby at_198) rfl (feq hc198_62).2 (by decide) (by decide) ?_
            show Steps p.tables e below (T47.setTop (mkF m 212 #[.val (.int p1), .val (.int p2), .val (.ref b1), .val (.int ii), .val (.int jj), .unset] [])) _
            refine XS.iconst X47.here hx rfl (hb hby at_212) ?_
            show Steps p.tables e below (T47.setTop (mkF m 213 #[.val (.int p1), .val (.int p2), .val (.ref b1), .val (.int ii), .val (.int jj), .unset] [(.int (0 : Int32))])) _
            refine XS.istore X47.here hx rfl (hb hby at_213) rfl (l' := #[.val (.int p1), .val (.int p2), .val (.ref b1), .val (.int ii), .val (.int jj), .val (.int (0 : Int32))]) rfl ?_
            show Steps p.tables e below (T47.setTop (mkF m 215 #[.val (.int p1), .val (.int p2), .val (.ref b1), .val (.int ii), .val (.int jj), .val (.int (0 : Int32))] [])) _
            refine XS.aloadN X47.here hx rfl (hb hby at_215) rfl rfl ?_
            show Steps p.tables e below (T47.setTop (mkF m 216 #[.val (.int p1), .val (.int p2), .val (.ref b1), .val (.int ii), .val (.int jj), .val (.int (0 : Int32))] [(.ref b1)])) _
            refine XS.iloadN X47.here hx rfl (hb hby at_216) rfl ?_
            show Steps p.tables e below (T47.setTop (mkF m 217 #[.val (.int p1), .val (.int p2), .val (.ref b1), .val (.int ii), .val (.int jj), .val (.int (0 : Int32))] [(.int ii), (.ref b1)])) _
            refine X47.aaload hx (j := ii) (v := (.ref A)) (by rw [e47]; exact Ar74.1) (State.isArrayOf_alike hZ.alike Ar74.2.1) rfl Ar74.2.2 gt74.1 gt74.2 (g := (mkF m 217 #[.val (.int p1), .val (.int p2), .val (.ref b1), .val (.int ii), .val (.int jj), .val (.int (0 : Int32))] [(.int ii), (.ref b1)])) rfl rfl (hb hby at_217) _ ?_
            show Steps p.tables e below (T47.setTop (mkF m 218 #[.val (.int p1), .val (.int p2), .val (.ref b1), .val (.int ii), .val (.int jj), .val (.int (0 : Int32))] [(.ref A)])) _
            refine XS.aloadN X47.here hx rfl (hb hby at_218) rfl rfl ?_
            show Steps p.tables e below (T47.setTop (mkF m 219 #[.val (.int p1), .val (.int p2), .val (.ref b1), .val (.int ii), .val (.int jj), .val (.int (0 : Int32))] [(.ref b1), (.ref A)])) _
            refine XS.iload X47.here hx rfl (hb hby at_219) rfl ?_
            show Steps p.tables e below (T47.setTop (mkF m 221 #[.val (.int p1), .val (.int p2), .val (.ref b1), .val (.int ii), .val (.int jj), .val (.int (0 : Int32))] [(.int jj), (.ref b1), (.ref A)])) _
            refine X47.aaload hx (j := jj) (v := (.ref B)) (by rw [e47]; exact Ar75.1) (State.isArrayOf_alike hZ.alike Ar75.2.1) rfl Ar75.2.2 gt75.1 gt75.2 (g := (mkF m 221 #[.val (.int p1), .val (.int p2), .val (.ref b1), .val (.int ii), .val (.int jj), .val (.int (0 : Int32))] [(.int jj), (.ref b1), (.ref A)])) rfl rfl (hb hby at_221) _ ?_
            show Steps p.tables e below (T47.setTop (mkF m 222 #[.val (.int p1), .val (.int p2), .val (.ref b1), .val (.int ii), .val (.int jj), .val (.int (0 : Int32))] [(.ref B), (.ref A)])) _
            refine st76.trans ?_
            show Steps p.tables e below (T76.setTop (mkF m 225 #[.val (.int p1), .val (.int p2), .val (.ref b1), .val (.int ii), .val (.int jj), .val (.int (0 : Int32))] [(.int (0 : Int32))])) _
            refine XS.iload X76.here hx rfl (hb hby at_225) rfl ?_
            show Steps p.tables e below (T76.setTop (mkF m 227 #[.val (.int p1), .val (.int p2), .val (.ref b1), .val (.int ii), .val (.int jj), .val (.int (0 : Int32))] [(.int (0 : Int32)), (.int (0 : Int32))])) _
            refine XS.icmpNo X76.here hx rfl (hb hby at_227) rfl (teq (by decide)).2 ?_
            show Steps p.tables e below (T76.setTop (mkF m 230 #[.val (.int p1), .val (.int p2), .val (.ref b1), .val (.int ii), .val (.int jj), .val (.int (0 : Int32))] [])) _
            refine XS.iconst X76.here hx rfl (hb hby at_230) ?_
            show Steps p.tables e below (T76.setTop (mkF m 231 #[.val (.int p1), .val (.int p2), .val (.ref b1), .val (.int ii), .val (.int jj), .val (.int (0 : Int32))] [(.int (1 : Int32))])) _
            refine XS.goto X76.here hx rfl (pc0 := 231) (pc' := 235) rfl (hb hby at_231) (by decide) (by decide) ?_
            exact k)
          obtain ⟨fs, hr, hrun, hended, hW, hsame⟩ := X76.leave (v := some (.int (1 : Int32))) (fun h => by rw [Bd.returns] at h; cases h)
          refine ⟨_, _, pre77 _ ?_, hrun, hended, _, _, rfl, ?_, ⟨_, rfl⟩, hW, hsame.mono (by decide) (by decide)⟩
          · show Steps p.tables e below (T76.setTop (mkF m 235 #[.val (.int p1), .val (.int p2), .val (.ref b1), .val (.int ii), .val (.int jj), .val (.int (0 : Int32))] [(.int (1 : Int32))])) _
            exact retN X76 hx (t := .boolean) Bd.returns (by simp) (hb hby at_235) hr
          · exact ⟨rfl, N76, trivial⟩
    · have pre79 : ∀ t, Steps p.tables e below (T47.setTop (mkF m 198 #[.val (.int p1), .val (.int p2), .val (.ref b1), .val (.int ii), .val (.int jj), .unset] [(.int (7 : Int32)), (.int ii)])) t → Steps p.tables e below (s₁.setTop (entryFrame m #[(.int p1), (.int p2)] maxLocals)) t := fun t k => pre55 t (by
        show Steps p.tables e below (T47.setTop (mkF m 186 #[.val (.int p1), .val (.int p2), .val (.ref b1), .val (.int ii), .val (.int jj), .unset] [(.int (3 : Int32)), (.int ii)])) _
        refine XS.icmpYes X47.here hx rfl (pc0 := 186) (pc' := 195) rfl (hb hby at_186) rfl (feq hc186_54).2 (by decide) (by decide) ?_
        show Steps p.tables e below (T47.setTop (mkF m 195 #[.val (.int p1), .val (.int p2), .val (.ref b1), .val (.int ii), .val (.int jj), .unset] [])) _
        refine XS.iloadN X47.here hx rfl (hb hby at_195) rfl ?_
        show Steps p.tables e below (T47.setTop (mkF m 196 #[.val (.int p1), .val (.int p2), .val (.ref b1), .val (.int ii), .val (.int jj), .unset] [(.int ii)])) _
        refine XS.bipush X47.here hx rfl (hb hby at_196) ?_
        exact k)
      by_cases hc198_78 : ii = (7 : Int32)
      · have pre81 : ∀ t, Steps p.tables e below (T47.setTop (mkF m 205 #[.val (.int p1), .val (.int p2), .val (.ref b1), .val (.int ii), .val (.int jj), .unset] [(.int (6 : Int32)), (.int jj)])) t → Steps p.tables e below (s₁.setTop (entryFrame m #[(.int p1), (.int p2)] maxLocals)) t := fun t k => pre79 t (by
          show Steps p.tables e below (T47.setTop (mkF m 198 #[.val (.int p1), .val (.int p2), .val (.ref b1), .val (.int ii), .val (.int jj), .unset] [(.int (7 : Int32)), (.int ii)])) _
          refine XS.icmpNo X47.here hx rfl (hb hby at_198) rfl (teq hc198_78).2 ?_
          show Steps p.tables e below (T47.setTop (mkF m 201 #[.val (.int p1), .val (.int p2), .val (.ref b1), .val (.int ii), .val (.int jj), .unset] [])) _
          refine XS.iload X47.here hx rfl (hb hby at_201) rfl ?_
          show Steps p.tables e below (T47.setTop (mkF m 203 #[.val (.int p1), .val (.int p2), .val (.ref b1), .val (.int ii), .val (.int jj), .unset] [(.int jj)])) _
          refine XS.bipush X47.here hx rfl (hb hby at_203) ?_
          exact k)
        by_cases hc205_80 : jj = (6 : Int32)
        · obtain ⟨cl82, Ar82, qk82, hs82⟩ := id B47
          have gt82 := own_get hs82 hi0 hA
          obtain ⟨cl83, Ar83, qk83, hs83⟩ := id B47
          have gt83 := own_get hs83 hj0 hB
          obtain ⟨cq84, kq84, q84a, q84b, q84c⟩ := isOf hZ e47 (E_A.ext EX47)
          obtain ⟨v84, _, ⟨T84, L84, k84, n84⟩, -, X84, ⟨Lc84, hQ84, l84, y84, z84⟩, st84⟩ := X47.virtualBack hx (y := (⟨"com/example/falkirk/falkirk/model/ShapeType", "isA", "(Lcom/example/falkirk/falkirk/model/ShapeType;)Z"⟩ : MethodName)) (z := (⟨"com/example/falkirk/falkirk/model/ShapeType", "isA", "(Lcom/example/falkirk/falkirk/model/ShapeType;)Z"⟩ : MethodName)) hown (mvT hZ (hw _ (ow 51 rfl))) (mvT hZ (hw _ (ow 52 rfl))) (notFace_of_selects (args := #[]) (mvT hZ (hw _ (ow 54 rfl)))) (mvT hZ (hw _ (ow 54 rfl))) (mvT hZ (hw _ (ow 53 rfl))) (by decide) (backOf (W := 0) (rm_isA l Z a0 hw [] A B h47 n0 w_BLOB w_BOOLEAN w_STRING w_ENUM w_BYTE w_SHORT w_INTEGER w_INT_ENUM w_LONG w_FLOAT w_DOUBLE w_BIG_INTEGER w_BIG_DECIMAL w_TIMESTAMP w_DOCUMENT w_LIST w_MAP w_STRUCTURE w_UNION w_SERVICE w_OPERATION w_RESOURCE w_MEMBER (own_K_ext EX47 hK)) hZ (hw _ (ow 55 rfl)) (hw _ (ow 3 rfl)) (by decide) (by decide)) q84a q84c (g := (mkF m 222 #[.val (.int p1), .val (.int p2), .val (.ref b1), .val (.int ii), .val (.int jj), .val (.int (1 : Int32))] [(.ref B), (.ref A)])) rfl (by rw [hml]; rfl) (Steps.refl _) (argsL := [(.ref B)]) (rest := []) (lenOf pd_0 rfl) rfl (Nat.le_of_eq rfl) (hb hby at_222) (fun _ _ => ⟨rfl, e47, (by decide : 1 + 0 ≤ _), (by decide : 23 + 0 ≤ _)⟩)
          dsimp only [Pt.U, Pt.locs, Pt.cells, Pt.slots] at X84 l84 y84 z84 st84 hQ84
          subst y84 z84
          obtain ⟨hv84, Nq84, e84⟩ := hQ84
          obtain rfl : v84 = some (.int (1 : Int32)) := hv84.trans (congrArg some (congrArg Value.int ((if_neg (mt hAB.mp hc181_48)).trans ((if_neg (mt hA3.mp hc186_54)).trans ((if_pos (hA7.mpr hc198_78)).trans (if_pos (hB6.mpr hc205_80)))))))
          have N84 : Fr n0 L84 := by rw [l84]; exact Fr.app N47 Nq84
          have pre85 : ∀ t, Steps p.tables e below (T84.setTop (mkF m 235 #[.val (.int p1), .val (.int p2), .val (.ref b1), .val (.int ii), .val (.int jj), .val (.int (1 : Int32))] [(.int (1 : Int32))])) t → Steps p.tables e below (s₁.setTop (entryFrame m #[(.int p1), (.int p2)] maxLocals)) t := fun t k => pre81 t (by
            show Steps p.tables e below (T47.setTop (mkF m 205 #[.val (.int p1), .val (.int p2), .val (.ref b1), .val (.int ii), .val (.int jj), .unset] [(.int (6 : Int32)), (.int jj)])) _
            refine XS.icmpNo X47.here hx rfl (hb hby at_205) rfl (teq hc205_80).2 ?_
            show Steps p.tables e below (T47.setTop (mkF m 208 #[.val (.int p1), .val (.int p2), .val (.ref b1), .val (.int ii), .val (.int jj), .unset] [])) _
            refine XS.iconst X47.here hx rfl (hb hby at_208) ?_
            show Steps p.tables e below (T47.setTop (mkF m 209 #[.val (.int p1), .val (.int p2), .val (.ref b1), .val (.int ii), .val (.int jj), .unset] [(.int (1 : Int32))])) _
            refine XS.goto X47.here hx rfl (pc0 := 209) (pc' := 213) rfl (hb hby at_209) (by decide) (by decide) ?_
            show Steps p.tables e below (T47.setTop (mkF m 213 #[.val (.int p1), .val (.int p2), .val (.ref b1), .val (.int ii), .val (.int jj), .unset] [(.int (1 : Int32))])) _
            refine XS.istore X47.here hx rfl (hb hby at_213) rfl (l' := #[.val (.int p1), .val (.int p2), .val (.ref b1), .val (.int ii), .val (.int jj), .val (.int (1 : Int32))]) rfl ?_
            show Steps p.tables e below (T47.setTop (mkF m 215 #[.val (.int p1), .val (.int p2), .val (.ref b1), .val (.int ii), .val (.int jj), .val (.int (1 : Int32))] [])) _
            refine XS.aloadN X47.here hx rfl (hb hby at_215) rfl rfl ?_
            show Steps p.tables e below (T47.setTop (mkF m 216 #[.val (.int p1), .val (.int p2), .val (.ref b1), .val (.int ii), .val (.int jj), .val (.int (1 : Int32))] [(.ref b1)])) _
            refine XS.iloadN X47.here hx rfl (hb hby at_216) rfl ?_
            show Steps p.tables e below (T47.setTop (mkF m 217 #[.val (.int p1), .val (.int p2), .val (.ref b1), .val (.int ii), .val (.int jj), .val (.int (1 : Int32))] [(.int ii), (.ref b1)])) _
            refine X47.aaload hx (j := ii) (v := (.ref A)) (by rw [e47]; exact Ar82.1) (State.isArrayOf_alike hZ.alike Ar82.2.1) rfl Ar82.2.2 gt82.1 gt82.2 (g := (mkF m 217 #[.val (.int p1), .val (.int p2), .val (.ref b1), .val (.int ii), .val (.int jj), .val (.int (1 : Int32))] [(.int ii), (.ref b1)])) rfl rfl (hb hby at_217) _ ?_
            show Steps p.tables e below (T47.setTop (mkF m 218 #[.val (.int p1), .val (.int p2), .val (.ref b1), .val (.int ii), .val (.int jj), .val (.int (1 : Int32))] [(.ref A)])) _
            refine XS.aloadN X47.here hx rfl (hb hby at_218) rfl rfl ?_
            show Steps p.tables e below (T47.setTop (mkF m 219 #[.val (.int p1), .val (.int p2), .val (.ref b1), .val (.int ii), .val (.int jj), .val (.int (1 : Int32))] [(.ref b1), (.ref A)])) _
            refine XS.iload X47.here hx rfl (hb hby at_219) rfl ?_
            show Steps p.tables e below (T47.setTop (mkF m 221 #[.val (.int p1), .val (.int p2), .val (.ref b1), .val (.int ii), .val (.int jj), .val (.int (1 : Int32))] [(.int jj), (.ref b1), (.ref A)])) _
            refine X47.aaload hx (j := jj) (v := (.ref B)) (by rw [e47]; exact Ar83.1) (State.isArrayOf_alike hZ.alike Ar83.2.1) rfl Ar83.2.2 gt83.1 gt83.2 (g := (mkF m 221 #[.val (.int p1), .val (.int p2), .val (.ref b1), .val (.int ii), .val (.int jj), .val (.int (1 : Int32))] [(.int jj), (.ref b1), (.ref A)])) rfl rfl (hb hby at_221) _ ?_
            show Steps p.tables e below (T47.setTop (mkF m 222 #[.val (.int p1), .val (.int p2), .val (.ref b1), .val (.int ii), .val (.int jj), .val (.int (1 : Int32))] [(.ref B), (.ref A)])) _
            refine st84.trans ?_
            show Steps p.tables e below (T84.setTop (mkF m 225 #[.val (.int p1), .val (.int p2), .val (.ref b1), .val (.int ii), .val (.int jj), .val (.int (1 : Int32))] [(.int (1 : Int32))])) _
            refine XS.iload X84.here hx rfl (hb hby at_225) rfl ?_
            show Steps p.tables e below (T84.setTop (mkF m 227 #[.val (.int p1), .val (.int p2), .val (.ref b1), .val (.int ii), .val (.int jj), .val (.int (1 : Int32))] [(.int (1 : Int32)), (.int (1 : Int32))])) _
            refine XS.icmpNo X84.here hx rfl (hb hby at_227) rfl (teq (by decide)).2 ?_
            show Steps p.tables e below (T84.setTop (mkF m 230 #[.val (.int p1), .val (.int p2), .val (.ref b1), .val (.int ii), .val (.int jj), .val (.int (1 : Int32))] [])) _
            refine XS.iconst X84.here hx rfl (hb hby at_230) ?_
            show Steps p.tables e below (T84.setTop (mkF m 231 #[.val (.int p1), .val (.int p2), .val (.ref b1), .val (.int ii), .val (.int jj), .val (.int (1 : Int32))] [(.int (1 : Int32))])) _
            refine XS.goto X84.here hx rfl (pc0 := 231) (pc' := 235) rfl (hb hby at_231) (by decide) (by decide) ?_
            exact k)
          obtain ⟨fs, hr, hrun, hended, hW, hsame⟩ := X84.leave (v := some (.int (1 : Int32))) (fun h => by rw [Bd.returns] at h; cases h)
          refine ⟨_, _, pre85 _ ?_, hrun, hended, _, _, rfl, ?_, ⟨_, rfl⟩, hW, hsame.mono (by decide) (by decide)⟩
          · show Steps p.tables e below (T84.setTop (mkF m 235 #[.val (.int p1), .val (.int p2), .val (.ref b1), .val (.int ii), .val (.int jj), .val (.int (1 : Int32))] [(.int (1 : Int32))])) _
            exact retN X84 hx (t := .boolean) Bd.returns (by simp) (hb hby at_235) hr
          · exact ⟨rfl, N84, trivial⟩
        · obtain ⟨cl86, Ar86, qk86, hs86⟩ := id B47
          have gt86 := own_get hs86 hi0 hA
          obtain ⟨cl87, Ar87, qk87, hs87⟩ := id B47
          have gt87 := own_get hs87 hj0 hB
          obtain ⟨cq88, kq88, q88a, q88b, q88c⟩ := isOf hZ e47 (E_A.ext EX47)
          obtain ⟨v88, _, ⟨T88, L88, k88, n88⟩, -, X88, ⟨Lc88, hQ88, l88, y88, z88⟩, st88⟩ := X47.virtualBack hx (y := (⟨"com/example/falkirk/falkirk/model/ShapeType", "isA", "(Lcom/example/falkirk/falkirk/model/ShapeType;)Z"⟩ : MethodName)) (z := (⟨"com/example/falkirk/falkirk/model/ShapeType", "isA", "(Lcom/example/falkirk/falkirk/model/ShapeType;)Z"⟩ : MethodName)) hown (mvT hZ (hw _ (ow 51 rfl))) (mvT hZ (hw _ (ow 52 rfl))) (notFace_of_selects (args := #[]) (mvT hZ (hw _ (ow 54 rfl)))) (mvT hZ (hw _ (ow 54 rfl))) (mvT hZ (hw _ (ow 53 rfl))) (by decide) (backOf (W := 0) (rm_isA l Z a0 hw [] A B h47 n0 w_BLOB w_BOOLEAN w_STRING w_ENUM w_BYTE w_SHORT w_INTEGER w_INT_ENUM w_LONG w_FLOAT w_DOUBLE w_BIG_INTEGER w_BIG_DECIMAL w_TIMESTAMP w_DOCUMENT w_LIST w_MAP w_STRUCTURE w_UNION w_SERVICE w_OPERATION w_RESOURCE w_MEMBER (own_K_ext EX47 hK)) hZ (hw _ (ow 55 rfl)) (hw _ (ow 3 rfl)) (by decide) (by decide)) q88a q88c (g := (mkF m 222 #[.val (.int p1), .val (.int p2), .val (.ref b1), .val (.int ii), .val (.int jj), .val (.int (0 : Int32))] [(.ref B), (.ref A)])) rfl (by rw [hml]; rfl) (Steps.refl _) (argsL := [(.ref B)]) (rest := []) (lenOf pd_0 rfl) rfl (Nat.le_of_eq rfl) (hb hby at_222) (fun _ _ => ⟨rfl, e47, (by decide : 1 + 0 ≤ _), (by decide : 23 + 0 ≤ _)⟩)
          dsimp only [Pt.U, Pt.locs, Pt.cells, Pt.slots] at X88 l88 y88 z88 st88 hQ88
          subst y88 z88
          obtain ⟨hv88, Nq88, e88⟩ := hQ88
          obtain rfl : v88 = some (.int (0 : Int32)) := hv88.trans (congrArg some (congrArg Value.int ((if_neg (mt hAB.mp hc181_48)).trans ((if_neg (mt hA3.mp hc186_54)).trans ((if_pos (hA7.mpr hc198_78)).trans (if_neg (mt hB6.mp hc205_80)))))))
          have N88 : Fr n0 L88 := by rw [l88]; exact Fr.app N47 Nq88
          have pre89 : ∀ t, Steps p.tables e below (T88.setTop (mkF m 235 #[.val (.int p1), .val (.int p2), .val (.ref b1), .val (.int ii), .val (.int jj), .val (.int (0 : Int32))] [(.int (1 : Int32))])) t → Steps p.tables e below (s₁.setTop (entryFrame m #[(.int p1), (.int p2)] maxLocals)) t := fun t k => pre81 t (by
            show Steps p.tables e below (T47.setTop (mkF m 205 #[.val (.int p1), .val (.int p2), .val (.ref b1), .val (.int ii), .val (.int jj), .unset] [(.int (6 : Int32)), (.int jj)])) _
            refine XS.icmpYes X47.here hx rfl (pc0 := 205) (pc' := 212) rfl (hb hby at_205) rfl (feq hc205_80).2 (by decide) (by decide) ?_
            show Steps p.tables e below (T47.setTop (mkF m 212 #[.val (.int p1), .val (.int p2), .val (.ref b1), .val (.int ii), .val (.int jj), .unset] [])) _
            refine XS.iconst X47.here hx rfl (hb hby at_212) ?_
            show Steps p.tables e below (T47.setTop (mkF m 213 #[.val (.int p1), .val (.int p2), .val (.ref b1), .val (.int ii), .val (.int jj), .unset] [(.int (0 : Int32))])) _
            refine XS.istore X47.here hx rfl (hb hby at_213) rfl (l' := #[.val (.int p1), .val (.int p2), .val (.ref b1), .val (.int ii), .val (.int jj), .val (.int (0 : Int32))]) rfl ?_
            show Steps p.tables e below (T47.setTop (mkF m 215 #[.val (.int p1), .val (.int p2), .val (.ref b1), .val (.int ii), .val (.int jj), .val (.int (0 : Int32))] [])) _
            refine XS.aloadN X47.here hx rfl (hb hby at_215) rfl rfl ?_
            show Steps p.tables e below (T47.setTop (mkF m 216 #[.val (.int p1), .val (.int p2), .val (.ref b1), .val (.int ii), .val (.int jj), .val (.int (0 : Int32))] [(.ref b1)])) _
            refine XS.iloadN X47.here hx rfl (hb hby at_216) rfl ?_
            show Steps p.tables e below (T47.setTop (mkF m 217 #[.val (.int p1), .val (.int p2), .val (.ref b1), .val (.int ii), .val (.int jj), .val (.int (0 : Int32))] [(.int ii), (.ref b1)])) _
            refine X47.aaload hx (j := ii) (v := (.ref A)) (by rw [e47]; exact Ar86.1) (State.isArrayOf_alike hZ.alike Ar86.2.1) rfl Ar86.2.2 gt86.1 gt86.2 (g := (mkF m 217 #[.val (.int p1), .val (.int p2), .val (.ref b1), .val (.int ii), .val (.int jj), .val (.int (0 : Int32))] [(.int ii), (.ref b1)])) rfl rfl (hb hby at_217) _ ?_
            show Steps p.tables e below (T47.setTop (mkF m 218 #[.val (.int p1), .val (.int p2), .val (.ref b1), .val (.int ii), .val (.int jj), .val (.int (0 : Int32))] [(.ref A)])) _
            refine XS.aloadN X47.here hx rfl (hb hby at_218) rfl rfl ?_
            show Steps p.tables e below (T47.setTop (mkF m 219 #[.val (.int p1), .val (.int p2), .val (.ref b1), .val (.int ii), .val (.int jj), .val (.int (0 : Int32))] [(.ref b1), (.ref A)])) _
            refine XS.iload X47.here hx rfl (hb hby at_219) rfl ?_
            show Steps p.tables e below (T47.setTop (mkF m 221 #[.val (.int p1), .val (.int p2), .val (.ref b1), .val (.int ii), .val (.int jj), .val (.int (0 : Int32))] [(.int jj), (.ref b1), (.ref A)])) _
            refine X47.aaload hx (j := jj) (v := (.ref B)) (by rw [e47]; exact Ar87.1) (State.isArrayOf_alike hZ.alike Ar87.2.1) rfl Ar87.2.2 gt87.1 gt87.2 (g := (mkF m 221 #[.val (.int p1), .val (.int p2), .val (.ref b1), .val (.int ii), .val (.int jj), .val (.int (0 : Int32))] [(.int jj), (.ref b1), (.ref A)])) rfl rfl (hb hby at_221) _ ?_
            show Steps p.tables e below (T47.setTop (mkF m 222 #[.val (.int p1), .val (.int p2), .val (.ref b1), .val (.int ii), .val (.int jj), .val (.int (0 : Int32))] [(.ref B), (.ref A)])) _
            refine st88.trans ?_
            show Steps p.tables e below (T88.setTop (mkF m 225 #[.val (.int p1), .val (.int p2), .val (.ref b1), .val (.int ii), .val (.int jj), .val (.int (0 : Int32))] [(.int (0 : Int32))])) _
            refine XS.iload X88.here hx rfl (hb hby at_225) rfl ?_
            show Steps p.tables e below (T88.setTop (mkF m 227 #[.val (.int p1), .val (.int p2), .val (.ref b1), .val (.int ii), .val (.int jj), .val (.int (0 : Int32))] [(.int (0 : Int32)), (.int (0 : Int32))])) _
            refine XS.icmpNo X88.here hx rfl (hb hby at_227) rfl (teq (by decide)).2 ?_
            show Steps p.tables e below (T88.setTop (mkF m 230 #[.val (.int p1), .val (.int p2), .val (.ref b1), .val (.int ii), .val (.int jj), .val (.int (0 : Int32))] [])) _
            refine XS.iconst X88.here hx rfl (hb hby at_230) ?_
            show Steps p.tables e below (T88.setTop (mkF m 231 #[.val (.int p1), .val (.int p2), .val (.ref b1), .val (.int ii), .val (.int jj), .val (.int (0 : Int32))] [(.int (1 : Int32))])) _
            refine XS.goto X88.here hx rfl (pc0 := 231) (pc' := 235) rfl (hb hby at_231) (by decide) (by decide) ?_
            exact k)
          obtain ⟨fs, hr, hrun, hended, hW, hsame⟩ := X88.leave (v := some (.int (1 : Int32))) (fun h => by rw [Bd.returns] at h; cases h)
          refine ⟨_, _, pre89 _ ?_, hrun, hended, _, _, rfl, ?_, ⟨_, rfl⟩, hW, hsame.mono (by decide) (by decide)⟩
          · show Steps p.tables e below (T88.setTop (mkF m 235 #[.val (.int p1), .val (.int p2), .val (.ref b1), .val (.int ii), .val (.int jj), .val (.int (0 : Int32))] [(.int (1 : Int32))])) _
            exact retN X88 hx (t := .boolean) Bd.returns (by simp) (hb hby at_235) hr
          · exact ⟨rfl, N88, trivial⟩
      · obtain ⟨cl90, Ar90, qk90, hs90⟩ := id B47
        have gt90 := own_get hs90 hi0 hA
        obtain ⟨cl91, Ar91, qk91, hs91⟩ := id B47
        have gt91 := own_get hs91 hj0 hB
        obtain ⟨cq92, kq92, q92a, q92b, q92c⟩ := isOf hZ e47 (E_A.ext EX47)
        obtain ⟨v92, _, ⟨T92, L92, k92, n92⟩, -, X92, ⟨Lc92, hQ92, l92, y92, z92⟩, st92⟩ := X47.virtualBack hx (y := (⟨"com/example/falkirk/falkirk/model/ShapeType", "isA", "(Lcom/example/falkirk/falkirk/model/ShapeType;)Z"⟩ : MethodName)) (z := (⟨"com/example/falkirk/falkirk/model/ShapeType", "isA", "(Lcom/example/falkirk/falkirk/model/ShapeType;)Z"⟩ : MethodName)) hown (mvT hZ (hw _ (ow 51 rfl))) (mvT hZ (hw _ (ow 52 rfl))) (notFace_of_selects (args := #[]) (mvT hZ (hw _ (ow 54 rfl)))) (mvT hZ (hw _ (ow 54 rfl))) (mvT hZ (hw _ (ow 53 rfl))) (by decide) (backOf (W := 0) (rm_isA l Z a0 hw [] A B h47 n0 w_BLOB w_BOOLEAN w_STRING w_ENUM w_BYTE w_SHORT w_INTEGER w_INT_ENUM w_LONG w_FLOAT w_DOUBLE w_BIG_INTEGER w_BIG_DECIMAL w_TIMESTAMP w_DOCUMENT w_LIST w_MAP w_STRUCTURE w_UNION w_SERVICE w_OPERATION w_RESOURCE w_MEMBER (own_K_ext EX47 hK)) hZ (hw _ (ow 55 rfl)) (hw _ (ow 3 rfl)) (by decide) (by decide)) q92a q92c (g := (mkF m 222 #[.val (.int p1), .val (.int p2), .val (.ref b1), .val (.int ii), .val (.int jj), .val (.int (0 : Int32))] [(.ref B), (.ref A)])) rfl (by rw [hml]; rfl) (Steps.refl _) (argsL := [(.ref B)]) (rest := []) (lenOf pd_0 rfl) rfl (Nat.le_of_eq rfl) (hb hby at_222) (fun _ _ => ⟨rfl, e47, (by decide : 1 + 0 ≤ _), (by decide : 23 + 0 ≤ _)⟩)
        dsimp only [Pt.U, Pt.locs, Pt.cells, Pt.slots] at X92 l92 y92 z92 st92 hQ92
        subst y92 z92
        obtain ⟨hv92, Nq92, e92⟩ := hQ92
        obtain rfl : v92 = some (.int (0 : Int32)) := hv92.trans (congrArg some (congrArg Value.int ((if_neg (mt hAB.mp hc181_48)).trans ((if_neg (mt hA3.mp hc186_54)).trans (if_neg (mt hA7.mp hc198_78))))))
        have N92 : Fr n0 L92 := by rw [l92]; exact Fr.app N47 Nq92
        have pre93 : ∀ t, Steps p.tables e below (T92.setTop (mkF m 235 #[.val (.int p1), .val (.int p2), .val (.ref b1), .val (.int ii), .val (.int jj), .val (.int (0 : Int32))] [(.int (1 : Int32))])) t → Steps p.tables e below (s₁.setTop (entryFrame m #[(.int p1), (.int p2)] maxLocals)) t := fun t k => pre79 t (by
          show Steps p.tables e below (T47.setTop (mkF m 198 #[.val (.int p1), .val (.int p2), .val (.ref b1), .val (.int ii), .val (.int jj), .unset] [(.int (7 : Int32)), (.int ii)])) _
          refine XS.icmpYes X47.here hx rfl (pc0 := 198) (pc' := 212) rfl (hb hby at_198) rfl (feq hc198_78).2 (by decide) (by decide) ?_
          show Steps p.tables e below (T47.setTop (mkF m 212 #[.val (.int p1), .val (.int p2), .val (.ref b1), .val (.int ii), .val (.int jj), .unset] [])) _
          refine XS.iconst X47.here hx rfl (hb hby at_212) ?_
          show Steps p.tables e below (T47.setTop (mkF m 213 #[.val (.int p1), .val (.int p2), .val (.ref b1), .val (.int ii), .val (.int jj), .unset] [(.int (0 : Int32))])) _
          refine XS.istore X47.here hx rfl (hb hby at_213) rfl (l' := #[.val (.int p1), .val (.int p2), .val (.ref b1), .val (.int ii), .val (.int jj), .val (.int (0 : Int32))]) rfl ?_
          show Steps p.tables e below (T47.setTop (mkF m 215 #[.val (.int p1), .val (.int p2), .val (.ref b1), .val (.int ii), .val (.int jj), .val (.int (0 : Int32))] [])) _
          refine XS.aloadN X47.here hx rfl (hb hby at_215) rfl rfl ?_
          show Steps p.tables e below (T47.setTop (mkF m 216 #[.val (.int p1), .val (.int p2), .val (.ref b1), .val (.int ii), .val (.int jj), .val (.int (0 : Int32))] [(.ref b1)])) _
          refine XS.iloadN X47.here hx rfl (hb hby at_216) rfl ?_
          show Steps p.tables e below (T47.setTop (mkF m 217 #[.val (.int p1), .val (.int p2), .val (.ref b1), .val (.int ii), .val (.int jj), .val (.int (0 : Int32))] [(.int ii), (.ref b1)])) _
          refine X47.aaload hx (j := ii) (v := (.ref A)) (by rw [e47]; exact Ar90.1) (State.isArrayOf_alike hZ.alike Ar90.2.1) rfl Ar90.2.2 gt90.1 gt90.2 (g := (mkF m 217 #[.val (.int p1), .val (.int p2), .val (.ref b1), .val (.int ii), .val (.int jj), .val (.int (0 : Int32))] [(.int ii), (.ref b1)])) rfl rfl (hb hby at_217) _ ?_
          show Steps p.tables e below (T47.setTop (mkF m 218 #[.val (.int p1), .val (.int p2), .val (.ref b1), .val (.int ii), .val (.int jj), .val (.int (0 : Int32))] [(.ref A)])) _
          refine XS.aloadN X47.here hx rfl (hb hby at_218) rfl rfl ?_
          show Steps p.tables e below (T47.setTop (mkF m 219 #[.val (.int p1), .val (.int p2), .val (.ref b1), .val (.int ii), .val (.int jj), .val (.int (0 : Int32))] [(.ref b1), (.ref A)])) _
          refine XS.iload X47.here hx rfl (hb hby at_219) rfl ?_
          show Steps p.tables e below (T47.setTop (mkF m 221 #[.val (.int p1), .val (.int p2), .val (.ref b1), .val (.int ii), .val (.int jj), .val (.int (0 : Int32))] [(.int jj), (.ref b1), (.ref A)])) _
          refine X47.aaload hx (j := jj) (v := (.ref B)) (by rw [e47]; exact Ar91.1) (State.isArrayOf_alike hZ.alike Ar91.2.1) rfl Ar91.2.2 gt91.1 gt91.2 (g := (mkF m 221 #[.val (.int p1), .val (.int p2), .val (.ref b1), .val (.int ii), .val (.int jj), .val (.int (0 : Int32))] [(.int jj), (.ref b1), (.ref A)])) rfl rfl (hb hby at_221) _ ?_
          show Steps p.tables e below (T47.setTop (mkF m 222 #[.val (.int p1), .val (.int p2), .val (.ref b1), .val (.int ii), .val (.int jj), .val (.int (0 : Int32))] [(.ref B), (.ref A)])) _
          refine st92.trans ?_
          show Steps p.tables e below (T92.setTop (mkF m 225 #[.val (.int p1), .val (.int p2), .val (.ref b1), .val (.int ii), .val (.int jj), .val (.int (0 : Int32))] [(.int (0 : Int32))])) _
          refine XS.iload X92.here hx rfl (hb hby at_225) rfl ?_
          show Steps p.tables e below (T92.setTop (mkF m 227 #[.val (.int p1), .val (.int p2), .val (.ref b1), .val (.int ii), .val (.int jj), .val (.int (0 : Int32))] [(.int (0 : Int32)), (.int (0 : Int32))])) _
          refine XS.icmpNo X92.here hx rfl (hb hby at_227) rfl (teq (by decide)).2 ?_
          show Steps p.tables e below (T92.setTop (mkF m 230 #[.val (.int p1), .val (.int p2), .val (.ref b1), .val (.int ii), .val (.int jj), .val (.int (0 : Int32))] [])) _
          refine XS.iconst X92.here hx rfl (hb hby at_230) ?_
          show Steps p.tables e below (T92.setTop (mkF m 231 #[.val (.int p1), .val (.int p2), .val (.ref b1), .val (.int ii), .val (.int jj), .val (.int (0 : Int32))] [(.int (1 : Int32))])) _
          refine XS.goto X92.here hx rfl (pc0 := 231) (pc' := 235) rfl (hb hby at_231) (by decide) (by decide) ?_
          exact k)
        obtain ⟨fs, hr, hrun, hended, hW, hsame⟩ := X92.leave (v := some (.int (1 : Int32))) (fun h => by rw [Bd.returns] at h; cases h)
        refine ⟨_, _, pre93 _ ?_, hrun, hended, _, _, rfl, ?_, ⟨_, rfl⟩, hW, hsame.mono (by decide) (by decide)⟩
        · show Steps p.tables e below (T92.setTop (mkF m 235 #[.val (.int p1), .val (.int p2), .val (.ref b1), .val (.int ii), .val (.int jj), .val (.int (0 : Int32))] [(.int (1 : Int32))])) _
          exact retN X92 hx (t := .boolean) Bd.returns (by simp) (hb hby at_235) hr
        · exact ⟨rfl, N92, trivial⟩
theorem own_cases (y : Int32) (h0 : 0 ≤ y.toInt) (h1 : y.toInt < 23) : y = (0 : Int32) ∨ y = (1 : Int32) ∨ y = (2 : Int32) ∨ y = (3 : Int32) ∨ y = (4 : Int32) ∨ y = (5 : Int32) ∨ y = (6 : Int32) ∨ y = (7 : Int32) ∨ y = (8 : Int32) ∨ y = (9 : Int32) ∨ y = (10 : Int32) ∨ y = (11 : Int32) ∨ y = (12 : Int32) ∨ y = (13 : Int32) ∨ y = (14 : Int32) ∨ y = (15 : Int32) ∨ y = (16 : Int32) ∨ y = (17 : Int32) ∨ y = (18 : Int32) ∨ y = (19 : Int32) ∨ y = (20 : Int32) ∨ y = (21 : Int32) ∨ y = (22 : Int32) := by
  have q : y.toInt = 0 ∨ y.toInt = 1 ∨ y.toInt = 2 ∨ y.toInt = 3 ∨ y.toInt = 4 ∨ y.toInt = 5 ∨ y.toInt = 6 ∨ y.toInt = 7 ∨ y.toInt = 8 ∨ y.toInt = 9 ∨ y.toInt = 10 ∨ y.toInt = 11 ∨ y.toInt = 12 ∨ y.toInt = 13 ∨ y.toInt = 14 ∨ y.toInt = 15 ∨ y.toInt = 16 ∨ y.toInt = 17 ∨ y.toInt = 18 ∨ y.toInt = 19 ∨ y.toInt = 20 ∨ y.toInt = 21 ∨ y.toInt = 22 := by omega
  rcases q with q | q | q | q | q | q | q | q | q | q | q | q | q | q | q | q | q | q | q | q | q | q | q
  · exact Or.inl (Int32.toInt_inj.mp q)
  · exact Or.inr (Or.inl (Int32.toInt_inj.mp q))
  · exact Or.inr (Or.inr (Or.inl (Int32.toInt_inj.mp q)))
  · exact Or.inr (Or.inr (Or.inr (Or.inl (Int32.toInt_inj.mp q))))
  · exact Or.inr (Or.inr (Or.inr (Or.inr (Or.inl (Int32.toInt_inj.mp q)))))
  · exact Or.inr (Or.inr (Or.inr (Or.inr (Or.inr (Or.inl (Int32.toInt_inj.mp q))))))
  · exact Or.inr (Or.inr (Or.inr (Or.inr (Or.inr (Or.inr (Or.inl (Int32.toInt_inj.mp q)))))))
  · exact Or.inr (Or.inr (Or.inr (Or.inr (Or.inr (Or.inr (Or.inr (Or.inl (Int32.toInt_inj.mp q))))))))
  · exact Or.inr (Or.inr (Or.inr (Or.inr (Or.inr (Or.inr (Or.inr (Or.inr (Or.inl (Int32.toInt_inj.mp q)))))))))
  · exact Or.inr (Or.inr (Or.inr (Or.inr (Or.inr (Or.inr (Or.inr (Or.inr (Or.inr (Or.inl (Int32.toInt_inj.mp q))))))))))
  · exact Or.inr (Or.inr (Or.inr (Or.inr (Or.inr (Or.inr (Or.inr (Or.inr (Or.inr (Or.inr (Or.inl (Int32.toInt_inj.mp q)))))))))))
  · exact Or.inr (Or.inr (Or.inr (Or.inr (Or.inr (Or.inr (Or.inr (Or.inr (Or.inr (Or.inr (Or.inr (Or.inl (Int32.toInt_inj.mp q))))))))))))
  · exact Or.inr (Or.inr (Or.inr (Or.inr (Or.inr (Or.inr (Or.inr (Or.inr (Or.inr (Or.inr (Or.inr (Or.inr (Or.inl (Int32.toInt_inj.mp q)))))))))))))
  · exact Or.inr (Or.inr (Or.inr (Or.inr (Or.inr (Or.inr (Or.inr (Or.inr (Or.inr (Or.inr (Or.inr (Or.inr (Or.inr (Or.inl (Int32.toInt_inj.mp q))))))))))))))
  · exact Or.inr (Or.inr (Or.inr (Or.inr (Or.inr (Or.inr (Or.inr (Or.inr (Or.inr (Or.inr (Or.inr (Or.inr (Or.inr (Or.inr (Or.inl (Int32.toInt_inj.mp q)))))))))))))))
  · exact Or.inr (Or.inr (Or.inr (Or.inr (Or.inr (Or.inr (Or.inr (Or.inr (Or.inr (Or.inr (Or.inr (Or.inr (Or.inr (Or.inr (Or.inr (Or.inl (Int32.toInt_inj.mp q))))))))))))))))
  · exact Or.inr (Or.inr (Or.inr (Or.inr (Or.inr (Or.inr (Or.inr (Or.inr (Or.inr (Or.inr (Or.inr (Or.inr (Or.inr (Or.inr (Or.inr (Or.inr (Or.inl (Int32.toInt_inj.mp q)))))))))))))))))
  · exact Or.inr (Or.inr (Or.inr (Or.inr (Or.inr (Or.inr (Or.inr (Or.inr (Or.inr (Or.inr (Or.inr (Or.inr (Or.inr (Or.inr (Or.inr (Or.inr (Or.inr (Or.inl (Int32.toInt_inj.mp q))))))))))))))))))
  · exact Or.inr (Or.inr (Or.inr (Or.inr (Or.inr (Or.inr (Or.inr (Or.inr (Or.inr (Or.inr (Or.inr (Or.inr (Or.inr (Or.inr (Or.inr (Or.inr (Or.inr (Or.inr (Or.inl (Int32.toInt_inj.mp q)))))))))))))))))))
  · exact Or.inr (Or.inr (Or.inr (Or.inr (Or.inr (Or.inr (Or.inr (Or.inr (Or.inr (Or.inr (Or.inr (Or.inr (Or.inr (Or.inr (Or.inr (Or.inr (Or.inr (Or.inr (Or.inr (Or.inl (Int32.toInt_inj.mp q))))))))))))))))))))
  · exact Or.inr (Or.inr (Or.inr (Or.inr (Or.inr (Or.inr (Or.inr (Or.inr (Or.inr (Or.inr (Or.inr (Or.inr (Or.inr (Or.inr (Or.inr (Or.inr (Or.inr (Or.inr (Or.inr (Or.inr (Or.inl (Int32.toInt_inj.mp q)))))))))))))))))))))
  · exact Or.inr (Or.inr (Or.inr (Or.inr (Or.inr (Or.inr (Or.inr (Or.inr (Or.inr (Or.inr (Or.inr (Or.inr (Or.inr (Or.inr (Or.inr (Or.inr (Or.inr (Or.inr (Or.inr (Or.inr (Or.inr (Or.inl (Int32.toInt_inj.mp q))))))))))))))))))))))
  · exact Or.inr (Or.inr (Or.inr (Or.inr (Or.inr (Or.inr (Or.inr (Or.inr (Or.inr (Or.inr (Or.inr (Or.inr (Or.inr (Or.inr (Or.inr (Or.inr (Or.inr (Or.inr (Or.inr (Or.inr (Or.inr (Or.inr (Int32.toInt_inj.mp q))))))))))))))))))))))
theorem own_iff {Z : State} {h : Heap} {A B : Addr} {i j : Int32} (FA : Fld Z h A "java/lang/Enum" "ordinal" "I" (.int i)) (FB : Fld Z h B "java/lang/Enum" "ordinal" "I" (.int j)) (hl : i = j → A = B) : A = B ↔ i = j :=
  ⟨fun e => Decidable.byContradiction fun q => Fld.ne FA FB (fun z => q (Value.int.inj z)) e, hl⟩
theorem own_pick {Z : State} {h : Heap} {w_BLOB w_BOOLEAN w_STRING w_ENUM w_BYTE w_SHORT w_INTEGER w_INT_ENUM w_LONG w_FLOAT w_DOUBLE w_BIG_INTEGER w_BIG_DECIMAL w_TIMESTAMP w_DOCUMENT w_LIST w_MAP w_STRUCTURE w_UNION w_SERVICE w_OPERATION w_RESOURCE w_MEMBER : Addr} (hK : own_K Z h w_BLOB w_BOOLEAN w_STRING w_ENUM w_BYTE w_SHORT w_INTEGER w_INT_ENUM w_LONG w_FLOAT w_DOUBLE w_BIG_INTEGER w_BIG_DECIMAL w_TIMESTAMP w_DOCUMENT w_LIST w_MAP w_STRUCTURE w_UNION w_SERVICE w_OPERATION w_RESOURCE w_MEMBER) (i : Int32) (h0 : 0 ≤ i.toInt) (h1 : i.toInt < 23) : ∃ A, [Value.ref w_BLOB, Value.ref w_BOOLEAN, Value.ref w_STRING, Value.ref w_ENUM, Value.ref w_BYTE, Value.ref w_SHORT, Value.ref w_INTEGER, Value.ref w_INT_ENUM, Value.ref w_LONG, Value.ref w_FLOAT, Value.ref w_DOUBLE, Value.ref w_BIG_INTEGER, Value.ref w_BIG_DECIMAL, Value.ref w_TIMESTAMP, Value.ref w_DOCUMENT, Value.ref w_LIST, Value.ref w_MAP, Value.ref w_STRUCTURE, Value.ref w_UNION, Value.ref w_SERVICE, Value.ref w_OPERATION, Value.ref w_RESOURCE, Value.ref w_MEMBER][i.toNatClampNeg]? = some (Value.ref A) ∧ Exa Z h A "com/example/falkirk/falkirk/model/ShapeType" ∧ Fld Z h A "java/lang/Enum" "ordinal" "I" (.int i) ∧ ¬ i < 0 := by
  have hK' := hK
  obtain ⟨S_w_BLOB, E_w_BLOB, S_w_BOOLEAN, E_w_BOOLEAN, S_w_STRING, E_w_STRING, S_w_ENUM, E_w_ENUM, S_w_BYTE, E_w_BYTE, S_w_SHORT, E_w_SHORT, S_w_INTEGER, E_w_INTEGER, S_w_INT_ENUM, E_w_INT_ENUM, S_w_LONG, E_w_LONG, S_w_FLOAT, E_w_FLOAT, S_w_DOUBLE, E_w_DOUBLE, S_w_BIG_INTEGER, E_w_BIG_INTEGER, S_w_BIG_DECIMAL, E_w_BIG_DECIMAL, S_w_TIMESTAMP, E_w_TIMESTAMP, S_w_DOCUMENT, E_w_DOCUMENT, S_w_LIST, E_w_LIST, S_w_MAP, E_w_MAP, S_w_STRUCTURE, E_w_STRUCTURE, S_w_UNION, E_w_UNION, S_w_SERVICE, E_w_SERVICE, S_w_OPERATION, E_w_OPERATION, S_w_RESOURCE, E_w_RESOURCE, S_w_MEMBER, E_w_MEMBER, F_ordinal_w_BLOB, F_ordinal_w_ENUM, F_ordinal_w_INT_ENUM, F_ordinal_w_DOCUMENT, F_ordinal_w_BOOLEAN, F_ordinal_w_STRING, F_ordinal_w_DOUBLE, F_ordinal_w_TIMESTAMP, F_ordinal_w_INTEGER, F_ordinal_w_BYTE, F_ordinal_w_LONG, F_ordinal_w_SHORT, F_ordinal_w_BIG_DECIMAL, F_ordinal_w_RESOURCE, F_ordinal_w_FLOAT, F_ordinal_w_MAP, F_ordinal_w_OPERATION, F_ordinal_w_SERVICE, F_ordinal_w_BIG_INTEGER, F_ordinal_w_LIST, F_ordinal_w_STRUCTURE, F_ordinal_w_MEMBER, F_ordinal_w_UNION⟩ := hK'
  rcases own_cases i h0 h1 with rfl | rfl | rfl | rfl | rfl | rfl | rfl | rfl | rfl | rfl | rfl | rfl | rfl | rfl | rfl | rfl | rfl | rfl | rfl | rfl | rfl | rfl | rfl
  · exact ⟨w_BLOB, rfl, E_w_BLOB, F_ordinal_w_BLOB, by decide⟩
  · exact ⟨w_BOOLEAN, rfl, E_w_BOOLEAN, F_ordinal_w_BOOLEAN, by decide⟩
  · exact ⟨w_STRING, rfl, E_w_STRING, F_ordinal_w_STRING, by decide⟩
  · exact ⟨w_ENUM, rfl, E_w_ENUM, F_ordinal_w_ENUM, by decide⟩
  · exact ⟨w_BYTE, rfl, E_w_BYTE, F_ordinal_w_BYTE, by decide⟩
  · exact ⟨w_SHORT, rfl, E_w_SHORT, F_ordinal_w_SHORT, by decide⟩
  · exact ⟨w_INTEGER, rfl, E_w_INTEGER, F_ordinal_w_INTEGER, by decide⟩
  · exact ⟨w_INT_ENUM, rfl, E_w_INT_ENUM, F_ordinal_w_INT_ENUM, by decide⟩
  · exact ⟨w_LONG, rfl, E_w_LONG, F_ordinal_w_LONG, by decide⟩
  · exact ⟨w_FLOAT, rfl, E_w_FLOAT, F_ordinal_w_FLOAT, by decide⟩
  · exact ⟨w_DOUBLE, rfl, E_w_DOUBLE, F_ordinal_w_DOUBLE, by decide⟩
  · exact ⟨w_BIG_INTEGER, rfl, E_w_BIG_INTEGER, F_ordinal_w_BIG_INTEGER, by decide⟩
  · exact ⟨w_BIG_DECIMAL, rfl, E_w_BIG_DECIMAL, F_ordinal_w_BIG_DECIMAL, by decide⟩
  · exact ⟨w_TIMESTAMP, rfl, E_w_TIMESTAMP, F_ordinal_w_TIMESTAMP, by decide⟩
  · exact ⟨w_DOCUMENT, rfl, E_w_DOCUMENT, F_ordinal_w_DOCUMENT, by decide⟩
  · exact ⟨w_LIST, rfl, E_w_LIST, F_ordinal_w_LIST, by decide⟩
  · exact ⟨w_MAP, rfl, E_w_MAP, F_ordinal_w_MAP, by decide⟩
  · exact ⟨w_STRUCTURE, rfl, E_w_STRUCTURE, F_ordinal_w_STRUCTURE, by decide⟩
  · exact ⟨w_UNION, rfl, E_w_UNION, F_ordinal_w_UNION, by decide⟩
  · exact ⟨w_SERVICE, rfl, E_w_SERVICE, F_ordinal_w_SERVICE, by decide⟩
  · exact ⟨w_OPERATION, rfl, E_w_OPERATION, F_ordinal_w_OPERATION, by decide⟩
  · exact ⟨w_RESOURCE, rfl, E_w_RESOURCE, F_ordinal_w_RESOURCE, by decide⟩
  · exact ⟨w_MEMBER, rfl, E_w_MEMBER, F_ordinal_w_MEMBER, by decide⟩
theorem rm_law (l : Launch) (Z : State) (a0 : Array Value) (hw : ∀ d ∈ tables_1, d.before a0 Z = true) (ws : List Jvm.Cond) (p1 : Int32) (p2 : Int32) (h0 : Heap) (n0 : Nat) (Z0 : n0 ≤ h0.size) (w_BLOB w_BOOLEAN w_STRING w_ENUM w_BYTE w_SHORT w_INTEGER w_INT_ENUM w_LONG w_FLOAT w_DOUBLE w_BIG_INTEGER w_BIG_DECIMAL w_TIMESTAMP w_DOCUMENT w_LIST w_MAP w_STRUCTURE w_UNION w_SERVICE w_OPERATION w_RESOURCE w_MEMBER : Addr) (hK : own_K Z h0 w_BLOB w_BOOLEAN w_STRING w_ENUM w_BYTE w_SHORT w_INTEGER w_INT_ENUM w_LONG w_FLOAT w_DOUBLE w_BIG_INTEGER w_BIG_DECIMAL w_TIMESTAMP w_DOCUMENT w_LIST w_MAP w_STRUCTURE w_UNION w_SERVICE w_OPERATION w_RESOURCE w_MEMBER) :
    MetFree l x (head1 (Jvm.Cond.code x code maxLocals ret :: ws) room_1) (fun a U => a = #[(.int p1), (.int p2)] ∧ Z.Warmed39 U.vm ∧ U.heap = h0) (fun _ _ _ _ _ => True) (fun _ U o U' => ∃ v L, o = .returned v ∧ own_QH (some (.int (1 : Int32))) n0 v U'.heap L ∧ FrameEnd U o U' L room_1.cells room_1.slots) := by
  have hK' := hK
  obtain ⟨S_w_BLOB, E_w_BLOB, S_w_BOOLEAN, E_w_BOOLEAN, S_w_STRING, E_w_STRING, S_w_ENUM, E_w_ENUM, S_w_BYTE, E_w_BYTE, S_w_SHORT, E_w_SHORT, S_w_INTEGER, E_w_INTEGER, S_w_INT_ENUM, E_w_INT_ENUM, S_w_LONG, E_w_LONG, S_w_FLOAT, E_w_FLOAT, S_w_DOUBLE, E_w_DOUBLE, S_w_BIG_INTEGER, E_w_BIG_INTEGER, S_w_BIG_DECIMAL, E_w_BIG_DECIMAL, S_w_TIMESTAMP, E_w_TIMESTAMP, S_w_DOCUMENT, E_w_DOCUMENT, S_w_LIST, E_w_LIST, S_w_MAP, E_w_MAP, S_w_STRUCTURE, E_w_STRUCTURE, S_w_UNION, E_w_UNION, S_w_SERVICE, E_w_SERVICE, S_w_OPERATION, E_w_OPERATION, S_w_RESOURCE, E_w_RESOURCE, S_w_MEMBER, E_w_MEMBER, F_ordinal_w_BLOB, F_ordinal_w_ENUM, F_ordinal_w_INT_ENUM, F_ordinal_w_DOCUMENT, F_ordinal_w_BOOLEAN, F_ordinal_w_STRING, F_ordinal_w_DOUBLE, F_ordinal_w_TIMESTAMP, F_ordinal_w_INTEGER, F_ordinal_w_BYTE, F_ordinal_w_LONG, F_ordinal_w_SHORT, F_ordinal_w_BIG_DECIMAL, F_ordinal_w_RESOURCE, F_ordinal_w_FLOAT, F_ordinal_w_MAP, F_ordinal_w_OPERATION, F_ordinal_w_SERVICE, F_ordinal_w_BIG_INTEGER, F_ordinal_w_LIST, F_ordinal_w_STRUCTURE, F_ordinal_w_MEMBER, F_ordinal_w_UNION⟩ := hK'
  have q0 := c_mask p1 2147483647 31 (by decide) (by decide)
  have q := (c_irem (p1 &&& 2147483647) 23 23 (by decide)).1 (by omega)
  have r0 := c_mask p2 2147483647 31 (by decide) (by decide)
  have r := (c_irem (p2 &&& 2147483647) 23 23 (by decide)).1 (by omega)
  obtain ⟨A, hA, EA, FA, hi0⟩ := own_pick hK ((p1 &&& (2147483647 : Int32)) % (23 : Int32)) (by omega) (by omega)
  obtain ⟨B, hB, EB, FB, hj0⟩ := own_pick hK ((p2 &&& (2147483647 : Int32)) % (23 : Int32)) (by omega) (by omega)
  refine rm_lawS l Z a0 hw ws p1 p2 h0 n0 Z0 w_BLOB w_BOOLEAN w_STRING w_ENUM w_BYTE w_SHORT w_INTEGER w_INT_ENUM w_LONG w_FLOAT w_DOUBLE w_BIG_INTEGER w_BIG_DECIMAL w_TIMESTAMP w_DOCUMENT w_LIST w_MAP w_STRUCTURE w_UNION w_SERVICE w_OPERATION w_RESOURCE w_MEMBER hK _ _ A B rfl rfl hi0 hj0 hA hB EA (own_iff FA FB fun e => ?_) (own_iff FA F_ordinal_w_ENUM fun e => ?_) (own_iff FB F_ordinal_w_STRING fun e => ?_) (own_iff FA F_ordinal_w_INT_ENUM fun e => ?_) (own_iff FB F_ordinal_w_INTEGER fun e => ?_)
  · rw [e] at hA; exact Value.ref.inj (Option.some.inj (hA.symm.trans hB))
  · rw [e] at hA; exact Value.ref.inj (Option.some.inj hA.symm)
  · rw [e] at hB; exact Value.ref.inj (Option.some.inj hB.symm)
  · rw [e] at hA; exact Value.ref.inj (Option.some.inj hA.symm)
  · rw [e] at hB; exact Value.ref.inj (Option.some.inj hB.symm)
set_option maxRecDepth 65536 in
set_option maxHeartbeats 40000000 in
theorem comes_1 {Post : Tables → Env → Array Value → State → Outcome → State → Prop} (hpost : ∀ tb e args s v u, (limb_1_1.after args s (.returned v) u = true ∧ limb_1_2.after args s (.returned v) u = true ∧ True) → FrameEnd s (.returned v) u (Jvm.fieldLocs frame_1_writes args s ++ Jvm.arrayLocs frame_1_arrays args s ++ Jvm.staticLocs frame_1_statics s) 16 128 → Post tb e args s (.returned v) u) :
    ArmFor flags0 classFile x code maxLocals ret World_1 tables_1 room_1 Calls_1 rest_1 Pre_1 Post := by
  intro l hfl _ _ p e ha hc hk s m args below hf hA hF happ hP
  obtain ⟨hcalls, hrest, hpre⟩ := hP
  obtain ⟨-, -, -, hnamed, -, -, -, hat⟩ := (Spec.applies_iff hf).mp happ
  obtain ⟨hg, hn⟩ := and_e (Cond.before_iff.mp (show (Jvm.Cond.and given_1 narrow_1).before args s = true from hpre))
  obtain ⟨g0, hg⟩ := and_e hg
  obtain ⟨g1, hg⟩ := and_e hg
  obtain ⟨w0, w1, rfl⟩ : ∃ w0 w1 : Value, args = #[w0, w1] := by
    have hs : args.size = 2 := by simpa [Cond.value, given_1] using g0
    obtain ⟨L⟩ := args
    match L, hs with
    | [w0, w1], _ => exact ⟨w0, w1, rfl⟩
  have hw := fun d (hd : d ∈ tables_1) => atoms_spec (ws := Jvm.Cond.code x code maxLocals ret :: tables_1) hat d (List.mem_cons_of_mem _ hd)
  have hfit : Fit s := fun {y c} hc i hi => by
    obtain ⟨ha, rfl⟩ := Array.getElem?_eq_some_iff.mp hc
    have q := List.all_eq_true.mp ((Array.all_eq_true_iff_forall_mem.mp hF) _ (Array.getElem_mem ha)) i (List.mem_range.mpr hi)
    simpa [Array.getElem?_eq_getElem hi] using q
  obtain ⟨i0, ei0⟩ := is_v g1
  obtain rfl : w0 = (.int i0) := Option.some.inj ei0
  obtain ⟨i1, ei1⟩ := is_v hg
  obtain rfl : w1 = (.int i1) := Option.some.inj ei1
  obtain ⟨c0, hn⟩ := and_e hn
  obtain ⟨w_BLOB, v_w_BLOB⟩ := exa_v c0
  have S_w_BLOB := Sta.start v_w_BLOB (Or.inr ⟨(hw _ (ow 3 rfl)), (hw _ (ow 4 rfl))⟩)
  have E_w_BLOB := Exa.start v_w_BLOB c0
  obtain ⟨c1, hn⟩ := and_e hn
  obtain ⟨w_BOOLEAN, v_w_BOOLEAN⟩ := exa_v c1
  have S_w_BOOLEAN := Sta.start v_w_BOOLEAN (Or.inr ⟨(hw _ (ow 3 rfl)), (hw _ (ow 7 rfl))⟩)
  have E_w_BOOLEAN := Exa.start v_w_BOOLEAN c1
  obtain ⟨c2, hn⟩ := and_e hn
  obtain ⟨w_STRING, v_w_STRING⟩ := exa_v c2
  have S_w_STRING := Sta.start v_w_STRING (Or.inr ⟨(hw _ (ow 3 rfl)), (hw _ (ow 9 rfl))⟩)
  have E_w_STRING := Exa.start v_w_STRING c2
  obtain ⟨c3, hn⟩ := and_e hn
  obtain ⟨w_ENUM, v_w_ENUM⟩ := exa_v c3
  have S_w_ENUM := Sta.start v_w_ENUM (Or.inr ⟨(hw _ (ow 3 rfl)), (hw _ (ow 11 rfl))⟩)
  have E_w_ENUM := Exa.start v_w_ENUM c3
  obtain ⟨c4, hn⟩ := and_e hn
  obtain ⟨w_BYTE, v_w_BYTE⟩ := exa_v c4
  have S_w_BYTE := Sta.start v_w_BYTE (Or.inr ⟨(hw _ (ow 3 rfl)), (hw _ (ow 13 rfl))⟩)
  have E_w_BYTE := Exa.start v_w_BYTE c4
  obtain ⟨c5, hn⟩ := and_e hn
  obtain ⟨w_SHORT, v_w_SHORT⟩ := exa_v c5
  have S_w_SHORT := Sta.start v_w_SHORT (Or.inr ⟨(hw _ (ow 3 rfl)), (hw _ (ow 15 rfl))⟩)
  have E_w_SHORT := Exa.start v_w_SHORT c5
  obtain ⟨c6, hn⟩ := and_e hn
  obtain ⟨w_INTEGER, v_w_INTEGER⟩ := exa_v c6
  have S_w_INTEGER := Sta.start v_w_INTEGER (Or.inr ⟨(hw _ (ow 3 rfl)), (hw _ (ow 17 rfl))⟩)
  have E_w_INTEGER := Exa.start v_w_INTEGER c6
  obtain ⟨c7, hn⟩ := and_e hn
  obtain ⟨w_INT_ENUM, v_w_INT_ENUM⟩ := exa_v c7
  have S_w_INT_ENUM := Sta.start v_w_INT_ENUM (Or.inr ⟨(hw _ (ow 3 rfl)), (hw _ (ow 19 rfl))⟩)
  have E_w_INT_ENUM := Exa.start v_w_INT_ENUM c7
  obtain ⟨c8, hn⟩ := and_e hn
  obtain ⟨w_LONG, v_w_LONG⟩ := exa_v c8
  have S_w_LONG := Sta.start v_w_LONG (Or.inr ⟨(hw _ (ow 3 rfl)), (hw _ (ow 21 rfl))⟩)
  have E_w_LONG := Exa.start v_w_LONG c8
  obtain ⟨c9, hn⟩ := and_e hn
  obtain ⟨w_FLOAT, v_w_FLOAT⟩ := exa_v c9
  have S_w_FLOAT := Sta.start v_w_FLOAT (Or.inr ⟨(hw _ (ow 3 rfl)), (hw _ (ow 23 rfl))⟩)
  have E_w_FLOAT := Exa.start v_w_FLOAT c9
  obtain ⟨c10, hn⟩ := and_e hn
  obtain ⟨w_DOUBLE, v_w_DOUBLE⟩ := exa_v c10
  have S_w_DOUBLE := Sta.start v_w_DOUBLE (Or.inr ⟨(hw _ (ow 3 rfl)), (hw _ (ow 25 rfl))⟩)
  have E_w_DOUBLE := Exa.start v_w_DOUBLE c10
  obtain ⟨c11, hn⟩ := and_e hn
  obtain ⟨w_BIG_INTEGER, v_w_BIG_INTEGER⟩ := exa_v c11
  have S_w_BIG_INTEGER := Sta.start v_w_BIG_INTEGER (Or.inr ⟨(hw _ (ow 3 rfl)), (hw _ (ow 27 rfl))⟩)
  have E_w_BIG_INTEGER := Exa.start v_w_BIG_INTEGER c11
  obtain ⟨c12, hn⟩ := and_e hn
  obtain ⟨w_BIG_DECIMAL, v_w_BIG_DECIMAL⟩ := exa_v c12
  have S_w_BIG_DECIMAL := Sta.start v_w_BIG_DECIMAL (Or.inr ⟨(hw _ (ow 3 rfl)), (hw _ (ow 29 rfl))⟩)
  have E_w_BIG_DECIMAL := Exa.start v_w_BIG_DECIMAL c12
  obtain ⟨c13, hn⟩ := and_e hn
  obtain ⟨w_TIMESTAMP, v_w_TIMESTAMP⟩ := exa_v c13
  have S_w_TIMESTAMP := Sta.start v_w_TIMESTAMP (Or.inr ⟨(hw _ (ow 3 rfl)), (hw _ (ow 31 rfl))⟩)
  have E_w_TIMESTAMP := Exa.start v_w_TIMESTAMP c13
  obtain ⟨c14, hn⟩ := and_e hn
  obtain ⟨w_DOCUMENT, v_w_DOCUMENT⟩ := exa_v c14
  have S_w_DOCUMENT := Sta.start v_w_DOCUMENT (Or.inr ⟨(hw _ (ow 3 rfl)), (hw _ (ow 33 rfl))⟩)
  have E_w_DOCUMENT := Exa.start v_w_DOCUMENT c14
  obtain ⟨c15, hn⟩ := and_e hn
  obtain ⟨w_LIST, v_w_LIST⟩ := exa_v c15
  have S_w_LIST := Sta.start v_w_LIST (Or.inr ⟨(hw _ (ow 3 rfl)), (hw _ (ow 35 rfl))⟩)
  have E_w_LIST := Exa.start v_w_LIST c15
  obtain ⟨c16, hn⟩ := and_e hn
  obtain ⟨w_MAP, v_w_MAP⟩ := exa_v c16
  have S_w_MAP := Sta.start v_w_MAP (Or.inr ⟨(hw _ (ow 3 rfl)), (hw _ (ow 37 rfl))⟩)
  have E_w_MAP := Exa.start v_w_MAP c16
  obtain ⟨c17, hn⟩ := and_e hn
  obtain ⟨w_STRUCTURE, v_w_STRUCTURE⟩ := exa_v c17
  have S_w_STRUCTURE := Sta.start v_w_STRUCTURE (Or.inr ⟨(hw _ (ow 3 rfl)), (hw _ (ow 39 rfl))⟩)
  have E_w_STRUCTURE := Exa.start v_w_STRUCTURE c17
  obtain ⟨c18, hn⟩ := and_e hn
  obtain ⟨w_UNION, v_w_UNION⟩ := exa_v c18
  have S_w_UNION := Sta.start v_w_UNION (Or.inr ⟨(hw _ (ow 3 rfl)), (hw _ (ow 41 rfl))⟩)
  have E_w_UNION := Exa.start v_w_UNION c18
  obtain ⟨c19, hn⟩ := and_e hn
  obtain ⟨w_SERVICE, v_w_SERVICE⟩ := exa_v c19
  have S_w_SERVICE := Sta.start v_w_SERVICE (Or.inr ⟨(hw _ (ow 3 rfl)), (hw _ (ow 43 rfl))⟩)
  have E_w_SERVICE := Exa.start v_w_SERVICE c19
  obtain ⟨c20, hn⟩ := and_e hn
  obtain ⟨w_OPERATION, v_w_OPERATION⟩ := exa_v c20
  have S_w_OPERATION := Sta.start v_w_OPERATION (Or.inr ⟨(hw _ (ow 3 rfl)), (hw _ (ow 45 rfl))⟩)
  have E_w_OPERATION := Exa.start v_w_OPERATION c20
  obtain ⟨c21, hn⟩ := and_e hn
  obtain ⟨w_RESOURCE, v_w_RESOURCE⟩ := exa_v c21
  have S_w_RESOURCE := Sta.start v_w_RESOURCE (Or.inr ⟨(hw _ (ow 3 rfl)), (hw _ (ow 47 rfl))⟩)
  have E_w_RESOURCE := Exa.start v_w_RESOURCE c21
  obtain ⟨c22, hn⟩ := and_e hn
  obtain ⟨w_MEMBER, v_w_MEMBER⟩ := exa_v c22
  have S_w_MEMBER := Sta.start v_w_MEMBER (Or.inr ⟨(hw _ (ow 3 rfl)), (hw _ (ow 49 rfl))⟩)
  have E_w_MEMBER := Exa.start v_w_MEMBER c22
  obtain ⟨c23, hn⟩ := and_e hn
  have F_ordinal_w_BLOB := Fld.start ((fld_at v_w_BLOB).symm.trans (own_eqI c23))
  obtain ⟨c24, hn⟩ := and_e hn
  have F_ordinal_w_ENUM := Fld.start ((fld_at v_w_ENUM).symm.trans (own_eqI c24))
  obtain ⟨c25, hn⟩ := and_e hn
  have F_ordinal_w_INT_ENUM := Fld.start ((fld_at v_w_INT_ENUM).symm.trans (own_eqI c25))
  obtain ⟨c26, hn⟩ := and_e hn
  have F_ordinal_w_DOCUMENT := Fld.start ((fld_at v_w_DOCUMENT).symm.trans (own_eqI c26))
  obtain ⟨c27, hn⟩ := and_e hn
  have F_ordinal_w_BOOLEAN := Fld.start ((fld_at v_w_BOOLEAN).symm.trans (own_eqI c27))
  obtain ⟨c28, hn⟩ := and_e hn
  have F_ordinal_w_STRING := Fld.start ((fld_at v_w_STRING).symm.trans (own_eqI c28))
  obtain ⟨c29, hn⟩ := and_e hn
  have F_ordinal_w_DOUBLE := Fld.start ((fld_at v_w_DOUBLE).symm.trans (own_eqI c29))
  obtain ⟨c30, hn⟩ := and_e hn
  have F_ordinal_w_TIMESTAMP := Fld.start ((fld_at v_w_TIMESTAMP).symm.trans (own_eqI c30))
  obtain ⟨c31, hn⟩ := and_e hn
  have F_ordinal_w_INTEGER := Fld.start ((fld_at v_w_INTEGER).symm.trans (own_eqI c31))
  obtain ⟨c32, hn⟩ := and_e hn
  have F_ordinal_w_BYTE := Fld.start ((fld_at v_w_BYTE).symm.trans (own_eqI c32))
  obtain ⟨c33, hn⟩ := and_e hn
  have F_ordinal_w_LONG := Fld.start ((fld_at v_w_LONG).symm.trans (own_eqI c33))
  obtain ⟨c34, hn⟩ := and_e hn
  have F_ordinal_w_SHORT := Fld.start ((fld_at v_w_SHORT).symm.trans (own_eqI c34))
  obtain ⟨c35, hn⟩ := and_e hn
  have F_ordinal_w_BIG_DECIMAL := Fld.start ((fld_at v_w_BIG_DECIMAL).symm.trans (own_eqI c35))
  obtain ⟨c36, hn⟩ := and_e hn
  have F_ordinal_w_RESOURCE := Fld.start ((fld_at v_w_RESOURCE).symm.trans (own_eqI c36))
  obtain ⟨c37, hn⟩ := and_e hn
  have F_ordinal_w_FLOAT := Fld.start ((fld_at v_w_FLOAT).symm.trans (own_eqI c37))
  obtain ⟨c38, hn⟩ := and_e hn
  have F_ordinal_w_MAP := Fld.start ((fld_at v_w_MAP).symm.trans (own_eqI c38))
  obtain ⟨c39, hn⟩ := and_e hn
  have F_ordinal_w_OPERATION := Fld.start ((fld_at v_w_OPERATION).symm.trans (own_eqI c39))
  obtain ⟨c40, hn⟩ := and_e hn
  have F_ordinal_w_SERVICE := Fld.start ((fld_at v_w_SERVICE).symm.trans (own_eqI c40))
  obtain ⟨c41, hn⟩ := and_e hn
  have F_ordinal_w_BIG_INTEGER := Fld.start ((fld_at v_w_BIG_INTEGER).symm.trans (own_eqI c41))
  obtain ⟨c42, hn⟩ := and_e hn
  have F_ordinal_w_LIST := Fld.start ((fld_at v_w_LIST).symm.trans (own_eqI c42))
  obtain ⟨c43, hn⟩ := and_e hn
  have F_ordinal_w_STRUCTURE := Fld.start ((fld_at v_w_STRUCTURE).symm.trans (own_eqI c43))
  obtain ⟨c44, hn⟩ := and_e hn
  have F_ordinal_w_MEMBER := Fld.start ((fld_at v_w_MEMBER).symm.trans (own_eqI c44))
  have F_ordinal_w_UNION := Fld.start ((fld_at v_w_UNION).symm.trans (own_eqI hn))
  have hK : own_K s s.heap w_BLOB w_BOOLEAN w_STRING w_ENUM w_BYTE w_SHORT w_INTEGER w_INT_ENUM w_LONG w_FLOAT w_DOUBLE w_BIG_INTEGER w_BIG_DECIMAL w_TIMESTAMP w_DOCUMENT w_LIST w_MAP w_STRUCTURE w_UNION w_SERVICE w_OPERATION w_RESOURCE w_MEMBER := ⟨S_w_BLOB, E_w_BLOB, S_w_BOOLEAN, E_w_BOOLEAN, S_w_STRING, E_w_STRING, S_w_ENUM, E_w_ENUM, S_w_BYTE, E_w_BYTE, S_w_SHORT, E_w_SHORT, S_w_INTEGER, E_w_INTEGER, S_w_INT_ENUM, E_w_INT_ENUM, S_w_LONG, E_w_LONG, S_w_FLOAT, E_w_FLOAT, S_w_DOUBLE, E_w_DOUBLE, S_w_BIG_INTEGER, E_w_BIG_INTEGER, S_w_BIG_DECIMAL, E_w_BIG_DECIMAL, S_w_TIMESTAMP, E_w_TIMESTAMP, S_w_DOCUMENT, E_w_DOCUMENT, S_w_LIST, E_w_LIST, S_w_MAP, E_w_MAP, S_w_STRUCTURE, E_w_STRUCTURE, S_w_UNION, E_w_UNION, S_w_SERVICE, E_w_SERVICE, S_w_OPERATION, E_w_OPERATION, S_w_RESOURCE, E_w_RESOURCE, S_w_MEMBER, E_w_MEMBER, F_ordinal_w_BLOB, F_ordinal_w_ENUM, F_ordinal_w_INT_ENUM, F_ordinal_w_DOCUMENT, F_ordinal_w_BOOLEAN, F_ordinal_w_STRING, F_ordinal_w_DOUBLE, F_ordinal_w_TIMESTAMP, F_ordinal_w_INTEGER, F_ordinal_w_BYTE, F_ordinal_w_LONG, F_ordinal_w_SHORT, F_ordinal_w_BIG_DECIMAL, F_ordinal_w_RESOURCE, F_ordinal_w_FLOAT, F_ordinal_w_MAP, F_ordinal_w_OPERATION, F_ordinal_w_SERVICE, F_ordinal_w_BIG_INTEGER, F_ordinal_w_LIST, F_ordinal_w_STRUCTURE, F_ordinal_w_MEMBER, F_ordinal_w_UNION⟩
  obtain ⟨n, o, h1, h2, h3, _, L, rfl, ⟨rfl, N, -⟩, hq⟩ := rm_law l s _ hw tables_1 i0 i1 s.heap s.heap.size (Nat.le_refl _) w_BLOB w_BOOLEAN w_STRING w_ENUM w_BYTE w_SHORT w_INTEGER w_INT_ENUM w_LONG w_FLOAT w_DOUBLE w_BIG_INTEGER w_BIG_DECIMAL w_TIMESTAMP w_DOCUMENT w_LIST w_MAP w_STRUCTURE w_UNION w_SERVICE w_OPERATION w_RESOURCE w_MEMBER hK p e ha hc hk s m _ below hf ((Spec.applies_iff_loose hf).mp happ).1 ⟨rfl, State.Warmed39.refl s, rfl⟩ trivial
  refine ⟨n, _, h1, h2, h3, hpost _ _ _ _ _ _ ⟨Cond.after_iff.mpr rfl, Cond.after_iff.mpr (eq_i res_at (Term.int_eval (1)) rfl), trivial⟩ ⟨hq.1, hq.2.1, (hq.2.2.sift fun y hy => Or.inr (N y hy)).mono (by decide) (by decide)⟩⟩
theorem main_1_1 : Claimed_1_1 := comes_1 fun _ _ _ _ _ _ h hF => ⟨h.1, hF⟩
theorem main_1_2 : Claimed_1_2 := comes_1 fun _ _ _ _ _ _ h hF => ⟨h.2.1, hF⟩
end Jvm.Pilot.@@N@@
namespace Jvm.Pilot.@@N@@
open Jvm Jvm.ClassFile Sem Op Lib Jvm.Free Jvm.Stand Jvm.Pilot.@@N@@.Jvm.D
/-! MADE BY PROGRAM (witnessworld.py) out of the Statement's table words and the real class files: 13 classes; the members and pool entries that the words name. The judged class is class 1, her method 1. -/
namespace start1
open Jvm.ClassFile
def u (s : String) : CpInfo := .utf8 (stringToUtf16 s)
/-- a pool by its gaps: so many unusable entries, then the entry; so many at the end -/
def gap : Nat → List CpInfo → List CpInfo
  | 0, r => r
  | n + 1, r => .unusable :: gap n r
def poolList (es : List (Nat × CpInfo)) (last : Nat) : List CpInfo := es.foldr (fun e r => gap e.1 (e.2 :: r)) (gap last [])
def pool (es : List (Nat × CpInfo)) (last : Nat) : Array CpInfo := ⟨poolList es last⟩
def fileOf (pool : Array CpInfo) (this : Nat) (attrs : Array Attribute := #[]) (ms : Array MethodInfo := #[]) (fl : Nat := 33) (sup : Nat := 0) (ifs : Array Nat := #[]) (fds : Array FieldInfo := #[]) : ClassFile where
  minorVersion := 0
  majorVersion := 65
  constantPool := pool
  accessFlags := fl
  thisClass := this
  superClass := sup
  interfaces := ifs
  fields := fds
  methods := ms
  attributes := attrs
def plain (name : String) (sup : Option ClassId) : Class where
  name := name
  kind := .ordinary
  loader := none
  accessFlags := 33
  super := sup
  interfaces := #[]
  cf := none
  fields := #[]
  methods := #[]
  instanceTypes := #[]
  staticTypes := #[]
  resolved := #[]
  callSites := []
  init := .initialized
  statics := none
  mirror := none

def pool0 : Array CpInfo := pool [(5, u "<init>"), (0, u "()V"), (1, .class_ 10), (1, u "java/lang/Object")] 113

def k0m0 : Method := { name := "<init>", desc := "()V", sig := { parameters := [], returnType := none }, accessFlags := 1, code := none }
/-- java/lang/Object -/
def k0 : Class := { plain "java/lang/Object" none with
  accessFlags := 33
  interfaces := #[]
  cf := some (fileOf pool0 8 #[] #[{ accessFlags := 1, nameIndex := 5, descriptorIndex := 6, attributes := #[] }] 33 0 #[] #[])
  fields := #[]
  methods := #[k0m0]
  instanceTypes := #[]
  staticTypes := #[]
  resolved := Array.replicate 124 none
  statics := none }

def pool1 : Array CpInfo := pool [(2, .class_ 4), (1, u "java/lang/Object"), (0, u "<init>"), (0, u "()V"), (0, .class_ 8), (0, u "com/example/falkirk/falkirk/model/ShapeType"), (0, .fieldref 7 10), (0, .nameAndType 11 12), (0, u "BLOB"), (0, u "Lcom/example/falkirk/falkirk/model/ShapeType;"), (0, .fieldref 7 14), (0, .nameAndType 15 12), (0, u "BOOLEAN"), (0, .fieldref 7 17), (0, .nameAndType 18 12), (0, u "STRING"), (0, .fieldref 7 20), (0, .nameAndType 21 12), (0, u "ENUM"), (0, .fieldref 7 23), (0, .nameAndType 24 12), (0, u "BYTE"), (0, .fieldref 7 26), (0, .nameAndType 27 12), (0, u "SHORT"), (0, .fieldref 7 29), (0, .nameAndType 30 12), (0, u "INTEGER"), (0, .fieldref 7 32), (0, .nameAndType 33 12), (0, u "INT_ENUM"), (0, .fieldref 7 35), (0, .nameAndType 36 12), (0, u "LONG"), (0, .fieldref 7 38), (0, .nameAndType 39 12), (0, u "FLOAT"), (0, .fieldref 7 41), (0, .nameAndType 42 12), (0, u "DOUBLE"), (0, .fieldref 7 44), (0, .nameAndType 45 12), (0, u "BIG_INTEGER"), (0, .fieldref 7 47), (0, .nameAndType 48 12), (0, u "BIG_DECIMAL"), (0, .fieldref 7 50), (0, .nameAndType 51 12), (0, u "TIMESTAMP"), (0, .fieldref 7 53), (0, .nameAndType 54 12), (0, u "DOCUMENT"), (0, .fieldref 7 56), (0, .nameAndType 57 12), (0, u "LIST"), (0, .fieldref 7 59), (0, .nameAndType 60 12), (0, u "MAP"), (0, .fieldref 7 62), (0, .nameAndType 63 12), (0, u "STRUCTURE"), (0, .fieldref 7 65), (0, .nameAndType 66 12), (0, u "UNION"), (0, .fieldref 7 68), (0, .nameAndType 69 12), (0, u "SERVICE"), (0, .fieldref 7 71), (0, .nameAndType 72 12), (0, u "OPERATION"), (0, .fieldref 7 74), (0, .nameAndType 75 12), (0, u "RESOURCE"), (0, .fieldref 7 77), (0, .nameAndType 78 12), (0, u "MEMBER"), (0, .integer 2147483647), (0, .methodref 7 81), (0, .nameAndType 82 83), (0, u "isA"), (0, u "(Lcom/example/falkirk/falkirk/model/ShapeType;)Z"), (0, .class_ 85), (0, u "com/example/falkirk/falkirk/model/ShapeTypeIsAPinLaw"), (2, u "law"), (0, u "(II)Z")] 5

def k1m0 : Method := { name := "<init>", desc := "()V", sig := { parameters := [], returnType := none }, accessFlags := 1, code := none }
def k1c1 : Code := { maxStack := 4, maxLocals := 6, code := code, exceptionTable := #[], attributes := #[] }
def k1m1 : Method := { name := "law", desc := "(II)Z", sig := { parameters := [.int, .int], returnType := some .boolean }, accessFlags := 9, code := some k1c1 }
/-- com/example/falkirk/falkirk/model/ShapeTypeIsAPinLaw -/
def k1 : Class := { plain "com/example/falkirk/falkirk/model/ShapeTypeIsAPinLaw" (some 0) with
  accessFlags := 49
  interfaces := #[]
  cf := some (fileOf pool1 84 #[] #[{ accessFlags := 1, nameIndex := 5, descriptorIndex := 6, attributes := #[] }, { accessFlags := 9, nameIndex := 88, descriptorIndex := 89, attributes := #[] }] 49 2 #[] #[])
  fields := #[]
  methods := #[k1m0, k1m1]
  instanceTypes := #[]
  staticTypes := #[]
  resolved := Array.replicate 95 none
  statics := none }

def pool2 : Array CpInfo := pool [(1, .class_ 2), (0, u "java/lang/constant/Constable"), (0, .class_ 4), (0, u "java/lang/Object")] 6

/-- java/lang/constant/Constable -/
def k2 : Class := { plain "java/lang/constant/Constable" (some 0) with
  accessFlags := 1537
  interfaces := #[]
  cf := some (fileOf pool2 1 #[] #[] 1537 3 #[] #[])
  fields := #[]
  methods := #[]
  instanceTypes := #[]
  staticTypes := #[]
  resolved := Array.replicate 11 none
  statics := none }

def pool3 : Array CpInfo := pool [(1, .class_ 2), (0, u "java/lang/Comparable"), (0, .class_ 4), (0, u "java/lang/Object")] 7

/-- java/lang/Comparable -/
def k3 : Class := { plain "java/lang/Comparable" (some 0) with
  accessFlags := 1537
  interfaces := #[]
  cf := some (fileOf pool3 1 #[] #[] 1537 3 #[] #[])
  fields := #[]
  methods := #[]
  instanceTypes := #[]
  staticTypes := #[]
  resolved := Array.replicate 12 none
  statics := none }

def pool4 : Array CpInfo := pool [(1, .class_ 2), (0, u "java/io/Serializable"), (0, .class_ 4), (0, u "java/lang/Object")] 2

/-- java/io/Serializable -/
def k4 : Class := { plain "java/io/Serializable" (some 0) with
  accessFlags := 1537
  interfaces := #[]
  cf := some (fileOf pool4 1 #[] #[] 1537 3 #[] #[])
  fields := #[]
  methods := #[]
  instanceTypes := #[]
  staticTypes := #[]
  resolved := Array.replicate 7 none
  statics := none }

def pool5 : Array CpInfo := pool [(2, .class_ 4), (1, u "java/lang/Enum"), (0, u "name"), (0, u "Ljava/lang/String;"), (2, u "ordinal"), (0, u "I"), (1, .class_ 14), (1, u "java/lang/Object"), (4, u "hash"), (86, .class_ 108), (1, u "java/lang/Enum$EnumDesc"), (2, .class_ 112), (0, u "java/lang/constant/Constable"), (0, .class_ 114), (0, u "java/lang/Comparable"), (0, .class_ 116), (0, u "java/io/Serializable")] 87

/-- java/lang/Enum -/
def k5 : Class := { plain "java/lang/Enum" (some 0) with
  accessFlags := 1057
  interfaces := #[2, 3, 4]
  cf := some (fileOf pool5 2 #[.nestMembers #[106]] #[] 1057 12 #[111, 113, 115] #[{ accessFlags := 18, nameIndex := 5, descriptorIndex := 6, attributes := #[] }, { accessFlags := 18, nameIndex := 9, descriptorIndex := 10, attributes := #[] }, { accessFlags := 2, nameIndex := 19, descriptorIndex := 10, attributes := #[] }])
  fields := #[{ name := "name", type := (.object "java/lang/String"), accessFlags := 18, slot := 0, constantValue := 0 }, { name := "ordinal", type := .int, accessFlags := 18, slot := 1, constantValue := 0 }, { name := "hash", type := .int, accessFlags := 2, slot := 2, constantValue := 0 }]
  methods := #[]
  instanceTypes := #[(.object "java/lang/String"), .int, .int]
  staticTypes := #[]
  resolved := Array.replicate 204 none
  statics := none }

def pool6 : Array CpInfo := pool [(1, .class_ 2), (0, u "com/example/falkirk/falkirk/model/ShapeType"), (2, u "BLOB"), (0, u "Lcom/example/falkirk/falkirk/model/ShapeType;"), (2, u "BOOLEAN"), (0, .fieldref 1 11), (0, .nameAndType 12 6), (0, u "STRING"), (0, .fieldref 1 14), (0, .nameAndType 15 6), (0, u "ENUM"), (2, u "BYTE"), (2, u "SHORT"), (0, .fieldref 1 23), (0, .nameAndType 24 6), (0, u "INTEGER"), (0, .fieldref 1 26), (0, .nameAndType 27 6), (0, u "INT_ENUM"), (2, u "LONG"), (2, u "FLOAT"), (2, u "DOUBLE"), (2, u "BIG_INTEGER"), (2, u "BIG_DECIMAL"), (2, u "TIMESTAMP"), (2, u "DOCUMENT"), (2, u "LIST"), (2, u "MAP"), (2, u "STRUCTURE"), (2, u "UNION"), (2, u "SERVICE"), (2, u "OPERATION"), (2, u "RESOURCE"), (2, u "MEMBER"), (2, u "$VALUES"), (0, u "[Lcom/example/falkirk/falkirk/model/ShapeType;"), (6, .class_ 85), (1, u "java/lang/Enum"), (8, u "name"), (0, u "Ljava/lang/String;"), (8, u "fixedMemberNames"), (0, u "Ljava/util/List;"), (167, u "isA"), (0, u "(Lcom/example/falkirk/falkirk/model/ShapeType;)Z")] 28

def k6c0 : Code := { maxStack := 2, maxLocals := 2, code := prog_48_method_8_code, exceptionTable := #[], attributes := #[] }
def k6m0 : Method := { name := "isA", desc := "(Lcom/example/falkirk/falkirk/model/ShapeType;)Z", sig := { parameters := [(.object "com/example/falkirk/falkirk/model/ShapeType")], returnType := some .boolean }, accessFlags := 1, code := some k6c0 }
/-- com/example/falkirk/falkirk/model/ShapeType -/
def k6 : Class := { plain "com/example/falkirk/falkirk/model/ShapeType" (some 5) with
  accessFlags := 16433
  interfaces := #[]
  cf := some (fileOf pool6 1 #[] #[{ accessFlags := 1, nameIndex := 273, descriptorIndex := 274, attributes := #[] }] 16433 83 #[] #[{ accessFlags := 16409, nameIndex := 5, descriptorIndex := 6, attributes := #[] }, { accessFlags := 16409, nameIndex := 9, descriptorIndex := 6, attributes := #[] }, { accessFlags := 16409, nameIndex := 12, descriptorIndex := 6, attributes := #[] }, { accessFlags := 16409, nameIndex := 15, descriptorIndex := 6, attributes := #[] }, { accessFlags := 16409, nameIndex := 18, descriptorIndex := 6, attributes := #[] }, { accessFlags := 16409, nameIndex := 21, descriptorIndex := 6, attributes := #[] }, { accessFlags := 16409, nameIndex := 24, descriptorIndex := 6, attributes := #[] }, { accessFlags := 16409, nameIndex := 27, descriptorIndex := 6, attributes := #[] }, { accessFlags := 16409, nameIndex := 30, descriptorIndex := 6, attributes := #[] }, { accessFlags := 16409, nameIndex := 33, descriptorIndex := 6, attributes := #[] }, { accessFlags := 16409, nameIndex := 36, descriptorIndex := 6, attributes := #[] }, { accessFlags := 16409, nameIndex := 39, descriptorIndex := 6, attributes := #[] }, { accessFlags := 16409, nameIndex := 42, descriptorIndex := 6, attributes := #[] }, { accessFlags := 16409, nameIndex := 45, descriptorIndex := 6, attributes := #[] }, { accessFlags := 16409, nameIndex := 48, descriptorIndex := 6, attributes := #[] }, { accessFlags := 16409, nameIndex := 51, descriptorIndex := 6, attributes := #[] }, { accessFlags := 16409, nameIndex := 54, descriptorIndex := 6, attributes := #[] }, { accessFlags := 16409, nameIndex := 57, descriptorIndex := 6, attributes := #[] }, { accessFlags := 16409, nameIndex := 60, descriptorIndex := 6, attributes := #[] }, { accessFlags := 16409, nameIndex := 63, descriptorIndex := 6, attributes := #[] }, { accessFlags := 16409, nameIndex := 66, descriptorIndex := 6, attributes := #[] }, { accessFlags := 16409, nameIndex := 69, descriptorIndex := 6, attributes := #[] }, { accessFlags := 16409, nameIndex := 72, descriptorIndex := 6, attributes := #[] }, { accessFlags := 18, nameIndex := 94, descriptorIndex := 95, attributes := #[] }, { accessFlags := 18, nameIndex := 104, descriptorIndex := 105, attributes := #[] }, { accessFlags := 4122, nameIndex := 75, descriptorIndex := 76, attributes := #[] }])
  fields := #[{ name := "BLOB", type := (.object "com/example/falkirk/falkirk/model/ShapeType"), accessFlags := 16409, slot := 0, constantValue := 0 }, { name := "BOOLEAN", type := (.object "com/example/falkirk/falkirk/model/ShapeType"), accessFlags := 16409, slot := 1, constantValue := 0 }, { name := "STRING", type := (.object "com/example/falkirk/falkirk/model/ShapeType"), accessFlags := 16409, slot := 2, constantValue := 0 }, { name := "ENUM", type := (.object "com/example/falkirk/falkirk/model/ShapeType"), accessFlags := 16409, slot := 3, constantValue := 0 }, { name := "BYTE", type := (.object "com/example/falkirk/falkirk/model/ShapeType"), accessFlags := 16409, slot := 4, constantValue := 0 }, { name := "SHORT", type := (.object "com/example/falkirk/falkirk/model/ShapeType"), accessFlags := 16409, slot := 5, constantValue := 0 }, { name := "INTEGER", type := (.object "com/example/falkirk/falkirk/model/ShapeType"), accessFlags := 16409, slot := 6, constantValue := 0 }, { name := "INT_ENUM", type := (.object "com/example/falkirk/falkirk/model/ShapeType"), accessFlags := 16409, slot := 7, constantValue := 0 }, { name := "LONG", type := (.object "com/example/falkirk/falkirk/model/ShapeType"), accessFlags := 16409, slot := 8, constantValue := 0 }, { name := "FLOAT", type := (.object "com/example/falkirk/falkirk/model/ShapeType"), accessFlags := 16409, slot := 9, constantValue := 0 }, { name := "DOUBLE", type := (.object "com/example/falkirk/falkirk/model/ShapeType"), accessFlags := 16409, slot := 10, constantValue := 0 }, { name := "BIG_INTEGER", type := (.object "com/example/falkirk/falkirk/model/ShapeType"), accessFlags := 16409, slot := 11, constantValue := 0 }, { name := "BIG_DECIMAL", type := (.object "com/example/falkirk/falkirk/model/ShapeType"), accessFlags := 16409, slot := 12, constantValue := 0 }, { name := "TIMESTAMP", type := (.object "com/example/falkirk/falkirk/model/ShapeType"), accessFlags := 16409, slot := 13, constantValue := 0 }, { name := "DOCUMENT", type := (.object "com/example/falkirk/falkirk/model/ShapeType"), accessFlags := 16409, slot := 14, constantValue := 0 }, { name := "LIST", type := (.object "com/example/falkirk/falkirk/model/ShapeType"), accessFlags := 16409, slot := 15, constantValue := 0 }, { name := "MAP", type := (.object "com/example/falkirk/falkirk/model/ShapeType"), accessFlags := 16409, slot := 16, constantValue := 0 }, { name := "STRUCTURE", type := (.object "com/example/falkirk/falkirk/model/ShapeType"), accessFlags := 16409, slot := 17, constantValue := 0 }, { name := "UNION", type := (.object "com/example/falkirk/falkirk/model/ShapeType"), accessFlags := 16409, slot := 18, constantValue := 0 }, { name := "SERVICE", type := (.object "com/example/falkirk/falkirk/model/ShapeType"), accessFlags := 16409, slot := 19, constantValue := 0 }, { name := "OPERATION", type := (.object "com/example/falkirk/falkirk/model/ShapeType"), accessFlags := 16409, slot := 20, constantValue := 0 }, { name := "RESOURCE", type := (.object "com/example/falkirk/falkirk/model/ShapeType"), accessFlags := 16409, slot := 21, constantValue := 0 }, { name := "MEMBER", type := (.object "com/example/falkirk/falkirk/model/ShapeType"), accessFlags := 16409, slot := 22, constantValue := 0 }, { name := "name", type := (.object "java/lang/String"), accessFlags := 18, slot := 3, constantValue := 0 }, { name := "fixedMemberNames", type := (.object "java/util/List"), accessFlags := 18, slot := 4, constantValue := 0 }, { name := "$VALUES", type := (.array (.object "com/example/falkirk/falkirk/model/ShapeType")), accessFlags := 4122, slot := 23, constantValue := 0 }]
  methods := #[k6m0]
  instanceTypes := #[(.object "java/lang/String"), .int, .int, (.object "java/lang/String"), (.object "java/util/List")]
  staticTypes := #[(.object "com/example/falkirk/falkirk/model/ShapeType"), (.object "com/example/falkirk/falkirk/model/ShapeType"), (.object "com/example/falkirk/falkirk/model/ShapeType"), (.object "com/example/falkirk/falkirk/model/ShapeType"), (.object "com/example/falkirk/falkirk/model/ShapeType"), (.object "com/example/falkirk/falkirk/model/ShapeType"), (.object "com/example/falkirk/falkirk/model/ShapeType"), (.object "com/example/falkirk/falkirk/model/ShapeType"), (.object "com/example/falkirk/falkirk/model/ShapeType"), (.object "com/example/falkirk/falkirk/model/ShapeType"), (.object "com/example/falkirk/falkirk/model/ShapeType"), (.object "com/example/falkirk/falkirk/model/ShapeType"), (.object "com/example/falkirk/falkirk/model/ShapeType"), (.object "com/example/falkirk/falkirk/model/ShapeType"), (.object "com/example/falkirk/falkirk/model/ShapeType"), (.object "com/example/falkirk/falkirk/model/ShapeType"), (.object "com/example/falkirk/falkirk/model/ShapeType"), (.object "com/example/falkirk/falkirk/model/ShapeType"), (.object "com/example/falkirk/falkirk/model/ShapeType"), (.object "com/example/falkirk/falkirk/model/ShapeType"), (.object "com/example/falkirk/falkirk/model/ShapeType"), (.object "com/example/falkirk/falkirk/model/ShapeType"), (.object "com/example/falkirk/falkirk/model/ShapeType"), (.array (.object "com/example/falkirk/falkirk/model/ShapeType"))]
  resolved := Array.replicate 303 none
  statics := some 0 }

def pool7 : Array CpInfo := pool [(1, u "java/lang/Cloneable"), (0, .class_ 1), (0, u "java/lang/Object"), (0, .class_ 3)] 3

/-- java/lang/Cloneable -/
def k7 : Class := { plain "java/lang/Cloneable" (some 0) with
  accessFlags := 1537
  interfaces := #[]
  cf := some (fileOf pool7 2 #[] #[] 1537 4 #[] #[])
  fields := #[]
  methods := #[]
  instanceTypes := #[]
  staticTypes := #[]
  resolved := Array.replicate 8 none
  statics := none }

/-- the primitive byte -/
def k8 : Class := { plain "byte" none with kind := .primitive 'B', accessFlags := 0x411 }
/-- [B -/
def k9 : Class := { plain "[B" (some 0) with kind := .array 8 .byte, interfaces := #[7, 4], accessFlags := 1041 }

/-- the primitive int -/
def k10 : Class := { plain "int" none with kind := .primitive 'I', accessFlags := 0x411 }
/-- [I -/
def k11 : Class := { plain "[I" (some 0) with kind := .array 10 .int, interfaces := #[7, 4], accessFlags := 1041 }

/-- [Lcom/example/falkirk/falkirk/model/ShapeType; -/
def k12 : Class := { plain "[Lcom/example/falkirk/falkirk/model/ShapeType;" (some 0) with kind := .array 6 (.object "com/example/falkirk/falkirk/model/ShapeType"), interfaces := #[7, 4], accessFlags := 1041 }

def heap : Heap := #[{ cls := 6, slots := #[.ref 1, .ref 2, .ref 3, .ref 4, .ref 5, .ref 6, .ref 7, .ref 8, .ref 9, .ref 10, .ref 11, .ref 12, .ref 13, .ref 14, .ref 15, .ref 16, .ref 17, .ref 18, .ref 19, .ref 20, .ref 21, .ref 22, .ref 23, .null], vm := .statics 6 },
  { cls := 6, slots := #[.null, .int 0, .int 0, .null, .null], vm := .none },
  { cls := 6, slots := #[.null, .int 1, .int 0, .null, .null], vm := .none },
  { cls := 6, slots := #[.null, .int 2, .int 0, .null, .null], vm := .none },
  { cls := 6, slots := #[.null, .int 3, .int 0, .null, .null], vm := .none },
  { cls := 6, slots := #[.null, .int 4, .int 0, .null, .null], vm := .none },
  { cls := 6, slots := #[.null, .int 5, .int 0, .null, .null], vm := .none },
  { cls := 6, slots := #[.null, .int 6, .int 0, .null, .null], vm := .none },
  { cls := 6, slots := #[.null, .int 7, .int 0, .null, .null], vm := .none },
  { cls := 6, slots := #[.null, .int 8, .int 0, .null, .null], vm := .none },
  { cls := 6, slots := #[.null, .int 9, .int 0, .null, .null], vm := .none },
  { cls := 6, slots := #[.null, .int 10, .int 0, .null, .null], vm := .none },
  { cls := 6, slots := #[.null, .int 11, .int 0, .null, .null], vm := .none },
  { cls := 6, slots := #[.null, .int 12, .int 0, .null, .null], vm := .none },
  { cls := 6, slots := #[.null, .int 13, .int 0, .null, .null], vm := .none },
  { cls := 6, slots := #[.null, .int 14, .int 0, .null, .null], vm := .none },
  { cls := 6, slots := #[.null, .int 15, .int 0, .null, .null], vm := .none },
  { cls := 6, slots := #[.null, .int 16, .int 0, .null, .null], vm := .none },
  { cls := 6, slots := #[.null, .int 17, .int 0, .null, .null], vm := .none },
  { cls := 6, slots := #[.null, .int 18, .int 0, .null, .null], vm := .none },
  { cls := 6, slots := #[.null, .int 19, .int 0, .null, .null], vm := .none },
  { cls := 6, slots := #[.null, .int 20, .int 0, .null, .null], vm := .none },
  { cls := 6, slots := #[.null, .int 21, .int 0, .null, .null], vm := .none },
  { cls := 6, slots := #[.null, .int 22, .int 0, .null, .null], vm := .none }]
def classes : Array Class := #[k0, k1, k2, k3, k4, k5, k6, k7, k8, k9, k10, k11, k12]
def interned : List (Array UInt16 × Addr) := []
def slotsUsed : Nat := 139
def theMethod : MethodId := ⟨1, 1⟩
def args0 : Array Value := #[.int 5, .int 4]
def aboutOver (below : List Frame) : State where
  vm := { classes := classes, interned := interned.toArray }
  heap := heap
  slotsUsed := slotsUsed
  threads := #[{ frames := .invoking theMethod args0 :: below }]
def below0 : List Frame := [.native { method := ⟨0, 0⟩, args := #[] }]
def about1 : State := aboutOver below0
def p0 : Program := .bare "" "" ""
def e0 : Env := launch0.env 0 0 0
theorem w_frames : about1.frames = Frame.invoking theMethod args0 :: below0 := rfl
set_option maxRecDepth 65536 in
theorem w_args : argsFit about1.vm theMethod args0 = true := by decide +kernel
set_option maxRecDepth 65536 in
theorem w_heap : heapFits about1 = true := by decide +kernel
set_option maxRecDepth 65536 in
theorem w_runnable : about1.curStatus? = some .runnable := by decide +kernel
set_option maxRecDepth 65536 in
theorem w_alone : about1.alone = true := by decide +kernel
set_option maxRecDepth 65536 in
theorem w_named : about1.methodNamed? x = some theMethod := by decide +kernel
set_option maxRecDepth 65536 in
theorem w_hears : about1.hears theMethod below0 = true := by decide +kernel
set_option maxRecDepth 65536 in
theorem w_ripe : about1.ripe theMethod args0 below0 = true := by decide +kernel
theorem w_running : about1.status = .running := rfl
set_option maxRecDepth 65536 in
theorem w_room : about1.hasRoom e0.platform room_1 = true :=
  launch0.hasRoom_least _ room_1 (by decide +kernel) (by decide +kernel) (by decide +kernel) (by decide +kernel) (by decide +kernel) (by decide +kernel)
theorem allAtoms_all (ts : List Jvm.Cond) (a : Array Jvm.Value) (st : Jvm.State) : (allAtoms ts).before a st = ts.all (fun c => c.before a st) := by
  induction ts with
  | nil => rfl
  | cons c t ih =>
    show (Jvm.Cond.and c (allAtoms t)).before a st = _
    rw [Jvm.Cond.before_and, ih, List.all_cons]
def words1 : List Jvm.Cond := Jvm.Cond.code x code maxLocals ret :: tables_1
/-- a 'code' word, met by the world's own term for the bytes: nothing is compared byte by byte -/
theorem code_word {y : MethodName} {bytes : ByteArray} {mx : Nat} {rt : Option FieldType} {a : Array Value} {s : State} {m : MethodId} {meth : Method} {c : Code} (h1 : s.methodNamed? y = some m) (h2 : s.vm.method? m = some meth) (h3 : meth.code = some c) (h4 : c.code = bytes)
    (h5 : (c.maxLocals == mx && c.exceptionTable.isEmpty && decide (c.maxStack ≤ mostOperands) && decide (meth.sig.returnType = rt) && !meth.locks && decide (parseMethodDescriptor y.desc = some meth.sig)) = true) : (Jvm.Cond.code y bytes mx rt).before a s = true := by
  simp only [Bool.and_eq_true, beq_iff_eq, Bool.not_eq_true', decide_eq_true_eq] at h5
  obtain ⟨⟨⟨⟨⟨g1, g2⟩, g3⟩, g4⟩, g5⟩, g6⟩ := h5
  simp [Cond.before, Cond.holds, Cond.value, h1, h2, h3, h4, g1, g2, g3, g4, g5, g6]
def isCode : Jvm.Cond → Bool
  | .code _ _ _ _ => true
  | _ => false
theorem all_split {L : List Jvm.Cond} {P : Jvm.Cond → Bool} (h1 : L.all (fun c => isCode c || P c) = true) (h2 : ∀ c ∈ L.filter isCode, P c = true) : L.all P = true := by
  refine List.all_eq_true.mpr fun c hc => ?_
  have h := List.all_eq_true.mp h1 c hc
  rcases Bool.eq_false_or_eq_true (isCode c) with hi | hi
  · exact h2 c (List.mem_filter.mpr ⟨hc, hi⟩)
  · simpa [hi] using h
set_option maxRecDepth 65536 in
theorem w_c0 : (Jvm.Cond.code x code maxLocals ret).before args0 about1 = true := code_word (m := ⟨1, 1⟩) (meth := k1m1) (c := k1c1) (by decide +kernel) rfl rfl rfl (by decide +kernel)
set_option maxRecDepth 65536 in
theorem w_c1 : (Jvm.Cond.code ({ cls := "com/example/falkirk/falkirk/model/ShapeType", name := "isA", desc := "(Lcom/example/falkirk/falkirk/model/ShapeType;)Z" } : Jvm.MethodName) prog_48_method_8_code (2 : Nat) (Option.some Jvm.ClassFile.FieldType.boolean)).before args0 about1 = true := code_word (m := ⟨6, 0⟩) (meth := k6m0) (c := k6c0) (by decide +kernel) rfl rfl rfl (by decide +kernel)
def codes1 : List Jvm.Cond := [Jvm.Cond.code x code maxLocals ret, Jvm.Cond.code ({ cls := "com/example/falkirk/falkirk/model/ShapeType", name := "isA", desc := "(Lcom/example/falkirk/falkirk/model/ShapeType;)Z" } : Jvm.MethodName) prog_48_method_8_code (2 : Nat) (Option.some Jvm.ClassFile.FieldType.boolean)]
set_option maxRecDepth 65536 in
theorem codes_eq : words1.filter isCode = codes1 := rfl
theorem w_codes : ∀ c ∈ words1.filter isCode, c.before args0 about1 = true := by
  rw [codes_eq]
  intro c hc
  simp only [codes1, List.mem_cons, List.not_mem_nil, or_false] at hc
  rcases hc with rfl | rfl
  · exact w_c0
  · exact w_c1
set_option maxRecDepth 65536 in
theorem w_t1 : (words1.take 24).all (fun c => isCode c || c.before args0 about1) = true := by decide +kernel
set_option maxRecDepth 65536 in
theorem w_t2 : ((words1.drop 24).take 24).all (fun c => isCode c || c.before args0 about1) = true := by decide +kernel
set_option maxRecDepth 65536 in
theorem w_t3 : ((words1.drop 24).drop 24).all (fun c => isCode c || c.before args0 about1) = true := by decide +kernel
theorem w_tables : (allAtoms (Jvm.Cond.code x code maxLocals ret :: tables_1)).before args0 about1 = true := by
  rw [allAtoms_all]
  show words1.all (fun c => c.before args0 about1) = true
  refine all_split ?_ w_codes
  rw [← List.take_append_drop 24 words1, List.all_append, w_t1, ← List.take_append_drop 24 (words1.drop 24), List.all_append, w_t2, w_t3]
  rfl
set_option maxRecDepth 65536 in
theorem w_case : (Jvm.Cond.and given_1 narrow_1).before args0 about1 = true := by decide +kernel
theorem w_applies : (headSpec (Jvm.Cond.code x code maxLocals ret :: tables_1) room_1).applies x e0.platform about1 = true :=
  (Spec.applies_iff w_frames).mpr ⟨w_running, w_runnable, w_alone, w_named, w_hears, w_ripe, w_room, w_tables⟩
theorem atStart : AtStart classFile x code maxLocals ret World_1 tables_1 room_1 Calls_1 rest_1 Pre_1 launch0 p0 e0 about1 theMethod args0 below0 :=
  ⟨lists_1, trivial, launch0.admits_env _ _ _, launch0.least_env, fairChoices_fair.cas, fairChoices_fair.clock, w_frames, w_args, w_heap, w_applies, trivial, trivial, w_case⟩
end start1
theorem witness_1 : WitnessClaimed_1 := ⟨start1.p0, start1.e0, start1.about1, start1.theMethod, start1.args0, start1.below0, start1.atStart⟩
end Jvm.Pilot.@@N@@
