import JvmDerived
import JvmDerived.Pilot.@@N@@Statement
import JvmDerived.Pilot.@@N@@Code
set_option linter.unusedVariables false
set_option linter.unusedSimpArgs false
namespace Jvm.RoadKit
open Sem ClassFile Op Lib Jvm.Stand Jvm.Free Jvm.LawKit
section New
variable {p : Program} {l : Launch} {e : Env} {R : Room} {s : State} {m : MethodId} {args : Array Value} {below : List Frame} {meth : Method} {c : Code} {T : State} {locs : List Loc} {cells slots : Nat}
theorem retI (X : Stand p l e R s m args below meth c T locs cells slots) (hx : p.tables.exec = Jvm.exec) {pc : Nat} {Ls : Array Slot} {z : Int32} {rest : List Value} (hret : meth.sig.returnType = some .int) (hd : decode c.code pc = .ok (.ireturn, 1)) {fs : List Frame}
    (hl : ∀ (f : JFrame) (acts : List Action), f.method = m → f.locked = none → f.entered = [] → (doReturn e (T.setTop f) acts (some (.int z))).1 = T.setFrames fs) : Steps p.tables e below (T.setTop (mkF m pc Ls (.int z :: rest))) (T.setFrames fs) := by
  have hm' : T.vm.method? m = some meth := X.method'
  have hn : narrow .int (.int z) = .int z := rfl
  show Steps p.tables e below (T.setTop { method := m, pc := pc, locals := Ls, stack := _ :: rest, locked := none }) _
  jvm_step X.here [X.here.top, hx, hd, hm', hret, hn]
  first | (intro acts; rw [hl _ acts rfl rfl rfl]) | rw [hl _ _ rfl rfl rfl]
  exact Steps.refl _
theorem own_lremM {g : JFrame} {target : State} (X : Stand p l e R s m args below meth c T locs cells slots) (hx : p.tables.exec = Jvm.exec) (hg : g.method = m) {x y : Int64} {rest : List Value} (hd : decode c.code g.pc = .ok (.lrem, 1)) (hs : g.stack = .long y :: .long x :: rest) (hy : y ≠ 0)
    (hr : Steps p.tables e below (T.setTop { g with pc := g.pc + 1, stack := .long (x % y) :: rest }) target) : Steps p.tables e below (T.setTop g) target := by
  have q : x - x / y * y = x % y := lrem_mod x y
  exact XS.lrem X.here hx hg hd hs hy (by rw [q]; exact hr)
theorem own_getD_int (L : List Int32) (n : Nat) (d : Int32) : (L.map Value.int).getD n (.int d) = .int (L.getD n d) := by simp [List.getD_eq_getElem?_getD, List.getElem?_map]
theorem own_getD_long (L : List Int64) (n : Nat) (d : Int64) : (L.map Value.long).getD n (.long d) = .long (L.getD n d) := by simp [List.getD_eq_getElem?_getD, List.getElem?_map]
theorem own_lt_nat {j z : Int32} (h : ¬ j < 0) (q : j < z) : j.toNatClampNeg < z.toNatClampNeg := by
  rw [Int32.lt_iff_toInt_lt] at h q; have : (0 : Int32).toInt = 0 := rfl
  simp only [Int32.toNatClampNeg]; omega
theorem own_eq_int {t : Term} {v : Int32} {args : Array Value} {s : State} (h : (Cond.eq t (.int v)).value args s none s [] = some true) : t.eval args s none [] s = some (.int v) := by
  simp only [Cond.value, Term.eval] at h
  cases ht : t.eval args s none [] s with
  | none => simp [ht] at h
  | some x => cases x <;> simp [ht] at h ⊢; exact h
theorem own_eq_long {t : Term} {v : Int64} {args : Array Value} {s : State} (h : (Cond.eq t (.long v)).value args s none s [] = some true) : t.eval args s none [] s = some (.long v) := by
  simp only [Cond.value, Term.eval] at h
  cases ht : t.eval args s none [] s with
  | none => simp [ht] at h
  | some x => cases x <;> simp [ht] at h ⊢; exact h
theorem own_selpriv {s : State} {args : Array Value} {y : MethodName} {n : Nat} (wi : (Cond.instantiable y.cls n).before args s = true) (hpriv : s.PrivateAt y) (hinst : (Cond.instanceMethod y).before args s = true) (hy : y.cls ≠ "java/lang/invoke/MethodHandle" ∧ y.cls ≠ "java/lang/invoke/VarHandle") : (Cond.selects y.cls y y).before args s = true := by
  obtain ⟨c, k, h1, h2, -, h4, -⟩ := Cond.instantiable_spec wi
  exact Jvm.Stand.selects_self_of_private h1 h2 (Bool.or_eq_false_iff.mp h4).1 hpriv hinst hy
theorem own_len {t : Term} {x : Addr} {z : Int32} {cl : Cell} {args : Array Value} {s : State} (ht : t.eval args s none [] s = some (.ref x)) (h : (Term.length t).eval args s none [] s = some (.int z)) (ha : s.arrayAt? x = some cl) : cl.slots.size < 2 ^ 31 ∧ cl.slots.size.toInt32 = z := by
  by_cases q : cl.slots.size < 2 ^ 31
  · refine ⟨q, ?_⟩
    rw [len_f ht ha q] at h
    simpa using h
  · exfalso
    simp [Term.eval, ht, ha, q] at h
theorem own_pad {Z : State} {h : Heap} {a : Addr} {k : ClassId} {ty : FieldType} {z : Int32} {dv : Value} (A : Arv Z h a k ty z [] dv) (n : Nat) : Arv Z h a k ty z (List.replicate n dv) dv := A.pad (pad_rep [] dv n)
theorem own_refArr {Z : State} {a : Addr} {cl : Cell} {ty : FieldType} {z : Int32} (hf : Fit Z) (A : Arr Z Z.heap a cl ty) (q : cl.slots.size < 2 ^ 31) (e : cl.slots.size.toInt32 = z) (hz : ¬ z < 0) : Arv Z Z.heap a cl.cls ty z cl.slots.toList .null := by
  have S : cl.slots.size = z.toNatClampNeg := by rw [← e]; simp only [Int32.toNatClampNeg, len_toInt q]; rfl
  have H' : Has cl cl.slots.toList .null := fun j hj => by simp [List.getD, hj]
  refine ⟨cl, A, rfl, S, hz, H', fun j hj => ?_⟩
  have e1 : (Nat.toInt32 j).toNatClampNeg = j := by simp only [Int32.toNatClampNeg, len_toInt (Nat.lt_trans hj q)]; rfl
  exact elem_fits (j := Nat.toInt32 j) hf A (idx_in hj q) (by rw [e1]; exact H' j hj)
theorem own_ne_b {a b n : Nat} (h : a < n) (g : n ≤ b) : a ≠ b := Nat.ne_of_lt (Nat.lt_of_lt_of_le h g)
theorem own_cp_list (L : List Int32) (sp nn : Nat) : (List.take 0 (List.map Value.int (List.replicate nn (0 : Int32))) ++ (List.range nn).map (fun i => (List.map Value.int L).getD (sp + i) (.int (0 : Int32))) ++ List.drop (0 + nn) (List.map Value.int (List.replicate nn (0 : Int32)))) = List.map Value.int ((List.range nn).map (fun i => L.getD (sp + i) (0 : Int32))) := by
  rw [List.take_zero, List.nil_append, Nat.zero_add, List.drop_eq_nil_of_le (by simp), List.append_nil, List.map_map]
  exact List.map_congr_left fun i _ => own_getD_int L (sp + i) 0
theorem own_ne_oa {Z : State} {h : Heap} {a b : Addr} {C : String} {a0 : Array Value} {n : Nat} {k : ClassId} {ty : FieldType} {z : Int32} {vs : List Value} {dv : Value} (E : Exa Z h a C) (wi : (Cond.instantiable C n).before a0 Z = true) (V : Arv Z h b k ty z vs dv) : a ≠ b := by
  obtain ⟨c, A, -⟩ := V; exact ne_arr E wi A
theorem own_narb (P : Prop) [Decidable P] : nar .boolean (if P then (1 : Int32) else (0 : Int32)) = if P then (1 : Int32) else (0 : Int32) := by by_cases h : P <;> simp only [h, if_true, if_false] <;> rfl
end New
end Jvm.RoadKit
namespace Jvm.Pilot.@@N@@
open Jvm Jvm.ClassFile Sem Op Lib Jvm.Free Jvm.Stand Jvm.LawKit Jvm.RoadKit Bundle Jvm.Pilot.@@N@@.Jvm.D
abbrev cBs : String := "com/example/gavelbook/gavelbook/ByteStrings"
abbrev cOr : String := "com/example/gavelbook/gavelbook/Orders"
abbrev cKi : String := "com/example/gavelbook/gavelbook/Orders$Kind"
abbrev cLw : String := "com/example/gavelbook/gavelbook/OrdersQuantityPinLaw"
abbrev M0_ : MethodName := ⟨cLw, "kindOf", "(I)Lcom/example/gavelbook/gavelbook/Orders$Kind;"⟩
abbrev M1_ : MethodName := ⟨cOr, "<init>", "(I)V"⟩
abbrev M2_ : MethodName := ⟨"java/lang/Object", "<init>", "()V"⟩
abbrev M3_ : MethodName := ⟨"java/util/ArrayList", "<init>", "()V"⟩
abbrev M4_ : MethodName := ⟨"java/util/AbstractList", "<init>", "()V"⟩
abbrev M5_ : MethodName := ⟨"java/util/AbstractCollection", "<init>", "()V"⟩
abbrev M6_ : MethodName := ⟨"java/lang/Math", "max", "(II)I"⟩
abbrev M7_ : MethodName := ⟨cBs, "<init>", "(IIZ)V"⟩
abbrev M8_ : MethodName := ⟨"java/lang/Integer", "highestOneBit", "(I)I"⟩
abbrev M9_ : MethodName := ⟨"java/lang/Integer", "numberOfLeadingZeros", "(I)I"⟩
abbrev M10_ : MethodName := ⟨cOr, "add", "([BIIIIJLcom/example/gavelbook/gavelbook/Orders$Kind;JJJ)I"⟩
abbrev M11_ : MethodName := ⟨cBs, "add", "([BII)I"⟩
abbrev M12_ : MethodName := ⟨cBs, "value", "([BII)I"⟩
abbrev M13_ : MethodName := ⟨cBs, "spread", "(I)I"⟩
abbrev M14_ : MethodName := ⟨cBs, "append", "([BII)I"⟩
abbrev M15_ : MethodName := ⟨cBs, "end", "()I"⟩
abbrev M16_ : MethodName := ⟨"java/lang/System", "arraycopy", "(Ljava/lang/Object;ILjava/lang/Object;II)V"⟩
abbrev M17_ : MethodName := ⟨cKi, "ordinal", "()I"⟩
abbrev M18_ : MethodName := ⟨"java/lang/Enum", "ordinal", "()I"⟩
abbrev M19_ : MethodName := ⟨cBs, "equal", "(I[BII)Z"⟩
abbrev M20_ : MethodName := ⟨cBs, "start", "(I)I"⟩
abbrev M21_ : MethodName := ⟨cOr, "size", "()I"⟩
abbrev M22_ : MethodName := ⟨cOr, "quantity", "(I)J"⟩
abbrev M23_ : MethodName := ⟨cLw, "kindOf", "(I)Lcom/example/gavelbook/gavelbook/Orders$Kind;"⟩
abbrev M24_ : MethodName := ⟨cBs, "<init>", "(IIZ)V"⟩
abbrev M25_ : MethodName := ⟨cOr, "<init>", "(I)V"⟩
abbrev M26_ : MethodName := ⟨cBs, "end", "()I"⟩
abbrev M27_ : MethodName := ⟨cBs, "append", "([BII)I"⟩
abbrev M28_ : MethodName := ⟨cBs, "value", "([BII)I"⟩
abbrev M29_ : MethodName := ⟨cBs, "spread", "(I)I"⟩
abbrev M30_ : MethodName := ⟨cBs, "start", "(I)I"⟩
abbrev M31_ : MethodName := ⟨cBs, "equal", "(I[BII)Z"⟩
abbrev M32_ : MethodName := ⟨cBs, "add", "([BII)I"⟩
abbrev M33_ : MethodName := ⟨cOr, "add", "([BIIIIJLcom/example/gavelbook/gavelbook/Orders$Kind;JJJ)I"⟩
abbrev M34_ : MethodName := ⟨cKi, "ordinal", "()I"⟩
abbrev M35_ : MethodName := ⟨cOr, "size", "()I"⟩
abbrev M36_ : MethodName := ⟨cOr, "quantity", "(I)J"⟩
abbrev R0_ : Room := { frames := 0, cells := 0, slots := 0, locals := 0 }
abbrev R1_ : Room := { frames := 1, cells := 0, slots := 0, locals := 12 }
abbrev R2_ : Room := { frames := 2, cells := 0, slots := 0, locals := 24 }
abbrev R3_ : Room := { frames := 3, cells := 0, slots := 0, locals := 36 }
abbrev R4_ : Room := { frames := 1, cells := 0, slots := 0, locals := 15 }
abbrev R5_ : Room := { frames := 2, cells := 3, slots := 2805, locals := 28 }
abbrev R6_ : Room := { frames := 2, cells := 2, slots := 2295, locals := 28 }
abbrev R7_ : Room := { frames := 4, cells := 13, slots := 6146, locals := 50 }
abbrev R8_ : Room := { frames := 1, cells := 0, slots := 0, locals := 40 }
abbrev R9_ : Room := { frames := 1, cells := 0, slots := 0, locals := 13 }
abbrev R10_ : Room := { frames := 2, cells := 0, slots := 0, locals := 55 }
abbrev R11_ : Room := { frames := 1, cells := 0, slots := 0, locals := 18 }
abbrev R12_ : Room := { frames := 2, cells := 1, slots := 512, locals := 55 }
abbrev R13_ : Room := { frames := 2, cells := 0, slots := 0, locals := 31 }
abbrev R14_ : Room := { frames := 3, cells := 0, slots := 0, locals := 77 }
abbrev R15_ : Room := { frames := 3, cells := 1, slots := 512, locals := 77 }
abbrev R16_ : Room := { frames := 2, cells := 0, slots := 0, locals := 40 }
abbrev R17_ : Room := { frames := 3, cells := 0, slots := 0, locals := 53 }
abbrev C0_ : ByteArray := method_2_code
abbrev C1_ : ByteArray := jdk_37_method_2_code
abbrev C2_ : ByteArray := jdk_22_method_1_code
abbrev C3_ : ByteArray := jdk_39_method_1_code
abbrev C4_ : ByteArray := jdk_38_method_2_code
abbrev C5_ : ByteArray := jdk_29_method_65_code
abbrev C6_ : ByteArray := jdk_33_method_47_code
abbrev C7_ : ByteArray := jdk_33_method_45_code
abbrev C8_ : ByteArray := prog_10_method_1_code
abbrev C9_ : ByteArray := prog_25_method_1_code
abbrev C10_ : ByteArray := prog_10_method_8_code
abbrev C11_ : ByteArray := prog_10_method_4_code
abbrev C12_ : ByteArray := prog_10_method_3_code
abbrev C13_ : ByteArray := prog_10_method_12_code
abbrev C14_ : ByteArray := prog_10_method_7_code
abbrev C15_ : ByteArray := prog_10_method_9_code
abbrev C16_ : ByteArray := prog_10_method_2_code
abbrev C17_ : ByteArray := prog_25_method_2_code
abbrev C18_ : ByteArray := prog_25_method_3_code
abbrev C19_ : ByteArray := prog_25_method_10_code
theorem own_nb1 {a b n : Nat} (h : a < n) (g : b = n) : a ≠ b := Nat.ne_of_lt (Nat.lt_of_lt_of_le h (Nat.le_of_eq g.symm))
theorem mg {α : Type} {l : List α} {a : α} (i : Nat) (h : l[i]? = some a) : a ∈ l := List.mem_of_getElem? h
abbrev SF (p : Program) (e : Env) (b : List Frame) (T : State) (m : MethodId) (pc : Nat) (ls : Array Slot) (st : List Value) (t : State) : Prop := Steps p.tables e b (T.setTop (mkF m pc ls st)) t
abbrev HW (Z : State) (a0 : Array Value) : Prop := ∀ d ∈ tables_1, d.before a0 Z = true
def LD (Z : State) (a0 : Array Value) (C O n d : String) : Prop := Laid Z a0 C O n d ∧ ∃ t, parseFieldDescriptor d = some t
theorem own_sn {Z : State} {a0 : Array Value} {C O n d O' n' d' : String} (a : LD Z a0 C O n d) (b : LD Z a0 C O' n' d') (hn : n ≠ n') : Jvm.RoadKit.slotOf Z O n d ≠ Jvm.RoadKit.slotOf Z O' n' d' := by
  obtain ⟨x, t, ht⟩ := a
  obtain ⟨y, t', ht'⟩ := b
  exact slot_ne x y hn ht ht'
theorem w0 {Z a0} (hw : HW Z a0) : (Jvm.Cond.arrayClass Jvm.ClassFile.FieldType.byte).before a0 Z = true := hw _ (mg 0 rfl)
theorem w1 {Z a0} (hw : HW Z a0) : (Jvm.Cond.methodLink cLw (25 : Nat) M0_).before a0 Z = true := hw _ (mg 1 rfl)
theorem w2 {Z a0} (hw : HW Z a0) : (Jvm.Cond.static M0_).before a0 Z = true := hw _ (mg 2 rfl)
theorem w3 {Z a0} (hw : HW Z a0) : (Jvm.Cond.initialized cLw).before a0 Z = true := hw _ (mg 3 rfl)
theorem w4 {Z a0} (hw : HW Z a0) : (Jvm.Cond.code M0_ method_2_code (2 : Nat) (Option.some (Jvm.ClassFile.FieldType.object cKi))).before a0 Z = true := hw _ (mg 4 rfl)
theorem w5 {Z a0} (hw : HW Z a0) : (Jvm.Cond.fieldLink cLw (19 : Nat) cKi "BUY" "Lcom/example/gavelbook/gavelbook/Orders$Kind;").before a0 Z = true := hw _ (mg 5 rfl)
theorem w6 {Z a0} (hw : HW Z a0) : (Jvm.Cond.initialized cKi).before a0 Z = true := hw _ (mg 6 rfl)
theorem w7 {Z a0} (hw : HW Z a0) : (Jvm.Cond.laysStatic cKi "BUY" "Lcom/example/gavelbook/gavelbook/Orders$Kind;").before a0 Z = true := hw _ (mg 7 rfl)
theorem w8 {Z a0} (hw : HW Z a0) : (Jvm.Cond.fieldLink cLw (7 : Nat) cKi "LIMIT" "Lcom/example/gavelbook/gavelbook/Orders$Kind;").before a0 Z = true := hw _ (mg 8 rfl)
theorem w9 {Z a0} (hw : HW Z a0) : (Jvm.Cond.laysStatic cKi "LIMIT" "Lcom/example/gavelbook/gavelbook/Orders$Kind;").before a0 Z = true := hw _ (mg 9 rfl)
theorem w10 {Z a0} (hw : HW Z a0) : (Jvm.Cond.classLink cLw (31 : Nat) cOr).before a0 Z = true := hw _ (mg 10 rfl)
theorem w11 {Z a0} (hw : HW Z a0) : (Jvm.Cond.instantiable cOr (14 : Nat)).before a0 Z = true := hw _ (mg 11 rfl)
theorem w12 {Z a0} (hw : HW Z a0) : (Jvm.Cond.initialized cOr).before a0 Z = true := hw _ (mg 12 rfl)
theorem w13 {Z a0} (hw : HW Z a0) : (Jvm.Cond.methodLink cLw (33 : Nat) M1_).before a0 Z = true := hw _ (mg 13 rfl)
theorem w14 {Z a0} (hw : HW Z a0) : (Jvm.Cond.instanceMethod M1_).before a0 Z = true := hw _ (mg 14 rfl)
theorem w15 {Z a0} (hw : HW Z a0) : (Jvm.Cond.code M1_ prog_25_method_1_code (3 : Nat) (Option.none : Option Jvm.ClassFile.FieldType)).before a0 Z = true := hw _ (mg 15 rfl)
theorem w16 {Z a0} (hw : HW Z a0) : (Jvm.Cond.methodLink cOr (1 : Nat) M2_).before a0 Z = true := hw _ (mg 16 rfl)
theorem w17 {Z a0} (hw : HW Z a0) : (Jvm.Cond.instanceMethod M2_).before a0 Z = true := hw _ (mg 17 rfl)
theorem w18 {Z a0} (hw : HW Z a0) : (Jvm.Cond.code M2_ object_method_1_code (1 : Nat) (Option.none : Option Jvm.ClassFile.FieldType)).before a0 Z = true := hw _ (mg 18 rfl)
theorem w19 {Z a0} (hw : HW Z a0) : (Jvm.Cond.classLink cOr (7 : Nat) "java/util/ArrayList").before a0 Z = true := hw _ (mg 19 rfl)
theorem w20 {Z a0} (hw : HW Z a0) : (Jvm.Cond.instantiable "java/util/ArrayList" (3 : Nat)).before a0 Z = true := hw _ (mg 20 rfl)
theorem w21 {Z a0} (hw : HW Z a0) : (Jvm.Cond.initialized "java/util/ArrayList").before a0 Z = true := hw _ (mg 21 rfl)
theorem w22 {Z a0} (hw : HW Z a0) : (Jvm.Cond.methodLink cOr (9 : Nat) M3_).before a0 Z = true := hw _ (mg 22 rfl)
theorem w23 {Z a0} (hw : HW Z a0) : (Jvm.Cond.instanceMethod M3_).before a0 Z = true := hw _ (mg 23 rfl)
theorem w24 {Z a0} (hw : HW Z a0) : (Jvm.Cond.code M3_ jdk_38_method_2_code (1 : Nat) (Option.none : Option Jvm.ClassFile.FieldType)).before a0 Z = true := hw _ (mg 24 rfl)
theorem w25 {Z a0} (hw : HW Z a0) : (Jvm.Cond.methodLink "java/util/ArrayList" (1 : Nat) M4_).before a0 Z = true := hw _ (mg 25 rfl)
theorem w26 {Z a0} (hw : HW Z a0) : (Jvm.Cond.instanceMethod M4_).before a0 Z = true := hw _ (mg 26 rfl)
theorem w29 {Z a0} (hw : HW Z a0) : (Jvm.Cond.initialized "java/util/AbstractList").before a0 Z = true := hw _ (mg 29 rfl)
theorem w30 {Z a0} (hw : HW Z a0) : (Jvm.Cond.code M4_ jdk_39_method_1_code (1 : Nat) (Option.none : Option Jvm.ClassFile.FieldType)).before a0 Z = true := hw _ (mg 30 rfl)
theorem w31 {Z a0} (hw : HW Z a0) : (Jvm.Cond.methodLink "java/util/AbstractList" (1 : Nat) M5_).before a0 Z = true := hw _ (mg 31 rfl)
theorem w32 {Z a0} (hw : HW Z a0) : (Jvm.Cond.instanceMethod M5_).before a0 Z = true := hw _ (mg 32 rfl)
theorem w35 {Z a0} (hw : HW Z a0) : (Jvm.Cond.initialized "java/util/AbstractCollection").before a0 Z = true := hw _ (mg 35 rfl)
theorem w36 {Z a0} (hw : HW Z a0) : (Jvm.Cond.code M5_ jdk_22_method_1_code (1 : Nat) (Option.none : Option Jvm.ClassFile.FieldType)).before a0 Z = true := hw _ (mg 36 rfl)
theorem w37 {Z a0} (hw : HW Z a0) : (Jvm.Cond.methodLink "java/util/AbstractCollection" (1 : Nat) M2_).before a0 Z = true := hw _ (mg 37 rfl)
theorem w38 {Z a0} (hw : HW Z a0) : (Jvm.Cond.fieldLink "java/util/AbstractList" (7 : Nat) "java/util/AbstractList" "modCount" "I").before a0 Z = true := hw _ (mg 38 rfl)
theorem w39 {Z a0} (hw : HW Z a0) : (Jvm.Cond.lays "java/util/ArrayList" "java/util/AbstractList" "modCount" "I").before a0 Z = true := hw _ (mg 39 rfl)
theorem w40 {Z a0} (hw : HW Z a0) : (Jvm.Cond.fieldLink "java/util/ArrayList" (39 : Nat) "java/util/ArrayList" "DEFAULTCAPACITY_EMPTY_ELEMENTDATA" "[Ljava/lang/Object;").before a0 Z = true := hw _ (mg 40 rfl)
theorem w41 {Z a0} (hw : HW Z a0) : (Jvm.Cond.fieldLink "java/util/ArrayList" (9 : Nat) "java/util/ArrayList" "elementData" "[Ljava/lang/Object;").before a0 Z = true := hw _ (mg 41 rfl)
theorem w42 {Z a0} (hw : HW Z a0) : (Jvm.Cond.lays "java/util/ArrayList" "java/util/ArrayList" "elementData" "[Ljava/lang/Object;").before a0 Z = true := hw _ (mg 42 rfl)
theorem w43 {Z a0} (hw : HW Z a0) : (Jvm.Cond.fieldLink cOr (10 : Nat) cOr "unpacked" "Ljava/util/List;").before a0 Z = true := hw _ (mg 43 rfl)
theorem w44 {Z a0} (hw : HW Z a0) : (Jvm.Cond.laysFinal cOr cOr "unpacked" "Ljava/util/List;").before a0 Z = true := hw _ (mg 44 rfl)
theorem w45 {Z a0} (hw : HW Z a0) : (Jvm.Cond.fieldLink cOr (16 : Nat) cOr "KINDS" "[Lcom/example/gavelbook/gavelbook/Orders$Kind;").before a0 Z = true := hw _ (mg 45 rfl)
theorem w46 {Z a0} (hw : HW Z a0) : (Jvm.Cond.laysStatic cOr "KINDS" "[Lcom/example/gavelbook/gavelbook/Orders$Kind;").before a0 Z = true := hw _ (mg 46 rfl)
theorem w47 {Z a0} (hw : HW Z a0) : (Jvm.Cond.arrayClass Jvm.ClassFile.FieldType.int).before a0 Z = true := hw _ (mg 47 rfl)
theorem w48 {Z a0} (hw : HW Z a0) : (Jvm.Cond.fieldLink cOr (20 : Nat) cOr "kindCounts" "[I").before a0 Z = true := hw _ (mg 48 rfl)
theorem w49 {Z a0} (hw : HW Z a0) : (Jvm.Cond.laysFinal cOr cOr "kindCounts" "[I").before a0 Z = true := hw _ (mg 49 rfl)
theorem w50 {Z a0} (hw : HW Z a0) : (Jvm.Cond.constantLong cOr (26 : Nat) (9223372036854775807 : Int64)).before a0 Z = true := hw _ (mg 50 rfl)
theorem w51 {Z a0} (hw : HW Z a0) : (Jvm.Cond.fieldLink cOr (28 : Nat) cOr "leastPrice" "J").before a0 Z = true := hw _ (mg 51 rfl)
theorem w52 {Z a0} (hw : HW Z a0) : (Jvm.Cond.lays cOr cOr "leastPrice" "J").before a0 Z = true := hw _ (mg 52 rfl)
theorem w53 {Z a0} (hw : HW Z a0) : (Jvm.Cond.constantLong cOr (32 : Nat) (-9223372036854775808 : Int64)).before a0 Z = true := hw _ (mg 53 rfl)
theorem w54 {Z a0} (hw : HW Z a0) : (Jvm.Cond.fieldLink cOr (34 : Nat) cOr "mostPrice" "J").before a0 Z = true := hw _ (mg 54 rfl)
theorem w55 {Z a0} (hw : HW Z a0) : (Jvm.Cond.lays cOr cOr "mostPrice" "J").before a0 Z = true := hw _ (mg 55 rfl)
theorem w56 {Z a0} (hw : HW Z a0) : (Jvm.Cond.methodLink cOr (37 : Nat) M6_).before a0 Z = true := hw _ (mg 56 rfl)
theorem w57 {Z a0} (hw : HW Z a0) : (Jvm.Cond.static M6_).before a0 Z = true := hw _ (mg 57 rfl)
theorem w58 {Z a0} (hw : HW Z a0) : (Jvm.Cond.initialized "java/lang/Math").before a0 Z = true := hw _ (mg 58 rfl)
theorem w59 {Z a0} (hw : HW Z a0) : (Jvm.Cond.code M6_ jdk_29_method_65_code (2 : Nat) (Option.some Jvm.ClassFile.FieldType.int)).before a0 Z = true := hw _ (mg 59 rfl)
theorem w60 {Z a0} (hw : HW Z a0) : (Jvm.Cond.classLink cOr (43 : Nat) cBs).before a0 Z = true := hw _ (mg 60 rfl)
theorem w61 {Z a0} (hw : HW Z a0) : (Jvm.Cond.instantiable cBs (9 : Nat)).before a0 Z = true := hw _ (mg 61 rfl)
theorem w62 {Z a0} (hw : HW Z a0) : (Jvm.Cond.initialized cBs).before a0 Z = true := hw _ (mg 62 rfl)
theorem w63 {Z a0} (hw : HW Z a0) : (Jvm.Cond.methodLink cOr (45 : Nat) M7_).before a0 Z = true := hw _ (mg 63 rfl)
theorem w64 {Z a0} (hw : HW Z a0) : (Jvm.Cond.instanceMethod M7_).before a0 Z = true := hw _ (mg 64 rfl)
theorem w65 {Z a0} (hw : HW Z a0) : (Jvm.Cond.code M7_ prog_10_method_1_code (5 : Nat) (Option.none : Option Jvm.ClassFile.FieldType)).before a0 Z = true := hw _ (mg 65 rfl)
theorem w66 {Z a0} (hw : HW Z a0) : (Jvm.Cond.methodLink cBs (3 : Nat) M2_).before a0 Z = true := hw _ (mg 66 rfl)
theorem w67 {Z a0} (hw : HW Z a0) : (Jvm.Cond.methodLink cBs (9 : Nat) M6_).before a0 Z = true := hw _ (mg 67 rfl)
theorem w68 {Z a0} (hw : HW Z a0) : (Jvm.Cond.fieldLink cBs (15 : Nat) cBs "bytes" "[B").before a0 Z = true := hw _ (mg 68 rfl)
theorem w69 {Z a0} (hw : HW Z a0) : (Jvm.Cond.lays cBs cBs "bytes" "[B").before a0 Z = true := hw _ (mg 69 rfl)
theorem w70 {Z a0} (hw : HW Z a0) : (Jvm.Cond.fieldLink cBs (21 : Nat) cBs "ends" "[I").before a0 Z = true := hw _ (mg 70 rfl)
theorem w71 {Z a0} (hw : HW Z a0) : (Jvm.Cond.lays cBs cBs "ends" "[I").before a0 Z = true := hw _ (mg 71 rfl)
theorem w72 {Z a0} (hw : HW Z a0) : (Jvm.Cond.fieldLink cBs (25 : Nat) cBs "byValue" "[I").before a0 Z = true := hw _ (mg 72 rfl)
theorem w73 {Z a0} (hw : HW Z a0) : (Jvm.Cond.laysFinal cBs cBs "byValue" "[I").before a0 Z = true := hw _ (mg 73 rfl)
theorem w74 {Z a0} (hw : HW Z a0) : (Jvm.Cond.methodLink cBs (28 : Nat) M8_).before a0 Z = true := hw _ (mg 74 rfl)
theorem w75 {Z a0} (hw : HW Z a0) : (Jvm.Cond.static M8_).before a0 Z = true := hw _ (mg 75 rfl)
theorem w76 {Z a0} (hw : HW Z a0) : (Jvm.Cond.initialized "java/lang/Integer").before a0 Z = true := hw _ (mg 76 rfl)
theorem w77 {Z a0} (hw : HW Z a0) : (Jvm.Cond.code M8_ jdk_33_method_45_code (1 : Nat) (Option.some Jvm.ClassFile.FieldType.int)).before a0 Z = true := hw _ (mg 77 rfl)
theorem w78 {Z a0} (hw : HW Z a0) : (Jvm.Cond.constant "java/lang/Integer" (127 : Nat) (-2147483648 : Int32)).before a0 Z = true := hw _ (mg 78 rfl)
theorem w79 {Z a0} (hw : HW Z a0) : (Jvm.Cond.methodLink "java/lang/Integer" (51 : Nat) M9_).before a0 Z = true := hw _ (mg 79 rfl)
theorem w80 {Z a0} (hw : HW Z a0) : (Jvm.Cond.static M9_).before a0 Z = true := hw _ (mg 80 rfl)
theorem w81 {Z a0} (hw : HW Z a0) : (Jvm.Cond.code M9_ jdk_33_method_47_code (2 : Nat) (Option.some Jvm.ClassFile.FieldType.int)).before a0 Z = true := hw _ (mg 81 rfl)
theorem w82 {Z a0} (hw : HW Z a0) : (Jvm.Cond.constant "java/lang/Integer" (264 : Nat) (65536 : Int32)).before a0 Z = true := hw _ (mg 82 rfl)
theorem w83 {Z a0} (hw : HW Z a0) : (Jvm.Cond.fieldLink cBs (32 : Nat) cBs "expectedSlots" "I").before a0 Z = true := hw _ (mg 83 rfl)
theorem w84 {Z a0} (hw : HW Z a0) : (Jvm.Cond.laysFinal cBs cBs "expectedSlots" "I").before a0 Z = true := hw _ (mg 84 rfl)
theorem w85 {Z a0} (hw : HW Z a0) : (Jvm.Cond.fieldLink cOr (48 : Nat) cOr "ids" "Lcom/example/gavelbook/gavelbook/ByteStrings;").before a0 Z = true := hw _ (mg 85 rfl)
theorem w86 {Z a0} (hw : HW Z a0) : (Jvm.Cond.laysFinal cOr cOr "ids" "Lcom/example/gavelbook/gavelbook/ByteStrings;").before a0 Z = true := hw _ (mg 86 rfl)
theorem w87 {Z a0} (hw : HW Z a0) : (Jvm.Cond.fieldLink cOr (52 : Nat) cOr "memberNames" "Lcom/example/gavelbook/gavelbook/ByteStrings;").before a0 Z = true := hw _ (mg 87 rfl)
theorem w88 {Z a0} (hw : HW Z a0) : (Jvm.Cond.laysFinal cOr cOr "memberNames" "Lcom/example/gavelbook/gavelbook/ByteStrings;").before a0 Z = true := hw _ (mg 88 rfl)
theorem w89 {Z a0} (hw : HW Z a0) : (Jvm.Cond.arrayClass Jvm.ClassFile.FieldType.long).before a0 Z = true := hw _ (mg 89 rfl)
theorem w90 {Z a0} (hw : HW Z a0) : (Jvm.Cond.fieldLink cOr (55 : Nat) cOr "lines" "[J").before a0 Z = true := hw _ (mg 90 rfl)
theorem w91 {Z a0} (hw : HW Z a0) : (Jvm.Cond.lays cOr cOr "lines" "[J").before a0 Z = true := hw _ (mg 91 rfl)
theorem w92 {Z a0} (hw : HW Z a0) : (Jvm.Cond.fieldLink cOr (59 : Nat) cOr "kinds" "[B").before a0 Z = true := hw _ (mg 92 rfl)
theorem w93 {Z a0} (hw : HW Z a0) : (Jvm.Cond.lays cOr cOr "kinds" "[B").before a0 Z = true := hw _ (mg 93 rfl)
theorem w94 {Z a0} (hw : HW Z a0) : (Jvm.Cond.fieldLink cOr (63 : Nat) cOr "quantities" "[J").before a0 Z = true := hw _ (mg 94 rfl)
theorem w95 {Z a0} (hw : HW Z a0) : (Jvm.Cond.lays cOr cOr "quantities" "[J").before a0 Z = true := hw _ (mg 95 rfl)
theorem w96 {Z a0} (hw : HW Z a0) : (Jvm.Cond.fieldLink cOr (66 : Nat) cOr "prices" "[J").before a0 Z = true := hw _ (mg 96 rfl)
theorem w97 {Z a0} (hw : HW Z a0) : (Jvm.Cond.lays cOr cOr "prices" "[J").before a0 Z = true := hw _ (mg 97 rfl)
theorem w98 {Z a0} (hw : HW Z a0) : (Jvm.Cond.constantLong cLw (36 : Nat) (-1 : Int64)).before a0 Z = true := hw _ (mg 98 rfl)
theorem w99 {Z a0} (hw : HW Z a0) : (Jvm.Cond.methodLink cLw (38 : Nat) M10_).before a0 Z = true := hw _ (mg 99 rfl)
theorem w100 {Z a0} (hw : HW Z a0) : (Jvm.Cond.declares M10_).before a0 Z = true := hw _ (mg 100 rfl)
theorem w101 {Z a0} (hw : HW Z a0) : (Jvm.Cond.instanceMethod M10_).before a0 Z = true := hw _ (mg 101 rfl)
theorem w102 {Z a0} (hw : HW Z a0) : (Jvm.Cond.selects cOr M10_ M10_).before a0 Z = true := hw _ (mg 102 rfl)
theorem w103 {Z a0} (hw : HW Z a0) : (Jvm.Cond.code M10_ prog_25_method_2_code (18 : Nat) (Option.some Jvm.ClassFile.FieldType.int)).before a0 Z = true := hw _ (mg 103 rfl)
theorem w104 {Z a0} (hw : HW Z a0) : (Jvm.Cond.methodLink cOr (69 : Nat) M11_).before a0 Z = true := hw _ (mg 104 rfl)
theorem w105 {Z a0} (hw : HW Z a0) : (Jvm.Cond.declares M11_).before a0 Z = true := hw _ (mg 105 rfl)
theorem w106 {Z a0} (hw : HW Z a0) : (Jvm.Cond.instanceMethod M11_).before a0 Z = true := hw _ (mg 106 rfl)
theorem w107 {Z a0} (hw : HW Z a0) : (Jvm.Cond.selects cBs M11_ M11_).before a0 Z = true := hw _ (mg 107 rfl)
theorem w108 {Z a0} (hw : HW Z a0) : (Jvm.Cond.code M11_ prog_10_method_2_code (11 : Nat) (Option.some Jvm.ClassFile.FieldType.int)).before a0 Z = true := hw _ (mg 108 rfl)
theorem w109 {Z a0} (hw : HW Z a0) : (Jvm.Cond.methodLink cBs (40 : Nat) M12_).before a0 Z = true := hw _ (mg 109 rfl)
theorem w110 {Z a0} (hw : HW Z a0) : (Jvm.Cond.instanceMethod M12_).before a0 Z = true := hw _ (mg 110 rfl)
theorem w111 {Z a0} (hw : HW Z a0) : (Jvm.Cond.privateMethod M12_).before a0 Z = true := hw _ (mg 111 rfl)
theorem w112 {Z a0} (hw : HW Z a0) : (Jvm.Cond.code M12_ prog_10_method_3_code (7 : Nat) (Option.some Jvm.ClassFile.FieldType.int)).before a0 Z = true := hw _ (mg 112 rfl)
theorem w113 {Z a0} (hw : HW Z a0) : (Jvm.Cond.fieldLink cBs (43 : Nat) cBs "crowded" "Ljava/util/Map;").before a0 Z = true := hw _ (mg 113 rfl)
theorem w114 {Z a0} (hw : HW Z a0) : (Jvm.Cond.lays cBs cBs "crowded" "Ljava/util/Map;").before a0 Z = true := hw _ (mg 114 rfl)
theorem w115 {Z a0} (hw : HW Z a0) : (Jvm.Cond.fieldLink cBs (75 : Nat) cBs "slots" "[J").before a0 Z = true := hw _ (mg 115 rfl)
theorem w116 {Z a0} (hw : HW Z a0) : (Jvm.Cond.lays cBs cBs "slots" "[J").before a0 Z = true := hw _ (mg 116 rfl)
theorem w117 {Z a0} (hw : HW Z a0) : (Jvm.Cond.methodLink cBs (79 : Nat) M13_).before a0 Z = true := hw _ (mg 117 rfl)
theorem w118 {Z a0} (hw : HW Z a0) : (Jvm.Cond.static M13_).before a0 Z = true := hw _ (mg 118 rfl)
theorem w119 {Z a0} (hw : HW Z a0) : (Jvm.Cond.code M13_ prog_10_method_12_code (1 : Nat) (Option.some Jvm.ClassFile.FieldType.int)).before a0 Z = true := hw _ (mg 119 rfl)
theorem w120 {Z a0} (hw : HW Z a0) : (Jvm.Cond.methodLink cBs (36 : Nat) M14_).before a0 Z = true := hw _ (mg 120 rfl)
theorem w121 {Z a0} (hw : HW Z a0) : (Jvm.Cond.instanceMethod M14_).before a0 Z = true := hw _ (mg 121 rfl)
theorem w122 {Z a0} (hw : HW Z a0) : (Jvm.Cond.privateMethod M14_).before a0 Z = true := hw _ (mg 122 rfl)
theorem w123 {Z a0} (hw : HW Z a0) : (Jvm.Cond.code M14_ prog_10_method_4_code (4 : Nat) (Option.some Jvm.ClassFile.FieldType.int)).before a0 Z = true := hw _ (mg 123 rfl)
theorem w124 {Z a0} (hw : HW Z a0) : (Jvm.Cond.constant cBs (106 : Nat) (2147483631 : Int32)).before a0 Z = true := hw _ (mg 124 rfl)
theorem w125 {Z a0} (hw : HW Z a0) : (Jvm.Cond.methodLink cBs (107 : Nat) M15_).before a0 Z = true := hw _ (mg 125 rfl)
theorem w126 {Z a0} (hw : HW Z a0) : (Jvm.Cond.instanceMethod M15_).before a0 Z = true := hw _ (mg 126 rfl)
theorem w127 {Z a0} (hw : HW Z a0) : (Jvm.Cond.privateMethod M15_).before a0 Z = true := hw _ (mg 127 rfl)
theorem w128 {Z a0} (hw : HW Z a0) : (Jvm.Cond.code M15_ prog_10_method_8_code (1 : Nat) (Option.some Jvm.ClassFile.FieldType.int)).before a0 Z = true := hw _ (mg 128 rfl)
theorem w129 {Z a0} (hw : HW Z a0) : (Jvm.Cond.fieldLink cBs (58 : Nat) cBs "size" "I").before a0 Z = true := hw _ (mg 129 rfl)
theorem w130 {Z a0} (hw : HW Z a0) : (Jvm.Cond.lays cBs cBs "size" "I").before a0 Z = true := hw _ (mg 130 rfl)
theorem w131 {Z a0} (hw : HW Z a0) : (Jvm.Cond.methodLink cBs (134 : Nat) M16_).before a0 Z = true := hw _ (mg 131 rfl)
theorem w132 {Z a0} (hw : HW Z a0) : (Jvm.Cond.static M16_).before a0 Z = true := hw _ (mg 132 rfl)
theorem w133 {Z a0} (hw : HW Z a0) : (Jvm.Cond.initialized "java/lang/System").before a0 Z = true := hw _ (mg 133 rfl)
theorem w134 {Z a0} (hw : HW Z a0) : (Jvm.Cond.native M16_).before a0 Z = true := hw _ (mg 134 rfl)
theorem w135 {Z a0} (hw : HW Z a0) : (Jvm.Cond.fieldLink cBs (92 : Nat) cBs "hashed" "I").before a0 Z = true := hw _ (mg 135 rfl)
theorem w136 {Z a0} (hw : HW Z a0) : (Jvm.Cond.lays cBs cBs "hashed" "I").before a0 Z = true := hw _ (mg 136 rfl)
theorem w137 {Z a0} (hw : HW Z a0) : (Jvm.Cond.fieldLink cOr (73 : Nat) cOr "size" "I").before a0 Z = true := hw _ (mg 137 rfl)
theorem w138 {Z a0} (hw : HW Z a0) : (Jvm.Cond.lays cOr cOr "size" "I").before a0 Z = true := hw _ (mg 138 rfl)
theorem w139 {Z a0} (hw : HW Z a0) : (Jvm.Cond.constantLong cOr (89 : Nat) (-1 : Int64)).before a0 Z = true := hw _ (mg 139 rfl)
theorem w140 {Z a0} (hw : HW Z a0) : (Jvm.Cond.methodLink cOr (95 : Nat) M17_).before a0 Z = true := hw _ (mg 140 rfl)
theorem w141 {Z a0} (hw : HW Z a0) : (Jvm.Cond.sameMethod cKi "java/lang/Enum" "ordinal" "()I").before a0 Z = true := hw _ (mg 141 rfl)
theorem w142 {Z a0} (hw : HW Z a0) : (Jvm.Cond.declares M18_).before a0 Z = true := hw _ (mg 142 rfl)
theorem w143 {Z a0} (hw : HW Z a0) : (Jvm.Cond.instanceMethod M18_).before a0 Z = true := hw _ (mg 143 rfl)
theorem w144 {Z a0} (hw : HW Z a0) : (Jvm.Cond.selects cKi M17_ M18_).before a0 Z = true := hw _ (mg 144 rfl)
theorem w145 {Z a0} (hw : HW Z a0) : (Jvm.Cond.initialized "java/lang/Enum").before a0 Z = true := hw _ (mg 145 rfl)
theorem w146 {Z a0} (hw : HW Z a0) : (Jvm.Cond.code M18_ jdk_37_method_2_code (1 : Nat) (Option.some Jvm.ClassFile.FieldType.int)).before a0 Z = true := hw _ (mg 146 rfl)
theorem w147 {Z a0} (hw : HW Z a0) : (Jvm.Cond.fieldLink "java/lang/Enum" (7 : Nat) "java/lang/Enum" "ordinal" "I").before a0 Z = true := hw _ (mg 147 rfl)
theorem w149 {Z a0} (hw : HW Z a0) : (Jvm.Cond.fieldLink cOr (101 : Nat) cOr "byKind" "[[I").before a0 Z = true := hw _ (mg 149 rfl)
theorem w150 {Z a0} (hw : HW Z a0) : (Jvm.Cond.lays cOr cOr "byKind" "[[I").before a0 Z = true := hw _ (mg 150 rfl)
theorem w151 {Z a0} (hw : HW Z a0) : (Jvm.Cond.fieldLink cOr (86 : Nat) cOr "amounts" "[J").before a0 Z = true := hw _ (mg 151 rfl)
theorem w152 {Z a0} (hw : HW Z a0) : (Jvm.Cond.lays cOr cOr "amounts" "[J").before a0 Z = true := hw _ (mg 152 rfl)
theorem w153 {Z a0} (hw : HW Z a0) : (Jvm.Cond.constantLong cLw (42 : Nat) (2 : Int64)).before a0 Z = true := hw _ (mg 153 rfl)
theorem w154 {Z a0} (hw : HW Z a0) : (Jvm.Cond.constantLong cLw (44 : Nat) (3 : Int64)).before a0 Z = true := hw _ (mg 154 rfl)
theorem w155 {Z a0} (hw : HW Z a0) : (Jvm.Cond.methodLink cBs (82 : Nat) M19_).before a0 Z = true := hw _ (mg 155 rfl)
theorem w156 {Z a0} (hw : HW Z a0) : (Jvm.Cond.instanceMethod M19_).before a0 Z = true := hw _ (mg 156 rfl)
theorem w157 {Z a0} (hw : HW Z a0) : (Jvm.Cond.privateMethod M19_).before a0 Z = true := hw _ (mg 157 rfl)
theorem w158 {Z a0} (hw : HW Z a0) : (Jvm.Cond.code M19_ prog_10_method_9_code (7 : Nat) (Option.some Jvm.ClassFile.FieldType.boolean)).before a0 Z = true := hw _ (mg 158 rfl)
theorem w159 {Z a0} (hw : HW Z a0) : (Jvm.Cond.methodLink cBs (140 : Nat) M20_).before a0 Z = true := hw _ (mg 159 rfl)
theorem w160 {Z a0} (hw : HW Z a0) : (Jvm.Cond.instanceMethod M20_).before a0 Z = true := hw _ (mg 160 rfl)
theorem w161 {Z a0} (hw : HW Z a0) : (Jvm.Cond.privateMethod M20_).before a0 Z = true := hw _ (mg 161 rfl)
theorem w162 {Z a0} (hw : HW Z a0) : (Jvm.Cond.code M20_ prog_10_method_7_code (2 : Nat) (Option.some Jvm.ClassFile.FieldType.int)).before a0 Z = true := hw _ (mg 162 rfl)
theorem w163 {Z a0} (hw : HW Z a0) : (Jvm.Cond.methodLink cLw (46 : Nat) M21_).before a0 Z = true := hw _ (mg 163 rfl)
theorem w164 {Z a0} (hw : HW Z a0) : (Jvm.Cond.declares M21_).before a0 Z = true := hw _ (mg 164 rfl)
theorem w165 {Z a0} (hw : HW Z a0) : (Jvm.Cond.instanceMethod M21_).before a0 Z = true := hw _ (mg 165 rfl)
theorem w166 {Z a0} (hw : HW Z a0) : (Jvm.Cond.selects cOr M21_ M21_).before a0 Z = true := hw _ (mg 166 rfl)
theorem w167 {Z a0} (hw : HW Z a0) : (Jvm.Cond.code M21_ prog_25_method_3_code (1 : Nat) (Option.some Jvm.ClassFile.FieldType.int)).before a0 Z = true := hw _ (mg 167 rfl)
theorem w168 {Z a0} (hw : HW Z a0) : (Jvm.Cond.methodLink cLw (50 : Nat) M22_).before a0 Z = true := hw _ (mg 168 rfl)
theorem w169 {Z a0} (hw : HW Z a0) : (Jvm.Cond.declares M22_).before a0 Z = true := hw _ (mg 169 rfl)
theorem w170 {Z a0} (hw : HW Z a0) : (Jvm.Cond.instanceMethod M22_).before a0 Z = true := hw _ (mg 170 rfl)
theorem w171 {Z a0} (hw : HW Z a0) : (Jvm.Cond.selects cOr M22_ M22_).before a0 Z = true := hw _ (mg 171 rfl)
theorem w172 {Z a0} (hw : HW Z a0) : (Jvm.Cond.code M22_ prog_25_method_10_code (2 : Nat) (Option.some Jvm.ClassFile.FieldType.long)).before a0 Z = true := hw _ (mg 172 rfl)
theorem w173 {Z a0} (hw : HW Z a0) : (Jvm.Cond.fieldLink cLw (13 : Nat) cKi "NON_COMPETITIVE" "Lcom/example/gavelbook/gavelbook/Orders$Kind;").before a0 Z = true := hw _ (mg 173 rfl)
theorem w174 {Z a0} (hw : HW Z a0) : (Jvm.Cond.laysStatic cKi "NON_COMPETITIVE" "Lcom/example/gavelbook/gavelbook/Orders$Kind;").before a0 Z = true := hw _ (mg 174 rfl)
theorem w175 {Z a0} (hw : HW Z a0) : (Jvm.Cond.fieldLink cLw (16 : Nat) cKi "MARKET" "Lcom/example/gavelbook/gavelbook/Orders$Kind;").before a0 Z = true := hw _ (mg 175 rfl)
theorem w176 {Z a0} (hw : HW Z a0) : (Jvm.Cond.laysStatic cKi "MARKET" "Lcom/example/gavelbook/gavelbook/Orders$Kind;").before a0 Z = true := hw _ (mg 176 rfl)
theorem w177 {Z a0} (hw : HW Z a0) : (Jvm.Cond.fieldLink cLw (22 : Nat) cKi "SELL" "Lcom/example/gavelbook/gavelbook/Orders$Kind;").before a0 Z = true := hw _ (mg 177 rfl)
theorem w178 {Z a0} (hw : HW Z a0) : (Jvm.Cond.laysStatic cKi "SELL" "Lcom/example/gavelbook/gavelbook/Orders$Kind;").before a0 Z = true := hw _ (mg 178 rfl)
theorem w180 {Z a0} (hw : HW Z a0) : (Jvm.Cond.lays cOr cOr "uncounted" "Z").before a0 Z = true := hw _ (mg 180 rfl)
theorem w181 {Z a0} (hw : HW Z a0) : (Jvm.Cond.fieldLink cBs (86 : Nat) cBs "probes" "J").before a0 Z = true := hw _ (mg 181 rfl)
theorem w182 {Z a0} (hw : HW Z a0) : (Jvm.Cond.lays cBs cBs "probes" "J").before a0 Z = true := hw _ (mg 182 rfl)
theorem w183 {Z a0} (hw : HW Z a0) : (Jvm.Cond.constantLong cBs (90 : Nat) (16 : Int64)).before a0 Z = true := hw _ (mg 183 rfl)
theorem w184 {Z a0} (hw : HW Z a0) : (Jvm.Cond.constantLong cBs (95 : Nat) (1048576 : Int64)).before a0 Z = true := hw _ (mg 184 rfl)
theorem y44 {Z a0} (hw : HW Z a0) : LD Z a0 cOr cOr "unpacked" "Ljava/util/List;" := ⟨Or.inr (w44 hw), (.object "java/util/List"), by decide⟩
theorem y49 {Z a0} (hw : HW Z a0) : LD Z a0 cOr cOr "kindCounts" "[I" := ⟨Or.inr (w49 hw), (.array .int), by decide⟩
theorem y52 {Z a0} (hw : HW Z a0) : LD Z a0 cOr cOr "leastPrice" "J" := ⟨Or.inl (w52 hw), .long, by decide⟩
theorem y55 {Z a0} (hw : HW Z a0) : LD Z a0 cOr cOr "mostPrice" "J" := ⟨Or.inl (w55 hw), .long, by decide⟩
theorem y69 {Z a0} (hw : HW Z a0) : LD Z a0 cBs cBs "bytes" "[B" := ⟨Or.inl (w69 hw), (.array .byte), by decide⟩
theorem y71 {Z a0} (hw : HW Z a0) : LD Z a0 cBs cBs "ends" "[I" := ⟨Or.inl (w71 hw), (.array .int), by decide⟩
theorem y73 {Z a0} (hw : HW Z a0) : LD Z a0 cBs cBs "byValue" "[I" := ⟨Or.inr (w73 hw), (.array .int), by decide⟩
theorem y84 {Z a0} (hw : HW Z a0) : LD Z a0 cBs cBs "expectedSlots" "I" := ⟨Or.inr (w84 hw), .int, by decide⟩
theorem y86 {Z a0} (hw : HW Z a0) : LD Z a0 cOr cOr "ids" "Lcom/example/gavelbook/gavelbook/ByteStrings;" := ⟨Or.inr (w86 hw), (.object cBs), by decide⟩
theorem y88 {Z a0} (hw : HW Z a0) : LD Z a0 cOr cOr "memberNames" "Lcom/example/gavelbook/gavelbook/ByteStrings;" := ⟨Or.inr (w88 hw), (.object cBs), by decide⟩
theorem y91 {Z a0} (hw : HW Z a0) : LD Z a0 cOr cOr "lines" "[J" := ⟨Or.inl (w91 hw), (.array .long), by decide⟩
theorem y93 {Z a0} (hw : HW Z a0) : LD Z a0 cOr cOr "kinds" "[B" := ⟨Or.inl (w93 hw), (.array .byte), by decide⟩
theorem y95 {Z a0} (hw : HW Z a0) : LD Z a0 cOr cOr "quantities" "[J" := ⟨Or.inl (w95 hw), (.array .long), by decide⟩
theorem y97 {Z a0} (hw : HW Z a0) : LD Z a0 cOr cOr "prices" "[J" := ⟨Or.inl (w97 hw), (.array .long), by decide⟩
theorem y114 {Z a0} (hw : HW Z a0) : LD Z a0 cBs cBs "crowded" "Ljava/util/Map;" := ⟨Or.inl (w114 hw), (.object "java/util/Map"), by decide⟩
theorem y116 {Z a0} (hw : HW Z a0) : LD Z a0 cBs cBs "slots" "[J" := ⟨Or.inl (w116 hw), (.array .long), by decide⟩
theorem y130 {Z a0} (hw : HW Z a0) : LD Z a0 cBs cBs "size" "I" := ⟨Or.inl (w130 hw), .int, by decide⟩
theorem y136 {Z a0} (hw : HW Z a0) : LD Z a0 cBs cBs "hashed" "I" := ⟨Or.inl (w136 hw), .int, by decide⟩
theorem y138 {Z a0} (hw : HW Z a0) : LD Z a0 cOr cOr "size" "I" := ⟨Or.inl (w138 hw), .int, by decide⟩
theorem y152 {Z a0} (hw : HW Z a0) : LD Z a0 cOr cOr "amounts" "[J" := ⟨Or.inl (w152 hw), (.array .long), by decide⟩
theorem y180 {Z a0} (hw : HW Z a0) : LD Z a0 cOr cOr "uncounted" "Z" := ⟨Or.inl (w180 hw), .boolean, by decide⟩
theorem y182 {Z a0} (hw : HW Z a0) : LD Z a0 cBs cBs "probes" "J" := ⟨Or.inl (w182 hw), .long, by decide⟩
theorem own_dup2X1 {tb : Tables} [Ours tb] {e : Env} {below : List Frame} {T target : State} {m : MethodId} {c : Code} {g : JFrame} (h : At T m c below) (hx : tb.exec = Jvm.exec) (hg : g.method = m) {x : Int64} {y : Value} {rest : List Value} (hd : decode c.code g.pc = .ok (.dup2_x1, 1)) (hs : g.stack = .long x :: y :: rest) (hc : y.category = 1)
    (hr : Steps tb e below (T.setTop { g with pc := g.pc + 1, stack := .long x :: y :: .long x :: rest }) target) : Steps tb e below (T.setTop g) target := by
  subst hg
  jvm_step h [h.top, hx, hd, hs, hc, Value.category]
  exact ⟨hc, hr⟩
theorem own_one_nn {nn : Int32} (h : nn.toNatClampNeg = 1) : ¬ nn < 0 := by
  intro c; rw [Int32.lt_iff_toInt_lt] at c; have z0 : (0 : Int32).toInt = 0 := rfl; simp only [Int32.toNatClampNeg] at h; omega
theorem own_cp1_le {nn sp z : Int32} (h1 : nn.toNatClampNeg = 1) (hs : ¬ sp < 0 ∧ sp < z) : sp.toNatClampNeg + nn.toNatClampNeg ≤ z.toNatClampNeg := by
  rw [h1]; rw [Int32.lt_iff_toInt_lt, Int32.lt_iff_toInt_lt] at hs; have z0 : (0 : Int32).toInt = 0 := rfl; simp only [Int32.toNatClampNeg]; omega
theorem own_cp1 (L La : List Int32) (d s : Nat) (h : d < L.length) : (List.take d (List.map Value.int L) ++ (List.range 1).map (fun i => (List.map Value.int La).getD (s + i) (.int 0)) ++ List.drop (d + 1) (List.map Value.int L)) = List.map Value.int (L.set d (La.getD s (0 : Int32))) := by
  rw [List.map_set, List.set_eq_take_append_cons_drop, if_pos (by rw [List.length_map]; exact h)]
  have e : (List.range 1).map (fun i => (List.map Value.int La).getD (s + i) (.int 0)) = [Value.int (La.getD s (0 : Int32))] := by
    show [(List.map Value.int La).getD (s + 0) (.int 0)] = _
    rw [Nat.add_zero, List.getD_eq_getElem?_getD, List.getD_eq_getElem?_getD, List.getElem?_map]; cases La[s]? <;> rfl
  rw [e, List.append_assoc]; rfl
theorem own_di {p : Int32} (h : p = (1 : Int32)) : ¬ (p = (0 : Int32)) := by subst h; decide
theorem own_dm {p : Int32} (h : p = (0 : Int32)) : p = (0 : Int32) := h
theorem own_mulr {p l : Int32} (hl : 0 ≤ l.toInt ∧ l.toInt ≤ 8) (hc : ¬ p < (64 : Int32) ∧ p < (256 : Int32)) : (l * p).toInt = l.toInt * p.toInt ∧ 64 ≤ p.toInt ∧ p.toInt ≤ 255 := by
  rw [Int32.lt_iff_toInt_lt, Int32.lt_iff_toInt_lt] at hc
  have z6 : (64 : Int32).toInt = 64 := rfl
  have z2 : (256 : Int32).toInt = 256 := rfl
  have a := c_imul l p; have r := rng32 (l * p)
  have m1 : l.toInt * p.toInt ≤ 8 * 255 := Int.mul_le_mul hl.2 (by omega) (by omega) (by omega)
  have m2 : 0 ≤ l.toInt * p.toInt := Int.mul_nonneg hl.1 (by omega)
  omega
theorem own_nbi {p1 p2 : Int32} (hl : p2 = (8 : Int32)) (hc : ¬ p1 < (64 : Int32) ∧ p1 < (256 : Int32)) : ¬ (p2 * p1) < 0 := by
  subst hl; have h := own_mulr (l := 8) (by decide) hc; rw [Int32.lt_iff_toInt_lt]; have z0 : (0 : Int32).toInt = 0 := rfl; have z8 : (8 : Int32).toInt = 8 := rfl; rw [z8] at h; omega
theorem own_lbi {p1 p2 : Int32} (hl : p2 = (8 : Int32)) (hc : ¬ p1 < (64 : Int32) ∧ p1 < (256 : Int32)) : (p2 * p1).toNatClampNeg ≤ 2040 := by
  subst hl; have h := own_mulr (l := 8) (by decide) hc; have z8 : (8 : Int32).toInt = 8 := rfl; rw [z8] at h; simp only [Int32.toNatClampNeg]; omega
theorem own_nbm {p1 p2 : Int32} (hl : p2 = (4 : Int32)) (hc : ¬ p1 < (64 : Int32) ∧ p1 < (256 : Int32)) : ¬ (p2 * p1) < 0 := by
  subst hl; have h := own_mulr (l := 4) (by decide) hc; rw [Int32.lt_iff_toInt_lt]; have z0 : (0 : Int32).toInt = 0 := rfl; have z8 : (4 : Int32).toInt = 4 := rfl; rw [z8] at h; omega
theorem own_lbm {p1 p2 : Int32} (hl : p2 = (4 : Int32)) (hc : ¬ p1 < (64 : Int32) ∧ p1 < (256 : Int32)) : (p2 * p1).toNatClampNeg ≤ 2040 := by
  subst hl; have h := own_mulr (l := 4) (by decide) hc; have z8 : (4 : Int32).toInt = 4 := rfl; rw [z8] at h; simp only [Int32.toNatClampNeg]; omega
theorem own_n1 {p1 : Int32} (hc : ¬ p1 < (64 : Int32) ∧ p1 < (256 : Int32)) : ¬ p1 < 0 := by
  have h := own_mulr (l := 2) (by decide) hc; rw [Int32.lt_iff_toInt_lt]; have z0 : (0 : Int32).toInt = 0 := rfl; omega
theorem own_l1 {p1 : Int32} (hc : ¬ p1 < (64 : Int32) ∧ p1 < (256 : Int32)) : p1.toNatClampNeg ≤ 255 := by
  have h := own_mulr (l := 2) (by decide) hc; simp only [Int32.toNatClampNeg]; omega
theorem own_n2 {p1 : Int32} (hc : ¬ p1 < (64 : Int32) ∧ p1 < (256 : Int32)) : ¬ ((2 : Int32) * p1) < 0 := by
  have h := own_mulr (l := 2) (by decide) hc; rw [Int32.lt_iff_toInt_lt]; have z0 : (0 : Int32).toInt = 0 := rfl; have z8 : (2 : Int32).toInt = 2 := rfl; rw [z8] at h; omega
theorem own_l2 {p1 : Int32} (hc : ¬ p1 < (64 : Int32) ∧ p1 < (256 : Int32)) : ((2 : Int32) * p1).toNatClampNeg ≤ 510 := by
  have h := own_mulr (l := 2) (by decide) hc; have z8 : (2 : Int32).toInt = 2 := rfl; rw [z8] at h; simp only [Int32.toNatClampNeg]; omega
theorem own_p {p1 : Int32} (hc : ¬ p1 < (64 : Int32) ∧ p1 < (256 : Int32)) : (0 : Int32) < (p1 - (1 : Int32)) := by
  have h := own_mulr (l := 2) (by decide) hc; rw [Int32.lt_iff_toInt_lt]; have z0 : (0 : Int32).toInt = 0 := rfl; have z1 : (1 : Int32).toInt = 1 := rfl; have a := c_isub p1 1; have r := rng32 (p1 - 1); omega
theorem own_i1 {s n : Int32} (hs : ¬ s < 0 ∧ s < n) (c : ¬ (s = (0 : Int32))) : ¬ (s - (1 : Int32)) < 0 ∧ (s - (1 : Int32)) < n := by
  rw [Int32.lt_iff_toInt_lt, Int32.lt_iff_toInt_lt] at *; have z0 : (0 : Int32).toInt = 0 := rfl; have z1 : (1 : Int32).toInt = 1 := rfl
  have a := c_isub s 1; have r := rng32 (s - 1); have d : s.toInt ≠ 0 := fun e => c (Int32.toInt_inj.mp (e.trans z0.symm)); have q := rng32 n; omega
theorem own_t1 {p2 p3 : Int32} (ht : p3 = p2 + (1 : Int32)) (hk : ¬ p2 < 0 ∧ p2 < (3 : Int32)) : (p3 - p2).toInt = 1 ∧ p3.toInt = p2.toInt + 1 ∧ 0 ≤ p2.toInt ∧ p2.toInt < 3 := by
  subst ht; rw [Int32.lt_iff_toInt_lt, Int32.lt_iff_toInt_lt] at hk; have z0 : (0 : Int32).toInt = 0 := rfl; have z1 : (1 : Int32).toInt = 1 := rfl; have z3 : (3 : Int32).toInt = 3 := rfl
  have a := c_iadd p2 1; have r := rng32 (p2 + 1); have b := c_isub (p2 + 1) p2; have q := rng32 (p2 + 1 - p2); omega
theorem own_tn {p2 p3 : Int32} (ht : p3 = p2 + (1 : Int32)) (hk : ¬ p2 < 0 ∧ p2 < (3 : Int32)) : (p3 - p2).toNatClampNeg = 1 := by
  have h := own_t1 ht hk; simp only [Int32.toNatClampNeg]; omega
theorem own_dp {E n : Int32} (hE : ¬ E < 0 ∧ E < (60 : Int32)) (hb : ¬ n < (64 : Int32)) : ¬ E < 0 ∧ E < n := by
  rw [Int32.lt_iff_toInt_lt, Int32.lt_iff_toInt_lt] at *; have z6 : (60 : Int32).toInt = 60 := rfl; have z7 : (64 : Int32).toInt = 64 := rfl; omega
theorem own_ap1 {E p2 p3 : Int32} (ht : p3 = p2 + (1 : Int32)) (hk : ¬ p2 < 0 ∧ p2 < (3 : Int32)) (hE : ¬ E < 0 ∧ E < (60 : Int32)) : ¬ (((2147483631 : Int32) - E) < (p3 - p2)) := by
  have h := own_t1 ht hk; rw [Int32.lt_iff_toInt_lt, Int32.lt_iff_toInt_lt] at hE; rw [Int32.lt_iff_toInt_lt]; have z0 : (0 : Int32).toInt = 0 := rfl; have z6 : (60 : Int32).toInt = 60 := rfl; have z7 : (2147483631 : Int32).toInt = 2147483631 := rfl
  have a := c_isub 2147483631 E; have r := rng32 (2147483631 - E); omega
theorem own_ap2 {E n p2 p3 : Int32} (ht : p3 = p2 + (1 : Int32)) (hk : ¬ p2 < 0 ∧ p2 < (3 : Int32)) (hE : ¬ E < 0 ∧ E < (60 : Int32)) (hb : ¬ n < (64 : Int32)) : ¬ (n < ((E + p3) - p2)) := by
  have h := own_t1 ht hk; rw [Int32.lt_iff_toInt_lt, Int32.lt_iff_toInt_lt] at hE; rw [Int32.lt_iff_toInt_lt] at hb; rw [Int32.lt_iff_toInt_lt]; have z0 : (0 : Int32).toInt = 0 := rfl; have z6 : (60 : Int32).toInt = 60 := rfl; have z7 : (64 : Int32).toInt = 64 := rfl
  have a := c_iadd E p3; have r := rng32 (E + p3); have b := c_isub (E + p3) p2; have q := rng32 (E + p3 - p2); omega
theorem own_ap3 {s n : Int32} (hs : ¬ s < 0 ∧ s < n) : ¬ (s = n) := by intro e; rw [e] at hs; rw [Int32.lt_iff_toInt_lt, Int32.lt_iff_toInt_lt] at hs; omega
theorem own_v1 {p2 p3 : Int32} (ht : p3 = p2 + (1 : Int32)) (hk : ¬ p2 < 0 ∧ p2 < (3 : Int32)) : ¬ ((9 : Int32) < (p3 - p2)) := by
  have h := own_t1 ht hk; rw [Int32.lt_iff_toInt_lt]; have z : (9 : Int32).toInt = 9 := rfl; omega
theorem own_v2 {p2 p3 : Int32} (ht : p3 = p2 + (1 : Int32)) (hk : ¬ p2 < 0 ∧ p2 < (3 : Int32)) : ¬ (p3 = p2) := by
  have h := own_t1 ht hk; intro e; rw [e] at h; omega
theorem own_v3 {p2 p3 : Int32} (ht : p3 = p2 + (1 : Int32)) (hk : ¬ p2 < 0 ∧ p2 < (3 : Int32)) : ¬ ((1 : Int32) < (p3 - p2)) := by
  have h := own_t1 ht hk; rw [Int32.lt_iff_toInt_lt]; have z : (1 : Int32).toInt = 1 := rfl; omega
theorem own_v4 {p2 p3 : Int32} (ht : p3 = p2 + (1 : Int32)) (hk : ¬ p2 < 0 ∧ p2 < (3 : Int32)) : p2 < p3 := by
  have h := own_t1 ht hk; rw [Int32.lt_iff_toInt_lt]; omega
theorem own_v5 {p2 p3 : Int32} (ht : p3 = p2 + (1 : Int32)) : ¬ ((p2 + (1 : Int32)) < p3) := by subst ht; rw [Int32.lt_iff_toInt_lt]; omega
theorem own_v6 {d n : Int32} (hv : ¬ n < (64 : Int32)) (h0 : ¬ (d < (0 : Int32))) (h9 : ¬ ((9 : Int32) < d)) : (((10 : Int32) * (0 : Int32)) + d) < n := by
  have e : ((10 : Int32) * (0 : Int32)) + d = d := by rw [Int32.mul_zero, Int32.zero_add]
  rw [e]; rw [Int32.lt_iff_toInt_lt] at *; have z9 : (9 : Int32).toInt = 9 := rfl; have z7 : (64 : Int32).toInt = 64 := rfl; omega
theorem own_q1 {p1 p3 p4 : Int32} {L : List Int32} (h0 : p1 = (0 : Int32)) (hk : ¬ p3 < 0 ∧ p3 < (3 : Int32)) (ht : p4 = p3 + (1 : Int32)) (hl : (L.getD 0 (0 : Int32)) = (1 : Int32)) : ((L.getD (p1).toNatClampNeg (0 : Int32)) - (0 : Int32)) = (p4 - p3) := by
  subst h0; have h := own_t1 ht hk; rw [show (0 : Int32).toNatClampNeg = 0 from rfl, hl]; apply Int32.toInt_inj.mp; rw [h.1]; rfl
theorem own_q2 {p3 p4 : Int32} (hk : ¬ p3 < 0 ∧ p3 < (3 : Int32)) (ht : p4 = p3 + (1 : Int32)) : (0 : Int32) < (p4 - p3) := by
  have h := own_t1 ht hk; rw [Int32.lt_iff_toInt_lt]; have z : (0 : Int32).toInt = 0 := rfl; omega
theorem own_q3 {p3 p4 : Int32} (hk : ¬ p3 < 0 ∧ p3 < (3 : Int32)) (ht : p4 = p3 + (1 : Int32)) : ¬ (((0 : Int32) + (1 : Int32)) < (p4 - p3)) := by
  have h := own_t1 ht hk; rw [Int32.lt_iff_toInt_lt]; have z : ((0 : Int32) + (1 : Int32)).toInt = 1 := rfl; omega
theorem own_q4 {p3 : Int32} {L La : List Int32} (hk : ¬ p3 < 0 ∧ p3 < (3 : Int32)) (hy : (L.getD 0 (0 : Int32)) = (La.getD (p3).toNatClampNeg (0 : Int32))) : (L.getD (((0 : Int32) + (0 : Int32))).toNatClampNeg (0 : Int32)) = (La.getD ((p3 + (0 : Int32))).toNatClampNeg (0 : Int32)) := by
  rw [show ((0 : Int32) + (0 : Int32)).toNatClampNeg = 0 from rfl, Int32.add_zero]; exact hy
theorem own_q5 {p1 n : Int32} (h0 : p1 = (0 : Int32)) (hn : ¬ n < (64 : Int32)) : ¬ p1 < 0 ∧ p1 < n := by
  subst h0; refine ⟨by decide, ?_⟩; rw [Int32.lt_iff_toInt_lt] at *; have z0 : (0 : Int32).toInt = 0 := rfl; have z7 : (64 : Int32).toInt = 64 := rfl; omega
theorem own_q6 {n : Int32} (hn : ¬ n < (64 : Int32)) : ¬ ((0 : Int32) + (0 : Int32)) < 0 ∧ ((0 : Int32) + (0 : Int32)) < n := own_q5 rfl hn
theorem own_q7 {p3 : Int32} (hk : ¬ p3 < 0 ∧ p3 < (3 : Int32)) : ¬ (p3 + (0 : Int32)) < 0 ∧ (p3 + (0 : Int32)) < (3 : Int32) := by rw [Int32.add_zero]; exact hk
theorem own_dv {V n : Int32} (hv : ¬ n < (64 : Int32)) (hd : ¬ (V < (0 : Int32))) (h9 : V < (10 : Int32)) : ¬ V < 0 ∧ V < n := by
  refine ⟨hd, ?_⟩; rw [Int32.lt_iff_toInt_lt] at *; have z9 : (10 : Int32).toInt = 10 := rfl; have z7 : (64 : Int32).toInt = 64 := rfl; omega
theorem own_xs1 {n : Int32} (hx : ¬ n < (128 : Int32) ∧ n < (513 : Int32)) : ¬ n < 0 := by
  rw [Int32.lt_iff_toInt_lt, Int32.lt_iff_toInt_lt] at hx; rw [Int32.lt_iff_toInt_lt]; have z0 : (0 : Int32).toInt = 0 := rfl; have z7 : (128 : Int32).toInt = 128 := rfl; omega
theorem own_xs2 {n : Int32} (hx : ¬ n < (128 : Int32) ∧ n < (513 : Int32)) : n.toNatClampNeg ≤ 512 := by
  rw [Int32.lt_iff_toInt_lt, Int32.lt_iff_toInt_lt] at hx; simp only [Int32.toNatClampNeg]; have z7 : (513 : Int32).toInt = 513 := rfl; omega
theorem own_sl {x n : Int32} (hx : ¬ n < (128 : Int32) ∧ n < (513 : Int32)) : ¬ (x &&& (n - (1 : Int32))) < 0 ∧ (x &&& (n - (1 : Int32))) < n := by
  rw [Int32.lt_iff_toInt_lt, Int32.lt_iff_toInt_lt] at hx; rw [Int32.lt_iff_toInt_lt, Int32.lt_iff_toInt_lt]; have z0 : (0 : Int32).toInt = 0 := rfl; have z1 : (1 : Int32).toInt = 1 := rfl; have z7 : (128 : Int32).toInt = 128 := rfl; have z8 : (513 : Int32).toInt = 513 := rfl
  have a := c_isub n 1; have r := rng32 (n - 1); have b := c_and x (n - 1) (by omega); omega
theorem own_rep0 (n k : Nat) : ((List.replicate n (0 : Int64)).getD k (0 : Int64)) = (0 : Int64) := by
  rw [List.getD_eq_getElem?_getD, List.getElem?_replicate]; split <;> rfl
theorem own_fit {h n : Int32} (hh : h = (0 : Int32)) (hx : ¬ n < (128 : Int32) ∧ n < (513 : Int32)) : ¬ (n < ((2 : Int32) * (h + (1 : Int32)))) := by
  subst hh; rw [Int32.lt_iff_toInt_lt, Int32.lt_iff_toInt_lt] at hx; rw [Int32.lt_iff_toInt_lt]; have z2 : ((2 : Int32) * ((0 : Int32) + (1 : Int32))).toInt = 2 := rfl; have z7 : (128 : Int32).toInt = 128 := rfl; omega
theorem own_fit1 {h n : Int32} (hh : h = (1 : Int32)) (hx : ¬ n < (128 : Int32) ∧ n < (513 : Int32)) : ¬ (n < ((2 : Int32) * (h + (1 : Int32)))) := by
  subst hh; rw [Int32.lt_iff_toInt_lt, Int32.lt_iff_toInt_lt] at hx; rw [Int32.lt_iff_toInt_lt]; have z2 : ((2 : Int32) * ((1 : Int32) + (1 : Int32))).toInt = 4 := rfl; have z7 : (128 : Int32).toInt = 128 := rfl; omega
theorem own_prb {h : Int32} {q : Int64} (hh : h = (1 : Int32)) (hp : q = (0 : Int64)) : ¬ ((((16 : Int64) * (h.toInt64)) + (1048576 : Int64)) < (q + (1 : Int64))) := by subst hh; subst hp; decide
theorem own_oi {a b : Int32} (h : a = b) : ¬ (a < b) := by subst h; rw [Int32.lt_iff_toInt_lt]; omega
theorem own_oi2 {a b : Int32} (h : a = b) : ¬ (((a + (1 : Int32)) - (1 : Int32)) < b) := by subst h; rw [Int32.add_sub_cancel, Int32.lt_iff_toInt_lt]; omega
theorem own_ix {s n : Int32} (hn : ¬ s < 0 ∧ s < (60 : Int32)) (hl : ¬ n < (64 : Int32)) : ¬ s < 0 ∧ s < n := own_dp hn hl
theorem own_os {s n : Int32} (hn : ¬ s < 0 ∧ s < (60 : Int32)) (hl : ¬ n < (64 : Int32)) : ¬ (s = n) := own_ap3 (own_ix hn hl)
theorem d1_0 : decode C0_ 0 = .ok (.iload_n 0, 1) := by decide +kernel
theorem d1_1 : decode C0_ 1 = .ok (.iconst 5, 1) := by decide +kernel
theorem d1_2 : decode C0_ 2 = .ok (.irem, 1) := by decide +kernel
theorem d1_3 : decode C0_ 3 = .ok (.istore_n 1, 1) := by decide +kernel
theorem d1_4 : decode C0_ 4 = .ok (.iload_n 1, 1) := by decide +kernel
theorem d1_5 : decode C0_ 5 = .ok (.ifCond .ne 7, 3) := by decide +kernel
theorem d1_8 : decode C0_ 8 = .ok (.getstatic 7, 3) := by decide +kernel
theorem d1_11 : decode C0_ 11 = .ok (.areturn, 1) := by decide +kernel
theorem d1_12 : decode C0_ 12 = .ok (.iload_n 1, 1) := by decide +kernel
theorem d1_13 : decode C0_ 13 = .ok (.iconst 1, 1) := by decide +kernel
theorem d1_14 : decode C0_ 14 = .ok (.if_icmp .ne 7, 3) := by decide +kernel
theorem d1_17 : decode C0_ 17 = .ok (.getstatic 13, 3) := by decide +kernel
theorem d1_20 : decode C0_ 20 = .ok (.areturn, 1) := by decide +kernel
theorem d1_21 : decode C0_ 21 = .ok (.iload_n 1, 1) := by decide +kernel
theorem d1_22 : decode C0_ 22 = .ok (.iconst 2, 1) := by decide +kernel
theorem d1_23 : decode C0_ 23 = .ok (.if_icmp .ne 7, 3) := by decide +kernel
theorem d1_26 : decode C0_ 26 = .ok (.getstatic 16, 3) := by decide +kernel
theorem d1_29 : decode C0_ 29 = .ok (.areturn, 1) := by decide +kernel
theorem d1_30 : decode C0_ 30 = .ok (.iload_n 1, 1) := by decide +kernel
theorem d1_31 : decode C0_ 31 = .ok (.iconst 3, 1) := by decide +kernel
theorem d1_32 : decode C0_ 32 = .ok (.if_icmp .ne 7, 3) := by decide +kernel
theorem d1_35 : decode C0_ 35 = .ok (.getstatic 19, 3) := by decide +kernel
theorem d1_38 : decode C0_ 38 = .ok (.areturn, 1) := by decide +kernel
theorem d1_39 : decode C0_ 39 = .ok (.getstatic 22, 3) := by decide +kernel
theorem d1_42 : decode C0_ 42 = .ok (.areturn, 1) := by decide +kernel
theorem pn_26 : plainName cLw = true := by first | (simp [plainName, overriddenIn]; done) | decide +kernel
def v1_r_ordinal (p0 : Int32) : Int32 := (if (p0 % (5 : Int32)) = (0 : Int32) then (0 : Int32) else (if (p0 % (5 : Int32)) = (1 : Int32) then (1 : Int32) else (if (p0 % (5 : Int32)) = (2 : Int32) then (2 : Int32) else (if (p0 % (5 : Int32)) = (3 : Int32) then (3 : Int32) else (4 : Int32)))))
theorem ef_rm1 (m : MethodId) (p0 : Int32) : entryFrame m #[(.int p0)] 2 = mkF m 0 #[iv p0, .unset] [] := by first | (simp [entryFrame, mkF, argsToLocals, Value.category]; done) | rfl
def Q1 (Z : State) (p0 : Int32) (zcl zau : Addr) (zca o_BUY o_SELL : Addr) (h0 : Heap) (n0 : Nat) (v : Option Value) (h : Heap) (L : List Loc) : Prop := ∃ r : Addr, v = some (.ref r) ∧ Fr n0 L ∧ h = h0 ∧ Exa Z h r cKi ∧ Fld Z h r "java/lang/Enum" "ordinal" "I" (.int (v1_r_ordinal p0))
set_option maxRecDepth 65536 in
set_option maxHeartbeats 40000000 in
theorem rm1 (l : Launch) (Z : State) (a0 : Array Value) (hw : HW Z a0) (ws : List Jvm.Cond) (p0 : Int32) (zcl zau : Addr) (zca o_BUY o_SELL : Addr) (h0 : Heap) (n0 : Nat) (Z0 : n0 ≤ h0.size) (zjz : Sta Z Z.heap cKi "LIMIT" "Lcom/example/gavelbook/gavelbook/Orders$Kind;" (.ref zcl)) (O0 : Old Z n0 h0) (zht : Exa Z Z.heap zcl cKi) (zfx : Fld Z Z.heap zcl "java/lang/Enum" "ordinal" "I" (.int 0)) (zgp : Sta Z Z.heap cKi "NON_COMPETITIVE" "Lcom/example/gavelbook/gavelbook/Orders$Kind;" (.ref zau)) (zdz : Exa Z Z.heap zau cKi) (zdt : Fld Z Z.heap zau "java/lang/Enum" "ordinal" "I" (.int 1)) (zjx : Sta Z Z.heap cKi "MARKET" "Lcom/example/gavelbook/gavelbook/Orders$Kind;" (.ref zca)) (zhf : Exa Z Z.heap zca cKi) (zfi : Fld Z Z.heap zca "java/lang/Enum" "ordinal" "I" (.int 2)) (S_BUY : Sta Z Z.heap cKi "BUY" "Lcom/example/gavelbook/gavelbook/Orders$Kind;" (.ref o_BUY)) (ziv : Exa Z Z.heap o_BUY cKi) (zgt : Fld Z Z.heap o_BUY "java/lang/Enum" "ordinal" "I" (.int 3)) (S_SELL : Sta Z Z.heap cKi "SELL" "Lcom/example/gavelbook/gavelbook/Orders$Kind;" (.ref o_SELL)) (zif : Exa Z Z.heap o_SELL cKi) (zge : Fld Z Z.heap o_SELL "java/lang/Enum" "ordinal" "I" (.int 4)) :
  MetFree l M23_ (head1 (Jvm.Cond.code M23_ method_2_code 2 (some (.object cKi)) :: ws) R0_) (fun a U => a = #[(.int p0)] ∧ Z.Warmed39 U.vm ∧ U.heap = h0) (fun _ _ _ _ _ => True) (fun _ U o U' => ∃ v L, o = .returned v ∧ Q1 Z p0 zcl zau zca o_BUY o_SELL h0 n0 v U'.heap L ∧ FrameEnd U o U' L R0_.cells R0_.slots) := by
 refine MetFree.of_bodySF (plainFor_of_name pn_26) hisR ?_
 intro p e s m args below meth c s₁ Bd hml0 hP hK
 obtain ⟨rfl, hZ, hh⟩ := hP
 have hx := Bd.exec
 have hlk : meth.locks = false := by first | exact BodyLoose.notSynchronized Bd | exact Body.notSynchronized Bd
 have hby := Bd.bytes
 have hml : c.maxLocals = 2 := hml0
 have hown : s.vm.findClass cLw = some m.cls := findClass_of_methodNamed Bd.named
 have hnm := (name_of_methodNamed Bd.named Bd.method).1
 have X0 : Stand p l e R0_ s m #[(.int p0)] below meth c s₁ [] 0 0 := Stand.of_body Bd
 have e0 : s₁.heap = h0 := by rw [← hh, Bd.state]; rfl
 have N0 := Fr.nil n0
 have KC0 := Keep.refl h0 ([] : List Addr)
 let o1 : Array Slot := #[iv p0, iv (p0 % (5 : Int32))]
 have pre0 : ∀ t, SF p e below s₁ m 0 #[iv p0, .unset] [] t → Steps p.tables e below (s₁.setTop (entryFrame m #[(.int p0)] 2)) t := fun t k => castTop (ef_rm1 m p0) k
 have k1 := fun t (kk : SF p e below s₁ m 5 o1 [(.int (p0 % (5 : Int32)))] t) => pre0 t (by
  refine XS.iloadN X0.here hx rfl (hb hby d1_0) rfl ?_
  refine XS.iconst X0.here hx rfl (hb hby d1_1) ?_
  refine iremM X0 hx rfl (hb hby d1_2) rfl (by decide) ?_
  refine XS.istoreN X0.here hx rfl (hb hby d1_3) rfl (l' := o1) rfl ?_
  show SF p e below s₁ m 4 o1 [] _
  refine XS.iloadN X0.here hx rfl (hb hby d1_4) rfl ?_
  exact kk)
 by_cases hc5_2 : (p0 % (5 : Int32)) = (0 : Int32)
 ·have k3 := fun t (kk : SF p e below s₁ m 8 o1 [] t) => k1 t (by
   refine XS.ifNo X0.here hx rfl (hb hby d1_5) rfl ((if0 _ _).trans (teq hc5_2).2) ?_
   exact kk)
  have f4 := zjz.ext O0.2
  obtain ⟨T5, X5, e5, st5⟩ := getS2 X0 hx hZ hown (host := "") (Or.inl (w8 hw)) Via.refl e0 f4 (g := (mkF m 8 o1 [])) rfl (hb hby d1_8)
  have k6 := fun t (kk : SF p e below T5 m 11 o1 [(.ref zcl)] t) => k3 t (st5 _ kk)
  obtain ⟨fs, hr, hrun, hended, hW, hsame⟩ := X5.leave (v := some (.ref zcl)) (fun h => by rw [Bd.returns] at h; cases h) hlk
  have f7 := zht.ext O0.2
  have f8 := zfx.ext O0.2
  have hf9 : (v1_r_ordinal p0) = (0 : Int32) := (if_pos hc5_2)
  refine ⟨_, _, k6 _ ?_, hrun, hended, _, _, rfl, ?_, ⟨_, rfl⟩, hW, hsame.mono (by decide) (by decide)⟩
  ·show SF p e below T5 m 11 o1 [(.ref zcl)] _
   exact retOut X5 hx (t := (.object cKi)) Bd.returns rfl (Or.inr (Or.inr (Or.inr (Or.inr ⟨rfl, rfl, rfl⟩)))) (hb hby d1_11) hr
  ·show Q1 Z p0 zcl zau zca o_BUY o_SELL h0 n0 _ T5.heap _
   rw [e5]
   exact ⟨zcl, rfl, N0, rfl, f7, (by rw [hf9]; exact f8)⟩
 ·have k10 := fun t (kk : SF p e below s₁ m 14 o1 [(.int 1), (.int (p0 % (5 : Int32)))] t) => k1 t (by
   refine XS.ifYes X0.here hx rfl (pc0 := 5) (pc' := 12) rfl (hb hby d1_5) rfl ((if0 _ _).trans (feq hc5_2).2) (by decide) (by decide) ?_
   refine XS.iloadN X0.here hx rfl (hb hby d1_12) rfl ?_
   refine XS.iconst X0.here hx rfl (hb hby d1_13) ?_
   exact kk)
  by_cases hc14_11 : (p0 % (5 : Int32)) = (1 : Int32)
  ·have k12 := fun t (kk : SF p e below s₁ m 17 o1 [] t) => k10 t (by
    refine XS.icmpNo X0.here hx rfl (hb hby d1_14) rfl (teq hc14_11).2 ?_
    exact kk)
   have f13 := zgp.ext O0.2
   obtain ⟨T14, X14, e14, st14⟩ := getS2 X0 hx hZ hown (host := "") (Or.inl (w173 hw)) Via.refl e0 f13 (g := (mkF m 17 o1 [])) rfl (hb hby d1_17)
   have k15 := fun t (kk : SF p e below T14 m 20 o1 [(.ref zau)] t) => k12 t (st14 _ kk)
   obtain ⟨fs, hr, hrun, hended, hW, hsame⟩ := X14.leave (v := some (.ref zau)) (fun h => by rw [Bd.returns] at h; cases h) hlk
   have f16 := zdz.ext O0.2
   have f17 := zdt.ext O0.2
   have hf18 : (v1_r_ordinal p0) = (1 : Int32) := ((if_neg hc5_2).trans (if_pos hc14_11))
   refine ⟨_, _, k15 _ ?_, hrun, hended, _, _, rfl, ?_, ⟨_, rfl⟩, hW, hsame.mono (by decide) (by decide)⟩
   ·show SF p e below T14 m 20 o1 [(.ref zau)] _
    exact retOut X14 hx (t := (.object cKi)) Bd.returns rfl (Or.inr (Or.inr (Or.inr (Or.inr ⟨rfl, rfl, rfl⟩)))) (hb hby d1_20) hr
   ·show Q1 Z p0 zcl zau zca o_BUY o_SELL h0 n0 _ T14.heap _
    rw [e14]
    exact ⟨zau, rfl, N0, rfl, f16, (by rw [hf18]; exact f17)⟩
  ·have k19 := fun t (kk : SF p e below s₁ m 23 o1 [(.int 2), (.int (p0 % (5 : Int32)))] t) => k10 t (by
    refine XS.icmpYes X0.here hx rfl (pc0 := 14) (pc' := 21) rfl (hb hby d1_14) rfl (feq hc14_11).2 (by decide) (by decide) ?_
    refine XS.iloadN X0.here hx rfl (hb hby d1_21) rfl ?_
    refine XS.iconst X0.here hx rfl (hb hby d1_22) ?_
    exact kk)
   by_cases hc23_20 : (p0 % (5 : Int32)) = (2 : Int32)
   ·have k21 := fun t (kk : SF p e below s₁ m 26 o1 [] t) => k19 t (by
     refine XS.icmpNo X0.here hx rfl (hb hby d1_23) rfl (teq hc23_20).2 ?_
     exact kk)
    have f22 := zjx.ext O0.2
    obtain ⟨T23, X23, e23, st23⟩ := getS2 X0 hx hZ hown (host := "") (Or.inl (w175 hw)) Via.refl e0 f22 (g := (mkF m 26 o1 [])) rfl (hb hby d1_26)
    have k24 := fun t (kk : SF p e below T23 m 29 o1 [(.ref zca)] t) => k21 t (st23 _ kk)
    obtain ⟨fs, hr, hrun, hended, hW, hsame⟩ := X23.leave (v := some (.ref zca)) (fun h => by rw [Bd.returns] at h; cases h) hlk
    have f25 := zhf.ext O0.2
    have f26 := zfi.ext O0.2
    have hf27 : (v1_r_ordinal p0) = (2 : Int32) := ((if_neg hc5_2).trans ((if_neg hc14_11).trans (if_pos hc23_20)))
    refine ⟨_, _, k24 _ ?_, hrun, hended, _, _, rfl, ?_, ⟨_, rfl⟩, hW, hsame.mono (by decide) (by decide)⟩
    ·show SF p e below T23 m 29 o1 [(.ref zca)] _
     exact retOut X23 hx (t := (.object cKi)) Bd.returns rfl (Or.inr (Or.inr (Or.inr (Or.inr ⟨rfl, rfl, rfl⟩)))) (hb hby d1_29) hr
    ·show Q1 Z p0 zcl zau zca o_BUY o_SELL h0 n0 _ T23.heap _
     rw [e23]
     exact ⟨zca, rfl, N0, rfl, f25, (by rw [hf27]; exact f26)⟩
   ·have k28 := fun t (kk : SF p e below s₁ m 32 o1 [(.int 3), (.int (p0 % (5 : Int32)))] t) => k19 t (by
     refine XS.icmpYes X0.here hx rfl (pc0 := 23) (pc' := 30) rfl (hb hby d1_23) rfl (feq hc23_20).2 (by decide) (by decide) ?_
     refine XS.iloadN X0.here hx rfl (hb hby d1_30) rfl ?_
     show SF p e below s₁ m 31 o1 [(.int (p0 % (5 : Int32)))] _
     refine XS.iconst X0.here hx rfl (hb hby d1_31) ?_
     exact kk)
    by_cases hc32_29 : (p0 % (5 : Int32)) = (3 : Int32)
    ·have k30 := fun t (kk : SF p e below s₁ m 35 o1 [] t) => k28 t (by
      refine XS.icmpNo X0.here hx rfl (hb hby d1_32) rfl (teq hc32_29).2 ?_
      exact kk)
     have f31 := S_BUY.ext O0.2
     obtain ⟨T32, X32, e32, st32⟩ := getS2 X0 hx hZ hown (host := "") (Or.inl (w5 hw)) Via.refl e0 f31 (g := (mkF m 35 o1 [])) rfl (hb hby d1_35)
     have k33 := fun t (kk : SF p e below T32 m 38 o1 [(.ref o_BUY)] t) => k30 t (st32 _ kk)
     obtain ⟨fs, hr, hrun, hended, hW, hsame⟩ := X32.leave (v := some (.ref o_BUY)) (fun h => by rw [Bd.returns] at h; cases h) hlk
     have f34 := ziv.ext O0.2
     have f35 := zgt.ext O0.2
     have hf36 : (v1_r_ordinal p0) = (3 : Int32) := ((if_neg hc5_2).trans ((if_neg hc14_11).trans ((if_neg hc23_20).trans (if_pos hc32_29))))
     refine ⟨_, _, k33 _ ?_, hrun, hended, _, _, rfl, ?_, ⟨_, rfl⟩, hW, hsame.mono (by decide) (by decide)⟩
     ·show SF p e below T32 m 38 o1 [(.ref o_BUY)] _
      exact retOut X32 hx (t := (.object cKi)) Bd.returns rfl (Or.inr (Or.inr (Or.inr (Or.inr ⟨rfl, rfl, rfl⟩)))) (hb hby d1_38) hr
     ·show Q1 Z p0 zcl zau zca o_BUY o_SELL h0 n0 _ T32.heap _
      rw [e32]
      exact ⟨o_BUY, rfl, N0, rfl, f34, (by rw [hf36]; exact f35)⟩
    ·have k37 := fun t (kk : SF p e below s₁ m 39 o1 [] t) => k28 t (by
      refine XS.icmpYes X0.here hx rfl (pc0 := 32) (pc' := 39) rfl (hb hby d1_32) rfl (feq hc32_29).2 (by decide) (by decide) ?_
      exact kk)
     have f38 := S_SELL.ext O0.2
     obtain ⟨T39, X39, e39, st39⟩ := getS2 X0 hx hZ hown (host := "") (Or.inl (w177 hw)) Via.refl e0 f38 (g := (mkF m 39 o1 [])) rfl (hb hby d1_39)
     have k40 := fun t (kk : SF p e below T39 m 42 o1 [(.ref o_SELL)] t) => k37 t (st39 _ kk)
     obtain ⟨fs, hr, hrun, hended, hW, hsame⟩ := X39.leave (v := some (.ref o_SELL)) (fun h => by rw [Bd.returns] at h; cases h) hlk
     have f41 := zif.ext O0.2
     have f42 := zge.ext O0.2
     have hf43 : (v1_r_ordinal p0) = (4 : Int32) := ((if_neg hc5_2).trans ((if_neg hc14_11).trans ((if_neg hc23_20).trans (if_neg hc32_29))))
     refine ⟨_, _, k40 _ ?_, hrun, hended, _, _, rfl, ?_, ⟨_, rfl⟩, hW, hsame.mono (by decide) (by decide)⟩
     ·show SF p e below T39 m 42 o1 [(.ref o_SELL)] _
      exact retOut X39 hx (t := (.object cKi)) Bd.returns rfl (Or.inr (Or.inr (Or.inr (Or.inr ⟨rfl, rfl, rfl⟩)))) (hb hby d1_42) hr
     ·show Q1 Z p0 zcl zau zca o_BUY o_SELL h0 n0 _ T39.heap _
      rw [e39]
      exact ⟨o_SELL, rfl, N0, rfl, f41, (by rw [hf43]; exact f42)⟩
theorem d17_0 : decode C1_ 0 = .ok (.aload_n 0, 1) := by decide +kernel
theorem d17_1 : decode C1_ 1 = .ok (.getfield 7, 3) := by decide +kernel
theorem d17_4 : decode C1_ 4 = .ok (.ireturn, 1) := by decide +kernel
theorem pn_32 : plainName "java/lang/Enum" = true := by first | (simp [plainName, overriddenIn]; done) | decide +kernel
theorem ef_rm17 (m : MethodId) (ra0 : Addr) : entryFrame m #[(.ref ra0)] 1 = mkF m 0 #[rv ra0] [] := by first | (simp [entryFrame, mkF, argsToLocals, Value.category]; done) | rfl
def Q17 (Z : State) (ra0 : Addr) (zhj : Int32) (h0 : Heap) (n0 : Nat) (v : Option Value) (h : Heap) (L : List Loc) : Prop := (v = some (.int zhj) ∧ Fr n0 L ∧ h = h0)
set_option maxRecDepth 65536 in
set_option maxHeartbeats 40000000 in
theorem rm17 (l : Launch) (Z : State) (a0 : Array Value) (hw : HW Z a0) (ws : List Jvm.Cond) (ra0 : Addr) (zhj : Int32) (h0 : Heap) (n0 : Nat) (Z0 : n0 ≤ h0.size) (E_ra0 : Exa Z h0 ra0 cKi) (zli : Fld Z h0 ra0 "java/lang/Enum" "ordinal" "I" (.int zhj)) :
  MetFree l M18_ (head1 (Jvm.Cond.code M18_ jdk_37_method_2_code 1 (some .int) :: ws) R0_) (fun a U => a = #[(.ref ra0)] ∧ Z.Warmed39 U.vm ∧ U.heap = h0) (fun _ _ _ _ _ => True) (fun _ U o U' => ∃ v L, o = .returned v ∧ Q17 Z ra0 zhj h0 n0 v U'.heap L ∧ FrameEnd U o U' L R0_.cells R0_.slots) := by
 refine MetFree.of_bodySF (plainFor_of_name pn_32) hisR ?_
 intro p e s m args below meth c s₁ Bd hml0 hP hK
 obtain ⟨rfl, hZ, hh⟩ := hP
 have hx := Bd.exec
 have hlk : meth.locks = false := by first | exact BodyLoose.notSynchronized Bd | exact Body.notSynchronized Bd
 have hby := Bd.bytes
 have hml : c.maxLocals = 1 := hml0
 have hown : s.vm.findClass "java/lang/Enum" = some m.cls := findClass_of_methodNamed Bd.named
 have hnm := (name_of_methodNamed Bd.named Bd.method).1
 have X0 : Stand p l e R0_ s m #[(.ref ra0)] below meth c s₁ [] 0 0 := Stand.of_body Bd
 have e0 : s₁.heap = h0 := by rw [← hh, Bd.state]; rfl
 have N0 := Fr.nil n0
 have KC0 := Keep.refl h0 ([] : List Addr)
 have pre0 : ∀ t, SF p e below s₁ m 0 #[rv ra0] [] t → Steps p.tables e below (s₁.setTop (entryFrame m #[(.ref ra0)] 1)) t := fun t k => castTop (ef_rm17 m ra0) k
 have k44 := fun t (kk : SF p e below s₁ m 1 #[rv ra0] [(.ref ra0)] t) => pre0 t (by
  refine XS.aloadN X0.here hx rfl (hb hby d17_0) rfl rfl ?_
  exact kk)
 obtain ⟨T45, X45, e45, st45⟩ := getF X0 hx hZ hown (host := "") (Or.inl (w147 hw)) Via.refl e0 zli (g := (mkF m 1 #[rv ra0] [(.ref ra0)])) rfl rfl (hb hby d17_1)
 have k46 := fun t (kk : SF p e below T45 m 4 #[rv ra0] [(.int zhj)] t) => k44 t (st45 _ kk)
 obtain ⟨fs, hr, hrun, hended, hW, hsame⟩ := X45.leave (v := some (.int zhj)) (fun h => by rw [Bd.returns] at h; cases h) hlk
 refine ⟨_, _, k46 _ ?_, hrun, hended, _, _, rfl, ?_, ⟨_, rfl⟩, hW, hsame.mono (by decide) (by decide)⟩
 ·show SF p e below T45 m 4 #[rv ra0] [(.int zhj)] _
  exact retI X45 hx Bd.returns (hb hby d17_4) hr
 ·show Q17 Z ra0 zhj h0 n0 _ T45.heap _
  rw [e45]
  exact ⟨rfl, N0, rfl⟩
theorem d6_0 : decode C2_ 0 = .ok (.aload_n 0, 1) := by decide +kernel
theorem d6_1 : decode C2_ 1 = .ok (.invokespecial 1, 3) := by decide +kernel
theorem d6_4 : decode C2_ 4 = .ok (.return_, 1) := by decide +kernel
theorem pn_37 : plainName "java/util/AbstractCollection" = true := by first | (simp [plainName, overriddenIn]; done) | decide +kernel
theorem ef_rm6 (m : MethodId) (ra0 : Addr) : entryFrame m #[(.ref ra0)] 1 = mkF m 0 #[rv ra0] [] := by first | (simp [entryFrame, mkF, argsToLocals, Value.category]; done) | rfl
def Q6 (Z : State) (ra0 : Addr) (h0 : Heap) (n0 : Nat) (v : Option Value) (h : Heap) (L : List Loc) : Prop := (v = none ∧ Fr n0 L ∧ h = h0)
set_option maxRecDepth 65536 in
set_option maxHeartbeats 40000000 in
theorem rm6 (l : Launch) (Z : State) (a0 : Array Value) (hw : HW Z a0) (ws : List Jvm.Cond) (ra0 : Addr) (h0 : Heap) (n0 : Nat) (Z0 : n0 ≤ h0.size) (E_ra0 : Exa Z h0 ra0 "java/util/ArrayList") :
  MetFree l M5_ (head1 (Jvm.Cond.code M5_ jdk_22_method_1_code 1 none :: ws) R1_) (fun a U => a = #[(.ref ra0)] ∧ Z.Warmed39 U.vm ∧ U.heap = h0) (fun _ _ _ _ _ => True) (fun _ U o U' => ∃ v L, o = .returned v ∧ Q6 Z ra0 h0 n0 v U'.heap L ∧ FrameEnd U o U' L R1_.cells R1_.slots) := by
 refine MetFree.of_bodySF (plainFor_of_name pn_37) hisR ?_
 intro p e s m args below meth c s₁ Bd hml0 hP hK
 obtain ⟨rfl, hZ, hh⟩ := hP
 have hx := Bd.exec
 have hlk : meth.locks = false := by first | exact BodyLoose.notSynchronized Bd | exact Body.notSynchronized Bd
 have hby := Bd.bytes
 have hml : c.maxLocals = 1 := hml0
 have hown : s.vm.findClass "java/util/AbstractCollection" = some m.cls := findClass_of_methodNamed Bd.named
 have hnm := (name_of_methodNamed Bd.named Bd.method).1
 have X0 : Stand p l e R1_ s m #[(.ref ra0)] below meth c s₁ [] 0 0 := Stand.of_body Bd
 have e0 : s₁.heap = h0 := by rw [← hh, Bd.state]; rfl
 have N0 := Fr.nil n0
 have KC0 := Keep.refl h0 ([] : List Addr)
 have pre0 : ∀ t, SF p e below s₁ m 0 #[rv ra0] [] t → Steps p.tables e below (s₁.setTop (entryFrame m #[(.ref ra0)] 1)) t := fun t k => castTop (ef_rm6 m ra0) k
 have k47 := fun t (kk : SF p e below s₁ m 1 #[rv ra0] [(.ref ra0)] t) => pre0 t (by
  refine XS.aloadN X0.here hx rfl (hb hby d6_0) rfl rfl ?_
  exact kk)
 obtain ⟨T48, X48, e48, st48⟩ := initO X0 hx hZ hown (w37 hw) (w17 hw) (w18 hw) e0 (g := (mkF m 1 #[rv ra0] [(.ref ra0)])) rfl (by rw [hml]; rfl) rfl (hb hby d6_1) (by decide) (W := 0) (Nat.le_of_eq rfl) (by decide)
 have k49 := fun t (kk : SF p e below T48 m 4 #[rv ra0] [] t) => k47 t (st48 _ kk)
 obtain ⟨fs, hr, hrun, hended, hW, hsame⟩ := X48.leave (v := none) (fun _ => rfl) hlk
 refine ⟨_, _, k49 _ ?_, hrun, hended, _, _, rfl, ?_, ⟨_, rfl⟩, hW, hsame.mono (by decide) (by decide)⟩
 ·show SF p e below T48 m 4 #[rv ra0] [] _
  exact X48.returnOut hx Bd.returns (hb hby d6_4) hr
 ·show Q6 Z ra0 h0 n0 _ T48.heap _
  rw [e48]
  exact ⟨rfl, N0, rfl⟩
theorem pd_0 : parseMethodDescriptor "()V" = some ⟨[], none⟩ := by decide +kernel
theorem d5_0 : decode C3_ 0 = .ok (.aload_n 0, 1) := by decide +kernel
theorem d5_1 : decode C3_ 1 = .ok (.invokespecial 1, 3) := by decide +kernel
theorem d5_4 : decode C3_ 4 = .ok (.aload_n 0, 1) := by decide +kernel
theorem d5_5 : decode C3_ 5 = .ok (.iconst 0, 1) := by decide +kernel
theorem d5_6 : decode C3_ 6 = .ok (.putfield 7, 3) := by decide +kernel
theorem d5_9 : decode C3_ 9 = .ok (.return_, 1) := by decide +kernel
theorem pn_46 : plainName "java/util/AbstractList" = true := by first | (simp [plainName, overriddenIn]; done) | decide +kernel
theorem ef_rm5 (m : MethodId) (ra0 : Addr) : entryFrame m #[(.ref ra0)] 1 = mkF m 0 #[rv ra0] [] := by first | (simp [entryFrame, mkF, argsToLocals, Value.category]; done) | rfl
def Q5 (Z : State) (ra0 : Addr) (zfw : Int32) (zep : Value) (h0 : Heap) (n0 : Nat) (v : Option Value) (h : Heap) (L : List Loc) : Prop := (v = none ∧ Fr n0 L ∧ Keep h0 h [ra0] ∧ Exa Z h ra0 "java/util/ArrayList" ∧ Fld Z h ra0 "java/util/AbstractList" "modCount" "I" (.int 0) ∧ Fld Z h ra0 "java/util/ArrayList" "elementData" "[Ljava/lang/Object;" zep)
set_option maxRecDepth 65536 in
set_option maxHeartbeats 40000000 in
theorem rm5 (l : Launch) (Z : State) (a0 : Array Value) (hw : HW Z a0) (ws : List Jvm.Cond) (ra0 : Addr) (zfw : Int32) (zep : Value) (h0 : Heap) (n0 : Nat) (Z0 : n0 ≤ h0.size) (E_ra0 : Exa Z h0 ra0 "java/util/ArrayList") (zjq : Fld Z h0 ra0 "java/util/AbstractList" "modCount" "I" (.int zfw)) (g_ra0 : n0 ≤ ra0) (zjt : Fld Z h0 ra0 "java/util/ArrayList" "elementData" "[Ljava/lang/Object;" zep) :
  MetFree l M4_ (head1 (Jvm.Cond.code M4_ jdk_39_method_1_code 1 none :: ws) R2_) (fun a U => a = #[(.ref ra0)] ∧ Z.Warmed39 U.vm ∧ U.heap = h0) (fun _ _ _ _ _ => True) (fun _ U o U' => ∃ v L, o = .returned v ∧ Q5 Z ra0 zfw zep h0 n0 v U'.heap L ∧ FrameEnd U o U' L R2_.cells R2_.slots) := by
 refine MetFree.of_bodySF (plainFor_of_name pn_46) hisR ?_
 intro p e s m args below meth c s₁ Bd hml0 hP hK
 obtain ⟨rfl, hZ, hh⟩ := hP
 have hx := Bd.exec
 have hlk : meth.locks = false := by first | exact BodyLoose.notSynchronized Bd | exact Body.notSynchronized Bd
 have hby := Bd.bytes
 have hml : c.maxLocals = 1 := hml0
 have hown : s.vm.findClass "java/util/AbstractList" = some m.cls := findClass_of_methodNamed Bd.named
 have hnm := (name_of_methodNamed Bd.named Bd.method).1
 have X0 : Stand p l e R2_ s m #[(.ref ra0)] below meth c s₁ [] 0 0 := Stand.of_body Bd
 have e0 : s₁.heap = h0 := by rw [← hh, Bd.state]; rfl
 have N0 := Fr.nil n0
 have KC0 := Keep.refl h0 [ra0]
 have pre0 : ∀ t, SF p e below s₁ m 0 #[rv ra0] [] t → Steps p.tables e below (s₁.setTop (entryFrame m #[(.ref ra0)] 1)) t := fun t k => castTop (ef_rm5 m ra0) k
 have k50 := fun t (kk : SF p e below s₁ m 1 #[rv ra0] [(.ref ra0)] t) => pre0 t (by
  refine XS.aloadN X0.here hx rfl (hb hby d5_0) rfl rfl ?_
  exact kk)
 have Zz51 : n0 ≤ h0.size := (Nat.le_trans Z0 KC0.1)
 obtain ⟨_, _, ⟨T51, L51, k51, n51⟩, -, X51, ⟨Lc51, hQ51, l51, y51, z51⟩, st51⟩ := X0.specialBack hx (y := M5_) rfl hown (mvT hZ (w31 hw)) (mvT hZ (w32 hw)) (mvT hZ (w36 hw)) (by decide) (backOf (W := 0) (rm6 l Z a0 hw [] ra0 h0 n0 Zz51 E_ra0) hZ (w36 hw) (w35 hw) (by decide) (by decide)) (g := (mkF m 1 #[rv ra0] [(.ref ra0)])) rfl (by rw [hml]; rfl) (Steps.refl _) (a := ra0) (argsL := []) (rest := []) (lenOf pd_0 rfl) rfl (Nat.le_of_eq rfl) (hb hby d5_1) (fun _ _ => ⟨rfl, e0, (by decide : 0 + 0 ≤ _), (by decide : 0 + 0 ≤ _)⟩)
 dsimp only [Pt.U, Pt.locs, Pt.cells, Pt.slots] at X51 l51 y51 z51 st51 hQ51
 subst l51 y51 z51
 obtain ⟨rfl, N51q, e51⟩ := hQ51
 have N51 := Fr.app N0 N51q
 have k52 := fun t (kk : SF p e below T51 m 4 #[rv ra0] [] t) => k50 t (st51.trans kk)
 have k53 := fun t (kk : SF p e below T51 m 6 #[rv ra0] [(.int 0), (.ref ra0)] t) => k52 t (by
  refine XS.aloadN X51.here hx rfl (hb hby d5_4) rfl rfl ?_
  refine XS.iconst X51.here hx rfl (hb hby d5_5) ?_
  exact kk)
 obtain ⟨T54, h54, X54, e54, W54, st54⟩ := putF X51 hx hZ hown (host := "") (Or.inl (w38 hw)) Via.refl e51 zjq E_ra0 (Or.inl (w39 hw)) (w20 hw) (ty := .int) (by decide) rfl rfl (g := (mkF m 6 #[rv ra0] [(.int 0), (.ref ra0)])) rfl rfl (hb hby d5_6)
 have Fw54 := zjq.same W54
 have K54 : Keep h0 h54 [ra0] := KC0.wr W54 (Or.inl (List.mem_of_getElem? (i := 0) rfl))
 have N54 := Fr.snoc X54 N51 g_ra0
 have k55 := fun t (kk : SF p e below T54 m 9 #[rv ra0] [] t) => k53 t (st54 _ kk)
 obtain ⟨fs, hr, hrun, hended, hW, hsame⟩ := X54.leave (v := none) (fun _ => rfl) hlk
 have f56 := (E_ra0.wr W54)
 have f57 := (zjt.other W54 (Or.inr (slot_ne (Or.inl (w42 hw)) (Or.inl (w39 hw)) (by decide) (t := (.array (.object "java/lang/Object"))) (t' := .int) (by decide) (by decide))))
 refine ⟨_, _, k55 _ ?_, hrun, hended, _, _, rfl, ?_, ⟨_, rfl⟩, hW, hsame.mono (by decide) (by decide)⟩
 ·show SF p e below T54 m 9 #[rv ra0] [] _
  exact X54.returnOut hx Bd.returns (hb hby d5_9) hr
 ·show Q5 Z ra0 zfw zep h0 n0 _ T54.heap _
  rw [e54]
  exact ⟨rfl, N54, K54, f56, Fw54, f57⟩
theorem d4_0 : decode C4_ 0 = .ok (.aload_n 0, 1) := by decide +kernel
theorem d4_1 : decode C4_ 1 = .ok (.invokespecial 1, 3) := by decide +kernel
theorem d4_4 : decode C4_ 4 = .ok (.aload_n 0, 1) := by decide +kernel
theorem d4_5 : decode C4_ 5 = .ok (.getstatic 39, 3) := by decide +kernel
theorem d4_8 : decode C4_ 8 = .ok (.putfield 9, 3) := by decide +kernel
theorem d4_11 : decode C4_ 11 = .ok (.return_, 1) := by decide +kernel
theorem pn_54 : plainName "java/util/ArrayList" = true := by first | (simp [plainName, overriddenIn]; done) | decide +kernel
theorem ef_rm4 (m : MethodId) (ra0 : Addr) : entryFrame m #[(.ref ra0)] 1 = mkF m 0 #[rv ra0] [] := by first | (simp [entryFrame, mkF, argsToLocals, Value.category]; done) | rfl
def Q4 (Z : State) (ra0 : Addr) (zfw : Int32) (zep : Value) (zan : Addr) (h0 : Heap) (n0 : Nat) (v : Option Value) (h : Heap) (L : List Loc) : Prop := (v = none ∧ Fr n0 L ∧ Keep h0 h [ra0] ∧ Exa Z h ra0 "java/util/ArrayList" ∧ Fld Z h ra0 "java/util/AbstractList" "modCount" "I" (.int 0) ∧ Fld Z h ra0 "java/util/ArrayList" "elementData" "[Ljava/lang/Object;" (.ref zan))
set_option maxRecDepth 65536 in
set_option maxHeartbeats 40000000 in
theorem rm4 (l : Launch) (Z : State) (a0 : Array Value) (hw : HW Z a0) (ws : List Jvm.Cond) (ra0 : Addr) (zfw : Int32) (zep : Value) (zan : Addr) (h0 : Heap) (n0 : Nat) (Z0 : n0 ≤ h0.size) (E_ra0 : Exa Z h0 ra0 "java/util/ArrayList") (zjq : Fld Z h0 ra0 "java/util/AbstractList" "modCount" "I" (.int zfw)) (zjt : Fld Z h0 ra0 "java/util/ArrayList" "elementData" "[Ljava/lang/Object;" zep) (g_ra0 : n0 ≤ ra0) (zcw : Sta Z Z.heap "java/util/ArrayList" "DEFAULTCAPACITY_EMPTY_ELEMENTDATA" "[Ljava/lang/Object;" (.ref zan)) (O0 : Old Z n0 h0) :
  MetFree l M3_ (head1 (Jvm.Cond.code M3_ jdk_38_method_2_code 1 none :: ws) R3_) (fun a U => a = #[(.ref ra0)] ∧ Z.Warmed39 U.vm ∧ U.heap = h0) (fun _ _ _ _ _ => True) (fun _ U o U' => ∃ v L, o = .returned v ∧ Q4 Z ra0 zfw zep zan h0 n0 v U'.heap L ∧ FrameEnd U o U' L R3_.cells R3_.slots) := by
 refine MetFree.of_bodySF (plainFor_of_name pn_54) hisR ?_
 intro p e s m args below meth c s₁ Bd hml0 hP hK
 obtain ⟨rfl, hZ, hh⟩ := hP
 have hx := Bd.exec
 have hlk : meth.locks = false := by first | exact BodyLoose.notSynchronized Bd | exact Body.notSynchronized Bd
 have hby := Bd.bytes
 have hml : c.maxLocals = 1 := hml0
 have hown : s.vm.findClass "java/util/ArrayList" = some m.cls := findClass_of_methodNamed Bd.named
 have hnm := (name_of_methodNamed Bd.named Bd.method).1
 have X0 : Stand p l e R3_ s m #[(.ref ra0)] below meth c s₁ [] 0 0 := Stand.of_body Bd
 have e0 : s₁.heap = h0 := by rw [← hh, Bd.state]; rfl
 have N0 := Fr.nil n0
 have KC0 := Keep.refl h0 [ra0]
 have pre0 : ∀ t, SF p e below s₁ m 0 #[rv ra0] [] t → Steps p.tables e below (s₁.setTop (entryFrame m #[(.ref ra0)] 1)) t := fun t k => castTop (ef_rm4 m ra0) k
 have k58 := fun t (kk : SF p e below s₁ m 1 #[rv ra0] [(.ref ra0)] t) => pre0 t (by
  refine XS.aloadN X0.here hx rfl (hb hby d4_0) rfl rfl ?_
  exact kk)
 have Zz59 : n0 ≤ h0.size := (Nat.le_trans Z0 KC0.1)
 obtain ⟨_, _, ⟨T59, L59, k59, n59⟩, -, X59, ⟨Lc59, hQ59, l59, y59, z59⟩, st59⟩ := X0.specialBack hx (y := M4_) rfl hown (mvT hZ (w25 hw)) (mvT hZ (w26 hw)) (mvT hZ (w30 hw)) (by decide) (backOf (W := 0) (rm5 l Z a0 hw [] ra0 zfw zep h0 n0 Zz59 E_ra0 zjq g_ra0 zjt) hZ (w30 hw) (w29 hw) (by decide) (by decide)) (g := (mkF m 1 #[rv ra0] [(.ref ra0)])) rfl (by rw [hml]; rfl) (Steps.refl _) (a := ra0) (argsL := []) (rest := []) (lenOf pd_0 rfl) rfl (Nat.le_of_eq rfl) (hb hby d4_1) (fun _ _ => ⟨rfl, e0, (by decide : 0 + 0 ≤ _), (by decide : 0 + 0 ≤ _)⟩)
 dsimp only [Pt.U, Pt.locs, Pt.cells, Pt.slots] at X59 l59 y59 z59 st59 hQ59
 subst l59 y59 z59
 obtain ⟨rfl, N59q, Kq59, Eq59_0, Fq59_0, Fq59_1⟩ := hQ59
 have K59 : Keep h0 T59.heap [ra0] := KC0.trans Kq59 (allS (Or.inl (List.mem_of_getElem? (i := 0) rfl)) all0)
 have N59 := Fr.app N0 N59q
 have k60 := fun t (kk : SF p e below T59 m 4 #[rv ra0] [] t) => k58 t (st59.trans kk)
 have k61 := fun t (kk : SF p e below T59 m 5 #[rv ra0] [(.ref ra0)] t) => k60 t (by
  refine XS.aloadN X59.here hx rfl (hb hby d4_4) rfl rfl ?_
  exact kk)
 have O62 := (O0.keep Kq59 (allS g_ra0 all0))
 have f63 := zcw.ext O62.2
 obtain ⟨T64, X64, e64, st64⟩ := getS2 X59 hx hZ hown (host := "") (Or.inl (w40 hw)) Via.refl rfl f63 (g := (mkF m 5 #[rv ra0] [(.ref ra0)])) rfl (hb hby d4_5)
 have k65 := fun t (kk : SF p e below T64 m 8 #[rv ra0] [(.ref zan), (.ref ra0)] t) => k61 t (st64 _ kk)
 obtain ⟨T66, h66, X66, e66, W66, st66⟩ := putF X64 hx hZ hown (host := "") (Or.inl (w41 hw)) Via.refl e64 Fq59_1 Eq59_0 (Or.inl (w42 hw)) (w20 hw) (ty := (.array (.object "java/lang/Object"))) (by decide) rfl rfl (g := (mkF m 8 #[rv ra0] [(.ref zan), (.ref ra0)])) rfl rfl (hb hby d4_8)
 have Fw66 := Fq59_1.same W66
 have K66 : Keep h0 h66 [ra0] := K59.wr W66 (Or.inl (List.mem_of_getElem? (i := 0) rfl))
 have N66 := Fr.snoc X66 N59 g_ra0
 have k67 := fun t (kk : SF p e below T66 m 11 #[rv ra0] [] t) => k65 t (st66 _ kk)
 obtain ⟨fs, hr, hrun, hended, hW, hsame⟩ := X66.leave (v := none) (fun _ => rfl) hlk
 have f68 := (Eq59_0.wr W66)
 have f69 := (Fq59_0.other W66 (Or.inr (slot_ne (Or.inl (w39 hw)) (Or.inl (w42 hw)) (by decide) (t := .int) (t' := (.array (.object "java/lang/Object"))) (by decide) (by decide))))
 refine ⟨_, _, k67 _ ?_, hrun, hended, _, _, rfl, ?_, ⟨_, rfl⟩, hW, hsame.mono (by decide) (by decide)⟩
 ·show SF p e below T66 m 11 #[rv ra0] [] _
  exact X66.returnOut hx Bd.returns (hb hby d4_11) hr
 ·show Q4 Z ra0 zfw zep zan h0 n0 _ T66.heap _
  rw [e66]
  exact ⟨rfl, N66, K66, f68, f69, Fw66⟩
theorem d7_0 : decode C5_ 0 = .ok (.iload_n 0, 1) := by decide +kernel
theorem d7_1 : decode C5_ 1 = .ok (.iload_n 1, 1) := by decide +kernel
theorem d7_2 : decode C5_ 2 = .ok (.if_icmp .lt 7, 3) := by decide +kernel
theorem d7_5 : decode C5_ 5 = .ok (.iload_n 0, 1) := by decide +kernel
theorem d7_6 : decode C5_ 6 = .ok (.goto 4, 3) := by decide +kernel
theorem d7_9 : decode C5_ 9 = .ok (.iload_n 1, 1) := by decide +kernel
theorem d7_10 : decode C5_ 10 = .ok (.ireturn, 1) := by decide +kernel
def v7_2_s0 (p0 p1 : Int32) : Int32 := if p0 < p1 then p1 else p0
theorem ef_rm7 (m : MethodId) (p0 p1 : Int32) : entryFrame m #[(.int p0), (.int p1)] 2 = mkF m 0 #[iv p0, iv p1] [] := by first | (simp [entryFrame, mkF, argsToLocals, Value.category]; done) | rfl
def Q7 (Z : State) (p0 p1 : Int32) (h0 : Heap) (n0 : Nat) (v : Option Value) (h : Heap) (L : List Loc) : Prop := (v = some (.int (v7_2_s0 p0 p1)) ∧ Fr n0 L ∧ h = h0)
set_option maxRecDepth 65536 in
set_option maxHeartbeats 40000000 in
theorem rm7 (l : Launch) (Z : State) (a0 : Array Value) (hw : HW Z a0) (ws : List Jvm.Cond) (p0 p1 : Int32) (h0 : Heap) (n0 : Nat) (Z0 : n0 ≤ h0.size) :
  MetFree l M6_ (head1 (Jvm.Cond.code M6_ jdk_29_method_65_code 2 (some .int) :: ws) R0_) (fun a U => a = #[(.int p0), (.int p1)] ∧ Z.Warmed39 U.vm ∧ U.heap = h0) (fun _ _ _ _ _ => True) (fun _ U o U' => ∃ v L, o = .returned v ∧ Q7 Z p0 p1 h0 n0 v U'.heap L ∧ FrameEnd U o U' L R0_.cells R0_.slots) := by
 refine MetFree.of_bodySF (Jvm.Free.JP.mathPlain rfl (by decide +kernel)) hisR ?_
 intro p e s m args below meth c s₁ Bd hml0 hP hK
 obtain ⟨rfl, hZ, hh⟩ := hP
 have hx := Bd.exec
 have hlk : meth.locks = false := by first | exact BodyLoose.notSynchronized Bd | exact Body.notSynchronized Bd
 have hby := Bd.bytes
 have hml : c.maxLocals = 2 := hml0
 have hown : s.vm.findClass "java/lang/Math" = some m.cls := findClass_of_methodNamed Bd.named
 have hnm := (name_of_methodNamed Bd.named Bd.method).1
 have X0 : Stand p l e R0_ s m #[(.int p0), (.int p1)] below meth c s₁ [] 0 0 := Stand.of_body Bd
 have e0 : s₁.heap = h0 := by rw [← hh, Bd.state]; rfl
 have N0 := Fr.nil n0
 have KC0 := Keep.refl h0 ([] : List Addr)
 have pre0 : ∀ t, SF p e below s₁ m 0 #[iv p0, iv p1] [] t → Steps p.tables e below (s₁.setTop (entryFrame m #[(.int p0), (.int p1)] 2)) t := fun t k => castTop (ef_rm7 m p0 p1) k
 have k72 := fun t (kk : SF p e below s₁ m 10 #[iv p0, iv p1] [(.int (v7_2_s0 p0 p1))] t) => pre0 t (by
  refine XS.iloadN X0.here hx rfl (hb hby d7_0) rfl ?_
  refine XS.iloadN X0.here hx rfl (hb hby d7_1) rfl ?_
  suffices k71 : SF p e below s₁ m 10 #[iv p0, iv p1] [(.int (v7_2_s0 p0 p1))] t by
   by_cases hc2_70 : p0 < p1
   ·rw [(show (v7_2_s0 p0 p1) = p1 from if_pos hc2_70)] at k71
    refine XS.icmpYes X0.here hx rfl (pc0 := 2) (pc' := 9) rfl (hb hby d7_2) rfl (tlt hc2_70).1 (by decide) (by decide) ?_
    refine XS.iloadN X0.here hx rfl (hb hby d7_9) rfl ?_
    exact k71
   ·rw [(show (v7_2_s0 p0 p1) = p0 from if_neg hc2_70)] at k71
    show SF p e below s₁ m 2 #[iv p0, iv p1] [(.int p1), (.int p0)] _
    refine XS.icmpNo X0.here hx rfl (hb hby d7_2) rfl (flt hc2_70).1 ?_
    refine XS.iloadN X0.here hx rfl (hb hby d7_5) rfl ?_
    refine XS.goto X0.here hx rfl (pc0 := 6) (pc' := 10) rfl (hb hby d7_6) (by decide) (by decide) ?_
    exact k71
  exact kk)
 obtain ⟨fs, hr, hrun, hended, hW, hsame⟩ := X0.leave (v := some (.int (v7_2_s0 p0 p1))) (fun h => by rw [Bd.returns] at h; cases h) hlk
 refine ⟨_, _, k72 _ ?_, hrun, hended, _, _, rfl, ?_, ⟨_, rfl⟩, hW, hsame.mono (by decide) (by decide)⟩
 ·show SF p e below s₁ m 10 #[iv p0, iv p1] [(.int (v7_2_s0 p0 p1))] _
  exact retI X0 hx Bd.returns (hb hby d7_10) hr
 ·show Q7 Z p0 p1 h0 n0 _ s₁.heap _
  rw [e0]
  exact ⟨rfl, N0, rfl⟩
theorem own_max {p1 : Int32} (hc : ¬ p1 < (64 : Int32) ∧ p1 < (256 : Int32)) : v7_2_s0 (64 : Int32) p1 = p1 := by
  unfold v7_2_s0; split
  · rfl
  · rename_i c; rw [Int32.lt_iff_toInt_lt] at c; rw [Int32.lt_iff_toInt_lt, Int32.lt_iff_toInt_lt] at hc; apply Int32.toInt_inj.mp; omega
theorem own_cap {p1 : Int32} (hx : ¬ p1 < 0 ∧ p1 < (256 : Int32)) : ¬ (v7_2_s0 (64 : Int32) p1) < (64 : Int32) ∧ (v7_2_s0 (64 : Int32) p1) < (256 : Int32) := by
  unfold v7_2_s0; split
  · rename_i c; refine ⟨?_, hx.2⟩; rw [Int32.lt_iff_toInt_lt] at *; omega
  · exact ⟨by decide, by decide⟩
theorem d10_0 : decode C6_ 0 = .ok (.iload_n 0, 1) := by decide +kernel
theorem d10_1 : decode C6_ 1 = .ok (.ifCond .gt 14, 3) := by decide +kernel
theorem d10_15 : decode C6_ 15 = .ok (.bipush 31, 2) := by decide +kernel
theorem d10_17 : decode C6_ 17 = .ok (.istore_n 1, 1) := by decide +kernel
theorem d10_18 : decode C6_ 18 = .ok (.iload_n 0, 1) := by decide +kernel
theorem d10_19 : decode C6_ 19 = .ok (.ldc_w 264, 3) := by decide +kernel
theorem d10_22 : decode C6_ 22 = .ok (.if_icmp .lt 11, 3) := by decide +kernel
theorem d10_25 : decode C6_ 25 = .ok (.iinc 1 (-16), 3) := by decide +kernel
theorem d10_28 : decode C6_ 28 = .ok (.iload_n 0, 1) := by decide +kernel
theorem d10_29 : decode C6_ 29 = .ok (.bipush 16, 2) := by decide +kernel
theorem d10_31 : decode C6_ 31 = .ok (.iushr, 1) := by decide +kernel
theorem d10_32 : decode C6_ 32 = .ok (.istore_n 0, 1) := by decide +kernel
theorem d10_33 : decode C6_ 33 = .ok (.iload_n 0, 1) := by decide +kernel
theorem d10_34 : decode C6_ 34 = .ok (.sipush 256, 3) := by decide +kernel
theorem d10_37 : decode C6_ 37 = .ok (.if_icmp .lt 11, 3) := by decide +kernel
theorem d10_40 : decode C6_ 40 = .ok (.iinc 1 (-8), 3) := by decide +kernel
theorem d10_43 : decode C6_ 43 = .ok (.iload_n 0, 1) := by decide +kernel
theorem d10_44 : decode C6_ 44 = .ok (.bipush 8, 2) := by decide +kernel
theorem d10_46 : decode C6_ 46 = .ok (.iushr, 1) := by decide +kernel
theorem d10_47 : decode C6_ 47 = .ok (.istore_n 0, 1) := by decide +kernel
theorem d10_48 : decode C6_ 48 = .ok (.iload_n 0, 1) := by decide +kernel
theorem d10_49 : decode C6_ 49 = .ok (.bipush 16, 2) := by decide +kernel
theorem d10_51 : decode C6_ 51 = .ok (.if_icmp .lt 10, 3) := by decide +kernel
theorem d10_54 : decode C6_ 54 = .ok (.iinc 1 (-4), 3) := by decide +kernel
theorem d10_57 : decode C6_ 57 = .ok (.iload_n 0, 1) := by decide +kernel
theorem d10_58 : decode C6_ 58 = .ok (.iconst 4, 1) := by decide +kernel
theorem d10_59 : decode C6_ 59 = .ok (.iushr, 1) := by decide +kernel
theorem d10_60 : decode C6_ 60 = .ok (.istore_n 0, 1) := by decide +kernel
theorem d10_61 : decode C6_ 61 = .ok (.iload_n 0, 1) := by decide +kernel
theorem d10_62 : decode C6_ 62 = .ok (.iconst 4, 1) := by decide +kernel
theorem d10_63 : decode C6_ 63 = .ok (.if_icmp .lt 10, 3) := by decide +kernel
theorem d10_66 : decode C6_ 66 = .ok (.iinc 1 (-2), 3) := by decide +kernel
theorem d10_69 : decode C6_ 69 = .ok (.iload_n 0, 1) := by decide +kernel
theorem d10_70 : decode C6_ 70 = .ok (.iconst 2, 1) := by decide +kernel
theorem d10_71 : decode C6_ 71 = .ok (.iushr, 1) := by decide +kernel
theorem d10_72 : decode C6_ 72 = .ok (.istore_n 0, 1) := by decide +kernel
theorem d10_73 : decode C6_ 73 = .ok (.iload_n 1, 1) := by decide +kernel
theorem d10_74 : decode C6_ 74 = .ok (.iload_n 0, 1) := by decide +kernel
theorem d10_75 : decode C6_ 75 = .ok (.iconst 1, 1) := by decide +kernel
theorem d10_76 : decode C6_ 76 = .ok (.iushr, 1) := by decide +kernel
theorem d10_77 : decode C6_ 77 = .ok (.isub, 1) := by decide +kernel
theorem d10_78 : decode C6_ 78 = .ok (.ireturn, 1) := by decide +kernel
theorem pn_107 : plainName "java/lang/Integer" = true := by first | (simp [plainName, overriddenIn]; done) | decide +kernel
def v10_32_l0 (p0 : Int32) : Int32 := ((p0.toUInt32 >>> ((16 : Int32) &&& 31).toUInt32).toInt32)
def v10_22_l0 (p0 : Int32) : Int32 := if p0 < (65536 : Int32) then p0 else (v10_32_l0 p0)
def v10_22_l1 (p0 : Int32) : Int32 := if p0 < (65536 : Int32) then (31 : Int32) else ((31 : Int32) + (-16 : Int32))
def v10_47_l0 (p0 : Int32) : Int32 := (((v10_22_l0 p0).toUInt32 >>> ((8 : Int32) &&& 31).toUInt32).toInt32)
def v10_37_l0 (p0 : Int32) : Int32 := if (v10_22_l0 p0) < (256 : Int32) then (v10_22_l0 p0) else (v10_47_l0 p0)
def v10_37_l1 (p0 : Int32) : Int32 := if (v10_22_l0 p0) < (256 : Int32) then (v10_22_l1 p0) else ((v10_22_l1 p0) + (-8 : Int32))
def v10_60_l0 (p0 : Int32) : Int32 := (((v10_37_l0 p0).toUInt32 >>> ((4 : Int32) &&& 31).toUInt32).toInt32)
def v10_51_l0 (p0 : Int32) : Int32 := if (v10_37_l0 p0) < (16 : Int32) then (v10_37_l0 p0) else (v10_60_l0 p0)
def v10_51_l1 (p0 : Int32) : Int32 := if (v10_37_l0 p0) < (16 : Int32) then (v10_37_l1 p0) else ((v10_37_l1 p0) + (-4 : Int32))
def v10_72_l0 (p0 : Int32) : Int32 := (((v10_51_l0 p0).toUInt32 >>> ((2 : Int32) &&& 31).toUInt32).toInt32)
def v10_63_l0 (p0 : Int32) : Int32 := if (v10_51_l0 p0) < (4 : Int32) then (v10_51_l0 p0) else (v10_72_l0 p0)
def v10_63_l1 (p0 : Int32) : Int32 := if (v10_51_l0 p0) < (4 : Int32) then (v10_51_l1 p0) else ((v10_51_l1 p0) + (-2 : Int32))
def v10_ret (p0 : Int32) : Int32 := ((v10_63_l1 p0) - (((v10_63_l0 p0).toUInt32 >>> ((1 : Int32) &&& 31).toUInt32).toInt32))
theorem ef_rm10 (m : MethodId) (p0 : Int32) : entryFrame m #[(.int p0)] 2 = mkF m 0 #[iv p0, .unset] [] := by first | (simp [entryFrame, mkF, argsToLocals, Value.category]; done) | rfl
def Q10 (Z : State) (p0 : Int32) (h0 : Heap) (n0 : Nat) (v : Option Value) (h : Heap) (L : List Loc) : Prop := (v = some (.int (v10_ret p0)) ∧ Fr n0 L ∧ h = h0)
set_option maxRecDepth 65536 in
set_option maxHeartbeats 40000000 in
theorem rm10 (l : Launch) (Z : State) (a0 : Array Value) (hw : HW Z a0) (ws : List Jvm.Cond) (p0 : Int32) (h0 : Heap) (n0 : Nat) (Z0 : n0 ≤ h0.size) (hp : (0 : Int32) < p0) :
  MetFree l M9_ (head1 (Jvm.Cond.code M9_ jdk_33_method_47_code 2 (some .int) :: ws) R0_) (fun a U => a = #[(.int p0)] ∧ Z.Warmed39 U.vm ∧ U.heap = h0) (fun _ _ _ _ _ => True) (fun _ U o U' => ∃ v L, o = .returned v ∧ Q10 Z p0 h0 n0 v U'.heap L ∧ FrameEnd U o U' L R0_.cells R0_.slots) := by
 refine MetFree.of_bodySF (plainFor_of_name pn_107) hisR ?_
 intro p e s m args below meth c s₁ Bd hml0 hP hK
 obtain ⟨rfl, hZ, hh⟩ := hP
 have hx := Bd.exec
 have hlk : meth.locks = false := by first | exact BodyLoose.notSynchronized Bd | exact Body.notSynchronized Bd
 have hby := Bd.bytes
 have hml : c.maxLocals = 2 := hml0
 have hown : s.vm.findClass "java/lang/Integer" = some m.cls := findClass_of_methodNamed Bd.named
 have hnm := (name_of_methodNamed Bd.named Bd.method).1
 have X0 : Stand p l e R0_ s m #[(.int p0)] below meth c s₁ [] 0 0 := Stand.of_body Bd
 have e0 : s₁.heap = h0 := by rw [← hh, Bd.state]; rfl
 have N0 := Fr.nil n0
 have KC0 := Keep.refl h0 ([] : List Addr)
 let o1 : Array Slot := #[iv (v10_63_l0 p0), iv (v10_63_l1 p0)]
 have pre0 : ∀ t, SF p e below s₁ m 0 #[iv p0, .unset] [] t → Steps p.tables e below (s₁.setTop (entryFrame m #[(.int p0)] 2)) t := fun t k => castTop (ef_rm10 m p0) k
 have k73 := fun t (kk : SF p e below s₁ m 1 #[iv p0, .unset] [(.int p0)] t) => pre0 t (by
  refine XS.iloadN X0.here hx rfl (hb hby d10_0) rfl ?_
  exact kk)
 have hc1_74 : (0 : Int32) < p0 := hp
 have k83 := fun t (kk : SF p e below s₁ m 78 o1 [(.int ((v10_63_l1 p0) - (((v10_63_l0 p0).toUInt32 >>> ((1 : Int32) &&& 31).toUInt32).toInt32)))] t) => k73 t (by
  refine XS.ifYes X0.here hx rfl (pc0 := 1) (pc' := 15) rfl (hb hby d10_1) rfl ((if0 _ _).trans (tlt hc1_74).2.2.1) (by decide) (by decide) ?_
  show SF p e below s₁ m 15 #[iv p0, .unset] [] _
  refine XS.bipush X0.here hx rfl (hb hby d10_15) ?_
  refine XS.istoreN X0.here hx rfl (hb hby d10_17) rfl (l' := #[iv p0, iv 31]) rfl ?_
  refine XS.iloadN X0.here hx rfl (hb hby d10_18) rfl ?_
  refine X0.ldcwInt hx hown (mvT hZ (w82 hw)) (g := (mkF m 19 #[iv p0, iv 31] [(.int p0)])) rfl (hb hby d10_19) _ ?_
  suffices k76 : SF p e below s₁ m 33 #[iv (v10_22_l0 p0), iv (v10_22_l1 p0)] [] t by
   by_cases hc22_75 : p0 < (65536 : Int32)
   ·rw [(show (v10_22_l0 p0) = p0 from if_pos hc22_75)] at k76
    rw [(show (v10_22_l1 p0) = (31 : Int32) from if_pos hc22_75)] at k76
    refine XS.icmpYes X0.here hx rfl (pc0 := 22) (pc' := 33) rfl (hb hby d10_22) rfl (tlt hc22_75).1 (by decide) (by decide) ?_
    exact k76
   ·rw [(show (v10_22_l0 p0) = (v10_32_l0 p0) from if_neg hc22_75)] at k76
    rw [(show (v10_22_l1 p0) = ((31 : Int32) + (-16 : Int32)) from if_neg hc22_75)] at k76
    refine XS.icmpNo X0.here hx rfl (hb hby d10_22) rfl (flt hc22_75).1 ?_
    refine XS.iinc X0.here hx rfl (hb hby d10_25) rfl (l' := #[iv p0, iv ((31 : Int32) + (-16 : Int32))]) rfl ?_
    refine XS.iloadN X0.here hx rfl (hb hby d10_28) rfl ?_
    refine XS.bipush X0.here hx rfl (hb hby d10_29) ?_
    refine XS.iushr X0.here hx rfl (hb hby d10_31) rfl ?_
    refine XS.istoreN X0.here hx rfl (hb hby d10_32) rfl (l' := #[iv (v10_32_l0 p0), iv ((31 : Int32) + (-16 : Int32))]) rfl ?_
    exact k76
  refine XS.iloadN X0.here hx rfl (hb hby d10_33) rfl ?_
  show SF p e below s₁ m 34 #[iv (v10_22_l0 p0), iv (v10_22_l1 p0)] [(.int (v10_22_l0 p0))] _
  refine XS.sipush X0.here hx rfl (hb hby d10_34) ?_
  suffices k78 : SF p e below s₁ m 48 #[iv (v10_37_l0 p0), iv (v10_37_l1 p0)] [] t by
   by_cases hc37_77 : (v10_22_l0 p0) < (256 : Int32)
   ·rw [(show (v10_37_l0 p0) = (v10_22_l0 p0) from if_pos hc37_77)] at k78
    rw [(show (v10_37_l1 p0) = (v10_22_l1 p0) from if_pos hc37_77)] at k78
    refine XS.icmpYes X0.here hx rfl (pc0 := 37) (pc' := 48) rfl (hb hby d10_37) rfl (tlt hc37_77).1 (by decide) (by decide) ?_
    exact k78
   ·rw [(show (v10_37_l0 p0) = (v10_47_l0 p0) from if_neg hc37_77)] at k78
    rw [(show (v10_37_l1 p0) = ((v10_22_l1 p0) + (-8 : Int32)) from if_neg hc37_77)] at k78
    refine XS.icmpNo X0.here hx rfl (hb hby d10_37) rfl (flt hc37_77).1 ?_
    refine XS.iinc X0.here hx rfl (hb hby d10_40) rfl (l' := #[iv (v10_22_l0 p0), iv ((v10_22_l1 p0) + (-8 : Int32))]) rfl ?_
    refine XS.iloadN X0.here hx rfl (hb hby d10_43) rfl ?_
    refine XS.bipush X0.here hx rfl (hb hby d10_44) ?_
    refine XS.iushr X0.here hx rfl (hb hby d10_46) rfl ?_
    refine XS.istoreN X0.here hx rfl (hb hby d10_47) rfl (l' := #[iv (v10_47_l0 p0), iv ((v10_22_l1 p0) + (-8 : Int32))]) rfl ?_
    exact k78
  refine XS.iloadN X0.here hx rfl (hb hby d10_48) rfl ?_
  refine XS.bipush X0.here hx rfl (hb hby d10_49) ?_
  suffices k80 : SF p e below s₁ m 61 #[iv (v10_51_l0 p0), iv (v10_51_l1 p0)] [] t by
   by_cases hc51_79 : (v10_37_l0 p0) < (16 : Int32)
   ·rw [(show (v10_51_l0 p0) = (v10_37_l0 p0) from if_pos hc51_79)] at k80
    rw [(show (v10_51_l1 p0) = (v10_37_l1 p0) from if_pos hc51_79)] at k80
    refine XS.icmpYes X0.here hx rfl (pc0 := 51) (pc' := 61) rfl (hb hby d10_51) rfl (tlt hc51_79).1 (by decide) (by decide) ?_
    exact k80
   ·rw [(show (v10_51_l0 p0) = (v10_60_l0 p0) from if_neg hc51_79)] at k80
    rw [(show (v10_51_l1 p0) = ((v10_37_l1 p0) + (-4 : Int32)) from if_neg hc51_79)] at k80
    refine XS.icmpNo X0.here hx rfl (hb hby d10_51) rfl (flt hc51_79).1 ?_
    show SF p e below s₁ m 54 #[iv (v10_37_l0 p0), iv (v10_37_l1 p0)] [] _
    refine XS.iinc X0.here hx rfl (hb hby d10_54) rfl (l' := #[iv (v10_37_l0 p0), iv ((v10_37_l1 p0) + (-4 : Int32))]) rfl ?_
    refine XS.iloadN X0.here hx rfl (hb hby d10_57) rfl ?_
    refine XS.iconst X0.here hx rfl (hb hby d10_58) ?_
    refine XS.iushr X0.here hx rfl (hb hby d10_59) rfl ?_
    refine XS.istoreN X0.here hx rfl (hb hby d10_60) rfl (l' := #[iv (v10_60_l0 p0), iv ((v10_37_l1 p0) + (-4 : Int32))]) rfl ?_
    exact k80
  refine XS.iloadN X0.here hx rfl (hb hby d10_61) rfl ?_
  refine XS.iconst X0.here hx rfl (hb hby d10_62) ?_
  suffices k82 : SF p e below s₁ m 73 #[iv (v10_63_l0 p0), iv (v10_63_l1 p0)] [] t by
   by_cases hc63_81 : (v10_51_l0 p0) < (4 : Int32)
   ·rw [(show (v10_63_l0 p0) = (v10_51_l0 p0) from if_pos hc63_81)] at k82
    rw [(show (v10_63_l1 p0) = (v10_51_l1 p0) from if_pos hc63_81)] at k82
    refine XS.icmpYes X0.here hx rfl (pc0 := 63) (pc' := 73) rfl (hb hby d10_63) rfl (tlt hc63_81).1 (by decide) (by decide) ?_
    exact k82
   ·rw [(show (v10_63_l0 p0) = (v10_72_l0 p0) from if_neg hc63_81)] at k82
    rw [(show (v10_63_l1 p0) = ((v10_51_l1 p0) + (-2 : Int32)) from if_neg hc63_81)] at k82
    refine XS.icmpNo X0.here hx rfl (hb hby d10_63) rfl (flt hc63_81).1 ?_
    refine XS.iinc X0.here hx rfl (hb hby d10_66) rfl (l' := #[iv (v10_51_l0 p0), iv ((v10_51_l1 p0) + (-2 : Int32))]) rfl ?_
    refine XS.iloadN X0.here hx rfl (hb hby d10_69) rfl ?_
    refine XS.iconst X0.here hx rfl (hb hby d10_70) ?_
    show SF p e below s₁ m 71 #[iv (v10_51_l0 p0), iv ((v10_51_l1 p0) + (-2 : Int32))] [(.int 2), (.int (v10_51_l0 p0))] _
    refine XS.iushr X0.here hx rfl (hb hby d10_71) rfl ?_
    refine XS.istoreN X0.here hx rfl (hb hby d10_72) rfl (l' := #[iv (v10_72_l0 p0), iv ((v10_51_l1 p0) + (-2 : Int32))]) rfl ?_
    exact k82
  refine XS.iloadN X0.here hx rfl (hb hby d10_73) rfl ?_
  refine XS.iloadN X0.here hx rfl (hb hby d10_74) rfl ?_
  refine XS.iconst X0.here hx rfl (hb hby d10_75) ?_
  refine XS.iushr X0.here hx rfl (hb hby d10_76) rfl ?_
  refine XS.isub X0.here hx rfl (hb hby d10_77) rfl ?_
  exact kk)
 obtain ⟨fs, hr, hrun, hended, hW, hsame⟩ := X0.leave (v := some (.int ((v10_63_l1 p0) - (((v10_63_l0 p0).toUInt32 >>> ((1 : Int32) &&& 31).toUInt32).toInt32)))) (fun h => by rw [Bd.returns] at h; cases h) hlk
 have hv : (v10_ret p0) = ((v10_63_l1 p0) - (((v10_63_l0 p0).toUInt32 >>> ((1 : Int32) &&& 31).toUInt32).toInt32)) := rfl
 refine ⟨_, _, k83 _ ?_, hrun, hended, _, _, rfl, ?_, ⟨_, rfl⟩, hW, hsame.mono (by decide) (by decide)⟩
 ·show SF p e below s₁ m 78 o1 [(.int ((v10_63_l1 p0) - (((v10_63_l0 p0).toUInt32 >>> ((1 : Int32) &&& 31).toUInt32).toInt32)))] _
  exact retI X0 hx Bd.returns (hb hby d10_78) hr
 ·show Q10 Z p0 h0 n0 _ s₁.heap _
  rw [e0]
  exact ⟨(congrArg (fun z => some (Value.int z)) hv).symm, N0, rfl⟩
theorem pd_1 : parseMethodDescriptor "(I)I" = some ⟨[.int], some .int⟩ := by decide +kernel
theorem d9_0 : decode C7_ 0 = .ok (.iload_n 0, 1) := by decide +kernel
theorem d9_1 : decode C7_ 1 = .ok (.ldc 127, 2) := by decide +kernel
theorem d9_3 : decode C7_ 3 = .ok (.iload_n 0, 1) := by decide +kernel
theorem d9_4 : decode C7_ 4 = .ok (.invokestatic 51, 3) := by decide +kernel
theorem d9_7 : decode C7_ 7 = .ok (.iushr, 1) := by decide +kernel
theorem d9_8 : decode C7_ 8 = .ok (.iand, 1) := by decide +kernel
theorem d9_9 : decode C7_ 9 = .ok (.ireturn, 1) := by decide +kernel
def v9_ret (p0 : Int32) : Int32 := (p0 &&& (((-2147483648 : Int32).toUInt32 >>> ((v10_ret p0) &&& 31).toUInt32).toInt32))
theorem ef_rm9 (m : MethodId) (p0 : Int32) : entryFrame m #[(.int p0)] 1 = mkF m 0 #[iv p0] [] := by first | (simp [entryFrame, mkF, argsToLocals, Value.category]; done) | rfl
def Q9 (Z : State) (p0 : Int32) (h0 : Heap) (n0 : Nat) (v : Option Value) (h : Heap) (L : List Loc) : Prop := (v = some (.int (v9_ret p0)) ∧ Fr n0 L ∧ h = h0)
set_option maxRecDepth 65536 in
set_option maxHeartbeats 40000000 in
theorem rm9 (l : Launch) (Z : State) (a0 : Array Value) (hw : HW Z a0) (ws : List Jvm.Cond) (p0 : Int32) (h0 : Heap) (n0 : Nat) (Z0 : n0 ≤ h0.size) (hp : (0 : Int32) < p0) :
  MetFree l M8_ (head1 (Jvm.Cond.code M8_ jdk_33_method_45_code 1 (some .int) :: ws) R4_) (fun a U => a = #[(.int p0)] ∧ Z.Warmed39 U.vm ∧ U.heap = h0) (fun _ _ _ _ _ => True) (fun _ U o U' => ∃ v L, o = .returned v ∧ Q9 Z p0 h0 n0 v U'.heap L ∧ FrameEnd U o U' L R4_.cells R4_.slots) := by
 refine MetFree.of_bodySF (plainFor_of_name pn_107) hisR ?_
 intro p e s m args below meth c s₁ Bd hml0 hP hK
 obtain ⟨rfl, hZ, hh⟩ := hP
 have hx := Bd.exec
 have hlk : meth.locks = false := by first | exact BodyLoose.notSynchronized Bd | exact Body.notSynchronized Bd
 have hby := Bd.bytes
 have hml : c.maxLocals = 1 := hml0
 have hown : s.vm.findClass "java/lang/Integer" = some m.cls := findClass_of_methodNamed Bd.named
 have hnm := (name_of_methodNamed Bd.named Bd.method).1
 have X0 : Stand p l e R4_ s m #[(.int p0)] below meth c s₁ [] 0 0 := Stand.of_body Bd
 have e0 : s₁.heap = h0 := by rw [← hh, Bd.state]; rfl
 have N0 := Fr.nil n0
 have KC0 := Keep.refl h0 ([] : List Addr)
 have pre0 : ∀ t, SF p e below s₁ m 0 #[iv p0] [] t → Steps p.tables e below (s₁.setTop (entryFrame m #[(.int p0)] 1)) t := fun t k => castTop (ef_rm9 m p0) k
 have k84 := fun t (kk : SF p e below s₁ m 4 #[iv p0] [(.int p0), (.int (-2147483648 : Int32)), (.int p0)] t) => pre0 t (by
  refine XS.iloadN X0.here hx rfl (hb hby d9_0) rfl ?_
  refine X0.ldcInt hx hown (mvT hZ (w78 hw)) (g := (mkF m 1 #[iv p0] [(.int p0)])) rfl (hb hby d9_1) _ ?_
  refine XS.iloadN X0.here hx rfl (hb hby d9_3) rfl ?_
  exact kk)
 have Zz85 : n0 ≤ h0.size := (Nat.le_trans Z0 KC0.1)
 obtain ⟨_, _, ⟨T85, L85, k85, n85⟩, -, X85, ⟨Lc85, hQ85, l85, y85, z85⟩, st85⟩ := Jvm.LawKit.callS X0 hx (y := M9_) hown (mvT hZ (w79 hw)) (mvT hZ (w80 hw)) (mvT hZ (w76 hw)) (mvT hZ (w81 hw)) (by decide) (backOf (W := 2) (rm10 l Z a0 hw [] p0 h0 n0 Zz85 (hp : (0 : Int32) < p0)) hZ (w81 hw) (w76 hw) (by decide) (by decide)) (g := (mkF m 4 #[iv p0] [(.int p0), (.int (-2147483648 : Int32)), (.int p0)])) rfl (by rw [hml]; rfl) (argsL := [(.int p0)]) (rest := [(.int (-2147483648 : Int32)), (.int p0)]) (lenOf pd_1 rfl) rfl (Nat.le_of_eq rfl) (hb hby d9_4) (fun _ _ => ⟨rfl, e0, (by decide : 0 + 0 ≤ _), (by decide : 0 + 0 ≤ _)⟩)
 dsimp only [Pt.U, Pt.locs, Pt.cells, Pt.slots] at X85 l85 y85 z85 st85 hQ85
 subst l85 y85 z85
 obtain ⟨rfl, N85q, e85⟩ := hQ85
 have N85 := Fr.app N0 N85q
 have k86 := fun t (kk : SF p e below T85 m 7 #[iv p0] [(.int (v10_ret p0)), (.int (-2147483648 : Int32)), (.int p0)] t) => k84 t (st85 _ kk)
 have k87 := fun t (kk : SF p e below T85 m 9 #[iv p0] [(.int (p0 &&& (((-2147483648 : Int32).toUInt32 >>> ((v10_ret p0) &&& 31).toUInt32).toInt32)))] t) => k86 t (by
  refine XS.iushr X85.here hx rfl (hb hby d9_7) rfl ?_
  refine XS.iand X85.here hx rfl (hb hby d9_8) rfl ?_
  exact kk)
 obtain ⟨fs, hr, hrun, hended, hW, hsame⟩ := X85.leave (v := some (.int (p0 &&& (((-2147483648 : Int32).toUInt32 >>> ((v10_ret p0) &&& 31).toUInt32).toInt32)))) (fun h => by rw [Bd.returns] at h; cases h) hlk
 have hv : (v9_ret p0) = (p0 &&& (((-2147483648 : Int32).toUInt32 >>> ((v10_ret p0) &&& 31).toUInt32).toInt32)) := rfl
 refine ⟨_, _, k87 _ ?_, hrun, hended, _, _, rfl, ?_, ⟨_, rfl⟩, hW, hsame.mono (by decide) (by decide)⟩
 ·show SF p e below T85 m 9 #[iv p0] [(.int (p0 &&& (((-2147483648 : Int32).toUInt32 >>> ((v10_ret p0) &&& 31).toUInt32).toInt32)))] _
  exact retI X85 hx Bd.returns (hb hby d9_9) hr
 ·show Q9 Z p0 h0 n0 _ T85.heap _
  rw [e85]
  exact ⟨(congrArg (fun z => some (Value.int z)) hv).symm, N85, rfl⟩
theorem pd_2 : parseMethodDescriptor "(II)I" = some ⟨[.int, .int], some .int⟩ := by decide +kernel
theorem d8_0 : decode C8_ 0 = .ok (.aload_n 0, 1) := by decide +kernel
theorem d8_1 : decode C8_ 1 = .ok (.invokespecial 3, 3) := by decide +kernel
theorem d8_4 : decode C8_ 4 = .ok (.bipush 64, 2) := by decide +kernel
theorem d8_6 : decode C8_ 6 = .ok (.iload_n 1, 1) := by decide +kernel
theorem d8_7 : decode C8_ 7 = .ok (.invokestatic 9, 3) := by decide +kernel
theorem d8_10 : decode C8_ 10 = .ok (.istore 4, 2) := by decide +kernel
theorem d8_12 : decode C8_ 12 = .ok (.aload_n 0, 1) := by decide +kernel
theorem d8_13 : decode C8_ 13 = .ok (.iload_n 2, 1) := by decide +kernel
theorem d8_14 : decode C8_ 14 = .ok (.iload 4, 2) := by decide +kernel
theorem d8_16 : decode C8_ 16 = .ok (.imul, 1) := by decide +kernel
theorem d8_17 : decode C8_ 17 = .ok (.newarray .byte, 2) := by decide +kernel
theorem d8_19 : decode C8_ 19 = .ok (.putfield 15, 3) := by decide +kernel
theorem d8_22 : decode C8_ 22 = .ok (.aload_n 0, 1) := by decide +kernel
theorem d8_23 : decode C8_ 23 = .ok (.iload 4, 2) := by decide +kernel
theorem d8_25 : decode C8_ 25 = .ok (.newarray .int, 2) := by decide +kernel
theorem d8_27 : decode C8_ 27 = .ok (.putfield 21, 3) := by decide +kernel
theorem d8_30 : decode C8_ 30 = .ok (.aload_n 0, 1) := by decide +kernel
theorem d8_31 : decode C8_ 31 = .ok (.iload_n 3, 1) := by decide +kernel
theorem d8_32 : decode C8_ 32 = .ok (.ifCond .eq 12, 3) := by decide +kernel
theorem d8_35 : decode C8_ 35 = .ok (.iconst 2, 1) := by decide +kernel
theorem d8_36 : decode C8_ 36 = .ok (.iload 4, 2) := by decide +kernel
theorem d8_38 : decode C8_ 38 = .ok (.imul, 1) := by decide +kernel
theorem d8_39 : decode C8_ 39 = .ok (.newarray .int, 2) := by decide +kernel
theorem d8_41 : decode C8_ 41 = .ok (.goto 4, 3) := by decide +kernel
theorem d8_45 : decode C8_ 45 = .ok (.putfield 25, 3) := by decide +kernel
theorem d8_48 : decode C8_ 48 = .ok (.aload_n 0, 1) := by decide +kernel
theorem d8_49 : decode C8_ 49 = .ok (.iload 4, 2) := by decide +kernel
theorem d8_51 : decode C8_ 51 = .ok (.iconst 1, 1) := by decide +kernel
theorem d8_52 : decode C8_ 52 = .ok (.isub, 1) := by decide +kernel
theorem d8_53 : decode C8_ 53 = .ok (.invokestatic 28, 3) := by decide +kernel
theorem d8_56 : decode C8_ 56 = .ok (.iconst 2, 1) := by decide +kernel
theorem d8_57 : decode C8_ 57 = .ok (.ishl, 1) := by decide +kernel
theorem d8_58 : decode C8_ 58 = .ok (.putfield 32, 3) := by decide +kernel
theorem d8_61 : decode C8_ 61 = .ok (.return_, 1) := by decide +kernel
theorem pn_167 : plainName cBs = true := by first | (simp [plainName, overriddenIn]; done) | decide +kernel
theorem ef_rm8i (m : MethodId) (ra0 : Addr) (p1 p2 p3 : Int32) : entryFrame m #[(.ref ra0), (.int p1), (.int p2), (.int p3)] 5 = mkF m 0 #[rv ra0, iv p1, iv p2, iv p3, .unset] [] := by first | (simp [entryFrame, mkF, argsToLocals, Value.category]; done) | rfl
def Q8i (Z : State) (ra0 : Addr) (p1 p2 p3 : Int32) (zhs zid zek : Value) (zm : Int32) (zby zcf : Value) (za zak : Int32) (zat : Int64) (h0 : Heap) (n0 : Nat) (v : Option Value) (h : Heap) (L : List Loc) : Prop := (∃ (xb : Addr) (k_xb : ClassId), ∃ (xe : Addr) (k_xe : ClassId), ∃ (xv : Addr) (k_xv : ClassId), v = none ∧ Fr n0 L ∧ Keep h0 h [ra0] ∧ Exa Z h ra0 cBs ∧ Fld Z h ra0 cBs "bytes" "[B" (.ref xb) ∧ Fld Z h ra0 cBs "ends" "[I" (.ref xe) ∧ Fld Z h ra0 cBs "byValue" "[I" (.ref xv) ∧ Fld Z h ra0 cBs "expectedSlots" "I" (.int ((v9_ret (p1 - (1 : Int32))) <<< ((2 : Int32) &&& 31))) ∧ Fld Z h ra0 cBs "crowded" "Ljava/util/Map;" zby ∧ Fld Z h ra0 cBs "slots" "[J" zcf ∧ Fld Z h ra0 cBs "size" "I" (.int za) ∧ Fld Z h ra0 cBs "hashed" "I" (.int zak) ∧ Fld Z h ra0 cBs "probes" "J" (.long zat) ∧ h0.size ≤ xb ∧ Arv Z h xb k_xb .byte (p2 * p1) (List.map Value.int (List.replicate ((p2 * p1)).toNatClampNeg (0 : Int32))) (.int 0) ∧ (List.replicate ((p2 * p1)).toNatClampNeg (0 : Int32)).length = ((p2 * p1)).toNatClampNeg ∧ h0.size ≤ xe ∧ Arv Z h xe k_xe .int p1 (List.map Value.int (List.replicate (p1).toNatClampNeg (0 : Int32))) (.int 0) ∧ (List.replicate (p1).toNatClampNeg (0 : Int32)).length = (p1).toNatClampNeg ∧ h0.size ≤ xv ∧ Arv Z h xv k_xv .int ((2 : Int32) * p1) (List.map Value.int (List.replicate (((2 : Int32) * p1)).toNatClampNeg (0 : Int32))) (.int 0) ∧ (List.replicate (((2 : Int32) * p1)).toNatClampNeg (0 : Int32)).length = (((2 : Int32) * p1)).toNatClampNeg ∧ xb ≠ xe ∧ xb ≠ xv ∧ xe ≠ xv)
set_option maxRecDepth 65536 in
set_option maxHeartbeats 40000000 in
theorem rm8i (l : Launch) (Z : State) (a0 : Array Value) (hw : HW Z a0) (ws : List Jvm.Cond) (ra0 : Addr) (p1 p2 p3 : Int32) (zhs zid zek : Value) (zm : Int32) (zby zcf : Value) (za zak : Int32) (zat : Int64) (h0 : Heap) (n0 : Nat) (Z0 : n0 ≤ h0.size) (hc : ¬ p1 < (64 : Int32) ∧ p1 < (256 : Int32)) (hl : p2 = (8 : Int32)) (hd : p3 = (1 : Int32)) (E_ra0 : Exa Z h0 ra0 cBs) (zdy : Fld Z h0 ra0 cBs "bytes" "[B" zhs) (g_ra0 : n0 ≤ ra0) (zdq : Fld Z h0 ra0 cBs "ends" "[I" zid) (zbv : Fld Z h0 ra0 cBs "byValue" "[I" zek) (zcr : Fld Z h0 ra0 cBs "expectedSlots" "I" (.int zm)) (zdr : Fld Z h0 ra0 cBs "crowded" "Ljava/util/Map;" zby) (zdo : Fld Z h0 ra0 cBs "slots" "[J" zcf) (zcc : Fld Z h0 ra0 cBs "size" "I" (.int za)) (zfe : Fld Z h0 ra0 cBs "hashed" "I" (.int zak)) (zeq : Fld Z h0 ra0 cBs "probes" "J" (.long zat)) :
  MetFree l M24_ (head1 (Jvm.Cond.code M24_ prog_10_method_1_code 5 none :: ws) R5_) (fun a U => a = #[(.ref ra0), (.int p1), (.int p2), (.int p3)] ∧ Z.Warmed39 U.vm ∧ U.heap = h0) (fun _ _ _ _ _ => True) (fun _ U o U' => ∃ v L, o = .returned v ∧ Q8i Z ra0 p1 p2 p3 zhs zid zek zm zby zcf za zak zat h0 n0 v U'.heap L ∧ FrameEnd U o U' L R5_.cells R5_.slots) := by
 refine MetFree.of_bodySF (plainFor_of_name pn_167) hisR ?_
 intro p e s m args below meth c s₁ Bd hml0 hP hK
 obtain ⟨rfl, hZ, hh⟩ := hP
 have hx := Bd.exec
 have hlk : meth.locks = false := by first | exact BodyLoose.notSynchronized Bd | exact Body.notSynchronized Bd
 have hby := Bd.bytes
 have hml : c.maxLocals = 5 := hml0
 have hown : s.vm.findClass cBs = some m.cls := findClass_of_methodNamed Bd.named
 have hnm := (name_of_methodNamed Bd.named Bd.method).1
 have X0 : Stand p l e R5_ s m #[(.ref ra0), (.int p1), (.int p2), (.int p3)] below meth c s₁ [] 0 0 := Stand.of_body Bd
 have e0 : s₁.heap = h0 := by rw [← hh, Bd.state]; rfl
 have N0 := Fr.nil n0
 have KC0 := Keep.refl h0 [ra0]
 let o1 : Array Slot := #[rv ra0, iv p1, iv p2, iv p3, iv p1]
 let o2 : Array Slot := #[rv ra0, iv p1, iv p2, iv p3, .unset]
 have pre0 : ∀ t, SF p e below s₁ m 0 o2 [] t → Steps p.tables e below (s₁.setTop (entryFrame m #[(.ref ra0), (.int p1), (.int p2), (.int p3)] 5)) t := fun t k => castTop (ef_rm8i m ra0 p1 p2 p3) k
 have k88 := fun t (kk : SF p e below s₁ m 1 o2 [(.ref ra0)] t) => pre0 t (by
  show SF p e below s₁ m 0 o2 [] _
  refine XS.aloadN X0.here hx rfl (hb hby d8_0) rfl rfl ?_
  exact kk)
 obtain ⟨T89, X89, e89, st89⟩ := initO X0 hx hZ hown (w66 hw) (w17 hw) (w18 hw) e0 (g := (mkF m 1 o2 [(.ref ra0)])) rfl (by rw [hml]; rfl) rfl (hb hby d8_1) (by decide) (W := 0) (Nat.le_of_eq rfl) (by decide)
 have k90 := fun t (kk : SF p e below T89 m 4 o2 [] t) => k88 t (st89 _ kk)
 have k91 := fun t (kk : SF p e below T89 m 7 o2 [(.int p1), (.int 64)] t) => k90 t (by
  refine XS.bipush X89.here hx rfl (hb hby d8_4) ?_
  refine XS.iloadN X89.here hx rfl (hb hby d8_6) rfl ?_
  exact kk)
 have Zz92 : n0 ≤ h0.size := (Nat.le_trans Z0 KC0.1)
 obtain ⟨_, _, ⟨T92, L92, k92, n92⟩, -, X92, ⟨Lc92, hQ92, l92, y92, z92⟩, st92⟩ := Jvm.LawKit.callS X89 hx (y := M6_) hown (mvT hZ (w67 hw)) (mvT hZ (w57 hw)) (mvT hZ (w58 hw)) (mvT hZ (w59 hw)) (by decide) (backOf (W := 0) (rm7 l Z a0 hw [] (64 : Int32) p1 h0 n0 Zz92) hZ (w59 hw) (w58 hw) (by decide) (by decide)) (g := (mkF m 7 o2 [(.int p1), (.int 64)])) rfl (by rw [hml]; rfl) (argsL := [(.int 64), (.int p1)]) (rest := []) (lenOf pd_2 rfl) rfl (Nat.le_of_eq rfl) (hb hby d8_7) (fun _ _ => ⟨rfl, e89, (by decide : 0 + 0 ≤ _), (by decide : 0 + 0 ≤ _)⟩)
 dsimp only [Pt.U, Pt.locs, Pt.cells, Pt.slots] at X92 l92 y92 z92 st92 hQ92
 subst l92 y92 z92
 obtain ⟨rfl, N92q, e92⟩ := hQ92
 have N92 := Fr.app N0 N92q
 have k93 := fun t (kk : SF p e below T92 m 10 o2 [(.int (v7_2_s0 (64 : Int32) p1))] t) => k91 t (st92 _ kk)
 rw [show (v7_2_s0 (64 : Int32) p1) = p1 from own_max hc] at k93
 have k94 := fun t (kk : SF p e below T92 m 17 o1 [(.int (p2 * p1)), (.ref ra0)] t) => k93 t (by
  refine XS.istore X92.here hx rfl (hb hby d8_10) rfl (l' := o1) rfl ?_
  refine XS.aloadN X92.here hx rfl (hb hby d8_12) rfl rfl ?_
  refine XS.iloadN X92.here hx rfl (hb hby d8_13) rfl ?_
  refine XS.iload X92.here hx rfl (hb hby d8_14) rfl ?_
  refine XS.imul X92.here hx rfl (hb hby d8_16) rfl ?_
  exact kk)
 obtain ⟨T95, h95, k95, X95, e95, E95, A95, st95⟩ := newP (aty := .byte) X92 hx hZ (w0 hw) e92 (g := (mkF m 17 o1 [(.int (p2 * p1)), (.ref ra0)])) rfl (hb hby d8_17) rfl (own_nbi hl hc) (cap := 2040) (own_lbi hl hc) (by decide) (by decide) (by decide)
 obtain ⟨b95, g95⟩ : ∃ z, z = h0.size := ⟨_, rfl⟩
 rw [← g95] at A95 st95
 have ne_ra0_b95 : ra0 ≠ b95 := own_nb1 E_ra0.lt g95
 have g_b95 : n0 ≤ b95 := Nat.le_trans (Nat.le_trans Z0 KC0.1) (Nat.le_of_eq g95.symm)
 have sz_b95 : h0.size ≤ b95 := Nat.le_trans KC0.1 (Nat.le_of_eq g95.symm)
 have K95 : Keep h0 h95 [ra0] := KC0.ext E95
 have V95 : Arv Z h95 b95 k95 .byte (p2 * p1) (List.map Value.int (List.replicate ((p2 * p1)).toNatClampNeg (0 : Int32))) (.int 0) := by rw [List.map_replicate]; exact own_pad (Arv.new A95 (own_nbi hl hc)) _
 have VL95 : (List.replicate ((p2 * p1)).toNatClampNeg (0 : Int32)).length = ((p2 * p1)).toNatClampNeg := List.length_replicate
 have k96 := fun t (kk : SF p e below T95 m 19 o1 [(.ref b95), (.ref ra0)] t) => k94 t (st95 _ kk)
 have f97 := (E_ra0.ext E95)
 have f98 := (zdy.ext E95)
 obtain ⟨T99, h99, X99, e99, W99, st99⟩ := putF X95 hx hZ hown (host := "") (Or.inl (w68 hw)) Via.refl e95 f98 f97 (Or.inl (w69 hw)) (w61 hw) (ty := (.array .byte)) (by decide) rfl rfl (g := (mkF m 19 o1 [(.ref b95), (.ref ra0)])) rfl rfl (hb hby d8_19)
 have Fw99 := f98.same W99
 have K99 : Keep h0 h99 [ra0] := K95.wr W99 (Or.inl (List.mem_of_getElem? (i := 0) rfl))
 have N99 := Fr.snoc X99 N92 g_ra0
 have k100 := fun t (kk : SF p e below T99 m 22 o1 [] t) => k96 t (st99 _ kk)
 have k101 := fun t (kk : SF p e below T99 m 25 o1 [(.int p1), (.ref ra0)] t) => k100 t (by
  refine XS.aloadN X99.here hx rfl (hb hby d8_22) rfl rfl ?_
  refine XS.iload X99.here hx rfl (hb hby d8_23) rfl ?_
  exact kk)
 obtain ⟨T102, h102, k102, X102, e102, E102, A102, st102⟩ := newP (aty := .int) X99 hx hZ (w47 hw) e99 (g := (mkF m 25 o1 [(.int p1), (.ref ra0)])) rfl (hb hby d8_25) rfl (own_n1 hc) (cap := 255) (own_l1 hc) (by decide) (by decide) (by decide)
 obtain ⟨b102, g102⟩ : ∃ z, z = h99.size := ⟨_, rfl⟩
 rw [← g102] at A102 st102
 have f103 := (f97.wr W99)
 have ne_ra0_b102 : ra0 ≠ b102 := own_nb1 f103.lt g102
 have m104 : b95 ≠ ra0 := Ne.symm ne_ra0_b95
 have f105 := (V95.other W99 m104)
 have ne_b95_b102 : b95 ≠ b102 := own_nb1 f105.lt g102
 have g_b102 : n0 ≤ b102 := Nat.le_trans (Nat.le_trans Z0 K99.1) (Nat.le_of_eq g102.symm)
 have sz_b102 : h0.size ≤ b102 := Nat.le_trans K99.1 (Nat.le_of_eq g102.symm)
 have K102 : Keep h0 h102 [ra0] := K99.ext E102
 have V102 : Arv Z h102 b102 k102 .int p1 (List.map Value.int (List.replicate (p1).toNatClampNeg (0 : Int32))) (.int 0) := by rw [List.map_replicate]; exact own_pad (Arv.new A102 (own_n1 hc)) _
 have VL102 : (List.replicate (p1).toNatClampNeg (0 : Int32)).length = (p1).toNatClampNeg := List.length_replicate
 have k106 := fun t (kk : SF p e below T102 m 27 o1 [(.ref b102), (.ref ra0)] t) => k101 t (st102 _ kk)
 have f107 := (f103.ext E102)
 have f108 := (((zdq.ext E95).other W99 (Or.inr (own_sn (y71 hw) (y69 hw) (by decide)))).ext E102)
 obtain ⟨T109, h109, X109, e109, W109, st109⟩ := putF X102 hx hZ hown (host := "") (Or.inl (w70 hw)) Via.refl e102 f108 f107 (Or.inl (w71 hw)) (w61 hw) (ty := (.array .int)) (by decide) rfl rfl (g := (mkF m 27 o1 [(.ref b102), (.ref ra0)])) rfl rfl (hb hby d8_27)
 have Fw109 := f108.same W109
 have K109 : Keep h0 h109 [ra0] := K102.wr W109 (Or.inl (List.mem_of_getElem? (i := 0) rfl))
 have N109 := Fr.snoc X109 N99 g_ra0
 have k110 := fun t (kk : SF p e below T109 m 30 o1 [] t) => k106 t (st109 _ kk)
 have k111 := fun t (kk : SF p e below T109 m 32 o1 [(.int p3), (.ref ra0)] t) => k110 t (by
  refine XS.aloadN X109.here hx rfl (hb hby d8_30) rfl rfl ?_
  refine XS.iloadN X109.here hx rfl (hb hby d8_31) rfl ?_
  exact kk)
 have hc32_112 : ¬ (p3 = (0 : Int32)) := own_di hd
 have k113 := fun t (kk : SF p e below T109 m 39 o1 [(.int ((2 : Int32) * p1)), (.ref ra0)] t) => k111 t (by
  show SF p e below T109 m 32 o1 [(.int p3), (.ref ra0)] _
  refine XS.ifNo X109.here hx rfl (hb hby d8_32) rfl ((if0 _ _).trans (feq hc32_112).1) ?_
  refine XS.iconst X109.here hx rfl (hb hby d8_35) ?_
  refine XS.iload X109.here hx rfl (hb hby d8_36) rfl ?_
  refine XS.imul X109.here hx rfl (hb hby d8_38) rfl ?_
  exact kk)
 obtain ⟨T114, h114, k114, X114, e114, E114, A114, st114⟩ := newP (aty := .int) X109 hx hZ (w47 hw) e109 (g := (mkF m 39 o1 [(.int ((2 : Int32) * p1)), (.ref ra0)])) rfl (hb hby d8_39) rfl (own_n2 hc) (cap := 510) (own_l2 hc) (by decide) (by decide) (by decide)
 obtain ⟨b114, g114⟩ : ∃ z, z = h109.size := ⟨_, rfl⟩
 rw [← g114] at A114 st114
 have f115 := (f107.wr W109)
 have ne_ra0_b114 : ra0 ≠ b114 := own_nb1 f115.lt g114
 have f116 := ((f105.ext E102).other W109 m104)
 have ne_b95_b114 : b95 ≠ b114 := own_nb1 f116.lt g114
 have m117 : b102 ≠ ra0 := Ne.symm ne_ra0_b102
 have f118 := (V102.other W109 m117)
 have ne_b102_b114 : b102 ≠ b114 := own_nb1 f118.lt g114
 have g_b114 : n0 ≤ b114 := Nat.le_trans (Nat.le_trans Z0 K109.1) (Nat.le_of_eq g114.symm)
 have sz_b114 : h0.size ≤ b114 := Nat.le_trans K109.1 (Nat.le_of_eq g114.symm)
 have K114 : Keep h0 h114 [ra0] := K109.ext E114
 have V114 : Arv Z h114 b114 k114 .int ((2 : Int32) * p1) (List.map Value.int (List.replicate (((2 : Int32) * p1)).toNatClampNeg (0 : Int32))) (.int 0) := by rw [List.map_replicate]; exact own_pad (Arv.new A114 (own_n2 hc)) _
 have VL114 : (List.replicate (((2 : Int32) * p1)).toNatClampNeg (0 : Int32)).length = (((2 : Int32) * p1)).toNatClampNeg := List.length_replicate
 have k119 := fun t (kk : SF p e below T114 m 41 o1 [(.ref b114), (.ref ra0)] t) => k113 t (st114 _ kk)
 have k120 := fun t (kk : SF p e below T114 m 45 o1 [(.ref b114), (.ref ra0)] t) => k119 t (by
  refine XS.goto X114.here hx rfl (pc0 := 41) (pc' := 45) rfl (hb hby d8_41) (by decide) (by decide) ?_
  exact kk)
 have f121 := (f115.ext E114)
 have f122 := (((((zbv.ext E95).other W99 (Or.inr (own_sn (y73 hw) (y69 hw) (by decide)))).ext E102).other W109 (Or.inr (own_sn (y73 hw) (y71 hw) (by decide)))).ext E114)
 obtain ⟨T123, h123, X123, e123, W123, st123⟩ := putF X114 hx hZ hown (host := "") (Or.inl (w72 hw)) Via.refl e114 f122 f121 (Or.inr ⟨(w73 hw), rfl, hnm⟩) (w61 hw) (ty := (.array .int)) (by decide) rfl rfl (g := (mkF m 45 o1 [(.ref b114), (.ref ra0)])) rfl rfl (hb hby d8_45)
 have Fw123 := f122.same W123
 have K123 : Keep h0 h123 [ra0] := K114.wr W123 (Or.inl (List.mem_of_getElem? (i := 0) rfl))
 have N123 := Fr.snoc X123 N109 g_ra0
 have k124 := fun t (kk : SF p e below T123 m 48 o1 [] t) => k120 t (st123 _ kk)
 have k125 := fun t (kk : SF p e below T123 m 53 o1 [(.int (p1 - (1 : Int32))), (.ref ra0)] t) => k124 t (by
  refine XS.aloadN X123.here hx rfl (hb hby d8_48) rfl rfl ?_
  refine XS.iload X123.here hx rfl (hb hby d8_49) rfl ?_
  refine XS.iconst X123.here hx rfl (hb hby d8_51) ?_
  refine XS.isub X123.here hx rfl (hb hby d8_52) rfl ?_
  exact kk)
 have Zz126 : n0 ≤ h123.size := (Nat.le_trans Z0 K123.1)
 obtain ⟨_, _, ⟨T126, L126, k126, n126⟩, -, X126, ⟨Lc126, hQ126, l126, y126, z126⟩, st126⟩ := Jvm.LawKit.callS X123 hx (y := M8_) hown (mvT hZ (w74 hw)) (mvT hZ (w75 hw)) (mvT hZ (w76 hw)) (mvT hZ (w77 hw)) (by decide) (backOf (W := 1) (rm9 l Z a0 hw [] (p1 - (1 : Int32)) h123 n0 Zz126 (own_p hc : (0 : Int32) < (p1 - (1 : Int32)))) hZ (w77 hw) (w76 hw) (by decide) (by decide)) (g := (mkF m 53 o1 [(.int (p1 - (1 : Int32))), (.ref ra0)])) rfl (by rw [hml]; rfl) (argsL := [(.int (p1 - (1 : Int32)))]) (rest := [(.ref ra0)]) (lenOf pd_1 rfl) rfl (Nat.le_of_eq rfl) (hb hby d8_53) (fun _ _ => ⟨rfl, e123, (by decide : 3 + 0 ≤ _), (by decide : 2805 + 0 ≤ _)⟩)
 dsimp only [Pt.U, Pt.locs, Pt.cells, Pt.slots] at X126 l126 y126 z126 st126 hQ126
 subst l126 y126 z126
 obtain ⟨rfl, N126q, e126⟩ := hQ126
 have N126 := Fr.app N123 N126q
 have k127 := fun t (kk : SF p e below T126 m 56 o1 [(.int (v9_ret (p1 - (1 : Int32)))), (.ref ra0)] t) => k125 t (st126 _ kk)
 have k128 := fun t (kk : SF p e below T126 m 58 o1 [(.int ((v9_ret (p1 - (1 : Int32))) <<< ((2 : Int32) &&& 31))), (.ref ra0)] t) => k127 t (by
  refine XS.iconst X126.here hx rfl (hb hby d8_56) ?_
  refine XS.ishl X126.here hx rfl (hb hby d8_57) rfl ?_
  exact kk)
 have f129 := (f121.wr W123)
 have f130 := ((((((zcr.ext E95).other W99 (Or.inr (own_sn (y84 hw) (y69 hw) (by decide)))).ext E102).other W109 (Or.inr (own_sn (y84 hw) (y71 hw) (by decide)))).ext E114).other W123 (Or.inr (own_sn (y84 hw) (y73 hw) (by decide))))
 obtain ⟨T131, h131, X131, e131, W131, st131⟩ := putF X126 hx hZ hown (host := "") (Or.inl (w83 hw)) Via.refl e126 f130 f129 (Or.inr ⟨(w84 hw), rfl, hnm⟩) (w61 hw) (ty := .int) (by decide) rfl rfl (g := (mkF m 58 o1 [(.int ((v9_ret (p1 - (1 : Int32))) <<< ((2 : Int32) &&& 31))), (.ref ra0)])) rfl rfl (hb hby d8_58)
 have Fw131 := f130.same W131
 have K131 : Keep h0 h131 [ra0] := K123.wr W131 (Or.inl (List.mem_of_getElem? (i := 0) rfl))
 have N131 := Fr.snoc X131 N126 g_ra0
 have k132 := fun t (kk : SF p e below T131 m 61 o1 [] t) => k128 t (st131 _ kk)
 obtain ⟨fs, hr, hrun, hended, hW, hsame⟩ := X131.leave (v := none) (fun _ => rfl) hlk
 have f133 := (f129.wr W131)
 have f134 := (((((Fw99.ext E102).other W109 (Or.inr (own_sn (y69 hw) (y71 hw) (by decide)))).ext E114).other W123 (Or.inr (own_sn (y69 hw) (y73 hw) (by decide)))).other W131 (Or.inr (own_sn (y69 hw) (y84 hw) (by decide))))
 have f135 := (((Fw109.ext E114).other W123 (Or.inr (own_sn (y71 hw) (y73 hw) (by decide)))).other W131 (Or.inr (own_sn (y71 hw) (y84 hw) (by decide))))
 have f136 := (Fw123.other W131 (Or.inr (own_sn (y73 hw) (y84 hw) (by decide))))
 have f137 := (((((((zdr.ext E95).other W99 (Or.inr (own_sn (y114 hw) (y69 hw) (by decide)))).ext E102).other W109 (Or.inr (own_sn (y114 hw) (y71 hw) (by decide)))).ext E114).other W123 (Or.inr (own_sn (y114 hw) (y73 hw) (by decide)))).other W131 (Or.inr (own_sn (y114 hw) (y84 hw) (by decide))))
 have f138 := (((((((zdo.ext E95).other W99 (Or.inr (own_sn (y116 hw) (y69 hw) (by decide)))).ext E102).other W109 (Or.inr (own_sn (y116 hw) (y71 hw) (by decide)))).ext E114).other W123 (Or.inr (own_sn (y116 hw) (y73 hw) (by decide)))).other W131 (Or.inr (own_sn (y116 hw) (y84 hw) (by decide))))
 have f139 := (((((((zcc.ext E95).other W99 (Or.inr (own_sn (y130 hw) (y69 hw) (by decide)))).ext E102).other W109 (Or.inr (own_sn (y130 hw) (y71 hw) (by decide)))).ext E114).other W123 (Or.inr (own_sn (y130 hw) (y73 hw) (by decide)))).other W131 (Or.inr (own_sn (y130 hw) (y84 hw) (by decide))))
 have f140 := (((((((zfe.ext E95).other W99 (Or.inr (own_sn (y136 hw) (y69 hw) (by decide)))).ext E102).other W109 (Or.inr (own_sn (y136 hw) (y71 hw) (by decide)))).ext E114).other W123 (Or.inr (own_sn (y136 hw) (y73 hw) (by decide)))).other W131 (Or.inr (own_sn (y136 hw) (y84 hw) (by decide))))
 have f141 := (((((((zeq.ext E95).other W99 (Or.inr (own_sn (y182 hw) (y69 hw) (by decide)))).ext E102).other W109 (Or.inr (own_sn (y182 hw) (y71 hw) (by decide)))).ext E114).other W123 (Or.inr (own_sn (y182 hw) (y73 hw) (by decide)))).other W131 (Or.inr (own_sn (y182 hw) (y84 hw) (by decide))))
 have f142 := (((f116.ext E114).other W123 m104).other W131 m104)
 have f143 := (((f118.ext E114).other W123 m117).other W131 m117)
 have m144 : b114 ≠ ra0 := Ne.symm ne_ra0_b114
 have f145 := ((V114.other W123 m144).other W131 m144)
 refine ⟨_, _, k132 _ ?_, hrun, hended, _, _, rfl, ?_, ⟨_, rfl⟩, hW, hsame.mono (by decide) (by decide)⟩
 ·show SF p e below T131 m 61 o1 [] _
  exact X131.returnOut hx Bd.returns (hb hby d8_61) hr
 ·show Q8i Z ra0 p1 p2 p3 zhs zid zek zm zby zcf za zak zat h0 n0 _ T131.heap _
  rw [e131]
  exact ⟨b95, k95, b102, k102, b114, k114, rfl, N131, K131, f133, f134, f135, f136, Fw131, f137, f138, f139, f140, f141, sz_b95, f142, VL95, sz_b102, f143, VL102, sz_b114, f145, VL114, ne_b95_b102, ne_b95_b114, ne_b102_b114⟩
theorem d8_44 : decode C8_ 44 = .ok (.aconst_null, 1) := by decide +kernel
def Q8m (Z : State) (ra0 : Addr) (p1 p2 p3 : Int32) (zhs zid zek : Value) (zm : Int32) (zby zcf : Value) (za zak : Int32) (zat : Int64) (h0 : Heap) (n0 : Nat) (v : Option Value) (h : Heap) (L : List Loc) : Prop := (∃ (xb : Addr) (k_xb : ClassId), ∃ (xe : Addr) (k_xe : ClassId), v = none ∧ Fr n0 L ∧ Keep h0 h [ra0] ∧ Exa Z h ra0 cBs ∧ Fld Z h ra0 cBs "bytes" "[B" (.ref xb) ∧ Fld Z h ra0 cBs "ends" "[I" (.ref xe) ∧ Fld Z h ra0 cBs "byValue" "[I" .null ∧ Fld Z h ra0 cBs "expectedSlots" "I" (.int ((v9_ret (p1 - (1 : Int32))) <<< ((2 : Int32) &&& 31))) ∧ Fld Z h ra0 cBs "crowded" "Ljava/util/Map;" zby ∧ Fld Z h ra0 cBs "slots" "[J" zcf ∧ Fld Z h ra0 cBs "size" "I" (.int za) ∧ Fld Z h ra0 cBs "hashed" "I" (.int zak) ∧ Fld Z h ra0 cBs "probes" "J" (.long zat) ∧ h0.size ≤ xb ∧ Arv Z h xb k_xb .byte (p2 * p1) (List.map Value.int (List.replicate ((p2 * p1)).toNatClampNeg (0 : Int32))) (.int 0) ∧ (List.replicate ((p2 * p1)).toNatClampNeg (0 : Int32)).length = ((p2 * p1)).toNatClampNeg ∧ h0.size ≤ xe ∧ Arv Z h xe k_xe .int p1 (List.map Value.int (List.replicate (p1).toNatClampNeg (0 : Int32))) (.int 0) ∧ (List.replicate (p1).toNatClampNeg (0 : Int32)).length = (p1).toNatClampNeg ∧ xb ≠ xe)
set_option maxRecDepth 65536 in
set_option maxHeartbeats 40000000 in
theorem rm8m (l : Launch) (Z : State) (a0 : Array Value) (hw : HW Z a0) (ws : List Jvm.Cond) (ra0 : Addr) (p1 p2 p3 : Int32) (zhs zid zek : Value) (zm : Int32) (zby zcf : Value) (za zak : Int32) (zat : Int64) (h0 : Heap) (n0 : Nat) (Z0 : n0 ≤ h0.size) (hc : ¬ p1 < (64 : Int32) ∧ p1 < (256 : Int32)) (hl : p2 = (4 : Int32)) (hd : p3 = (0 : Int32)) (E_ra0 : Exa Z h0 ra0 cBs) (zdy : Fld Z h0 ra0 cBs "bytes" "[B" zhs) (g_ra0 : n0 ≤ ra0) (zdq : Fld Z h0 ra0 cBs "ends" "[I" zid) (zbv : Fld Z h0 ra0 cBs "byValue" "[I" zek) (zcr : Fld Z h0 ra0 cBs "expectedSlots" "I" (.int zm)) (zdr : Fld Z h0 ra0 cBs "crowded" "Ljava/util/Map;" zby) (zdo : Fld Z h0 ra0 cBs "slots" "[J" zcf) (zcc : Fld Z h0 ra0 cBs "size" "I" (.int za)) (zfe : Fld Z h0 ra0 cBs "hashed" "I" (.int zak)) (zeq : Fld Z h0 ra0 cBs "probes" "J" (.long zat)) :
  MetFree l M24_ (head1 (Jvm.Cond.code M24_ prog_10_method_1_code 5 none :: ws) R6_) (fun a U => a = #[(.ref ra0), (.int p1), (.int p2), (.int p3)] ∧ Z.Warmed39 U.vm ∧ U.heap = h0) (fun _ _ _ _ _ => True) (fun _ U o U' => ∃ v L, o = .returned v ∧ Q8m Z ra0 p1 p2 p3 zhs zid zek zm zby zcf za zak zat h0 n0 v U'.heap L ∧ FrameEnd U o U' L R6_.cells R6_.slots) := by
 refine MetFree.of_bodySF (plainFor_of_name pn_167) hisR ?_
 intro p e s m args below meth c s₁ Bd hml0 hP hK
 obtain ⟨rfl, hZ, hh⟩ := hP
 have hx := Bd.exec
 have hlk : meth.locks = false := by first | exact BodyLoose.notSynchronized Bd | exact Body.notSynchronized Bd
 have hby := Bd.bytes
 have hml : c.maxLocals = 5 := hml0
 have hown : s.vm.findClass cBs = some m.cls := findClass_of_methodNamed Bd.named
 have hnm := (name_of_methodNamed Bd.named Bd.method).1
 have X0 : Stand p l e R6_ s m #[(.ref ra0), (.int p1), (.int p2), (.int p3)] below meth c s₁ [] 0 0 := Stand.of_body Bd
 have e0 : s₁.heap = h0 := by rw [← hh, Bd.state]; rfl
 have N0 := Fr.nil n0
 have KC0 := Keep.refl h0 [ra0]
 let o1 : Array Slot := #[rv ra0, iv p1, iv p2, iv p3, iv p1]
 let o2 : Array Slot := #[rv ra0, iv p1, iv p2, iv p3, .unset]
 have pre0 : ∀ t, SF p e below s₁ m 0 o2 [] t → Steps p.tables e below (s₁.setTop (entryFrame m #[(.ref ra0), (.int p1), (.int p2), (.int p3)] 5)) t := fun t k => castTop (ef_rm8i m ra0 p1 p2 p3) k
 have k146 := fun t (kk : SF p e below s₁ m 1 o2 [(.ref ra0)] t) => pre0 t (by
  refine XS.aloadN X0.here hx rfl (hb hby d8_0) rfl rfl ?_
  exact kk)
 obtain ⟨T147, X147, e147, st147⟩ := initO X0 hx hZ hown (w66 hw) (w17 hw) (w18 hw) e0 (g := (mkF m 1 o2 [(.ref ra0)])) rfl (by rw [hml]; rfl) rfl (hb hby d8_1) (by decide) (W := 0) (Nat.le_of_eq rfl) (by decide)
 have k148 := fun t (kk : SF p e below T147 m 4 o2 [] t) => k146 t (st147 _ kk)
 have k149 := fun t (kk : SF p e below T147 m 7 o2 [(.int p1), (.int 64)] t) => k148 t (by
  refine XS.bipush X147.here hx rfl (hb hby d8_4) ?_
  refine XS.iloadN X147.here hx rfl (hb hby d8_6) rfl ?_
  exact kk)
 have Zz150 : n0 ≤ h0.size := (Nat.le_trans Z0 KC0.1)
 obtain ⟨_, _, ⟨T150, L150, k150, n150⟩, -, X150, ⟨Lc150, hQ150, l150, y150, z150⟩, st150⟩ := Jvm.LawKit.callS X147 hx (y := M6_) hown (mvT hZ (w67 hw)) (mvT hZ (w57 hw)) (mvT hZ (w58 hw)) (mvT hZ (w59 hw)) (by decide) (backOf (W := 0) (rm7 l Z a0 hw [] (64 : Int32) p1 h0 n0 Zz150) hZ (w59 hw) (w58 hw) (by decide) (by decide)) (g := (mkF m 7 o2 [(.int p1), (.int 64)])) rfl (by rw [hml]; rfl) (argsL := [(.int 64), (.int p1)]) (rest := []) (lenOf pd_2 rfl) rfl (Nat.le_of_eq rfl) (hb hby d8_7) (fun _ _ => ⟨rfl, e147, (by decide : 0 + 0 ≤ _), (by decide : 0 + 0 ≤ _)⟩)
 dsimp only [Pt.U, Pt.locs, Pt.cells, Pt.slots] at X150 l150 y150 z150 st150 hQ150
 subst l150 y150 z150
 obtain ⟨rfl, N150q, e150⟩ := hQ150
 have N150 := Fr.app N0 N150q
 have k151 := fun t (kk : SF p e below T150 m 10 o2 [(.int (v7_2_s0 (64 : Int32) p1))] t) => k149 t (st150 _ kk)
 rw [show (v7_2_s0 (64 : Int32) p1) = p1 from own_max hc] at k151
 have k152 := fun t (kk : SF p e below T150 m 17 o1 [(.int (p2 * p1)), (.ref ra0)] t) => k151 t (by
  show SF p e below T150 m 10 o2 [(.int p1)] _
  refine XS.istore X150.here hx rfl (hb hby d8_10) rfl (l' := o1) rfl ?_
  refine XS.aloadN X150.here hx rfl (hb hby d8_12) rfl rfl ?_
  refine XS.iloadN X150.here hx rfl (hb hby d8_13) rfl ?_
  refine XS.iload X150.here hx rfl (hb hby d8_14) rfl ?_
  refine XS.imul X150.here hx rfl (hb hby d8_16) rfl ?_
  exact kk)
 obtain ⟨T153, h153, k153, X153, e153, E153, A153, st153⟩ := newP (aty := .byte) X150 hx hZ (w0 hw) e150 (g := (mkF m 17 o1 [(.int (p2 * p1)), (.ref ra0)])) rfl (hb hby d8_17) rfl (own_nbm hl hc) (cap := 2040) (own_lbm hl hc) (by decide) (by decide) (by decide)
 obtain ⟨b153, g153⟩ : ∃ z, z = h0.size := ⟨_, rfl⟩
 rw [← g153] at A153 st153
 have ne_ra0_b153 : ra0 ≠ b153 := own_nb1 E_ra0.lt g153
 have g_b153 : n0 ≤ b153 := Nat.le_trans (Nat.le_trans Z0 KC0.1) (Nat.le_of_eq g153.symm)
 have sz_b153 : h0.size ≤ b153 := Nat.le_trans KC0.1 (Nat.le_of_eq g153.symm)
 have K153 : Keep h0 h153 [ra0] := KC0.ext E153
 have V153 : Arv Z h153 b153 k153 .byte (p2 * p1) (List.map Value.int (List.replicate ((p2 * p1)).toNatClampNeg (0 : Int32))) (.int 0) := by rw [List.map_replicate]; exact own_pad (Arv.new A153 (own_nbm hl hc)) _
 have VL153 : (List.replicate ((p2 * p1)).toNatClampNeg (0 : Int32)).length = ((p2 * p1)).toNatClampNeg := List.length_replicate
 have k154 := fun t (kk : SF p e below T153 m 19 o1 [(.ref b153), (.ref ra0)] t) => k152 t (st153 _ kk)
 have f155 := (E_ra0.ext E153)
 have f156 := (zdy.ext E153)
 obtain ⟨T157, h157, X157, e157, W157, st157⟩ := putF X153 hx hZ hown (host := "") (Or.inl (w68 hw)) Via.refl e153 f156 f155 (Or.inl (w69 hw)) (w61 hw) (ty := (.array .byte)) (by decide) rfl rfl (g := (mkF m 19 o1 [(.ref b153), (.ref ra0)])) rfl rfl (hb hby d8_19)
 have Fw157 := f156.same W157
 have K157 : Keep h0 h157 [ra0] := K153.wr W157 (Or.inl (List.mem_of_getElem? (i := 0) rfl))
 have N157 := Fr.snoc X157 N150 g_ra0
 have k158 := fun t (kk : SF p e below T157 m 22 o1 [] t) => k154 t (st157 _ kk)
 have k159 := fun t (kk : SF p e below T157 m 25 o1 [(.int p1), (.ref ra0)] t) => k158 t (by
  refine XS.aloadN X157.here hx rfl (hb hby d8_22) rfl rfl ?_
  refine XS.iload X157.here hx rfl (hb hby d8_23) rfl ?_
  exact kk)
 obtain ⟨T160, h160, k160, X160, e160, E160, A160, st160⟩ := newP (aty := .int) X157 hx hZ (w47 hw) e157 (g := (mkF m 25 o1 [(.int p1), (.ref ra0)])) rfl (hb hby d8_25) rfl (own_n1 hc) (cap := 255) (own_l1 hc) (by decide) (by decide) (by decide)
 obtain ⟨b160, g160⟩ : ∃ z, z = h157.size := ⟨_, rfl⟩
 rw [← g160] at A160 st160
 have f161 := (f155.wr W157)
 have ne_ra0_b160 : ra0 ≠ b160 := own_nb1 f161.lt g160
 have m162 : b153 ≠ ra0 := Ne.symm ne_ra0_b153
 have f163 := (V153.other W157 m162)
 have ne_b153_b160 : b153 ≠ b160 := own_nb1 f163.lt g160
 have g_b160 : n0 ≤ b160 := Nat.le_trans (Nat.le_trans Z0 K157.1) (Nat.le_of_eq g160.symm)
 have sz_b160 : h0.size ≤ b160 := Nat.le_trans K157.1 (Nat.le_of_eq g160.symm)
 have K160 : Keep h0 h160 [ra0] := K157.ext E160
 have V160 : Arv Z h160 b160 k160 .int p1 (List.map Value.int (List.replicate (p1).toNatClampNeg (0 : Int32))) (.int 0) := by rw [List.map_replicate]; exact own_pad (Arv.new A160 (own_n1 hc)) _
 have VL160 : (List.replicate (p1).toNatClampNeg (0 : Int32)).length = (p1).toNatClampNeg := List.length_replicate
 have k164 := fun t (kk : SF p e below T160 m 27 o1 [(.ref b160), (.ref ra0)] t) => k159 t (st160 _ kk)
 have f165 := (f161.ext E160)
 have f166 := (((zdq.ext E153).other W157 (Or.inr (own_sn (y71 hw) (y69 hw) (by decide)))).ext E160)
 obtain ⟨T167, h167, X167, e167, W167, st167⟩ := putF X160 hx hZ hown (host := "") (Or.inl (w70 hw)) Via.refl e160 f166 f165 (Or.inl (w71 hw)) (w61 hw) (ty := (.array .int)) (by decide) rfl rfl (g := (mkF m 27 o1 [(.ref b160), (.ref ra0)])) rfl rfl (hb hby d8_27)
 have Fw167 := f166.same W167
 have K167 : Keep h0 h167 [ra0] := K160.wr W167 (Or.inl (List.mem_of_getElem? (i := 0) rfl))
 have N167 := Fr.snoc X167 N157 g_ra0
 have k168 := fun t (kk : SF p e below T167 m 30 o1 [] t) => k164 t (st167 _ kk)
 have k169 := fun t (kk : SF p e below T167 m 32 o1 [(.int p3), (.ref ra0)] t) => k168 t (by
  refine XS.aloadN X167.here hx rfl (hb hby d8_30) rfl rfl ?_
  refine XS.iloadN X167.here hx rfl (hb hby d8_31) rfl ?_
  exact kk)
 have hc32_170 : p3 = (0 : Int32) := own_dm hd
 have k171 := fun t (kk : SF p e below T167 m 45 o1 [.null, (.ref ra0)] t) => k169 t (by
  refine XS.ifYes X167.here hx rfl (pc0 := 32) (pc' := 44) rfl (hb hby d8_32) rfl ((if0 _ _).trans (teq hc32_170).1) (by decide) (by decide) ?_
  refine XS.aconstNull X167.here hx rfl (hb hby d8_44) ?_
  exact kk)
 have f172 := (f165.wr W167)
 have f173 := ((((zbv.ext E153).other W157 (Or.inr (own_sn (y73 hw) (y69 hw) (by decide)))).ext E160).other W167 (Or.inr (own_sn (y73 hw) (y71 hw) (by decide))))
 obtain ⟨T174, h174, X174, e174, W174, st174⟩ := putF X167 hx hZ hown (host := "") (Or.inl (w72 hw)) Via.refl e167 f173 f172 (Or.inr ⟨(w73 hw), rfl, hnm⟩) (w61 hw) (ty := (.array .int)) (by decide) rfl rfl (g := (mkF m 45 o1 [.null, (.ref ra0)])) rfl rfl (hb hby d8_45)
 have Fw174 := f173.same W174
 have K174 : Keep h0 h174 [ra0] := K167.wr W174 (Or.inl (List.mem_of_getElem? (i := 0) rfl))
 have N174 := Fr.snoc X174 N167 g_ra0
 have k175 := fun t (kk : SF p e below T174 m 48 o1 [] t) => k171 t (st174 _ kk)
 have k176 := fun t (kk : SF p e below T174 m 53 o1 [(.int (p1 - (1 : Int32))), (.ref ra0)] t) => k175 t (by
  refine XS.aloadN X174.here hx rfl (hb hby d8_48) rfl rfl ?_
  show SF p e below T174 m 49 o1 [(.ref ra0)] _
  refine XS.iload X174.here hx rfl (hb hby d8_49) rfl ?_
  refine XS.iconst X174.here hx rfl (hb hby d8_51) ?_
  refine XS.isub X174.here hx rfl (hb hby d8_52) rfl ?_
  exact kk)
 have Zz177 : n0 ≤ h174.size := (Nat.le_trans Z0 K174.1)
 obtain ⟨_, _, ⟨T177, L177, k177, n177⟩, -, X177, ⟨Lc177, hQ177, l177, y177, z177⟩, st177⟩ := Jvm.LawKit.callS X174 hx (y := M8_) hown (mvT hZ (w74 hw)) (mvT hZ (w75 hw)) (mvT hZ (w76 hw)) (mvT hZ (w77 hw)) (by decide) (backOf (W := 1) (rm9 l Z a0 hw [] (p1 - (1 : Int32)) h174 n0 Zz177 (own_p hc : (0 : Int32) < (p1 - (1 : Int32)))) hZ (w77 hw) (w76 hw) (by decide) (by decide)) (g := (mkF m 53 o1 [(.int (p1 - (1 : Int32))), (.ref ra0)])) rfl (by rw [hml]; rfl) (argsL := [(.int (p1 - (1 : Int32)))]) (rest := [(.ref ra0)]) (lenOf pd_1 rfl) rfl (Nat.le_of_eq rfl) (hb hby d8_53) (fun _ _ => ⟨rfl, e174, (by decide : 2 + 0 ≤ _), (by decide : 2295 + 0 ≤ _)⟩)
 dsimp only [Pt.U, Pt.locs, Pt.cells, Pt.slots] at X177 l177 y177 z177 st177 hQ177
 subst l177 y177 z177
 obtain ⟨rfl, N177q, e177⟩ := hQ177
 have N177 := Fr.app N174 N177q
 have k178 := fun t (kk : SF p e below T177 m 56 o1 [(.int (v9_ret (p1 - (1 : Int32)))), (.ref ra0)] t) => k176 t (st177 _ kk)
 have k179 := fun t (kk : SF p e below T177 m 58 o1 [(.int ((v9_ret (p1 - (1 : Int32))) <<< ((2 : Int32) &&& 31))), (.ref ra0)] t) => k178 t (by
  refine XS.iconst X177.here hx rfl (hb hby d8_56) ?_
  refine XS.ishl X177.here hx rfl (hb hby d8_57) rfl ?_
  exact kk)
 have f180 := (f172.wr W174)
 have f181 := (((((zcr.ext E153).other W157 (Or.inr (own_sn (y84 hw) (y69 hw) (by decide)))).ext E160).other W167 (Or.inr (own_sn (y84 hw) (y71 hw) (by decide)))).other W174 (Or.inr (own_sn (y84 hw) (y73 hw) (by decide))))
 obtain ⟨T182, h182, X182, e182, W182, st182⟩ := putF X177 hx hZ hown (host := "") (Or.inl (w83 hw)) Via.refl e177 f181 f180 (Or.inr ⟨(w84 hw), rfl, hnm⟩) (w61 hw) (ty := .int) (by decide) rfl rfl (g := (mkF m 58 o1 [(.int ((v9_ret (p1 - (1 : Int32))) <<< ((2 : Int32) &&& 31))), (.ref ra0)])) rfl rfl (hb hby d8_58)
 have Fw182 := f181.same W182
 have K182 : Keep h0 h182 [ra0] := K174.wr W182 (Or.inl (List.mem_of_getElem? (i := 0) rfl))
 have N182 := Fr.snoc X182 N177 g_ra0
 have k183 := fun t (kk : SF p e below T182 m 61 o1 [] t) => k179 t (st182 _ kk)
 obtain ⟨fs, hr, hrun, hended, hW, hsame⟩ := X182.leave (v := none) (fun _ => rfl) hlk
 have f184 := (f180.wr W182)
 have f185 := ((((Fw157.ext E160).other W167 (Or.inr (own_sn (y69 hw) (y71 hw) (by decide)))).other W174 (Or.inr (own_sn (y69 hw) (y73 hw) (by decide)))).other W182 (Or.inr (own_sn (y69 hw) (y84 hw) (by decide))))
 have f186 := ((Fw167.other W174 (Or.inr (own_sn (y71 hw) (y73 hw) (by decide)))).other W182 (Or.inr (own_sn (y71 hw) (y84 hw) (by decide))))
 have f187 := (Fw174.other W182 (Or.inr (own_sn (y73 hw) (y84 hw) (by decide))))
 have f188 := ((((((zdr.ext E153).other W157 (Or.inr (own_sn (y114 hw) (y69 hw) (by decide)))).ext E160).other W167 (Or.inr (own_sn (y114 hw) (y71 hw) (by decide)))).other W174 (Or.inr (own_sn (y114 hw) (y73 hw) (by decide)))).other W182 (Or.inr (own_sn (y114 hw) (y84 hw) (by decide))))
 have f189 := ((((((zdo.ext E153).other W157 (Or.inr (own_sn (y116 hw) (y69 hw) (by decide)))).ext E160).other W167 (Or.inr (own_sn (y116 hw) (y71 hw) (by decide)))).other W174 (Or.inr (own_sn (y116 hw) (y73 hw) (by decide)))).other W182 (Or.inr (own_sn (y116 hw) (y84 hw) (by decide))))
 have f190 := ((((((zcc.ext E153).other W157 (Or.inr (own_sn (y130 hw) (y69 hw) (by decide)))).ext E160).other W167 (Or.inr (own_sn (y130 hw) (y71 hw) (by decide)))).other W174 (Or.inr (own_sn (y130 hw) (y73 hw) (by decide)))).other W182 (Or.inr (own_sn (y130 hw) (y84 hw) (by decide))))
 have f191 := ((((((zfe.ext E153).other W157 (Or.inr (own_sn (y136 hw) (y69 hw) (by decide)))).ext E160).other W167 (Or.inr (own_sn (y136 hw) (y71 hw) (by decide)))).other W174 (Or.inr (own_sn (y136 hw) (y73 hw) (by decide)))).other W182 (Or.inr (own_sn (y136 hw) (y84 hw) (by decide))))
 have f192 := ((((((zeq.ext E153).other W157 (Or.inr (own_sn (y182 hw) (y69 hw) (by decide)))).ext E160).other W167 (Or.inr (own_sn (y182 hw) (y71 hw) (by decide)))).other W174 (Or.inr (own_sn (y182 hw) (y73 hw) (by decide)))).other W182 (Or.inr (own_sn (y182 hw) (y84 hw) (by decide))))
 have f193 := ((((f163.ext E160).other W167 m162).other W174 m162).other W182 m162)
 have m194 : b160 ≠ ra0 := Ne.symm ne_ra0_b160
 have f195 := (((V160.other W167 m194).other W174 m194).other W182 m194)
 refine ⟨_, _, k183 _ ?_, hrun, hended, _, _, rfl, ?_, ⟨_, rfl⟩, hW, hsame.mono (by decide) (by decide)⟩
 ·show SF p e below T182 m 61 o1 [] _
  exact X182.returnOut hx Bd.returns (hb hby d8_61) hr
 ·show Q8m Z ra0 p1 p2 p3 zhs zid zek zm zby zcf za zak zat h0 n0 _ T182.heap _
  rw [e182]
  exact ⟨b153, k153, b160, k160, rfl, N182, K182, f184, f185, f186, f187, Fw182, f188, f189, f190, f191, f192, sz_b153, f193, VL153, sz_b160, f195, VL160, ne_b153_b160⟩
theorem pd_3 : parseMethodDescriptor "(IIZ)V" = some ⟨[.int, .int, .boolean], none⟩ := by decide +kernel
theorem d2_0 : decode C9_ 0 = .ok (.aload_n 0, 1) := by decide +kernel
theorem d2_1 : decode C9_ 1 = .ok (.invokespecial 1, 3) := by decide +kernel
theorem d2_4 : decode C9_ 4 = .ok (.aload_n 0, 1) := by decide +kernel
theorem d2_5 : decode C9_ 5 = .ok (.new 7, 3) := by decide +kernel
theorem d2_8 : decode C9_ 8 = .ok (.dup, 1) := by decide +kernel
theorem d2_9 : decode C9_ 9 = .ok (.invokespecial 9, 3) := by decide +kernel
theorem d2_12 : decode C9_ 12 = .ok (.putfield 10, 3) := by decide +kernel
theorem d2_15 : decode C9_ 15 = .ok (.aload_n 0, 1) := by decide +kernel
theorem d2_16 : decode C9_ 16 = .ok (.getstatic 16, 3) := by decide +kernel
theorem d2_19 : decode C9_ 19 = .ok (.arraylength, 1) := by decide +kernel
theorem d2_20 : decode C9_ 20 = .ok (.newarray .int, 2) := by decide +kernel
theorem d2_22 : decode C9_ 22 = .ok (.putfield 20, 3) := by decide +kernel
theorem d2_25 : decode C9_ 25 = .ok (.aload_n 0, 1) := by decide +kernel
theorem d2_26 : decode C9_ 26 = .ok (.ldc2_w 26, 3) := by decide +kernel
theorem d2_29 : decode C9_ 29 = .ok (.putfield 28, 3) := by decide +kernel
theorem d2_32 : decode C9_ 32 = .ok (.aload_n 0, 1) := by decide +kernel
theorem d2_33 : decode C9_ 33 = .ok (.ldc2_w 32, 3) := by decide +kernel
theorem d2_36 : decode C9_ 36 = .ok (.putfield 34, 3) := by decide +kernel
theorem d2_39 : decode C9_ 39 = .ok (.bipush 64, 2) := by decide +kernel
theorem d2_41 : decode C9_ 41 = .ok (.iload_n 1, 1) := by decide +kernel
theorem d2_42 : decode C9_ 42 = .ok (.invokestatic 37, 3) := by decide +kernel
theorem d2_45 : decode C9_ 45 = .ok (.istore_n 2, 1) := by decide +kernel
theorem d2_46 : decode C9_ 46 = .ok (.aload_n 0, 1) := by decide +kernel
theorem d2_47 : decode C9_ 47 = .ok (.new 43, 3) := by decide +kernel
theorem d2_50 : decode C9_ 50 = .ok (.dup, 1) := by decide +kernel
theorem d2_51 : decode C9_ 51 = .ok (.iload_n 2, 1) := by decide +kernel
theorem d2_52 : decode C9_ 52 = .ok (.bipush 8, 2) := by decide +kernel
theorem d2_54 : decode C9_ 54 = .ok (.iconst 1, 1) := by decide +kernel
theorem d2_55 : decode C9_ 55 = .ok (.invokespecial 45, 3) := by decide +kernel
theorem d2_58 : decode C9_ 58 = .ok (.putfield 48, 3) := by decide +kernel
theorem d2_61 : decode C9_ 61 = .ok (.aload_n 0, 1) := by decide +kernel
theorem d2_62 : decode C9_ 62 = .ok (.new 43, 3) := by decide +kernel
theorem d2_65 : decode C9_ 65 = .ok (.dup, 1) := by decide +kernel
theorem d2_66 : decode C9_ 66 = .ok (.iload_n 2, 1) := by decide +kernel
theorem d2_67 : decode C9_ 67 = .ok (.iconst 4, 1) := by decide +kernel
theorem d2_68 : decode C9_ 68 = .ok (.iconst 0, 1) := by decide +kernel
theorem d2_69 : decode C9_ 69 = .ok (.invokespecial 45, 3) := by decide +kernel
theorem d2_72 : decode C9_ 72 = .ok (.putfield 52, 3) := by decide +kernel
theorem d2_75 : decode C9_ 75 = .ok (.aload_n 0, 1) := by decide +kernel
theorem d2_76 : decode C9_ 76 = .ok (.iload_n 2, 1) := by decide +kernel
theorem d2_77 : decode C9_ 77 = .ok (.newarray .long, 2) := by decide +kernel
theorem d2_79 : decode C9_ 79 = .ok (.putfield 55, 3) := by decide +kernel
theorem d2_82 : decode C9_ 82 = .ok (.aload_n 0, 1) := by decide +kernel
theorem d2_83 : decode C9_ 83 = .ok (.iload_n 2, 1) := by decide +kernel
theorem d2_84 : decode C9_ 84 = .ok (.newarray .byte, 2) := by decide +kernel
theorem d2_86 : decode C9_ 86 = .ok (.putfield 59, 3) := by decide +kernel
theorem d2_89 : decode C9_ 89 = .ok (.aload_n 0, 1) := by decide +kernel
theorem d2_90 : decode C9_ 90 = .ok (.iload_n 2, 1) := by decide +kernel
theorem d2_91 : decode C9_ 91 = .ok (.newarray .long, 2) := by decide +kernel
theorem d2_93 : decode C9_ 93 = .ok (.putfield 63, 3) := by decide +kernel
theorem d2_96 : decode C9_ 96 = .ok (.aload_n 0, 1) := by decide +kernel
theorem d2_97 : decode C9_ 97 = .ok (.iload_n 2, 1) := by decide +kernel
theorem d2_98 : decode C9_ 98 = .ok (.newarray .long, 2) := by decide +kernel
theorem d2_100 : decode C9_ 100 = .ok (.putfield 66, 3) := by decide +kernel
theorem d2_103 : decode C9_ 103 = .ok (.return_, 1) := by decide +kernel
theorem pn_226 : plainName cOr = true := by first | (simp [plainName, overriddenIn]; done) | decide +kernel
def v2_55_f_expectedSlots (p1 : Int32) : Int32 := ((v9_ret ((v7_2_s0 (64 : Int32) p1) - (1 : Int32))) <<< ((2 : Int32) &&& 31))
def v2_69_f_expectedSlots (p1 : Int32) : Int32 := ((v9_ret ((v7_2_s0 (64 : Int32) p1) - (1 : Int32))) <<< ((2 : Int32) &&& 31))
theorem ef_rm2 (m : MethodId) (ra0 : Addr) (p1 : Int32) : entryFrame m #[(.ref ra0), (.int p1)] 3 = mkF m 0 #[rv ra0, iv p1, .unset] [] := by first | (simp [entryFrame, mkF, argsToLocals, Value.category]; done) | rfl
def Q2 (Z : State) (ra0 : Addr) (p1 : Int32) (zan : Addr) (zcn : Value) (zci : Addr) (zfj : ClassId) (zfk : List Value) (zja : Value) (zcb zcj : Int64) (zki ziu : Value) (zka zkb : Value) (zjb zjy : Value) (za : Int32) (zdp zje : Value) (zcd : Int32) (h0 : Heap) (n0 : Nat) (v : Option Value) (h : Heap) (L : List Loc) : Prop := (∃ (xu : Addr), ∃ (xk : Addr) (k_xk : ClassId), ∃ (xi : Addr), ∃ (xib : Addr) (k_xib : ClassId), ∃ (xie : Addr) (k_xie : ClassId), ∃ (xiv : Addr) (k_xiv : ClassId), ∃ (xm : Addr), ∃ (xmb : Addr) (k_xmb : ClassId), ∃ (xme : Addr) (k_xme : ClassId), ∃ (xl : Addr) (k_xl : ClassId), ∃ (xc : Addr) (k_xc : ClassId), ∃ (xq : Addr) (k_xq : ClassId), ∃ (xp : Addr) (k_xp : ClassId), v = none ∧ Fr n0 L ∧ Keep h0 h [ra0] ∧ Exa Z h ra0 cOr ∧ Fld Z h ra0 cOr "unpacked" "Ljava/util/List;" (.ref xu) ∧ Fld Z h ra0 cOr "kindCounts" "[I" (.ref xk) ∧ Fld Z h ra0 cOr "leastPrice" "J" (.long (9223372036854775807 : Int64)) ∧ Fld Z h ra0 cOr "mostPrice" "J" (.long (-9223372036854775808 : Int64)) ∧ Fld Z h ra0 cOr "ids" "Lcom/example/gavelbook/gavelbook/ByteStrings;" (.ref xi) ∧ Fld Z h ra0 cOr "memberNames" "Lcom/example/gavelbook/gavelbook/ByteStrings;" (.ref xm) ∧ Fld Z h ra0 cOr "lines" "[J" (.ref xl) ∧ Fld Z h ra0 cOr "kinds" "[B" (.ref xc) ∧ Fld Z h ra0 cOr "quantities" "[J" (.ref xq) ∧ Fld Z h ra0 cOr "prices" "[J" (.ref xp) ∧ Fld Z h ra0 cOr "size" "I" (.int za) ∧ Fld Z h ra0 cOr "byKind" "[[I" zdp ∧ Fld Z h ra0 cOr "amounts" "[J" zje ∧ Fld Z h ra0 cOr "uncounted" "Z" (.int zcd) ∧ h0.size ≤ xu ∧ Exa Z h xu "java/util/ArrayList" ∧ Fld Z h xu "java/util/AbstractList" "modCount" "I" (.int 0) ∧ Fld Z h xu "java/util/ArrayList" "elementData" "[Ljava/lang/Object;" (.ref zan) ∧ h0.size ≤ xk ∧ Arv Z h xk k_xk .int 5 (List.map Value.int ([(0 : Int32), (0 : Int32), (0 : Int32), (0 : Int32), (0 : Int32)] : List Int32)) (.int 0) ∧ ([(0 : Int32), (0 : Int32), (0 : Int32), (0 : Int32), (0 : Int32)] : List Int32).length = ((5 : Int32)).toNatClampNeg ∧ h0.size ≤ xi ∧ Exa Z h xi cBs ∧ Fld Z h xi cBs "bytes" "[B" (.ref xib) ∧ Fld Z h xi cBs "ends" "[I" (.ref xie) ∧ Fld Z h xi cBs "byValue" "[I" (.ref xiv) ∧ Fld Z h xi cBs "expectedSlots" "I" (.int (v2_55_f_expectedSlots p1)) ∧ Fld Z h xi cBs "crowded" "Ljava/util/Map;" .null ∧ Fld Z h xi cBs "slots" "[J" .null ∧ Fld Z h xi cBs "size" "I" (.int 0) ∧ Fld Z h xi cBs "hashed" "I" (.int 0) ∧ Fld Z h xi cBs "probes" "J" (.long (0 : Int64)) ∧ h0.size ≤ xib ∧ Arv Z h xib k_xib .byte ((8 : Int32) * (v7_2_s0 (64 : Int32) p1)) (List.map Value.int (List.replicate (((8 : Int32) * (v7_2_s0 (64 : Int32) p1))).toNatClampNeg (0 : Int32))) (.int 0) ∧ (List.replicate (((8 : Int32) * (v7_2_s0 (64 : Int32) p1))).toNatClampNeg (0 : Int32)).length = (((8 : Int32) * (v7_2_s0 (64 : Int32) p1))).toNatClampNeg ∧ h0.size ≤ xie ∧ Arv Z h xie k_xie .int (v7_2_s0 (64 : Int32) p1) (List.map Value.int (List.replicate ((v7_2_s0 (64 : Int32) p1)).toNatClampNeg (0 : Int32))) (.int 0) ∧ (List.replicate ((v7_2_s0 (64 : Int32) p1)).toNatClampNeg (0 : Int32)).length = ((v7_2_s0 (64 : Int32) p1)).toNatClampNeg ∧ h0.size ≤ xiv ∧ Arv Z h xiv k_xiv .int ((2 : Int32) * (v7_2_s0 (64 : Int32) p1)) (List.map Value.int (List.replicate (((2 : Int32) * (v7_2_s0 (64 : Int32) p1))).toNatClampNeg (0 : Int32))) (.int 0) ∧ (List.replicate (((2 : Int32) * (v7_2_s0 (64 : Int32) p1))).toNatClampNeg (0 : Int32)).length = (((2 : Int32) * (v7_2_s0 (64 : Int32) p1))).toNatClampNeg ∧ h0.size ≤ xm ∧ Exa Z h xm cBs ∧ Fld Z h xm cBs "bytes" "[B" (.ref xmb) ∧ Fld Z h xm cBs "ends" "[I" (.ref xme) ∧ Fld Z h xm cBs "byValue" "[I" .null ∧ Fld Z h xm cBs "expectedSlots" "I" (.int (v2_69_f_expectedSlots p1)) ∧ Fld Z h xm cBs "crowded" "Ljava/util/Map;" .null ∧ Fld Z h xm cBs "slots" "[J" .null ∧ Fld Z h xm cBs "size" "I" (.int 0) ∧ Fld Z h xm cBs "hashed" "I" (.int 0) ∧ Fld Z h xm cBs "probes" "J" (.long (0 : Int64)) ∧ h0.size ≤ xmb ∧ Arv Z h xmb k_xmb .byte ((4 : Int32) * (v7_2_s0 (64 : Int32) p1)) (List.map Value.int (List.replicate (((4 : Int32) * (v7_2_s0 (64 : Int32) p1))).toNatClampNeg (0 : Int32))) (.int 0) ∧ (List.replicate (((4 : Int32) * (v7_2_s0 (64 : Int32) p1))).toNatClampNeg (0 : Int32)).length = (((4 : Int32) * (v7_2_s0 (64 : Int32) p1))).toNatClampNeg ∧ h0.size ≤ xme ∧ Arv Z h xme k_xme .int (v7_2_s0 (64 : Int32) p1) (List.map Value.int (List.replicate ((v7_2_s0 (64 : Int32) p1)).toNatClampNeg (0 : Int32))) (.int 0) ∧ (List.replicate ((v7_2_s0 (64 : Int32) p1)).toNatClampNeg (0 : Int32)).length = ((v7_2_s0 (64 : Int32) p1)).toNatClampNeg ∧ h0.size ≤ xl ∧ Arv Z h xl k_xl .long (v7_2_s0 (64 : Int32) p1) (List.map Value.long (List.replicate ((v7_2_s0 (64 : Int32) p1)).toNatClampNeg (0 : Int64))) (.long (0 : Int64)) ∧ (List.replicate ((v7_2_s0 (64 : Int32) p1)).toNatClampNeg (0 : Int64)).length = ((v7_2_s0 (64 : Int32) p1)).toNatClampNeg ∧ h0.size ≤ xc ∧ Arv Z h xc k_xc .byte (v7_2_s0 (64 : Int32) p1) (List.map Value.int (List.replicate ((v7_2_s0 (64 : Int32) p1)).toNatClampNeg (0 : Int32))) (.int 0) ∧ (List.replicate ((v7_2_s0 (64 : Int32) p1)).toNatClampNeg (0 : Int32)).length = ((v7_2_s0 (64 : Int32) p1)).toNatClampNeg ∧ h0.size ≤ xq ∧ Arv Z h xq k_xq .long (v7_2_s0 (64 : Int32) p1) (List.map Value.long (List.replicate ((v7_2_s0 (64 : Int32) p1)).toNatClampNeg (0 : Int64))) (.long (0 : Int64)) ∧ (List.replicate ((v7_2_s0 (64 : Int32) p1)).toNatClampNeg (0 : Int64)).length = ((v7_2_s0 (64 : Int32) p1)).toNatClampNeg ∧ h0.size ≤ xp ∧ Arv Z h xp k_xp .long (v7_2_s0 (64 : Int32) p1) (List.map Value.long (List.replicate ((v7_2_s0 (64 : Int32) p1)).toNatClampNeg (0 : Int64))) (.long (0 : Int64)) ∧ (List.replicate ((v7_2_s0 (64 : Int32) p1)).toNatClampNeg (0 : Int64)).length = ((v7_2_s0 (64 : Int32) p1)).toNatClampNeg ∧ xu ≠ xk ∧ xu ≠ xi ∧ xu ≠ xib ∧ xu ≠ xie ∧ xu ≠ xiv ∧ xu ≠ xm ∧ xu ≠ xmb ∧ xu ≠ xme ∧ xu ≠ xl ∧ xu ≠ xc ∧ xu ≠ xq ∧ xu ≠ xp ∧ xk ≠ xi ∧ xk ≠ xib ∧ xk ≠ xie ∧ xk ≠ xiv ∧ xk ≠ xm ∧ xk ≠ xmb ∧ xk ≠ xme ∧ xk ≠ xl ∧ xk ≠ xc ∧ xk ≠ xq ∧ xk ≠ xp ∧ xi ≠ xib ∧ xi ≠ xie ∧ xi ≠ xiv ∧ xi ≠ xm ∧ xi ≠ xmb ∧ xi ≠ xme ∧ xi ≠ xl ∧ xi ≠ xc ∧ xi ≠ xq ∧ xi ≠ xp ∧ xib ≠ xie ∧ xib ≠ xiv ∧ xib ≠ xm ∧ xib ≠ xmb ∧ xib ≠ xme ∧ xib ≠ xl ∧ xib ≠ xc ∧ xib ≠ xq ∧ xib ≠ xp ∧ xie ≠ xiv ∧ xie ≠ xm ∧ xie ≠ xmb ∧ xie ≠ xme ∧ xie ≠ xl ∧ xie ≠ xc ∧ xie ≠ xq ∧ xie ≠ xp ∧ xiv ≠ xm ∧ xiv ≠ xmb ∧ xiv ≠ xme ∧ xiv ≠ xl ∧ xiv ≠ xc ∧ xiv ≠ xq ∧ xiv ≠ xp ∧ xm ≠ xmb ∧ xm ≠ xme ∧ xm ≠ xl ∧ xm ≠ xc ∧ xm ≠ xq ∧ xm ≠ xp ∧ xmb ≠ xme ∧ xmb ≠ xl ∧ xmb ≠ xc ∧ xmb ≠ xq ∧ xmb ≠ xp ∧ xme ≠ xl ∧ xme ≠ xc ∧ xme ≠ xq ∧ xme ≠ xp ∧ xl ≠ xc ∧ xl ≠ xq ∧ xl ≠ xp ∧ xc ≠ xq ∧ xc ≠ xp ∧ xq ≠ xp)
set_option maxRecDepth 65536 in
set_option maxHeartbeats 40000000 in
theorem rm2 (l : Launch) (Z : State) (a0 : Array Value) (hw : HW Z a0) (ws : List Jvm.Cond) (ra0 : Addr) (p1 : Int32) (zan : Addr) (zcn : Value) (zci : Addr) (zfj : ClassId) (zfk : List Value) (zja : Value) (zcb zcj : Int64) (zki ziu : Value) (zka zkb : Value) (zjb zjy : Value) (za : Int32) (zdp zje : Value) (zcd : Int32) (h0 : Heap) (n0 : Nat) (Z0 : n0 ≤ h0.size) (hxx : ¬ p1 < 0 ∧ p1 < (256 : Int32)) (zcw : Sta Z Z.heap "java/util/ArrayList" "DEFAULTCAPACITY_EMPTY_ELEMENTDATA" "[Ljava/lang/Object;" (.ref zan)) (O0 : Old Z n0 h0) (E_ra0 : Exa Z h0 ra0 cOr) (zho : Fld Z h0 ra0 cOr "unpacked" "Ljava/util/List;" zcn) (g_ra0 : n0 ≤ ra0) (zkj : Sta Z Z.heap cOr "KINDS" "[Lcom/example/gavelbook/gavelbook/Orders$Kind;" (.ref zci)) (zfy : Arv Z Z.heap zci zfj (.object cKi) (5 : Int32) zfk .null) (zha : Fld Z h0 ra0 cOr "kindCounts" "[I" zja) (zhb : Fld Z h0 ra0 cOr "leastPrice" "J" (.long zcb)) (zhg : Fld Z h0 ra0 cOr "mostPrice" "J" (.long zcj)) (zgu : Fld Z h0 ra0 cOr "ids" "Lcom/example/gavelbook/gavelbook/ByteStrings;" zki) (zgq : Fld Z h0 ra0 cOr "memberNames" "Lcom/example/gavelbook/gavelbook/ByteStrings;" ziu) (zis : Fld Z h0 ra0 cOr "lines" "[J" zka) (zit : Fld Z h0 ra0 cOr "kinds" "[B" zkb) (zfr : Fld Z h0 ra0 cOr "quantities" "[J" zjb) (zig : Fld Z h0 ra0 cOr "prices" "[J" zjy) (zcc : Fld Z h0 ra0 cOr "size" "I" (.int za)) (zih : Fld Z h0 ra0 cOr "byKind" "[[I" zdp) (zic : Fld Z h0 ra0 cOr "amounts" "[J" zje) (zhh : Fld Z h0 ra0 cOr "uncounted" "Z" (.int zcd)) :
  MetFree l M25_ (head1 (Jvm.Cond.code M25_ prog_25_method_1_code 3 none :: ws) R7_) (fun a U => a = #[(.ref ra0), (.int p1)] ∧ Z.Warmed39 U.vm ∧ U.heap = h0) (fun _ _ _ _ _ => True) (fun _ U o U' => ∃ v L, o = .returned v ∧ Q2 Z ra0 p1 zan zcn zci zfj zfk zja zcb zcj zki ziu zka zkb zjb zjy za zdp zje zcd h0 n0 v U'.heap L ∧ FrameEnd U o U' L R7_.cells R7_.slots) := by
 refine MetFree.of_bodySF (plainFor_of_name pn_226) hisR ?_
 intro p e s m args below meth c s₁ Bd hml0 hP hK
 obtain ⟨rfl, hZ, hh⟩ := hP
 have hx := Bd.exec
 have hlk : meth.locks = false := by first | exact BodyLoose.notSynchronized Bd | exact Body.notSynchronized Bd
 have hby := Bd.bytes
 have hml : c.maxLocals = 3 := hml0
 have hown : s.vm.findClass cOr = some m.cls := findClass_of_methodNamed Bd.named
 have hnm := (name_of_methodNamed Bd.named Bd.method).1
 have X0 : Stand p l e R7_ s m #[(.ref ra0), (.int p1)] below meth c s₁ [] 0 0 := Stand.of_body Bd
 have e0 : s₁.heap = h0 := by rw [← hh, Bd.state]; rfl
 have N0 := Fr.nil n0
 have KC0 := Keep.refl h0 [ra0]
 let o1 : Array Slot := #[rv ra0, iv p1, iv (v7_2_s0 (64 : Int32) p1)]
 have pre0 : ∀ t, SF p e below s₁ m 0 #[rv ra0, iv p1, .unset] [] t → Steps p.tables e below (s₁.setTop (entryFrame m #[(.ref ra0), (.int p1)] 3)) t := fun t k => castTop (ef_rm2 m ra0 p1) k
 have k196 := fun t (kk : SF p e below s₁ m 1 #[rv ra0, iv p1, .unset] [(.ref ra0)] t) => pre0 t (by
  refine XS.aloadN X0.here hx rfl (hb hby d2_0) rfl rfl ?_
  exact kk)
 obtain ⟨T197, X197, e197, st197⟩ := initO X0 hx hZ hown (w16 hw) (w17 hw) (w18 hw) e0 (g := (mkF m 1 #[rv ra0, iv p1, .unset] [(.ref ra0)])) rfl (by rw [hml]; rfl) rfl (hb hby d2_1) (by decide) (W := 0) (Nat.le_of_eq rfl) (by decide)
 have k198 := fun t (kk : SF p e below T197 m 4 #[rv ra0, iv p1, .unset] [] t) => k196 t (st197 _ kk)
 have k199 := fun t (kk : SF p e below T197 m 5 #[rv ra0, iv p1, .unset] [(.ref ra0)] t) => k198 t (by
  refine XS.aloadN X197.here hx rfl (hb hby d2_4) rfl rfl ?_
  exact kk)
 obtain ⟨T200, h200, X200, e200, E200, A200, D200, -, st200⟩ := newO X197 hx hZ hown (w19 hw) (w20 hw) (w21 hw) e197 (g := (mkF m 5 #[rv ra0, iv p1, .unset] [(.ref ra0)])) rfl (hb hby d2_5) (by decide) (by decide)
 obtain ⟨b200, g200⟩ : ∃ z, z = h0.size := ⟨_, rfl⟩
 rw [← g200] at A200 D200 st200
 have ne_ra0_b200 : ra0 ≠ b200 := own_nb1 E_ra0.lt g200
 have g_b200 : n0 ≤ b200 := Nat.le_trans (Nat.le_trans Z0 KC0.1) (Nat.le_of_eq g200.symm)
 have sz_b200 : h0.size ≤ b200 := Nat.le_trans KC0.1 (Nat.le_of_eq g200.symm)
 have K200 : Keep h0 h200 [ra0] := KC0.ext E200
 have F_modCount_b200 : Fld Z h200 b200 "java/util/AbstractList" "modCount" "I" (.int 0) := D200 (Or.inl (w39 hw)) (ty := .int) (by decide)
 have F_elementData_b200 : Fld Z h200 b200 "java/util/ArrayList" "elementData" "[Ljava/lang/Object;" .null := D200 (Or.inl (w42 hw)) (ty := (.array (.object "java/lang/Object"))) (by decide)
 have k201 := fun t (kk : SF p e below T200 m 8 #[rv ra0, iv p1, .unset] [(.ref b200), (.ref ra0)] t) => k199 t (st200 _ kk)
 have k202 := fun t (kk : SF p e below T200 m 9 #[rv ra0, iv p1, .unset] [(.ref b200), (.ref b200), (.ref ra0)] t) => k201 t (by
  refine XS.dup X200.here hx rfl (hb hby d2_8) rfl rfl ?_
  exact kk)
 have O203 := (O0.ext E200)
 have Zz204 : n0 ≤ h200.size := (Nat.le_trans Z0 K200.1)
 obtain ⟨_, _, ⟨T204, L204, k204, n204⟩, -, X204, ⟨Lc204, hQ204, l204, y204, z204⟩, st204⟩ := X200.specialBack hx (y := M3_) rfl hown (mvT hZ (w22 hw)) (mvT hZ (w23 hw)) (mvT hZ (w24 hw)) (by decide) (backOf (W := 2) (rm4 l Z a0 hw [] b200 (0 : Int32) .null zan h200 n0 Zz204 A200 F_modCount_b200 F_elementData_b200 g_b200 zcw O203) hZ (w24 hw) (w21 hw) (by decide) (by decide)) (g := (mkF m 9 #[rv ra0, iv p1, .unset] [(.ref b200), (.ref b200), (.ref ra0)])) rfl (by rw [hml]; rfl) (Steps.refl _) (a := b200) (argsL := []) (rest := [(.ref b200), (.ref ra0)]) (lenOf pd_0 rfl) rfl (Nat.le_of_eq rfl) (hb hby d2_9) (fun _ _ => ⟨rfl, e200, (by decide : 1 + 0 ≤ _), (by decide : 3 + 0 ≤ _)⟩)
 dsimp only [Pt.U, Pt.locs, Pt.cells, Pt.slots] at X204 l204 y204 z204 st204 hQ204
 subst l204 y204 z204
 obtain ⟨rfl, N204q, Kq204, Eq204_0, Fq204_0, Fq204_1⟩ := hQ204
 have K204 : Keep h0 T204.heap [ra0] := K200.trans Kq204 (allS (Or.inr sz_b200) all0)
 have N204 := Fr.app N0 N204q
 have k205 := fun t (kk : SF p e below T204 m 12 #[rv ra0, iv p1, .unset] [(.ref b200), (.ref ra0)] t) => k202 t (st204.trans kk)
 have f206 := ((E_ra0.ext E200).keep Kq204)
 have t207 := fun {C n d : String} {v : Value} (F : Fld Z _ ra0 C n d v) => (F.ext E200).keep Kq204 (ninS ne_ra0_b200 nin0)
 have f208 := t207 zho
 obtain ⟨T209, h209, X209, e209, W209, st209⟩ := putF X204 hx hZ hown (host := "") (Or.inl (w43 hw)) Via.refl rfl f208 f206 (Or.inr ⟨(w44 hw), rfl, hnm⟩) (w11 hw) (ty := (.object "java/util/List")) (by decide) rfl rfl (g := (mkF m 12 #[rv ra0, iv p1, .unset] [(.ref b200), (.ref ra0)])) rfl rfl (hb hby d2_12)
 have Fw209 := f208.same W209
 have K209 : Keep h0 h209 [ra0] := K204.wr W209 (Or.inl (List.mem_of_getElem? (i := 0) rfl))
 have N209 := Fr.snoc X209 N204 g_ra0
 have k210 := fun t (kk : SF p e below T209 m 15 #[rv ra0, iv p1, .unset] [] t) => k205 t (st209 _ kk)
 have k211 := fun t (kk : SF p e below T209 m 16 #[rv ra0, iv p1, .unset] [(.ref ra0)] t) => k210 t (by
  refine XS.aloadN X209.here hx rfl (hb hby d2_15) rfl rfl ?_
  exact kk)
 have O212 := ((O203.keep Kq204 (allS g_b200 all0)).wr W209 g_ra0)
 have f213 := zkj.ext O212.2
 obtain ⟨T214, X214, e214, st214⟩ := getS2 X209 hx hZ hown (host := "") (Or.inl (w45 hw)) Via.refl e209 f213 (g := (mkF m 16 #[rv ra0, iv p1, .unset] [(.ref ra0)])) rfl (hb hby d2_16)
 have k215 := fun t (kk : SF p e below T214 m 19 #[rv ra0, iv p1, .unset] [(.ref zci), (.ref ra0)] t) => k211 t (st214 _ kk)
 have f216 := zfy.ext O212.2
 have hV217 := f216
 obtain ⟨cl217, Ar217, q217, S217, Nn217, H217, G217⟩ := hV217
 have st218 := X214.arraylength hx (by rw [e214]; exact Ar217.1) (State.isArrayOf_alike hZ.alike Ar217.2.1) (g := (mkF m 19 #[rv ra0, iv p1, .unset] [(.ref zci), (.ref ra0)])) rfl rfl (hb hby d2_19)
 rw [len_of S217 Nn217] at st218
 have k219 := fun t (kk : SF p e below T214 m 20 #[rv ra0, iv p1, .unset] [(.int 5), (.ref ra0)] t) => k215 t (st218 _ kk)
 obtain ⟨T220, h220, k220, X220, e220, E220, A220, st220⟩ := newP (aty := .int) X214 hx hZ (w47 hw) e214 (g := (mkF m 20 #[rv ra0, iv p1, .unset] [(.int 5), (.ref ra0)])) rfl (hb hby d2_20) rfl (by decide) (cap := 5) (by decide) (by decide) (by decide) (by decide)
 obtain ⟨b220, g220⟩ : ∃ z, z = h209.size := ⟨_, rfl⟩
 rw [← g220] at A220 st220
 have f221 := (f206.wr W209)
 have ne_ra0_b220 : ra0 ≠ b220 := own_nb1 f221.lt g220
 have f222 := (Eq204_0.wr W209)
 have ne_b200_b220 : b200 ≠ b220 := own_nb1 f222.lt g220
 have zoq : zci ≠ b220 := own_nb1 f216.lt g220
 have g_b220 : n0 ≤ b220 := Nat.le_trans (Nat.le_trans Z0 K209.1) (Nat.le_of_eq g220.symm)
 have sz_b220 : h0.size ≤ b220 := Nat.le_trans K209.1 (Nat.le_of_eq g220.symm)
 have K220 : Keep h0 h220 [ra0] := K209.ext E220
 have V220 : Arv Z h220 b220 k220 .int 5 (List.map Value.int ([(0 : Int32), (0 : Int32), (0 : Int32), (0 : Int32), (0 : Int32)] : List Int32)) (.int 0) := (Arv.new A220 (by decide)).pad (pad_rep [] (.int 0) 5)
 have VL220 : ([(0 : Int32), (0 : Int32), (0 : Int32), (0 : Int32), (0 : Int32)] : List Int32).length = ((5 : Int32)).toNatClampNeg := rfl
 have k223 := fun t (kk : SF p e below T220 m 22 #[rv ra0, iv p1, .unset] [(.ref b220), (.ref ra0)] t) => k219 t (st220 _ kk)
 have f224 := (f221.ext E220)
 have f225 := ((((zha.ext E200).keep Kq204 (ninS ne_ra0_b200 nin0)).other W209 (Or.inr (own_sn (y49 hw) (y44 hw) (by decide)))).ext E220)
 obtain ⟨T226, h226, X226, e226, W226, st226⟩ := putF X220 hx hZ hown (host := "") (Or.inl (w48 hw)) Via.refl e220 f225 f224 (Or.inr ⟨(w49 hw), rfl, hnm⟩) (w11 hw) (ty := (.array .int)) (by decide) rfl rfl (g := (mkF m 22 #[rv ra0, iv p1, .unset] [(.ref b220), (.ref ra0)])) rfl rfl (hb hby d2_22)
 have Fw226 := f225.same W226
 have K226 : Keep h0 h226 [ra0] := K220.wr W226 (Or.inl (List.mem_of_getElem? (i := 0) rfl))
 have N226 := Fr.snoc X226 N209 g_ra0
 have k227 := fun t (kk : SF p e below T226 m 25 #[rv ra0, iv p1, .unset] [] t) => k223 t (st226 _ kk)
 have k228 := fun t (kk : SF p e below T226 m 29 #[rv ra0, iv p1, .unset] [(.long (9223372036854775807 : Int64)), (.ref ra0)] t) => k227 t (by
  refine XS.aloadN X226.here hx rfl (hb hby d2_25) rfl rfl ?_
  refine X226.ldc2Long hx hown (mvT hZ (w50 hw)) (g := (mkF m 26 #[rv ra0, iv p1, .unset] [(.ref ra0)])) rfl (hb hby d2_26) _ ?_
  exact kk)
 have f229 := (f224.wr W226)
 have f230 := (((((zhb.ext E200).keep Kq204 (ninS ne_ra0_b200 nin0)).other W209 (Or.inr (own_sn (y52 hw) (y44 hw) (by decide)))).ext E220).other W226 (Or.inr (own_sn (y52 hw) (y49 hw) (by decide))))
 obtain ⟨T231, h231, X231, e231, W231, st231⟩ := putF X226 hx hZ hown (host := "") (Or.inl (w51 hw)) Via.refl e226 f230 f229 (Or.inl (w52 hw)) (w11 hw) (ty := .long) (by decide) rfl rfl (g := (mkF m 29 #[rv ra0, iv p1, .unset] [(.long (9223372036854775807 : Int64)), (.ref ra0)])) rfl rfl (hb hby d2_29)
 have Fw231 := f230.same W231
 have K231 : Keep h0 h231 [ra0] := K226.wr W231 (Or.inl (List.mem_of_getElem? (i := 0) rfl))
 have N231 := Fr.snoc X231 N226 g_ra0
 have k232 := fun t (kk : SF p e below T231 m 32 #[rv ra0, iv p1, .unset] [] t) => k228 t (st231 _ kk)
 have k233 := fun t (kk : SF p e below T231 m 36 #[rv ra0, iv p1, .unset] [(.long (-9223372036854775808 : Int64)), (.ref ra0)] t) => k232 t (by
  show SF p e below T231 m 32 #[rv ra0, iv p1, .unset] [] _
  refine XS.aloadN X231.here hx rfl (hb hby d2_32) rfl rfl ?_
  refine X231.ldc2Long hx hown (mvT hZ (w53 hw)) (g := (mkF m 33 #[rv ra0, iv p1, .unset] [(.ref ra0)])) rfl (hb hby d2_33) _ ?_
  exact kk)
 have f234 := (f229.wr W231)
 have f235 := ((((((zhg.ext E200).keep Kq204 (ninS ne_ra0_b200 nin0)).other W209 (Or.inr (own_sn (y55 hw) (y44 hw) (by decide)))).ext E220).other W226 (Or.inr (own_sn (y55 hw) (y49 hw) (by decide)))).other W231 (Or.inr (own_sn (y55 hw) (y52 hw) (by decide))))
 obtain ⟨T236, h236, X236, e236, W236, st236⟩ := putF X231 hx hZ hown (host := "") (Or.inl (w54 hw)) Via.refl e231 f235 f234 (Or.inl (w55 hw)) (w11 hw) (ty := .long) (by decide) rfl rfl (g := (mkF m 36 #[rv ra0, iv p1, .unset] [(.long (-9223372036854775808 : Int64)), (.ref ra0)])) rfl rfl (hb hby d2_36)
 have Fw236 := f235.same W236
 have K236 : Keep h0 h236 [ra0] := K231.wr W236 (Or.inl (List.mem_of_getElem? (i := 0) rfl))
 have N236 := Fr.snoc X236 N231 g_ra0
 have k237 := fun t (kk : SF p e below T236 m 39 #[rv ra0, iv p1, .unset] [] t) => k233 t (st236 _ kk)
 have k238 := fun t (kk : SF p e below T236 m 42 #[rv ra0, iv p1, .unset] [(.int p1), (.int 64)] t) => k237 t (by
  refine XS.bipush X236.here hx rfl (hb hby d2_39) ?_
  refine XS.iloadN X236.here hx rfl (hb hby d2_41) rfl ?_
  exact kk)
 have Zz239 : n0 ≤ h236.size := (Nat.le_trans Z0 K236.1)
 obtain ⟨_, _, ⟨T239, L239, k239, n239⟩, -, X239, ⟨Lc239, hQ239, l239, y239, z239⟩, st239⟩ := Jvm.LawKit.callS X236 hx (y := M6_) hown (mvT hZ (w56 hw)) (mvT hZ (w57 hw)) (mvT hZ (w58 hw)) (mvT hZ (w59 hw)) (by decide) (backOf (W := 0) (rm7 l Z a0 hw [] (64 : Int32) p1 h236 n0 Zz239) hZ (w59 hw) (w58 hw) (by decide) (by decide)) (g := (mkF m 42 #[rv ra0, iv p1, .unset] [(.int p1), (.int 64)])) rfl (by rw [hml]; rfl) (argsL := [(.int 64), (.int p1)]) (rest := []) (lenOf pd_2 rfl) rfl (Nat.le_of_eq rfl) (hb hby d2_42) (fun _ _ => ⟨rfl, e236, (by decide : 2 + 0 ≤ _), (by decide : 8 + 0 ≤ _)⟩)
 dsimp only [Pt.U, Pt.locs, Pt.cells, Pt.slots] at X239 l239 y239 z239 st239 hQ239
 subst l239 y239 z239
 obtain ⟨rfl, N239q, e239⟩ := hQ239
 have N239 := Fr.app N236 N239q
 have k240 := fun t (kk : SF p e below T239 m 45 #[rv ra0, iv p1, .unset] [(.int (v7_2_s0 (64 : Int32) p1))] t) => k238 t (st239 _ kk)
 have k241 := fun t (kk : SF p e below T239 m 47 o1 [(.ref ra0)] t) => k240 t (by
  refine XS.istoreN X239.here hx rfl (hb hby d2_45) rfl (l' := o1) rfl ?_
  refine XS.aloadN X239.here hx rfl (hb hby d2_46) rfl rfl ?_
  exact kk)
 obtain ⟨T242, h242, X242, e242, E242, A242, D242, -, st242⟩ := newO X239 hx hZ hown (w60 hw) (w61 hw) (w62 hw) e239 (g := (mkF m 47 o1 [(.ref ra0)])) rfl (hb hby d2_47) (by decide) (by decide)
 obtain ⟨b242, g242⟩ : ∃ z, z = h236.size := ⟨_, rfl⟩
 rw [← g242] at A242 D242 st242
 have f243 := (f234.wr W236)
 have ne_ra0_b242 : ra0 ≠ b242 := own_nb1 f243.lt g242
 have f244 := ((((f222.ext E220).wr W226).wr W231).wr W236)
 have ne_b200_b242 : b200 ≠ b242 := own_nb1 f244.lt g242
 have O245 := ((((O212.ext E220).wr W226 g_ra0).wr W231 g_ra0).wr W236 g_ra0)
 have f246 := zfy.ext O245.2
 have zor : zci ≠ b242 := own_nb1 f246.lt g242
 have m247 : b220 ≠ ra0 := Ne.symm ne_ra0_b220
 have f248 := (((V220.other W226 m247).other W231 m247).other W236 m247)
 have ne_b220_b242 : b220 ≠ b242 := own_nb1 f248.lt g242
 have g_b242 : n0 ≤ b242 := Nat.le_trans (Nat.le_trans Z0 K236.1) (Nat.le_of_eq g242.symm)
 have sz_b242 : h0.size ≤ b242 := Nat.le_trans K236.1 (Nat.le_of_eq g242.symm)
 have K242 : Keep h0 h242 [ra0] := K236.ext E242
 have F_bytes_b242 : Fld Z h242 b242 cBs "bytes" "[B" .null := D242 (Or.inl (w69 hw)) (ty := (.array .byte)) (by decide)
 have F_ends_b242 : Fld Z h242 b242 cBs "ends" "[I" .null := D242 (Or.inl (w71 hw)) (ty := (.array .int)) (by decide)
 have F_byValue_b242 : Fld Z h242 b242 cBs "byValue" "[I" .null := D242 (Or.inr (w73 hw)) (ty := (.array .int)) (by decide)
 have F_expectedSlots_b242 : Fld Z h242 b242 cBs "expectedSlots" "I" (.int 0) := D242 (Or.inr (w84 hw)) (ty := .int) (by decide)
 have F_crowded_b242 : Fld Z h242 b242 cBs "crowded" "Ljava/util/Map;" .null := D242 (Or.inl (w114 hw)) (ty := (.object "java/util/Map")) (by decide)
 have F_slots_b242 : Fld Z h242 b242 cBs "slots" "[J" .null := D242 (Or.inl (w116 hw)) (ty := (.array .long)) (by decide)
 have F_size_b242 : Fld Z h242 b242 cBs "size" "I" (.int 0) := D242 (Or.inl (w130 hw)) (ty := .int) (by decide)
 have F_hashed_b242 : Fld Z h242 b242 cBs "hashed" "I" (.int 0) := D242 (Or.inl (w136 hw)) (ty := .int) (by decide)
 have F_probes_b242 : Fld Z h242 b242 cBs "probes" "J" (.long (0 : Int64)) := D242 (Or.inl (w182 hw)) (ty := .long) (by decide)
 have k249 := fun t (kk : SF p e below T242 m 50 o1 [(.ref b242), (.ref ra0)] t) => k241 t (st242 _ kk)
 have k250 := fun t (kk : SF p e below T242 m 55 o1 [(.int 1), (.int 8), (.int (v7_2_s0 (64 : Int32) p1)), (.ref b242), (.ref b242), (.ref ra0)] t) => k249 t (by
  refine XS.dup X242.here hx rfl (hb hby d2_50) rfl rfl ?_
  refine XS.iloadN X242.here hx rfl (hb hby d2_51) rfl ?_
  refine XS.bipush X242.here hx rfl (hb hby d2_52) ?_
  refine XS.iconst X242.here hx rfl (hb hby d2_54) ?_
  exact kk)
 have Zz251 : n0 ≤ h242.size := (Nat.le_trans Z0 K242.1)
 obtain ⟨_, _, ⟨T251, L251, k251, n251⟩, -, X251, ⟨Lc251, hQ251, l251, y251, z251⟩, st251⟩ := X242.specialBack hx (y := M24_) rfl hown (mvT hZ (w63 hw)) (mvT hZ (w64 hw)) (mvT hZ (w65 hw)) (by decide) (backOf (W := 2) (rm8i l Z a0 hw [] b242 (v7_2_s0 (64 : Int32) p1) (8 : Int32) (1 : Int32) .null .null .null (0 : Int32) .null .null (0 : Int32) (0 : Int32) (0 : Int64) h242 n0 Zz251 (own_cap hxx : ¬ (v7_2_s0 (64 : Int32) p1) < (64 : Int32) ∧ (v7_2_s0 (64 : Int32) p1) < (256 : Int32)) (rfl : (8 : Int32) = (8 : Int32)) (rfl : (1 : Int32) = (1 : Int32)) A242 F_bytes_b242 g_b242 F_ends_b242 F_byValue_b242 F_expectedSlots_b242 F_crowded_b242 F_slots_b242 F_size_b242 F_hashed_b242 F_probes_b242) hZ (w65 hw) (w62 hw) (by decide) (by decide)) (g := (mkF m 55 o1 [(.int 1), (.int 8), (.int (v7_2_s0 (64 : Int32) p1)), (.ref b242), (.ref b242), (.ref ra0)])) rfl (by rw [hml]; rfl) (Steps.refl _) (a := b242) (argsL := [(.int (v7_2_s0 (64 : Int32) p1)), (.int 8), (.int 1)]) (rest := [(.ref b242), (.ref ra0)]) (lenOf pd_3 rfl) rfl (Nat.le_of_eq rfl) (hb hby d2_55) (fun _ _ => ⟨rfl, e242, (by decide : 3 + 3 ≤ _), (by decide : 17 + 2805 ≤ _)⟩)
 dsimp only [Pt.U, Pt.locs, Pt.cells, Pt.slots] at X251 l251 y251 z251 st251 hQ251
 subst l251 y251 z251
 obtain ⟨xb_251, k_xb_251, xe_251, k_xe_251, xv_251, k_xv_251, rfl, N251q, Kq251, Eq251_0, Fq251_0, Fq251_1, Fq251_2, Fq251_3, Fq251_4, Fq251_5, Fq251_6, Fq251_7, Fq251_8, sx_xb_251, Vx_xb_251, VLx_xb_251, sx_xe_251, Vx_xe_251, VLx_xe_251, sx_xv_251, Vx_xv_251, VLx_xv_251, nx_xb_xe_251, nx_xb_xv_251, nx_xe_xv_251⟩ := hQ251
 have f252 := (f243.ext E242)
 have f253 := (f244.ext E242)
 have O254 := (O245.ext E242)
 have f255 := zfy.ext O254.2
 have f256 := (f248.ext E242)
 have ne_ra0_xb_251 : ra0 ≠ xb_251 := Nat.ne_of_lt (Nat.lt_of_lt_of_le f252.lt sx_xb_251)
 have ne_b200_xb_251 : b200 ≠ xb_251 := Nat.ne_of_lt (Nat.lt_of_lt_of_le f253.lt sx_xb_251)
 have znk : zci ≠ xb_251 := Nat.ne_of_lt (Nat.lt_of_lt_of_le f255.lt sx_xb_251)
 have ne_b220_xb_251 : b220 ≠ xb_251 := Nat.ne_of_lt (Nat.lt_of_lt_of_le f256.lt sx_xb_251)
 have ne_b242_xb_251 : b242 ≠ xb_251 := Nat.ne_of_lt (Nat.lt_of_lt_of_le A242.lt sx_xb_251)
 have ne_ra0_xe_251 : ra0 ≠ xe_251 := Nat.ne_of_lt (Nat.lt_of_lt_of_le f252.lt sx_xe_251)
 have ne_b200_xe_251 : b200 ≠ xe_251 := Nat.ne_of_lt (Nat.lt_of_lt_of_le f253.lt sx_xe_251)
 have znl : zci ≠ xe_251 := Nat.ne_of_lt (Nat.lt_of_lt_of_le f255.lt sx_xe_251)
 have ne_b220_xe_251 : b220 ≠ xe_251 := Nat.ne_of_lt (Nat.lt_of_lt_of_le f256.lt sx_xe_251)
 have ne_b242_xe_251 : b242 ≠ xe_251 := Nat.ne_of_lt (Nat.lt_of_lt_of_le A242.lt sx_xe_251)
 have ne_ra0_xv_251 : ra0 ≠ xv_251 := Nat.ne_of_lt (Nat.lt_of_lt_of_le f252.lt sx_xv_251)
 have ne_b200_xv_251 : b200 ≠ xv_251 := Nat.ne_of_lt (Nat.lt_of_lt_of_le f253.lt sx_xv_251)
 have znm : zci ≠ xv_251 := Nat.ne_of_lt (Nat.lt_of_lt_of_le f255.lt sx_xv_251)
 have ne_b220_xv_251 : b220 ≠ xv_251 := Nat.ne_of_lt (Nat.lt_of_lt_of_le f256.lt sx_xv_251)
 have ne_b242_xv_251 : b242 ≠ xv_251 := Nat.ne_of_lt (Nat.lt_of_lt_of_le A242.lt sx_xv_251)
 have sz_xb_251 : h0.size ≤ xb_251 := Nat.le_trans K242.1 sx_xb_251
 have g_xb_251 : n0 ≤ xb_251 := Nat.le_trans Z0 sz_xb_251
 have sz_xe_251 : h0.size ≤ xe_251 := Nat.le_trans K242.1 sx_xe_251
 have g_xe_251 : n0 ≤ xe_251 := Nat.le_trans Z0 sz_xe_251
 have sz_xv_251 : h0.size ≤ xv_251 := Nat.le_trans K242.1 sx_xv_251
 have g_xv_251 : n0 ≤ xv_251 := Nat.le_trans Z0 sz_xv_251
 have K251 : Keep h0 T251.heap [ra0] := K242.trans Kq251 (allS (Or.inr sz_b242) all0)
 have Fn251_3 : Fld Z T251.heap b242 cBs "expectedSlots" "I" (.int (v2_55_f_expectedSlots p1)) := Fq251_3
 have N251 := Fr.app N239 N251q
 have k257 := fun t (kk : SF p e below T251 m 58 o1 [(.ref b242), (.ref ra0)] t) => k250 t (st251.trans kk)
 have f258 := (f252.keep Kq251)
 have f259 := (((((((((zgu.ext E200).keep Kq204 (ninS ne_ra0_b200 nin0)).other W209 (Or.inr (own_sn (y86 hw) (y44 hw) (by decide)))).ext E220).other W226 (Or.inr (own_sn (y86 hw) (y49 hw) (by decide)))).other W231 (Or.inr (own_sn (y86 hw) (y52 hw) (by decide)))).other W236 (Or.inr (own_sn (y86 hw) (y55 hw) (by decide)))).ext E242).keep Kq251 (ninS ne_ra0_b242 nin0))
 obtain ⟨T260, h260, X260, e260, W260, st260⟩ := putF X251 hx hZ hown (host := "") (Or.inl (w85 hw)) Via.refl rfl f259 f258 (Or.inr ⟨(w86 hw), rfl, hnm⟩) (w11 hw) (ty := (.object cBs)) (by decide) rfl rfl (g := (mkF m 58 o1 [(.ref b242), (.ref ra0)])) rfl rfl (hb hby d2_58)
 have Fw260 := f259.same W260
 have K260 : Keep h0 h260 [ra0] := K251.wr W260 (Or.inl (List.mem_of_getElem? (i := 0) rfl))
 have N260 := Fr.snoc X260 N251 g_ra0
 have k261 := fun t (kk : SF p e below T260 m 61 o1 [] t) => k257 t (st260 _ kk)
 have k262 := fun t (kk : SF p e below T260 m 62 o1 [(.ref ra0)] t) => k261 t (by
  refine XS.aloadN X260.here hx rfl (hb hby d2_61) rfl rfl ?_
  exact kk)
 obtain ⟨T263, h263, X263, e263, E263, A263, D263, -, st263⟩ := newO X260 hx hZ hown (w60 hw) (w61 hw) (w62 hw) e260 (g := (mkF m 62 o1 [(.ref ra0)])) rfl (hb hby d2_62) (by decide) (by decide)
 obtain ⟨b263, g263⟩ : ∃ z, z = h260.size := ⟨_, rfl⟩
 rw [← g263] at A263 D263 st263
 have f264 := (f258.wr W260)
 have ne_ra0_b263 : ra0 ≠ b263 := own_nb1 f264.lt g263
 have f265 := ((f253.keep Kq251).wr W260)
 have ne_b200_b263 : b200 ≠ b263 := own_nb1 f265.lt g263
 have O266 := ((O254.keep Kq251 (allS g_b242 all0)).wr W260 g_ra0)
 have f267 := zfy.ext O266.2
 have zos : zci ≠ b263 := own_nb1 f267.lt g263
 have f268 := ((f256.keep Kq251 (ninS ne_b220_b242 nin0)).other W260 m247)
 have ne_b220_b263 : b220 ≠ b263 := own_nb1 f268.lt g263
 have f269 := (Eq251_0.wr W260)
 have ne_b242_b263 : b242 ≠ b263 := own_nb1 f269.lt g263
 have m270 : xb_251 ≠ ra0 := Ne.symm ne_ra0_xb_251
 have f271 := (Vx_xb_251.other W260 m270)
 have ne_xb_251_b263 : xb_251 ≠ b263 := own_nb1 f271.lt g263
 have m272 : xe_251 ≠ ra0 := Ne.symm ne_ra0_xe_251
 have f273 := (Vx_xe_251.other W260 m272)
 have ne_xe_251_b263 : xe_251 ≠ b263 := own_nb1 f273.lt g263
 have m274 : xv_251 ≠ ra0 := Ne.symm ne_ra0_xv_251
 have f275 := (Vx_xv_251.other W260 m274)
 have ne_xv_251_b263 : xv_251 ≠ b263 := own_nb1 f275.lt g263
 have g_b263 : n0 ≤ b263 := Nat.le_trans (Nat.le_trans Z0 K260.1) (Nat.le_of_eq g263.symm)
 have sz_b263 : h0.size ≤ b263 := Nat.le_trans K260.1 (Nat.le_of_eq g263.symm)
 have K263 : Keep h0 h263 [ra0] := K260.ext E263
 have F_bytes_b263 : Fld Z h263 b263 cBs "bytes" "[B" .null := D263 (Or.inl (w69 hw)) (ty := (.array .byte)) (by decide)
 have F_ends_b263 : Fld Z h263 b263 cBs "ends" "[I" .null := D263 (Or.inl (w71 hw)) (ty := (.array .int)) (by decide)
 have F_byValue_b263 : Fld Z h263 b263 cBs "byValue" "[I" .null := D263 (Or.inr (w73 hw)) (ty := (.array .int)) (by decide)
 have F_expectedSlots_b263 : Fld Z h263 b263 cBs "expectedSlots" "I" (.int 0) := D263 (Or.inr (w84 hw)) (ty := .int) (by decide)
 have F_crowded_b263 : Fld Z h263 b263 cBs "crowded" "Ljava/util/Map;" .null := D263 (Or.inl (w114 hw)) (ty := (.object "java/util/Map")) (by decide)
 have F_slots_b263 : Fld Z h263 b263 cBs "slots" "[J" .null := D263 (Or.inl (w116 hw)) (ty := (.array .long)) (by decide)
 have F_size_b263 : Fld Z h263 b263 cBs "size" "I" (.int 0) := D263 (Or.inl (w130 hw)) (ty := .int) (by decide)
 have F_hashed_b263 : Fld Z h263 b263 cBs "hashed" "I" (.int 0) := D263 (Or.inl (w136 hw)) (ty := .int) (by decide)
 have F_probes_b263 : Fld Z h263 b263 cBs "probes" "J" (.long (0 : Int64)) := D263 (Or.inl (w182 hw)) (ty := .long) (by decide)
 have k276 := fun t (kk : SF p e below T263 m 65 o1 [(.ref b263), (.ref ra0)] t) => k262 t (st263 _ kk)
 have k277 := fun t (kk : SF p e below T263 m 69 o1 [(.int 0), (.int 4), (.int (v7_2_s0 (64 : Int32) p1)), (.ref b263), (.ref b263), (.ref ra0)] t) => k276 t (by
  refine XS.dup X263.here hx rfl (hb hby d2_65) rfl rfl ?_
  show SF p e below T263 m 66 o1 [(.ref b263), (.ref b263), (.ref ra0)] _
  refine XS.iloadN X263.here hx rfl (hb hby d2_66) rfl ?_
  refine XS.iconst X263.here hx rfl (hb hby d2_67) ?_
  refine XS.iconst X263.here hx rfl (hb hby d2_68) ?_
  exact kk)
 have Zz278 : n0 ≤ h263.size := (Nat.le_trans Z0 K263.1)
 obtain ⟨_, _, ⟨T278, L278, k278, n278⟩, -, X278, ⟨Lc278, hQ278, l278, y278, z278⟩, st278⟩ := X263.specialBack hx (y := M24_) rfl hown (mvT hZ (w63 hw)) (mvT hZ (w64 hw)) (mvT hZ (w65 hw)) (by decide) (backOf (W := 2) (rm8m l Z a0 hw [] b263 (v7_2_s0 (64 : Int32) p1) (4 : Int32) (0 : Int32) .null .null .null (0 : Int32) .null .null (0 : Int32) (0 : Int32) (0 : Int64) h263 n0 Zz278 (own_cap hxx : ¬ (v7_2_s0 (64 : Int32) p1) < (64 : Int32) ∧ (v7_2_s0 (64 : Int32) p1) < (256 : Int32)) (rfl : (4 : Int32) = (4 : Int32)) (rfl : (0 : Int32) = (0 : Int32)) A263 F_bytes_b263 g_b263 F_ends_b263 F_byValue_b263 F_expectedSlots_b263 F_crowded_b263 F_slots_b263 F_size_b263 F_hashed_b263 F_probes_b263) hZ (w65 hw) (w62 hw) (by decide) (by decide)) (g := (mkF m 69 o1 [(.int 0), (.int 4), (.int (v7_2_s0 (64 : Int32) p1)), (.ref b263), (.ref b263), (.ref ra0)])) rfl (by rw [hml]; rfl) (Steps.refl _) (a := b263) (argsL := [(.int (v7_2_s0 (64 : Int32) p1)), (.int 4), (.int 0)]) (rest := [(.ref b263), (.ref ra0)]) (lenOf pd_3 rfl) rfl (Nat.le_of_eq rfl) (hb hby d2_69) (fun _ _ => ⟨rfl, e263, (by decide : 7 + 2 ≤ _), (by decide : 2831 + 2295 ≤ _)⟩)
 dsimp only [Pt.U, Pt.locs, Pt.cells, Pt.slots] at X278 l278 y278 z278 st278 hQ278
 subst l278 y278 z278
 obtain ⟨xb_278, k_xb_278, xe_278, k_xe_278, rfl, N278q, Kq278, Eq278_0, Fq278_0, Fq278_1, Fq278_2, Fq278_3, Fq278_4, Fq278_5, Fq278_6, Fq278_7, Fq278_8, sx_xb_278, Vx_xb_278, VLx_xb_278, sx_xe_278, Vx_xe_278, VLx_xe_278, nx_xb_xe_278⟩ := hQ278
 have f279 := (f264.ext E263)
 have f280 := (f265.ext E263)
 have O281 := (O266.ext E263)
 have f282 := zfy.ext O281.2
 have f283 := (f268.ext E263)
 have f284 := (f269.ext E263)
 have f285 := (f271.ext E263)
 have f286 := (f273.ext E263)
 have f287 := (f275.ext E263)
 have ne_ra0_xb_278 : ra0 ≠ xb_278 := Nat.ne_of_lt (Nat.lt_of_lt_of_le f279.lt sx_xb_278)
 have ne_b200_xb_278 : b200 ≠ xb_278 := Nat.ne_of_lt (Nat.lt_of_lt_of_le f280.lt sx_xb_278)
 have znn : zci ≠ xb_278 := Nat.ne_of_lt (Nat.lt_of_lt_of_le f282.lt sx_xb_278)
 have ne_b220_xb_278 : b220 ≠ xb_278 := Nat.ne_of_lt (Nat.lt_of_lt_of_le f283.lt sx_xb_278)
 have ne_b242_xb_278 : b242 ≠ xb_278 := Nat.ne_of_lt (Nat.lt_of_lt_of_le f284.lt sx_xb_278)
 have ne_xb_251_xb_278 : xb_251 ≠ xb_278 := Nat.ne_of_lt (Nat.lt_of_lt_of_le f285.lt sx_xb_278)
 have ne_xe_251_xb_278 : xe_251 ≠ xb_278 := Nat.ne_of_lt (Nat.lt_of_lt_of_le f286.lt sx_xb_278)
 have ne_xv_251_xb_278 : xv_251 ≠ xb_278 := Nat.ne_of_lt (Nat.lt_of_lt_of_le f287.lt sx_xb_278)
 have ne_b263_xb_278 : b263 ≠ xb_278 := Nat.ne_of_lt (Nat.lt_of_lt_of_le A263.lt sx_xb_278)
 have ne_ra0_xe_278 : ra0 ≠ xe_278 := Nat.ne_of_lt (Nat.lt_of_lt_of_le f279.lt sx_xe_278)
 have ne_b200_xe_278 : b200 ≠ xe_278 := Nat.ne_of_lt (Nat.lt_of_lt_of_le f280.lt sx_xe_278)
 have zno : zci ≠ xe_278 := Nat.ne_of_lt (Nat.lt_of_lt_of_le f282.lt sx_xe_278)
 have ne_b220_xe_278 : b220 ≠ xe_278 := Nat.ne_of_lt (Nat.lt_of_lt_of_le f283.lt sx_xe_278)
 have ne_b242_xe_278 : b242 ≠ xe_278 := Nat.ne_of_lt (Nat.lt_of_lt_of_le f284.lt sx_xe_278)
 have ne_xb_251_xe_278 : xb_251 ≠ xe_278 := Nat.ne_of_lt (Nat.lt_of_lt_of_le f285.lt sx_xe_278)
 have ne_xe_251_xe_278 : xe_251 ≠ xe_278 := Nat.ne_of_lt (Nat.lt_of_lt_of_le f286.lt sx_xe_278)
 have ne_xv_251_xe_278 : xv_251 ≠ xe_278 := Nat.ne_of_lt (Nat.lt_of_lt_of_le f287.lt sx_xe_278)
 have ne_b263_xe_278 : b263 ≠ xe_278 := Nat.ne_of_lt (Nat.lt_of_lt_of_le A263.lt sx_xe_278)
 have sz_xb_278 : h0.size ≤ xb_278 := Nat.le_trans K263.1 sx_xb_278
 have g_xb_278 : n0 ≤ xb_278 := Nat.le_trans Z0 sz_xb_278
 have sz_xe_278 : h0.size ≤ xe_278 := Nat.le_trans K263.1 sx_xe_278
 have g_xe_278 : n0 ≤ xe_278 := Nat.le_trans Z0 sz_xe_278
 have K278 : Keep h0 T278.heap [ra0] := K263.trans Kq278 (allS (Or.inr sz_b263) all0)
 have Fn278_3 : Fld Z T278.heap b263 cBs "expectedSlots" "I" (.int (v2_69_f_expectedSlots p1)) := Fq278_3
 have N278 := Fr.app N260 N278q
 have k288 := fun t (kk : SF p e below T278 m 72 o1 [(.ref b263), (.ref ra0)] t) => k277 t (st278.trans kk)
 have f289 := (f279.keep Kq278)
 have f290 := ((((((((((((zgq.ext E200).keep Kq204 (ninS ne_ra0_b200 nin0)).other W209 (Or.inr (own_sn (y88 hw) (y44 hw) (by decide)))).ext E220).other W226 (Or.inr (own_sn (y88 hw) (y49 hw) (by decide)))).other W231 (Or.inr (own_sn (y88 hw) (y52 hw) (by decide)))).other W236 (Or.inr (own_sn (y88 hw) (y55 hw) (by decide)))).ext E242).keep Kq251 (ninS ne_ra0_b242 nin0)).other W260 (Or.inr (own_sn (y88 hw) (y86 hw) (by decide)))).ext E263).keep Kq278 (ninS ne_ra0_b263 nin0))
 obtain ⟨T291, h291, X291, e291, W291, st291⟩ := putF X278 hx hZ hown (host := "") (Or.inl (w87 hw)) Via.refl rfl f290 f289 (Or.inr ⟨(w88 hw), rfl, hnm⟩) (w11 hw) (ty := (.object cBs)) (by decide) rfl rfl (g := (mkF m 72 o1 [(.ref b263), (.ref ra0)])) rfl rfl (hb hby d2_72)
 have Fw291 := f290.same W291
 have K291 : Keep h0 h291 [ra0] := K278.wr W291 (Or.inl (List.mem_of_getElem? (i := 0) rfl))
 have N291 := Fr.snoc X291 N278 g_ra0
 have k292 := fun t (kk : SF p e below T291 m 75 o1 [] t) => k288 t (st291 _ kk)
 have k293 := fun t (kk : SF p e below T291 m 77 o1 [(.int (v7_2_s0 (64 : Int32) p1)), (.ref ra0)] t) => k292 t (by
  refine XS.aloadN X291.here hx rfl (hb hby d2_75) rfl rfl ?_
  refine XS.iloadN X291.here hx rfl (hb hby d2_76) rfl ?_
  exact kk)
 obtain ⟨T294, h294, k294, X294, e294, E294, A294, st294⟩ := newP (aty := .long) X291 hx hZ (w89 hw) e291 (g := (mkF m 77 o1 [(.int (v7_2_s0 (64 : Int32) p1)), (.ref ra0)])) rfl (hb hby d2_77) rfl (own_n1 (own_cap hxx)) (cap := 255) (own_l1 (own_cap hxx)) (by decide) (by decide) (by decide)
 obtain ⟨b294, g294⟩ : ∃ z, z = h291.size := ⟨_, rfl⟩
 rw [← g294] at A294 st294
 have f295 := (f289.wr W291)
 have ne_ra0_b294 : ra0 ≠ b294 := own_nb1 f295.lt g294
 have f296 := ((f280.keep Kq278).wr W291)
 have ne_b200_b294 : b200 ≠ b294 := own_nb1 f296.lt g294
 have O297 := ((O281.keep Kq278 (allS g_b263 all0)).wr W291 g_ra0)
 have f298 := zfy.ext O297.2
 have zot : zci ≠ b294 := own_nb1 f298.lt g294
 have f299 := ((f283.keep Kq278 (ninS ne_b220_b263 nin0)).other W291 m247)
 have ne_b220_b294 : b220 ≠ b294 := own_nb1 f299.lt g294
 have f300 := ((f284.keep Kq278).wr W291)
 have ne_b242_b294 : b242 ≠ b294 := own_nb1 f300.lt g294
 have f301 := ((f285.keep Kq278 (ninS ne_xb_251_b263 nin0)).other W291 m270)
 have ne_xb_251_b294 : xb_251 ≠ b294 := own_nb1 f301.lt g294
 have f302 := ((f286.keep Kq278 (ninS ne_xe_251_b263 nin0)).other W291 m272)
 have ne_xe_251_b294 : xe_251 ≠ b294 := own_nb1 f302.lt g294
 have f303 := ((f287.keep Kq278 (ninS ne_xv_251_b263 nin0)).other W291 m274)
 have ne_xv_251_b294 : xv_251 ≠ b294 := own_nb1 f303.lt g294
 have f304 := (Eq278_0.wr W291)
 have ne_b263_b294 : b263 ≠ b294 := own_nb1 f304.lt g294
 have m305 : xb_278 ≠ ra0 := Ne.symm ne_ra0_xb_278
 have f306 := (Vx_xb_278.other W291 m305)
 have ne_xb_278_b294 : xb_278 ≠ b294 := own_nb1 f306.lt g294
 have m307 : xe_278 ≠ ra0 := Ne.symm ne_ra0_xe_278
 have f308 := (Vx_xe_278.other W291 m307)
 have ne_xe_278_b294 : xe_278 ≠ b294 := own_nb1 f308.lt g294
 have g_b294 : n0 ≤ b294 := Nat.le_trans (Nat.le_trans Z0 K291.1) (Nat.le_of_eq g294.symm)
 have sz_b294 : h0.size ≤ b294 := Nat.le_trans K291.1 (Nat.le_of_eq g294.symm)
 have K294 : Keep h0 h294 [ra0] := K291.ext E294
 have V294 : Arv Z h294 b294 k294 .long (v7_2_s0 (64 : Int32) p1) (List.map Value.long (List.replicate ((v7_2_s0 (64 : Int32) p1)).toNatClampNeg (0 : Int64))) (.long (0 : Int64)) := by rw [List.map_replicate]; exact own_pad (Arv.new A294 (own_n1 (own_cap hxx))) _
 have VL294 : (List.replicate ((v7_2_s0 (64 : Int32) p1)).toNatClampNeg (0 : Int64)).length = ((v7_2_s0 (64 : Int32) p1)).toNatClampNeg := List.length_replicate
 have k309 := fun t (kk : SF p e below T294 m 79 o1 [(.ref b294), (.ref ra0)] t) => k293 t (st294 _ kk)
 have f310 := (f295.ext E294)
 have f311 := ((((((((((((((zis.ext E200).keep Kq204 (ninS ne_ra0_b200 nin0)).other W209 (Or.inr (own_sn (y91 hw) (y44 hw) (by decide)))).ext E220).other W226 (Or.inr (own_sn (y91 hw) (y49 hw) (by decide)))).other W231 (Or.inr (own_sn (y91 hw) (y52 hw) (by decide)))).other W236 (Or.inr (own_sn (y91 hw) (y55 hw) (by decide)))).ext E242).keep Kq251 (ninS ne_ra0_b242 nin0)).other W260 (Or.inr (own_sn (y91 hw) (y86 hw) (by decide)))).ext E263).keep Kq278 (ninS ne_ra0_b263 nin0)).other W291 (Or.inr (own_sn (y91 hw) (y88 hw) (by decide)))).ext E294)
 obtain ⟨T312, h312, X312, e312, W312, st312⟩ := putF X294 hx hZ hown (host := "") (Or.inl (w90 hw)) Via.refl e294 f311 f310 (Or.inl (w91 hw)) (w11 hw) (ty := (.array .long)) (by decide) rfl rfl (g := (mkF m 79 o1 [(.ref b294), (.ref ra0)])) rfl rfl (hb hby d2_79)
 have Fw312 := f311.same W312
 have K312 : Keep h0 h312 [ra0] := K294.wr W312 (Or.inl (List.mem_of_getElem? (i := 0) rfl))
 have N312 := Fr.snoc X312 N291 g_ra0
 have k313 := fun t (kk : SF p e below T312 m 82 o1 [] t) => k309 t (st312 _ kk)
 have k314 := fun t (kk : SF p e below T312 m 84 o1 [(.int (v7_2_s0 (64 : Int32) p1)), (.ref ra0)] t) => k313 t (by
  refine XS.aloadN X312.here hx rfl (hb hby d2_82) rfl rfl ?_
  refine XS.iloadN X312.here hx rfl (hb hby d2_83) rfl ?_
  exact kk)
 obtain ⟨T315, h315, k315, X315, e315, E315, A315, st315⟩ := newP (aty := .byte) X312 hx hZ (w0 hw) e312 (g := (mkF m 84 o1 [(.int (v7_2_s0 (64 : Int32) p1)), (.ref ra0)])) rfl (hb hby d2_84) rfl (own_n1 (own_cap hxx)) (cap := 255) (own_l1 (own_cap hxx)) (by decide) (by decide) (by decide)
 obtain ⟨b315, g315⟩ : ∃ z, z = h312.size := ⟨_, rfl⟩
 rw [← g315] at A315 st315
 have f316 := (f310.wr W312)
 have ne_ra0_b315 : ra0 ≠ b315 := own_nb1 f316.lt g315
 have f317 := ((f296.ext E294).wr W312)
 have ne_b200_b315 : b200 ≠ b315 := own_nb1 f317.lt g315
 have O318 := ((O297.ext E294).wr W312 g_ra0)
 have f319 := zfy.ext O318.2
 have zou : zci ≠ b315 := own_nb1 f319.lt g315
 have f320 := ((f299.ext E294).other W312 m247)
 have ne_b220_b315 : b220 ≠ b315 := own_nb1 f320.lt g315
 have f321 := ((f300.ext E294).wr W312)
 have ne_b242_b315 : b242 ≠ b315 := own_nb1 f321.lt g315
 have f322 := ((f301.ext E294).other W312 m270)
 have ne_xb_251_b315 : xb_251 ≠ b315 := own_nb1 f322.lt g315
 have f323 := ((f302.ext E294).other W312 m272)
 have ne_xe_251_b315 : xe_251 ≠ b315 := own_nb1 f323.lt g315
 have f324 := ((f303.ext E294).other W312 m274)
 have ne_xv_251_b315 : xv_251 ≠ b315 := own_nb1 f324.lt g315
 have f325 := ((f304.ext E294).wr W312)
 have ne_b263_b315 : b263 ≠ b315 := own_nb1 f325.lt g315
 have f326 := ((f306.ext E294).other W312 m305)
 have ne_xb_278_b315 : xb_278 ≠ b315 := own_nb1 f326.lt g315
 have f327 := ((f308.ext E294).other W312 m307)
 have ne_xe_278_b315 : xe_278 ≠ b315 := own_nb1 f327.lt g315
 have m328 : b294 ≠ ra0 := Ne.symm ne_ra0_b294
 have f329 := (V294.other W312 m328)
 have ne_b294_b315 : b294 ≠ b315 := own_nb1 f329.lt g315
 have g_b315 : n0 ≤ b315 := Nat.le_trans (Nat.le_trans Z0 K312.1) (Nat.le_of_eq g315.symm)
 have sz_b315 : h0.size ≤ b315 := Nat.le_trans K312.1 (Nat.le_of_eq g315.symm)
 have K315 : Keep h0 h315 [ra0] := K312.ext E315
 have V315 : Arv Z h315 b315 k315 .byte (v7_2_s0 (64 : Int32) p1) (List.map Value.int (List.replicate ((v7_2_s0 (64 : Int32) p1)).toNatClampNeg (0 : Int32))) (.int 0) := by rw [List.map_replicate]; exact own_pad (Arv.new A315 (own_n1 (own_cap hxx))) _
 have VL315 : (List.replicate ((v7_2_s0 (64 : Int32) p1)).toNatClampNeg (0 : Int32)).length = ((v7_2_s0 (64 : Int32) p1)).toNatClampNeg := List.length_replicate
 have k330 := fun t (kk : SF p e below T315 m 86 o1 [(.ref b315), (.ref ra0)] t) => k314 t (st315 _ kk)
 have f331 := (f316.ext E315)
 have f332 := ((((((((((((((((zit.ext E200).keep Kq204 (ninS ne_ra0_b200 nin0)).other W209 (Or.inr (own_sn (y93 hw) (y44 hw) (by decide)))).ext E220).other W226 (Or.inr (own_sn (y93 hw) (y49 hw) (by decide)))).other W231 (Or.inr (own_sn (y93 hw) (y52 hw) (by decide)))).other W236 (Or.inr (own_sn (y93 hw) (y55 hw) (by decide)))).ext E242).keep Kq251 (ninS ne_ra0_b242 nin0)).other W260 (Or.inr (own_sn (y93 hw) (y86 hw) (by decide)))).ext E263).keep Kq278 (ninS ne_ra0_b263 nin0)).other W291 (Or.inr (own_sn (y93 hw) (y88 hw) (by decide)))).ext E294).other W312 (Or.inr (own_sn (y93 hw) (y91 hw) (by decide)))).ext E315)
 obtain ⟨T333, h333, X333, e333, W333, st333⟩ := putF X315 hx hZ hown (host := "") (Or.inl (w92 hw)) Via.refl e315 f332 f331 (Or.inl (w93 hw)) (w11 hw) (ty := (.array .byte)) (by decide) rfl rfl (g := (mkF m 86 o1 [(.ref b315), (.ref ra0)])) rfl rfl (hb hby d2_86)
 have Fw333 := f332.same W333
 have K333 : Keep h0 h333 [ra0] := K315.wr W333 (Or.inl (List.mem_of_getElem? (i := 0) rfl))
 have N333 := Fr.snoc X333 N312 g_ra0
 have k334 := fun t (kk : SF p e below T333 m 89 o1 [] t) => k330 t (st333 _ kk)
 have k335 := fun t (kk : SF p e below T333 m 91 o1 [(.int (v7_2_s0 (64 : Int32) p1)), (.ref ra0)] t) => k334 t (by
  refine XS.aloadN X333.here hx rfl (hb hby d2_89) rfl rfl ?_
  refine XS.iloadN X333.here hx rfl (hb hby d2_90) rfl ?_
  exact kk)
 obtain ⟨T336, h336, k336, X336, e336, E336, A336, st336⟩ := newP (aty := .long) X333 hx hZ (w89 hw) e333 (g := (mkF m 91 o1 [(.int (v7_2_s0 (64 : Int32) p1)), (.ref ra0)])) rfl (hb hby d2_91) rfl (own_n1 (own_cap hxx)) (cap := 255) (own_l1 (own_cap hxx)) (by decide) (by decide) (by decide)
 obtain ⟨b336, g336⟩ : ∃ z, z = h333.size := ⟨_, rfl⟩
 rw [← g336] at A336 st336
 have f337 := (f331.wr W333)
 have ne_ra0_b336 : ra0 ≠ b336 := own_nb1 f337.lt g336
 have f338 := ((f317.ext E315).wr W333)
 have ne_b200_b336 : b200 ≠ b336 := own_nb1 f338.lt g336
 have O339 := ((O318.ext E315).wr W333 g_ra0)
 have f340 := zfy.ext O339.2
 have zov : zci ≠ b336 := own_nb1 f340.lt g336
 have f341 := ((f320.ext E315).other W333 m247)
 have ne_b220_b336 : b220 ≠ b336 := own_nb1 f341.lt g336
 have f342 := ((f321.ext E315).wr W333)
 have ne_b242_b336 : b242 ≠ b336 := own_nb1 f342.lt g336
 have f343 := ((f322.ext E315).other W333 m270)
 have ne_xb_251_b336 : xb_251 ≠ b336 := own_nb1 f343.lt g336
 have f344 := ((f323.ext E315).other W333 m272)
 have ne_xe_251_b336 : xe_251 ≠ b336 := own_nb1 f344.lt g336
 have f345 := ((f324.ext E315).other W333 m274)
 have ne_xv_251_b336 : xv_251 ≠ b336 := own_nb1 f345.lt g336
 have f346 := ((f325.ext E315).wr W333)
 have ne_b263_b336 : b263 ≠ b336 := own_nb1 f346.lt g336
 have f347 := ((f326.ext E315).other W333 m305)
 have ne_xb_278_b336 : xb_278 ≠ b336 := own_nb1 f347.lt g336
 have f348 := ((f327.ext E315).other W333 m307)
 have ne_xe_278_b336 : xe_278 ≠ b336 := own_nb1 f348.lt g336
 have f349 := ((f329.ext E315).other W333 m328)
 have ne_b294_b336 : b294 ≠ b336 := own_nb1 f349.lt g336
 have m350 : b315 ≠ ra0 := Ne.symm ne_ra0_b315
 have f351 := (V315.other W333 m350)
 have ne_b315_b336 : b315 ≠ b336 := own_nb1 f351.lt g336
 have g_b336 : n0 ≤ b336 := Nat.le_trans (Nat.le_trans Z0 K333.1) (Nat.le_of_eq g336.symm)
 have sz_b336 : h0.size ≤ b336 := Nat.le_trans K333.1 (Nat.le_of_eq g336.symm)
 have K336 : Keep h0 h336 [ra0] := K333.ext E336
 have V336 : Arv Z h336 b336 k336 .long (v7_2_s0 (64 : Int32) p1) (List.map Value.long (List.replicate ((v7_2_s0 (64 : Int32) p1)).toNatClampNeg (0 : Int64))) (.long (0 : Int64)) := by rw [List.map_replicate]; exact own_pad (Arv.new A336 (own_n1 (own_cap hxx))) _
 have VL336 : (List.replicate ((v7_2_s0 (64 : Int32) p1)).toNatClampNeg (0 : Int64)).length = ((v7_2_s0 (64 : Int32) p1)).toNatClampNeg := List.length_replicate
 have k352 := fun t (kk : SF p e below T336 m 93 o1 [(.ref b336), (.ref ra0)] t) => k335 t (st336 _ kk)
 have f353 := (f337.ext E336)
 have f354 := ((((((((((((((((((zfr.ext E200).keep Kq204 (ninS ne_ra0_b200 nin0)).other W209 (Or.inr (own_sn (y95 hw) (y44 hw) (by decide)))).ext E220).other W226 (Or.inr (own_sn (y95 hw) (y49 hw) (by decide)))).other W231 (Or.inr (own_sn (y95 hw) (y52 hw) (by decide)))).other W236 (Or.inr (own_sn (y95 hw) (y55 hw) (by decide)))).ext E242).keep Kq251 (ninS ne_ra0_b242 nin0)).other W260 (Or.inr (own_sn (y95 hw) (y86 hw) (by decide)))).ext E263).keep Kq278 (ninS ne_ra0_b263 nin0)).other W291 (Or.inr (own_sn (y95 hw) (y88 hw) (by decide)))).ext E294).other W312 (Or.inr (own_sn (y95 hw) (y91 hw) (by decide)))).ext E315).other W333 (Or.inr (own_sn (y95 hw) (y93 hw) (by decide)))).ext E336)
 obtain ⟨T355, h355, X355, e355, W355, st355⟩ := putF X336 hx hZ hown (host := "") (Or.inl (w94 hw)) Via.refl e336 f354 f353 (Or.inl (w95 hw)) (w11 hw) (ty := (.array .long)) (by decide) rfl rfl (g := (mkF m 93 o1 [(.ref b336), (.ref ra0)])) rfl rfl (hb hby d2_93)
 have Fw355 := f354.same W355
 have K355 : Keep h0 h355 [ra0] := K336.wr W355 (Or.inl (List.mem_of_getElem? (i := 0) rfl))
 have N355 := Fr.snoc X355 N333 g_ra0
 have k356 := fun t (kk : SF p e below T355 m 96 o1 [] t) => k352 t (st355 _ kk)
 have k357 := fun t (kk : SF p e below T355 m 98 o1 [(.int (v7_2_s0 (64 : Int32) p1)), (.ref ra0)] t) => k356 t (by
  refine XS.aloadN X355.here hx rfl (hb hby d2_96) rfl rfl ?_
  refine XS.iloadN X355.here hx rfl (hb hby d2_97) rfl ?_
  exact kk)
 obtain ⟨T358, h358, k358, X358, e358, E358, A358, st358⟩ := newP (aty := .long) X355 hx hZ (w89 hw) e355 (g := (mkF m 98 o1 [(.int (v7_2_s0 (64 : Int32) p1)), (.ref ra0)])) rfl (hb hby d2_98) rfl (own_n1 (own_cap hxx)) (cap := 255) (own_l1 (own_cap hxx)) (by decide) (by decide) (by decide)
 obtain ⟨b358, g358⟩ : ∃ z, z = h355.size := ⟨_, rfl⟩
 rw [← g358] at A358 st358
 have f359 := (f353.wr W355)
 have ne_ra0_b358 : ra0 ≠ b358 := own_nb1 f359.lt g358
 have f360 := ((f338.ext E336).wr W355)
 have ne_b200_b358 : b200 ≠ b358 := own_nb1 f360.lt g358
 have O361 := ((O339.ext E336).wr W355 g_ra0)
 have f362 := zfy.ext O361.2
 have zow : zci ≠ b358 := own_nb1 f362.lt g358
 have f363 := ((f341.ext E336).other W355 m247)
 have ne_b220_b358 : b220 ≠ b358 := own_nb1 f363.lt g358
 have f364 := ((f342.ext E336).wr W355)
 have ne_b242_b358 : b242 ≠ b358 := own_nb1 f364.lt g358
 have f365 := ((f343.ext E336).other W355 m270)
 have ne_xb_251_b358 : xb_251 ≠ b358 := own_nb1 f365.lt g358
 have f366 := ((f344.ext E336).other W355 m272)
 have ne_xe_251_b358 : xe_251 ≠ b358 := own_nb1 f366.lt g358
 have f367 := ((f345.ext E336).other W355 m274)
 have ne_xv_251_b358 : xv_251 ≠ b358 := own_nb1 f367.lt g358
 have f368 := ((f346.ext E336).wr W355)
 have ne_b263_b358 : b263 ≠ b358 := own_nb1 f368.lt g358
 have f369 := ((f347.ext E336).other W355 m305)
 have ne_xb_278_b358 : xb_278 ≠ b358 := own_nb1 f369.lt g358
 have f370 := ((f348.ext E336).other W355 m307)
 have ne_xe_278_b358 : xe_278 ≠ b358 := own_nb1 f370.lt g358
 have f371 := ((f349.ext E336).other W355 m328)
 have ne_b294_b358 : b294 ≠ b358 := own_nb1 f371.lt g358
 have f372 := ((f351.ext E336).other W355 m350)
 have ne_b315_b358 : b315 ≠ b358 := own_nb1 f372.lt g358
 have m373 : b336 ≠ ra0 := Ne.symm ne_ra0_b336
 have f374 := (V336.other W355 m373)
 have ne_b336_b358 : b336 ≠ b358 := own_nb1 f374.lt g358
 have g_b358 : n0 ≤ b358 := Nat.le_trans (Nat.le_trans Z0 K355.1) (Nat.le_of_eq g358.symm)
 have sz_b358 : h0.size ≤ b358 := Nat.le_trans K355.1 (Nat.le_of_eq g358.symm)
 have K358 : Keep h0 h358 [ra0] := K355.ext E358
 have V358 : Arv Z h358 b358 k358 .long (v7_2_s0 (64 : Int32) p1) (List.map Value.long (List.replicate ((v7_2_s0 (64 : Int32) p1)).toNatClampNeg (0 : Int64))) (.long (0 : Int64)) := by rw [List.map_replicate]; exact own_pad (Arv.new A358 (own_n1 (own_cap hxx))) _
 have VL358 : (List.replicate ((v7_2_s0 (64 : Int32) p1)).toNatClampNeg (0 : Int64)).length = ((v7_2_s0 (64 : Int32) p1)).toNatClampNeg := List.length_replicate
 have k375 := fun t (kk : SF p e below T358 m 100 o1 [(.ref b358), (.ref ra0)] t) => k357 t (st358 _ kk)
 have f376 := (f359.ext E358)
 have f377 := ((((((((((((((((((((zig.ext E200).keep Kq204 (ninS ne_ra0_b200 nin0)).other W209 (Or.inr (own_sn (y97 hw) (y44 hw) (by decide)))).ext E220).other W226 (Or.inr (own_sn (y97 hw) (y49 hw) (by decide)))).other W231 (Or.inr (own_sn (y97 hw) (y52 hw) (by decide)))).other W236 (Or.inr (own_sn (y97 hw) (y55 hw) (by decide)))).ext E242).keep Kq251 (ninS ne_ra0_b242 nin0)).other W260 (Or.inr (own_sn (y97 hw) (y86 hw) (by decide)))).ext E263).keep Kq278 (ninS ne_ra0_b263 nin0)).other W291 (Or.inr (own_sn (y97 hw) (y88 hw) (by decide)))).ext E294).other W312 (Or.inr (own_sn (y97 hw) (y91 hw) (by decide)))).ext E315).other W333 (Or.inr (own_sn (y97 hw) (y93 hw) (by decide)))).ext E336).other W355 (Or.inr (own_sn (y97 hw) (y95 hw) (by decide)))).ext E358)
 obtain ⟨T378, h378, X378, e378, W378, st378⟩ := putF X358 hx hZ hown (host := "") (Or.inl (w96 hw)) Via.refl e358 f377 f376 (Or.inl (w97 hw)) (w11 hw) (ty := (.array .long)) (by decide) rfl rfl (g := (mkF m 100 o1 [(.ref b358), (.ref ra0)])) rfl rfl (hb hby d2_100)
 have Fw378 := f377.same W378
 have K378 : Keep h0 h378 [ra0] := K358.wr W378 (Or.inl (List.mem_of_getElem? (i := 0) rfl))
 have N378 := Fr.snoc X378 N355 g_ra0
 have k379 := fun t (kk : SF p e below T378 m 103 o1 [] t) => k375 t (st378 _ kk)
 obtain ⟨fs, hr, hrun, hended, hW, hsame⟩ := X378.leave (v := none) (fun _ => rfl) hlk
 have f380 := (f376.wr W378)
 have f381 := ((((((((((((((((((Fw209.ext E220).other W226 (Or.inr (own_sn (y44 hw) (y49 hw) (by decide)))).other W231 (Or.inr (own_sn (y44 hw) (y52 hw) (by decide)))).other W236 (Or.inr (own_sn (y44 hw) (y55 hw) (by decide)))).ext E242).keep Kq251 (ninS ne_ra0_b242 nin0)).other W260 (Or.inr (own_sn (y44 hw) (y86 hw) (by decide)))).ext E263).keep Kq278 (ninS ne_ra0_b263 nin0)).other W291 (Or.inr (own_sn (y44 hw) (y88 hw) (by decide)))).ext E294).other W312 (Or.inr (own_sn (y44 hw) (y91 hw) (by decide)))).ext E315).other W333 (Or.inr (own_sn (y44 hw) (y93 hw) (by decide)))).ext E336).other W355 (Or.inr (own_sn (y44 hw) (y95 hw) (by decide)))).ext E358).other W378 (Or.inr (own_sn (y44 hw) (y97 hw) (by decide))))
 have f382 := ((((((((((((((((Fw226.other W231 (Or.inr (own_sn (y49 hw) (y52 hw) (by decide)))).other W236 (Or.inr (own_sn (y49 hw) (y55 hw) (by decide)))).ext E242).keep Kq251 (ninS ne_ra0_b242 nin0)).other W260 (Or.inr (own_sn (y49 hw) (y86 hw) (by decide)))).ext E263).keep Kq278 (ninS ne_ra0_b263 nin0)).other W291 (Or.inr (own_sn (y49 hw) (y88 hw) (by decide)))).ext E294).other W312 (Or.inr (own_sn (y49 hw) (y91 hw) (by decide)))).ext E315).other W333 (Or.inr (own_sn (y49 hw) (y93 hw) (by decide)))).ext E336).other W355 (Or.inr (own_sn (y49 hw) (y95 hw) (by decide)))).ext E358).other W378 (Or.inr (own_sn (y49 hw) (y97 hw) (by decide))))
 have f383 := (((((((((((((((Fw231.other W236 (Or.inr (own_sn (y52 hw) (y55 hw) (by decide)))).ext E242).keep Kq251 (ninS ne_ra0_b242 nin0)).other W260 (Or.inr (own_sn (y52 hw) (y86 hw) (by decide)))).ext E263).keep Kq278 (ninS ne_ra0_b263 nin0)).other W291 (Or.inr (own_sn (y52 hw) (y88 hw) (by decide)))).ext E294).other W312 (Or.inr (own_sn (y52 hw) (y91 hw) (by decide)))).ext E315).other W333 (Or.inr (own_sn (y52 hw) (y93 hw) (by decide)))).ext E336).other W355 (Or.inr (own_sn (y52 hw) (y95 hw) (by decide)))).ext E358).other W378 (Or.inr (own_sn (y52 hw) (y97 hw) (by decide))))
 have f384 := ((((((((((((((Fw236.ext E242).keep Kq251 (ninS ne_ra0_b242 nin0)).other W260 (Or.inr (own_sn (y55 hw) (y86 hw) (by decide)))).ext E263).keep Kq278 (ninS ne_ra0_b263 nin0)).other W291 (Or.inr (own_sn (y55 hw) (y88 hw) (by decide)))).ext E294).other W312 (Or.inr (own_sn (y55 hw) (y91 hw) (by decide)))).ext E315).other W333 (Or.inr (own_sn (y55 hw) (y93 hw) (by decide)))).ext E336).other W355 (Or.inr (own_sn (y55 hw) (y95 hw) (by decide)))).ext E358).other W378 (Or.inr (own_sn (y55 hw) (y97 hw) (by decide))))
 have f385 := (((((((((((Fw260.ext E263).keep Kq278 (ninS ne_ra0_b263 nin0)).other W291 (Or.inr (own_sn (y86 hw) (y88 hw) (by decide)))).ext E294).other W312 (Or.inr (own_sn (y86 hw) (y91 hw) (by decide)))).ext E315).other W333 (Or.inr (own_sn (y86 hw) (y93 hw) (by decide)))).ext E336).other W355 (Or.inr (own_sn (y86 hw) (y95 hw) (by decide)))).ext E358).other W378 (Or.inr (own_sn (y86 hw) (y97 hw) (by decide))))
 have f386 := ((((((((Fw291.ext E294).other W312 (Or.inr (own_sn (y88 hw) (y91 hw) (by decide)))).ext E315).other W333 (Or.inr (own_sn (y88 hw) (y93 hw) (by decide)))).ext E336).other W355 (Or.inr (own_sn (y88 hw) (y95 hw) (by decide)))).ext E358).other W378 (Or.inr (own_sn (y88 hw) (y97 hw) (by decide))))
 have f387 := ((((((Fw312.ext E315).other W333 (Or.inr (own_sn (y91 hw) (y93 hw) (by decide)))).ext E336).other W355 (Or.inr (own_sn (y91 hw) (y95 hw) (by decide)))).ext E358).other W378 (Or.inr (own_sn (y91 hw) (y97 hw) (by decide))))
 have f388 := ((((Fw333.ext E336).other W355 (Or.inr (own_sn (y93 hw) (y95 hw) (by decide)))).ext E358).other W378 (Or.inr (own_sn (y93 hw) (y97 hw) (by decide))))
 have f389 := ((Fw355.ext E358).other W378 (Or.inr (own_sn (y95 hw) (y97 hw) (by decide))))
 have f390 := (((((((((((((((((((((zcc.ext E200).keep Kq204 (ninS ne_ra0_b200 nin0)).other W209 (Or.inr (own_sn (y138 hw) (y44 hw) (by decide)))).ext E220).other W226 (Or.inr (own_sn (y138 hw) (y49 hw) (by decide)))).other W231 (Or.inr (own_sn (y138 hw) (y52 hw) (by decide)))).other W236 (Or.inr (own_sn (y138 hw) (y55 hw) (by decide)))).ext E242).keep Kq251 (ninS ne_ra0_b242 nin0)).other W260 (Or.inr (own_sn (y138 hw) (y86 hw) (by decide)))).ext E263).keep Kq278 (ninS ne_ra0_b263 nin0)).other W291 (Or.inr (own_sn (y138 hw) (y88 hw) (by decide)))).ext E294).other W312 (Or.inr (own_sn (y138 hw) (y91 hw) (by decide)))).ext E315).other W333 (Or.inr (own_sn (y138 hw) (y93 hw) (by decide)))).ext E336).other W355 (Or.inr (own_sn (y138 hw) (y95 hw) (by decide)))).ext E358).other W378 (Or.inr (own_sn (y138 hw) (y97 hw) (by decide))))
 have f391 := (((((((((((((((((((((zih.ext E200).keep Kq204 (ninS ne_ra0_b200 nin0)).other W209 (Or.inr (slot_ne (Or.inl (w150 hw)) (Or.inr (w44 hw)) (by decide) (t := (.array (.array .int))) (t' := (.object "java/util/List")) (by decide) (by decide)))).ext E220).other W226 (Or.inr (slot_ne (Or.inl (w150 hw)) (Or.inr (w49 hw)) (by decide) (t := (.array (.array .int))) (t' := (.array .int)) (by decide) (by decide)))).other W231 (Or.inr (slot_ne (Or.inl (w150 hw)) (Or.inl (w52 hw)) (by decide) (t := (.array (.array .int))) (t' := .long) (by decide) (by decide)))).other W236 (Or.inr (slot_ne (Or.inl (w150 hw)) (Or.inl (w55 hw)) (by decide) (t := (.array (.array .int))) (t' := .long) (by decide) (by decide)))).ext E242).keep Kq251 (ninS ne_ra0_b242 nin0)).other W260 (Or.inr (slot_ne (Or.inl (w150 hw)) (Or.inr (w86 hw)) (by decide) (t := (.array (.array .int))) (t' := (.object cBs)) (by decide) (by decide)))).ext E263).keep Kq278 (ninS ne_ra0_b263 nin0)).other W291 (Or.inr (slot_ne (Or.inl (w150 hw)) (Or.inr (w88 hw)) (by decide) (t := (.array (.array .int))) (t' := (.object cBs)) (by decide) (by decide)))).ext E294).other W312 (Or.inr (slot_ne (Or.inl (w150 hw)) (Or.inl (w91 hw)) (by decide) (t := (.array (.array .int))) (t' := (.array .long)) (by decide) (by decide)))).ext E315).other W333 (Or.inr (slot_ne (Or.inl (w150 hw)) (Or.inl (w93 hw)) (by decide) (t := (.array (.array .int))) (t' := (.array .byte)) (by decide) (by decide)))).ext E336).other W355 (Or.inr (slot_ne (Or.inl (w150 hw)) (Or.inl (w95 hw)) (by decide) (t := (.array (.array .int))) (t' := (.array .long)) (by decide) (by decide)))).ext E358).other W378 (Or.inr (slot_ne (Or.inl (w150 hw)) (Or.inl (w97 hw)) (by decide) (t := (.array (.array .int))) (t' := (.array .long)) (by decide) (by decide))))
 have f392 := (((((((((((((((((((((zic.ext E200).keep Kq204 (ninS ne_ra0_b200 nin0)).other W209 (Or.inr (own_sn (y152 hw) (y44 hw) (by decide)))).ext E220).other W226 (Or.inr (own_sn (y152 hw) (y49 hw) (by decide)))).other W231 (Or.inr (own_sn (y152 hw) (y52 hw) (by decide)))).other W236 (Or.inr (own_sn (y152 hw) (y55 hw) (by decide)))).ext E242).keep Kq251 (ninS ne_ra0_b242 nin0)).other W260 (Or.inr (own_sn (y152 hw) (y86 hw) (by decide)))).ext E263).keep Kq278 (ninS ne_ra0_b263 nin0)).other W291 (Or.inr (own_sn (y152 hw) (y88 hw) (by decide)))).ext E294).other W312 (Or.inr (own_sn (y152 hw) (y91 hw) (by decide)))).ext E315).other W333 (Or.inr (own_sn (y152 hw) (y93 hw) (by decide)))).ext E336).other W355 (Or.inr (own_sn (y152 hw) (y95 hw) (by decide)))).ext E358).other W378 (Or.inr (own_sn (y152 hw) (y97 hw) (by decide))))
 have f393 := (((((((((((((((((((((zhh.ext E200).keep Kq204 (ninS ne_ra0_b200 nin0)).other W209 (Or.inr (own_sn (y180 hw) (y44 hw) (by decide)))).ext E220).other W226 (Or.inr (own_sn (y180 hw) (y49 hw) (by decide)))).other W231 (Or.inr (own_sn (y180 hw) (y52 hw) (by decide)))).other W236 (Or.inr (own_sn (y180 hw) (y55 hw) (by decide)))).ext E242).keep Kq251 (ninS ne_ra0_b242 nin0)).other W260 (Or.inr (own_sn (y180 hw) (y86 hw) (by decide)))).ext E263).keep Kq278 (ninS ne_ra0_b263 nin0)).other W291 (Or.inr (own_sn (y180 hw) (y88 hw) (by decide)))).ext E294).other W312 (Or.inr (own_sn (y180 hw) (y91 hw) (by decide)))).ext E315).other W333 (Or.inr (own_sn (y180 hw) (y93 hw) (by decide)))).ext E336).other W355 (Or.inr (own_sn (y180 hw) (y95 hw) (by decide)))).ext E358).other W378 (Or.inr (own_sn (y180 hw) (y97 hw) (by decide))))
 have f394 := ((f360.ext E358).wr W378)
 have m395 : b200 ≠ ra0 := Ne.symm ne_ra0_b200
 have t396 := fun {C n d : String} {v : Value} (F : Fld Z _ b200 C n d v) => ((((((((((((((((((F.other W209 (Or.inl m395)).ext E220).other W226 (Or.inl m395)).other W231 (Or.inl m395)).other W236 (Or.inl m395)).ext E242).keep Kq251 (ninS ne_b200_b242 nin0)).other W260 (Or.inl m395)).ext E263).keep Kq278 (ninS ne_b200_b263 nin0)).other W291 (Or.inl m395)).ext E294).other W312 (Or.inl m395)).ext E315).other W333 (Or.inl m395)).ext E336).other W355 (Or.inl m395)).ext E358).other W378 (Or.inl m395)
 have f397 := t396 Fq204_0
 have f398 := t396 Fq204_1
 have f399 := ((f363.ext E358).other W378 m247)
 have f400 := ((f364.ext E358).wr W378)
 have m401 : b242 ≠ ra0 := Ne.symm ne_ra0_b242
 have t402 := fun {C n d : String} {v : Value} (F : Fld Z _ b242 C n d v) => (((((((((((F.other W260 (Or.inl m401)).ext E263).keep Kq278 (ninS ne_b242_b263 nin0)).other W291 (Or.inl m401)).ext E294).other W312 (Or.inl m401)).ext E315).other W333 (Or.inl m401)).ext E336).other W355 (Or.inl m401)).ext E358).other W378 (Or.inl m401)
 have f403 := t402 Fq251_0
 have f404 := t402 Fq251_1
 have f405 := t402 Fq251_2
 have f406 := t402 Fn251_3
 have f407 := t402 Fq251_4
 have f408 := t402 Fq251_5
 have f409 := t402 Fq251_6
 have f410 := t402 Fq251_7
 have f411 := t402 Fq251_8
 have f412 := ((f365.ext E358).other W378 m270)
 have f413 := ((f366.ext E358).other W378 m272)
 have f414 := ((f367.ext E358).other W378 m274)
 have f415 := ((f368.ext E358).wr W378)
 have m416 : b263 ≠ ra0 := Ne.symm ne_ra0_b263
 have t417 := fun {C n d : String} {v : Value} (F : Fld Z _ b263 C n d v) => ((((((((F.other W291 (Or.inl m416)).ext E294).other W312 (Or.inl m416)).ext E315).other W333 (Or.inl m416)).ext E336).other W355 (Or.inl m416)).ext E358).other W378 (Or.inl m416)
 have f418 := t417 Fq278_0
 have f419 := t417 Fq278_1
 have f420 := t417 Fq278_2
 have f421 := t417 Fn278_3
 have f422 := t417 Fq278_4
 have f423 := t417 Fq278_5
 have f424 := t417 Fq278_6
 have f425 := t417 Fq278_7
 have f426 := t417 Fq278_8
 have f427 := ((f369.ext E358).other W378 m305)
 have f428 := ((f370.ext E358).other W378 m307)
 have f429 := ((f371.ext E358).other W378 m328)
 have f430 := ((f372.ext E358).other W378 m350)
 have f431 := ((f374.ext E358).other W378 m373)
 have m432 : b358 ≠ ra0 := Ne.symm ne_ra0_b358
 have f433 := (V358.other W378 m432)
 refine ⟨_, _, k379 _ ?_, hrun, hended, _, _, rfl, ?_, ⟨_, rfl⟩, hW, hsame.mono (by decide) (by decide)⟩
 ·show SF p e below T378 m 103 o1 [] _
  exact X378.returnOut hx Bd.returns (hb hby d2_103) hr
 ·show Q2 Z ra0 p1 zan zcn zci zfj zfk zja zcb zcj zki ziu zka zkb zjb zjy za zdp zje zcd h0 n0 _ T378.heap _
  rw [e378]
  exact ⟨b200, b220, k220, b242, xb_251, k_xb_251, xe_251, k_xe_251, xv_251, k_xv_251, b263, xb_278, k_xb_278, xe_278, k_xe_278, b294, k294, b315, k315, b336, k336, b358, k358, rfl, N378, K378, f380, f381, f382, f383, f384, f385, f386, f387, f388, f389, Fw378, f390, f391, f392, f393, sz_b200, f394, f397, f398, sz_b220, f399, VL220, sz_b242, f400, f403, f404, f405, f406, f407, f408, f409, f410, f411, sz_xb_251, f412, VLx_xb_251, sz_xe_251, f413, VLx_xe_251, sz_xv_251, f414, VLx_xv_251, sz_b263, f415, f418, f419, f420, f421, f422, f423, f424, f425, f426, sz_xb_278, f427, VLx_xb_278, sz_xe_278, f428, VLx_xe_278, sz_b294, f429, VL294, sz_b315, f430, VL315, sz_b336, f431, VL336, sz_b358, f433, VL358, ne_b200_b220, ne_b200_b242, ne_b200_xb_251, ne_b200_xe_251, ne_b200_xv_251, ne_b200_b263, ne_b200_xb_278, ne_b200_xe_278, ne_b200_b294, ne_b200_b315, ne_b200_b336, ne_b200_b358, ne_b220_b242, ne_b220_xb_251, ne_b220_xe_251, ne_b220_xv_251, ne_b220_b263, ne_b220_xb_278, ne_b220_xe_278, ne_b220_b294, ne_b220_b315, ne_b220_b336, ne_b220_b358, ne_b242_xb_251, ne_b242_xe_251, ne_b242_xv_251, ne_b242_b263, ne_b242_xb_278, ne_b242_xe_278, ne_b242_b294, ne_b242_b315, ne_b242_b336, ne_b242_b358, nx_xb_xe_251, nx_xb_xv_251, ne_xb_251_b263, ne_xb_251_xb_278, ne_xb_251_xe_278, ne_xb_251_b294, ne_xb_251_b315, ne_xb_251_b336, ne_xb_251_b358, nx_xe_xv_251, ne_xe_251_b263, ne_xe_251_xb_278, ne_xe_251_xe_278, ne_xe_251_b294, ne_xe_251_b315, ne_xe_251_b336, ne_xe_251_b358, ne_xv_251_b263, ne_xv_251_xb_278, ne_xv_251_xe_278, ne_xv_251_b294, ne_xv_251_b315, ne_xv_251_b336, ne_xv_251_b358, ne_b263_xb_278, ne_b263_xe_278, ne_b263_b294, ne_b263_b315, ne_b263_b336, ne_b263_b358, nx_xb_xe_278, ne_xb_278_b294, ne_xb_278_b315, ne_xb_278_b336, ne_xb_278_b358, ne_xe_278_b294, ne_xe_278_b315, ne_xe_278_b336, ne_xe_278_b358, ne_b294_b315, ne_b294_b336, ne_b294_b358, ne_b315_b336, ne_b315_b358, ne_b336_b358⟩
theorem d16_0 : decode C10_ 0 = .ok (.aload_n 0, 1) := by decide +kernel
theorem d16_1 : decode C10_ 1 = .ok (.getfield 58, 3) := by decide +kernel
theorem d16_4 : decode C10_ 4 = .ok (.ifCond .ne 7, 3) := by decide +kernel
theorem d16_7 : decode C10_ 7 = .ok (.iconst 0, 1) := by decide +kernel
theorem d16_8 : decode C10_ 8 = .ok (.goto 14, 3) := by decide +kernel
theorem d16_11 : decode C10_ 11 = .ok (.aload_n 0, 1) := by decide +kernel
theorem d16_12 : decode C10_ 12 = .ok (.getfield 21, 3) := by decide +kernel
theorem d16_15 : decode C10_ 15 = .ok (.aload_n 0, 1) := by decide +kernel
theorem d16_16 : decode C10_ 16 = .ok (.getfield 58, 3) := by decide +kernel
theorem d16_19 : decode C10_ 19 = .ok (.iconst 1, 1) := by decide +kernel
theorem d16_20 : decode C10_ 20 = .ok (.isub, 1) := by decide +kernel
theorem d16_21 : decode C10_ 21 = .ok (.iaload, 1) := by decide +kernel
theorem d16_22 : decode C10_ 22 = .ok (.ireturn, 1) := by decide +kernel
def v16_21_at (za : Int32) (zq : List Int32) : Int32 := (zq.getD ((za - (1 : Int32))).toNatClampNeg (0 : Int32))
def v16_ret (za : Int32) (zq : List Int32) : Int32 := (if za = (0 : Int32) then (0 : Int32) else (v16_21_at za zq))
theorem ef_rm16 (m : MethodId) (ra0 : Addr) : entryFrame m #[(.ref ra0)] 1 = mkF m 0 #[rv ra0] [] := by first | (simp [entryFrame, mkF, argsToLocals, Value.category]; done) | rfl
def Q16 (Z : State) (ra0 : Addr) (za : Int32) (zu : Addr) (zay : ClassId) (zac : Int32) (zq : List Int32) (h0 : Heap) (n0 : Nat) (v : Option Value) (h : Heap) (L : List Loc) : Prop := (v = some (.int (v16_ret za zq)) ∧ Fr n0 L ∧ h = h0)
set_option maxRecDepth 65536 in
set_option maxHeartbeats 40000000 in
theorem rm16 (l : Launch) (Z : State) (a0 : Array Value) (hw : HW Z a0) (ws : List Jvm.Cond) (ra0 : Addr) (za : Int32) (zu : Addr) (zay : ClassId) (zac : Int32) (zq : List Int32) (h0 : Heap) (n0 : Nat) (Z0 : n0 ≤ h0.size) (hs : ¬ za < 0 ∧ za < zac) (zcc : Fld Z h0 ra0 cBs "size" "I" (.int za)) (zdq : Fld Z h0 ra0 cBs "ends" "[I" (.ref zu)) (zcp : Arv Z h0 zu zay .int zac (List.map Value.int zq) (.int 0)) (zdn : zq.length = zac.toNatClampNeg) :
  MetFree l M26_ (head1 (Jvm.Cond.code M26_ prog_10_method_8_code 1 (some .int) :: ws) R0_) (fun a U => a = #[(.ref ra0)] ∧ Z.Warmed39 U.vm ∧ U.heap = h0) (fun _ _ _ _ _ => True) (fun _ U o U' => ∃ v L, o = .returned v ∧ Q16 Z ra0 za zu zay zac zq h0 n0 v U'.heap L ∧ FrameEnd U o U' L R0_.cells R0_.slots) := by
 refine MetFree.of_bodySF (plainFor_of_name pn_167) hisR ?_
 intro p e s m args below meth c s₁ Bd hml0 hP hK
 obtain ⟨rfl, hZ, hh⟩ := hP
 have hx := Bd.exec
 have hlk : meth.locks = false := by first | exact BodyLoose.notSynchronized Bd | exact Body.notSynchronized Bd
 have hby := Bd.bytes
 have hml : c.maxLocals = 1 := hml0
 have hown : s.vm.findClass cBs = some m.cls := findClass_of_methodNamed Bd.named
 have hnm := (name_of_methodNamed Bd.named Bd.method).1
 have X0 : Stand p l e R0_ s m #[(.ref ra0)] below meth c s₁ [] 0 0 := Stand.of_body Bd
 have e0 : s₁.heap = h0 := by rw [← hh, Bd.state]; rfl
 have N0 := Fr.nil n0
 have KC0 := Keep.refl h0 ([] : List Addr)
 have pre0 : ∀ t, SF p e below s₁ m 0 #[rv ra0] [] t → Steps p.tables e below (s₁.setTop (entryFrame m #[(.ref ra0)] 1)) t := fun t k => castTop (ef_rm16 m ra0) k
 have k434 := fun t (kk : SF p e below s₁ m 1 #[rv ra0] [(.ref ra0)] t) => pre0 t (by
  refine XS.aloadN X0.here hx rfl (hb hby d16_0) rfl rfl ?_
  exact kk)
 obtain ⟨T435, X435, e435, st435⟩ := getF X0 hx hZ hown (host := "") (Or.inl (w129 hw)) Via.refl e0 zcc (g := (mkF m 1 #[rv ra0] [(.ref ra0)])) rfl rfl (hb hby d16_1)
 have k436 := fun t (kk : SF p e below T435 m 4 #[rv ra0] [(.int za)] t) => k434 t (st435 _ kk)
 by_cases hc4_437 : za = (0 : Int32)
 ·have k438 := fun t (kk : SF p e below T435 m 22 #[rv ra0] [(.int 0)] t) => k436 t (by
   refine XS.ifNo X435.here hx rfl (hb hby d16_4) rfl ((if0 _ _).trans (teq hc4_437).2) ?_
   show SF p e below T435 m 7 #[rv ra0] [] _
   refine XS.iconst X435.here hx rfl (hb hby d16_7) ?_
   refine XS.goto X435.here hx rfl (pc0 := 8) (pc' := 22) rfl (hb hby d16_8) (by decide) (by decide) ?_
   exact kk)
  obtain ⟨fs, hr, hrun, hended, hW, hsame⟩ := X435.leave (v := some (.int 0)) (fun h => by rw [Bd.returns] at h; cases h) hlk
  have hv : (v16_ret za zq) = (0 : Int32) := (if_pos hc4_437)
  refine ⟨_, _, k438 _ ?_, hrun, hended, _, _, rfl, ?_, ⟨_, rfl⟩, hW, hsame.mono (by decide) (by decide)⟩
  ·show SF p e below T435 m 22 #[rv ra0] [(.int 0)] _
   exact retI X435 hx Bd.returns (hb hby d16_22) hr
  ·show Q16 Z ra0 za zu zay zac zq h0 n0 _ T435.heap _
   rw [e435]
   exact ⟨(congrArg (fun z => some (Value.int z)) hv).symm, N0, rfl⟩
 ·have k439 := fun t (kk : SF p e below T435 m 12 #[rv ra0] [(.ref ra0)] t) => k436 t (by
   refine XS.ifYes X435.here hx rfl (pc0 := 4) (pc' := 11) rfl (hb hby d16_4) rfl ((if0 _ _).trans (feq hc4_437).2) (by decide) (by decide) ?_
   refine XS.aloadN X435.here hx rfl (hb hby d16_11) rfl rfl ?_
   exact kk)
  obtain ⟨T440, X440, e440, st440⟩ := getF X435 hx hZ hown (host := "") (Or.inl (w70 hw)) Via.refl e435 zdq (g := (mkF m 12 #[rv ra0] [(.ref ra0)])) rfl rfl (hb hby d16_12)
  have k441 := fun t (kk : SF p e below T440 m 15 #[rv ra0] [(.ref zu)] t) => k439 t (st440 _ kk)
  have k442 := fun t (kk : SF p e below T440 m 16 #[rv ra0] [(.ref ra0), (.ref zu)] t) => k441 t (by
   refine XS.aloadN X440.here hx rfl (hb hby d16_15) rfl rfl ?_
   exact kk)
  obtain ⟨T443, X443, e443, st443⟩ := getF X440 hx hZ hown (host := "") (Or.inl (w129 hw)) Via.refl e440 zcc (g := (mkF m 16 #[rv ra0] [(.ref ra0), (.ref zu)])) rfl rfl (hb hby d16_16)
  have k444 := fun t (kk : SF p e below T443 m 19 #[rv ra0] [(.int za), (.ref zu)] t) => k442 t (st443 _ kk)
  have k445 := fun t (kk : SF p e below T443 m 21 #[rv ra0] [(.int (za - (1 : Int32))), (.ref zu)] t) => k444 t (by
   refine XS.iconst X443.here hx rfl (hb hby d16_19) ?_
   refine XS.isub X443.here hx rfl (hb hby d16_20) rfl ?_
   exact kk)
  have hV446 := zcp
  obtain ⟨cl446, Ar446, q446, S446, Nn446, H446, G446⟩ := hV446
  have hb447 : ¬ (za - (1 : Int32)) < 0 ∧ (za - (1 : Int32)) < zac := own_i1 hs hc4_437
  have hin447 : ¬ ((za - (1 : Int32)) < 0 ∨ cl446.slots.size ≤ ((za - (1 : Int32))).toNatClampNeg) := inb_of S446 hb447
  have hat447 : cl446.slots[((za - (1 : Int32))).toNatClampNeg]? = some (.int (v16_21_at za zq)) := Has.at H446 hin447 (own_getD_int _ _ _)
  have st447 := X443.iaload hx (j := (za - (1 : Int32))) (v := (.int (v16_21_at za zq))) (by rw [e443]; exact Ar446.1) (State.isArrayOf_alike hZ.alike Ar446.2.1) Ar446.2.2 hin447 hat447 (g := (mkF m 21 #[rv ra0] [(.int (za - (1 : Int32))), (.ref zu)])) rfl rfl (hb hby d16_21)
  have k448 := fun t (kk : SF p e below T443 m 22 #[rv ra0] [(.int (v16_21_at za zq))] t) => k445 t (st447 _ kk)
  obtain ⟨fs, hr, hrun, hended, hW, hsame⟩ := X443.leave (v := some (.int (v16_21_at za zq))) (fun h => by rw [Bd.returns] at h; cases h) hlk
  have hv : (v16_ret za zq) = (v16_21_at za zq) := (if_neg hc4_437)
  refine ⟨_, _, k448 _ ?_, hrun, hended, _, _, rfl, ?_, ⟨_, rfl⟩, hW, hsame.mono (by decide) (by decide)⟩
  ·show SF p e below T443 m 22 #[rv ra0] [(.int (v16_21_at za zq))] _
   exact retI X443 hx Bd.returns (hb hby d16_22) hr
  ·show Q16 Z ra0 za zu zay zac zq h0 n0 _ T443.heap _
   rw [e443]
   exact ⟨(congrArg (fun z => some (Value.int z)) hv).symm, N0, rfl⟩
theorem pd_4 : parseMethodDescriptor "()I" = some ⟨[], some .int⟩ := by decide +kernel
theorem d15_0 : decode C11_ 0 = .ok (.iload_n 3, 1) := by decide +kernel
theorem d15_1 : decode C11_ 1 = .ok (.iload_n 2, 1) := by decide +kernel
theorem d15_2 : decode C11_ 2 = .ok (.isub, 1) := by decide +kernel
theorem d15_3 : decode C11_ 3 = .ok (.ldc 106, 2) := by decide +kernel
theorem d15_5 : decode C11_ 5 = .ok (.aload_n 0, 1) := by decide +kernel
theorem d15_6 : decode C11_ 6 = .ok (.invokevirtual 107, 3) := by decide +kernel
theorem d15_9 : decode C11_ 9 = .ok (.isub, 1) := by decide +kernel
theorem d15_10 : decode C11_ 10 = .ok (.if_icmp .le 13, 3) := by decide +kernel
theorem d15_23 : decode C11_ 23 = .ok (.aload_n 0, 1) := by decide +kernel
theorem d15_24 : decode C11_ 24 = .ok (.invokevirtual 107, 3) := by decide +kernel
theorem d15_27 : decode C11_ 27 = .ok (.iload_n 3, 1) := by decide +kernel
theorem d15_28 : decode C11_ 28 = .ok (.iadd, 1) := by decide +kernel
theorem d15_29 : decode C11_ 29 = .ok (.iload_n 2, 1) := by decide +kernel
theorem d15_30 : decode C11_ 30 = .ok (.isub, 1) := by decide +kernel
theorem d15_31 : decode C11_ 31 = .ok (.aload_n 0, 1) := by decide +kernel
theorem d15_32 : decode C11_ 32 = .ok (.getfield 15, 3) := by decide +kernel
theorem d15_35 : decode C11_ 35 = .ok (.arraylength, 1) := by decide +kernel
theorem d15_36 : decode C11_ 36 = .ok (.if_icmp .le 34, 3) := by decide +kernel
theorem d15_70 : decode C11_ 70 = .ok (.aload_n 0, 1) := by decide +kernel
theorem d15_71 : decode C11_ 71 = .ok (.getfield 58, 3) := by decide +kernel
theorem d15_74 : decode C11_ 74 = .ok (.aload_n 0, 1) := by decide +kernel
theorem d15_75 : decode C11_ 75 = .ok (.getfield 21, 3) := by decide +kernel
theorem d15_78 : decode C11_ 78 = .ok (.arraylength, 1) := by decide +kernel
theorem d15_79 : decode C11_ 79 = .ok (.if_icmp .ne 20, 3) := by decide +kernel
theorem d15_99 : decode C11_ 99 = .ok (.aload_n 1, 1) := by decide +kernel
theorem d15_100 : decode C11_ 100 = .ok (.iload_n 2, 1) := by decide +kernel
theorem d15_101 : decode C11_ 101 = .ok (.aload_n 0, 1) := by decide +kernel
theorem d15_102 : decode C11_ 102 = .ok (.getfield 15, 3) := by decide +kernel
theorem d15_105 : decode C11_ 105 = .ok (.aload_n 0, 1) := by decide +kernel
theorem d15_106 : decode C11_ 106 = .ok (.invokevirtual 107, 3) := by decide +kernel
theorem d15_109 : decode C11_ 109 = .ok (.iload_n 3, 1) := by decide +kernel
theorem d15_110 : decode C11_ 110 = .ok (.iload_n 2, 1) := by decide +kernel
theorem d15_111 : decode C11_ 111 = .ok (.isub, 1) := by decide +kernel
theorem d15_112 : decode C11_ 112 = .ok (.invokestatic 134, 3) := by decide +kernel
theorem d15_115 : decode C11_ 115 = .ok (.aload_n 0, 1) := by decide +kernel
theorem d15_116 : decode C11_ 116 = .ok (.getfield 21, 3) := by decide +kernel
theorem d15_119 : decode C11_ 119 = .ok (.aload_n 0, 1) := by decide +kernel
theorem d15_120 : decode C11_ 120 = .ok (.getfield 58, 3) := by decide +kernel
theorem d15_123 : decode C11_ 123 = .ok (.aload_n 0, 1) := by decide +kernel
theorem d15_124 : decode C11_ 124 = .ok (.invokevirtual 107, 3) := by decide +kernel
theorem d15_127 : decode C11_ 127 = .ok (.iload_n 3, 1) := by decide +kernel
theorem d15_128 : decode C11_ 128 = .ok (.iadd, 1) := by decide +kernel
theorem d15_129 : decode C11_ 129 = .ok (.iload_n 2, 1) := by decide +kernel
theorem d15_130 : decode C11_ 130 = .ok (.isub, 1) := by decide +kernel
theorem d15_131 : decode C11_ 131 = .ok (.iastore, 1) := by decide +kernel
theorem d15_132 : decode C11_ 132 = .ok (.aload_n 0, 1) := by decide +kernel
theorem d15_133 : decode C11_ 133 = .ok (.dup, 1) := by decide +kernel
theorem d15_134 : decode C11_ 134 = .ok (.getfield 58, 3) := by decide +kernel
theorem d15_137 : decode C11_ 137 = .ok (.dup_x1, 1) := by decide +kernel
theorem d15_138 : decode C11_ 138 = .ok (.iconst 1, 1) := by decide +kernel
theorem d15_139 : decode C11_ 139 = .ok (.iadd, 1) := by decide +kernel
theorem d15_140 : decode C11_ 140 = .ok (.putfield 58, 3) := by decide +kernel
theorem d15_143 : decode C11_ 143 = .ok (.ireturn, 1) := by decide +kernel
def v15_112_L (p2 za : Int32) (zq zal L_ra1 : List Int32) : List Int32 := (zal.set ((v16_ret za zq)).toNatClampNeg (L_ra1.getD (p2).toNatClampNeg (0 : Int32)))
def v15_131_L (p2 p3 za : Int32) (zq : List Int32) : List Int32 := (zq.set (za).toNatClampNeg (((v16_ret za zq) + p3) - p2))
theorem ef_rm15 (m : MethodId) (ra0 ra1 : Addr) (p2 p3 : Int32) : entryFrame m #[(.ref ra0), (.ref ra1), (.int p2), (.int p3)] 4 = mkF m 0 #[rv ra0, rv ra1, iv p2, iv p3] [] := by first | (simp [entryFrame, mkF, argsToLocals, Value.category]; done) | rfl
def Q15 (Z : State) (ra0 ra1 : Addr) (p2 p3 za : Int32) (zu : Addr) (zay : ClassId) (zac : Int32) (zq : List Int32) (zv : Addr) (zbd : ClassId) (zai : Int32) (zal : List Int32) (k_ra1 : ClassId) (L_ra1 : List Int32) (zek : Value) (zm : Int32) (zby zcf : Value) (zak : Int32) (zat : Int64) (h0 : Heap) (n0 : Nat) (v : Option Value) (h : Heap) (L : List Loc) : Prop := (v = some (.int za) ∧ Fr n0 L ∧ Keep h0 h [zv, zu, ra0] ∧ Exa Z h ra0 cBs ∧ Fld Z h ra0 cBs "bytes" "[B" (.ref zv) ∧ Fld Z h ra0 cBs "ends" "[I" (.ref zu) ∧ Fld Z h ra0 cBs "byValue" "[I" zek ∧ Fld Z h ra0 cBs "expectedSlots" "I" (.int zm) ∧ Fld Z h ra0 cBs "crowded" "Ljava/util/Map;" zby ∧ Fld Z h ra0 cBs "slots" "[J" zcf ∧ Fld Z h ra0 cBs "size" "I" (.int (za + (1 : Int32))) ∧ Fld Z h ra0 cBs "hashed" "I" (.int zak) ∧ Fld Z h ra0 cBs "probes" "J" (.long zat) ∧ Arv Z h zv zbd .byte zai (List.map Value.int (v15_112_L p2 za zq zal L_ra1)) (.int 0) ∧ (v15_112_L p2 za zq zal L_ra1).length = (zai).toNatClampNeg ∧ Arv Z h zu zay .int zac (List.map Value.int (v15_131_L p2 p3 za zq)) (.int 0) ∧ (v15_131_L p2 p3 za zq).length = (zac).toNatClampNeg)
set_option maxRecDepth 65536 in
set_option maxHeartbeats 40000000 in
theorem rm15 (l : Launch) (Z : State) (a0 : Array Value) (hw : HW Z a0) (ws : List Jvm.Cond) (ra0 ra1 : Addr) (p2 p3 za : Int32) (zu : Addr) (zay : ClassId) (zac : Int32) (zq : List Int32) (zv : Addr) (zbd : ClassId) (zai : Int32) (zal : List Int32) (k_ra1 : ClassId) (L_ra1 : List Int32) (zek : Value) (zm : Int32) (zby zcf : Value) (zak : Int32) (zat : Int64) (h0 : Heap) (n0 : Nat) (Z0 : n0 ≤ h0.size) (hs : ¬ za < 0 ∧ za < zac) (hE : ¬ (v16_ret za zq) < 0 ∧ (v16_ret za zq) < (60 : Int32)) (hbb : ¬ zai < (64 : Int32)) (hk : ¬ p2 < 0 ∧ p2 < (3 : Int32)) (ht : p3 = p2 + (1 : Int32)) (zcc : Fld Z h0 ra0 cBs "size" "I" (.int za)) (zdq : Fld Z h0 ra0 cBs "ends" "[I" (.ref zu)) (zcp : Arv Z h0 zu zay .int zac (List.map Value.int zq) (.int 0)) (zdn : zq.length = zac.toNatClampNeg) (E_ra0 : Exa Z h0 ra0 cBs) (zdy : Fld Z h0 ra0 cBs "bytes" "[B" (.ref zv)) (zdb : Arv Z h0 zv zbd .byte zai (List.map Value.int zal) (.int 0)) (zea : zal.length = zai.toNatClampNeg) (V_ra1 : Arv Z h0 ra1 k_ra1 .byte (3 : Int32) (List.map Value.int L_ra1) (.int 0)) (VL_ra1 : L_ra1.length = ((3 : Int32)).toNatClampNeg) (zgl : n0 ≤ zv) (zda : zv ≠ zu) (zgy : n0 ≤ zu) (g_ra0 : n0 ≤ ra0) (zbv : Fld Z h0 ra0 cBs "byValue" "[I" zek) (zcr : Fld Z h0 ra0 cBs "expectedSlots" "I" (.int zm)) (zdr : Fld Z h0 ra0 cBs "crowded" "Ljava/util/Map;" zby) (zdo : Fld Z h0 ra0 cBs "slots" "[J" zcf) (zfe : Fld Z h0 ra0 cBs "hashed" "I" (.int zak)) (zeq : Fld Z h0 ra0 cBs "probes" "J" (.long zat)) :
  MetFree l M27_ (head1 (Jvm.Cond.code M27_ prog_10_method_4_code 4 (some .int) :: ws) R8_) (fun a U => a = #[(.ref ra0), (.ref ra1), (.int p2), (.int p3)] ∧ Z.Warmed39 U.vm ∧ U.heap = h0) (fun _ _ _ _ _ => True) (fun _ U o U' => ∃ v L, o = .returned v ∧ Q15 Z ra0 ra1 p2 p3 za zu zay zac zq zv zbd zai zal k_ra1 L_ra1 zek zm zby zcf zak zat h0 n0 v U'.heap L ∧ FrameEnd U o U' L R8_.cells R8_.slots) := by
 refine MetFree.of_bodySF (plainFor_of_name pn_167) hisR ?_
 intro p e s m args below meth c s₁ Bd hml0 hP hK
 obtain ⟨rfl, hZ, hh⟩ := hP
 have hx := Bd.exec
 have hlk : meth.locks = false := by first | exact BodyLoose.notSynchronized Bd | exact Body.notSynchronized Bd
 have hby := Bd.bytes
 have hml : c.maxLocals = 4 := hml0
 have hown : s.vm.findClass cBs = some m.cls := findClass_of_methodNamed Bd.named
 have hnm := (name_of_methodNamed Bd.named Bd.method).1
 have X0 : Stand p l e R8_ s m #[(.ref ra0), (.ref ra1), (.int p2), (.int p3)] below meth c s₁ [] 0 0 := Stand.of_body Bd
 have e0 : s₁.heap = h0 := by rw [← hh, Bd.state]; rfl
 have N0 := Fr.nil n0
 have KC0 := Keep.refl h0 [zv, zu, ra0]
 let o1 : Array Slot := #[rv ra0, rv ra1, iv p2, iv p3]
 have pre0 : ∀ t, SF p e below s₁ m 0 o1 [] t → Steps p.tables e below (s₁.setTop (entryFrame m #[(.ref ra0), (.ref ra1), (.int p2), (.int p3)] 4)) t := fun t k => castTop (ef_rm15 m ra0 ra1 p2 p3) k
 have k449 := fun t (kk : SF p e below s₁ m 6 o1 [(.ref ra0), (.int 2147483631), (.int (p3 - p2))] t) => pre0 t (by
  refine XS.iloadN X0.here hx rfl (hb hby d15_0) rfl ?_
  refine XS.iloadN X0.here hx rfl (hb hby d15_1) rfl ?_
  refine XS.isub X0.here hx rfl (hb hby d15_2) rfl ?_
  refine X0.ldcInt hx hown (mvT hZ (w124 hw)) (g := (mkF m 3 o1 [(.int (p3 - p2))])) rfl (hb hby d15_3) _ ?_
  refine XS.aloadN X0.here hx rfl (hb hby d15_5) rfl rfl ?_
  exact kk)
 have Zz450 : n0 ≤ h0.size := (Nat.le_trans Z0 KC0.1)
 obtain ⟨cq450, q450, q450'⟩ := E_ra0.cell
 obtain ⟨_, _, ⟨T450, L450, k450, n450⟩, -, X450, ⟨Lc450, hQ450, l450, y450, z450⟩, st450⟩ := X0.privateBack hx (y := M26_) hown (mvT hZ (w125 hw)) (mvT hZ (w126 hw)) (own_selpriv (y := M26_) (mvT hZ (w61 hw)) (Cond.privateMethod_at (mvP hZ (w127 hw) (args := #[]))) (mvT hZ (w126 hw)) (by decide)) (Cond.privateMethod_at (mvP hZ (w127 hw) (args := #[]))) (mvT hZ (w128 hw)) (by decide) (backOf (W := 2) (rm16 l Z a0 hw [] ra0 za zu zay zac zq h0 n0 Zz450 (hs : ¬ za < 0 ∧ za < zac) zcc zdq zcp zdn) hZ (w128 hw) (w62 hw) (by decide) (by decide)) (g := (mkF m 6 o1 [(.ref ra0), (.int 2147483631), (.int (p3 - p2))])) rfl (by rw [hml]; rfl) (Steps.refl _) (a := ra0) (by rw [e0]; exact q450) q450' (argsL := []) (rest := [(.int 2147483631), (.int (p3 - p2))]) (lenOf pd_4 rfl) rfl (Nat.le_of_eq rfl) (hb hby d15_6) (fun _ _ => ⟨rfl, e0, (by decide : 0 + 0 ≤ _), (by decide : 0 + 0 ≤ _)⟩)
 dsimp only [Pt.U, Pt.locs, Pt.cells, Pt.slots] at X450 l450 y450 z450 st450 hQ450
 subst l450 y450 z450
 obtain ⟨rfl, N450q, e450⟩ := hQ450
 have N450 := Fr.app N0 N450q
 have k451 := fun t (kk : SF p e below T450 m 9 o1 [(.int (v16_ret za zq)), (.int 2147483631), (.int (p3 - p2))] t) => k449 t (st450.trans kk)
 have k452 := fun t (kk : SF p e below T450 m 10 o1 [(.int ((2147483631 : Int32) - (v16_ret za zq))), (.int (p3 - p2))] t) => k451 t (by
  refine XS.isub X450.here hx rfl (hb hby d15_9) rfl ?_
  exact kk)
 have hc10_453 : ¬ (((2147483631 : Int32) - (v16_ret za zq)) < (p3 - p2)) := own_ap1 ht hk hE
 have k454 := fun t (kk : SF p e below T450 m 24 o1 [(.ref ra0)] t) => k452 t (by
  refine XS.icmpYes X450.here hx rfl (pc0 := 10) (pc' := 23) rfl (hb hby d15_10) rfl (flt hc10_453).2.2.2 (by decide) (by decide) ?_
  refine XS.aloadN X450.here hx rfl (hb hby d15_23) rfl rfl ?_
  exact kk)
 have Zz455 : n0 ≤ h0.size := (Nat.le_trans Z0 KC0.1)
 obtain ⟨cq455, q455, q455'⟩ := E_ra0.cell
 obtain ⟨_, _, ⟨T455, L455, k455, n455⟩, -, X455, ⟨Lc455, hQ455, l455, y455, z455⟩, st455⟩ := X450.privateBack hx (y := M26_) hown (mvT hZ (w125 hw)) (mvT hZ (w126 hw)) (own_selpriv (y := M26_) (mvT hZ (w61 hw)) (Cond.privateMethod_at (mvP hZ (w127 hw) (args := #[]))) (mvT hZ (w126 hw)) (by decide)) (Cond.privateMethod_at (mvP hZ (w127 hw) (args := #[]))) (mvT hZ (w128 hw)) (by decide) (backOf (W := 0) (rm16 l Z a0 hw [] ra0 za zu zay zac zq h0 n0 Zz455 (hs : ¬ za < 0 ∧ za < zac) zcc zdq zcp zdn) hZ (w128 hw) (w62 hw) (by decide) (by decide)) (g := (mkF m 24 o1 [(.ref ra0)])) rfl (by rw [hml]; rfl) (Steps.refl _) (a := ra0) (by rw [e450]; exact q455) q455' (argsL := []) (rest := []) (lenOf pd_4 rfl) rfl (Nat.le_of_eq rfl) (hb hby d15_24) (fun _ _ => ⟨rfl, e450, (by decide : 0 + 0 ≤ _), (by decide : 0 + 0 ≤ _)⟩)
 dsimp only [Pt.U, Pt.locs, Pt.cells, Pt.slots] at X455 l455 y455 z455 st455 hQ455
 subst l455 y455 z455
 obtain ⟨rfl, N455q, e455⟩ := hQ455
 have N455 := Fr.app N450 N455q
 have k456 := fun t (kk : SF p e below T455 m 27 o1 [(.int (v16_ret za zq))] t) => k454 t (st455.trans kk)
 have k457 := fun t (kk : SF p e below T455 m 32 o1 [(.ref ra0), (.int (((v16_ret za zq) + p3) - p2))] t) => k456 t (by
  refine XS.iloadN X455.here hx rfl (hb hby d15_27) rfl ?_
  refine XS.iadd X455.here hx rfl (hb hby d15_28) rfl ?_
  refine XS.iloadN X455.here hx rfl (hb hby d15_29) rfl ?_
  show SF p e below T455 m 30 o1 [(.int p2), (.int ((v16_ret za zq) + p3))] _
  refine XS.isub X455.here hx rfl (hb hby d15_30) rfl ?_
  refine XS.aloadN X455.here hx rfl (hb hby d15_31) rfl rfl ?_
  exact kk)
 obtain ⟨T458, X458, e458, st458⟩ := getF X455 hx hZ hown (host := "") (Or.inl (w68 hw)) Via.refl e455 zdy (g := (mkF m 32 o1 [(.ref ra0), (.int (((v16_ret za zq) + p3) - p2))])) rfl rfl (hb hby d15_32)
 have k459 := fun t (kk : SF p e below T458 m 35 o1 [(.ref zv), (.int (((v16_ret za zq) + p3) - p2))] t) => k457 t (st458 _ kk)
 have hV460 := zdb
 obtain ⟨cl460, Ar460, q460, S460, Nn460, H460, G460⟩ := hV460
 have st461 := X458.arraylength hx (by rw [e458]; exact Ar460.1) (State.isArrayOf_alike hZ.alike Ar460.2.1) (g := (mkF m 35 o1 [(.ref zv), (.int (((v16_ret za zq) + p3) - p2))])) rfl rfl (hb hby d15_35)
 rw [len_of S460 Nn460] at st461
 have k462 := fun t (kk : SF p e below T458 m 36 o1 [(.int zai), (.int (((v16_ret za zq) + p3) - p2))] t) => k459 t (st461 _ kk)
 have hc36_463 : ¬ (zai < (((v16_ret za zq) + p3) - p2)) := own_ap2 ht hk hE hbb
 have k464 := fun t (kk : SF p e below T458 m 71 o1 [(.ref ra0)] t) => k462 t (by
  refine XS.icmpYes X458.here hx rfl (pc0 := 36) (pc' := 70) rfl (hb hby d15_36) rfl (flt hc36_463).2.2.2 (by decide) (by decide) ?_
  refine XS.aloadN X458.here hx rfl (hb hby d15_70) rfl rfl ?_
  exact kk)
 obtain ⟨T465, X465, e465, st465⟩ := getF X458 hx hZ hown (host := "") (Or.inl (w129 hw)) Via.refl e458 zcc (g := (mkF m 71 o1 [(.ref ra0)])) rfl rfl (hb hby d15_71)
 have k466 := fun t (kk : SF p e below T465 m 74 o1 [(.int za)] t) => k464 t (st465 _ kk)
 have k467 := fun t (kk : SF p e below T465 m 75 o1 [(.ref ra0), (.int za)] t) => k466 t (by
  refine XS.aloadN X465.here hx rfl (hb hby d15_74) rfl rfl ?_
  exact kk)
 obtain ⟨T468, X468, e468, st468⟩ := getF X465 hx hZ hown (host := "") (Or.inl (w70 hw)) Via.refl e465 zdq (g := (mkF m 75 o1 [(.ref ra0), (.int za)])) rfl rfl (hb hby d15_75)
 have k469 := fun t (kk : SF p e below T468 m 78 o1 [(.ref zu), (.int za)] t) => k467 t (st468 _ kk)
 have hV470 := zcp
 obtain ⟨cl470, Ar470, q470, S470, Nn470, H470, G470⟩ := hV470
 have st471 := X468.arraylength hx (by rw [e468]; exact Ar470.1) (State.isArrayOf_alike hZ.alike Ar470.2.1) (g := (mkF m 78 o1 [(.ref zu), (.int za)])) rfl rfl (hb hby d15_78)
 rw [len_of S470 Nn470] at st471
 have k472 := fun t (kk : SF p e below T468 m 79 o1 [(.int zac), (.int za)] t) => k469 t (st471 _ kk)
 have hc79_473 : ¬ (za = zac) := own_ap3 hs
 have k474 := fun t (kk : SF p e below T468 m 102 o1 [(.ref ra0), (.int p2), (.ref ra1)] t) => k472 t (by
  refine XS.icmpYes X468.here hx rfl (pc0 := 79) (pc' := 99) rfl (hb hby d15_79) rfl (feq hc79_473).2 (by decide) (by decide) ?_
  refine XS.aloadN X468.here hx rfl (hb hby d15_99) rfl rfl ?_
  refine XS.iloadN X468.here hx rfl (hb hby d15_100) rfl ?_
  refine XS.aloadN X468.here hx rfl (hb hby d15_101) rfl rfl ?_
  exact kk)
 obtain ⟨T475, X475, e475, st475⟩ := getF X468 hx hZ hown (host := "") (Or.inl (w68 hw)) Via.refl e468 zdy (g := (mkF m 102 o1 [(.ref ra0), (.int p2), (.ref ra1)])) rfl rfl (hb hby d15_102)
 have k476 := fun t (kk : SF p e below T475 m 105 o1 [(.ref zv), (.int p2), (.ref ra1)] t) => k474 t (st475 _ kk)
 have k477 := fun t (kk : SF p e below T475 m 106 o1 [(.ref ra0), (.ref zv), (.int p2), (.ref ra1)] t) => k476 t (by
  refine XS.aloadN X475.here hx rfl (hb hby d15_105) rfl rfl ?_
  exact kk)
 have Zz478 : n0 ≤ h0.size := (Nat.le_trans Z0 KC0.1)
 obtain ⟨cq478, q478, q478'⟩ := E_ra0.cell
 obtain ⟨_, _, ⟨T478, L478, k478, n478⟩, -, X478, ⟨Lc478, hQ478, l478, y478, z478⟩, st478⟩ := X475.privateBack hx (y := M26_) hown (mvT hZ (w125 hw)) (mvT hZ (w126 hw)) (own_selpriv (y := M26_) (mvT hZ (w61 hw)) (Cond.privateMethod_at (mvP hZ (w127 hw) (args := #[]))) (mvT hZ (w126 hw)) (by decide)) (Cond.privateMethod_at (mvP hZ (w127 hw) (args := #[]))) (mvT hZ (w128 hw)) (by decide) (backOf (W := 3) (rm16 l Z a0 hw [] ra0 za zu zay zac zq h0 n0 Zz478 (hs : ¬ za < 0 ∧ za < zac) zcc zdq zcp zdn) hZ (w128 hw) (w62 hw) (by decide) (by decide)) (g := (mkF m 106 o1 [(.ref ra0), (.ref zv), (.int p2), (.ref ra1)])) rfl (by rw [hml]; rfl) (Steps.refl _) (a := ra0) (by rw [e475]; exact q478) q478' (argsL := []) (rest := [(.ref zv), (.int p2), (.ref ra1)]) (lenOf pd_4 rfl) rfl (Nat.le_of_eq rfl) (hb hby d15_106) (fun _ _ => ⟨rfl, e475, (by decide : 0 + 0 ≤ _), (by decide : 0 + 0 ≤ _)⟩)
 dsimp only [Pt.U, Pt.locs, Pt.cells, Pt.slots] at X478 l478 y478 z478 st478 hQ478
 subst l478 y478 z478
 obtain ⟨rfl, N478q, e478⟩ := hQ478
 have N478 := Fr.app N455 N478q
 have k479 := fun t (kk : SF p e below T478 m 109 o1 [(.int (v16_ret za zq)), (.ref zv), (.int p2), (.ref ra1)] t) => k477 t (st478.trans kk)
 have k480 := fun t (kk : SF p e below T478 m 112 o1 [(.int (p3 - p2)), (.int (v16_ret za zq)), (.ref zv), (.int p2), (.ref ra1)] t) => k479 t (by
  refine XS.iloadN X478.here hx rfl (hb hby d15_109) rfl ?_
  refine XS.iloadN X478.here hx rfl (hb hby d15_110) rfl ?_
  show SF p e below T478 m 111 o1 [(.int p2), (.int p3), (.int (v16_ret za zq)), (.ref zv), (.int p2), (.ref ra1)] _
  refine XS.isub X478.here hx rfl (hb hby d15_111) rfl ?_
  exact kk)
 have h1481 : ((p3 - p2)).toNatClampNeg = 1 := own_tn ht hk
 have hs481 : ¬ p2 < 0 ∧ p2 < (3 : Int32) := hk
 have hd481 : ¬ (v16_ret za zq) < 0 ∧ (v16_ret za zq) < zai := own_dp hE hbb
 obtain ⟨T481, h481, Lc481, X481, e481, N481, Kq481, Vc481, st481⟩ := cpA X478 hx hZ hown (w131 hw) (w134 hw) (w132 hw) (w133 hw) e478 (sp := p2) (dp := (v16_ret za zq)) (nn := (p3 - p2)) V_ra1 zdb (Or.inl ⟨rfl, rfl⟩) hs481.1 hd481.1 (own_one_nn h1481) (own_cp1_le h1481 hs481) (own_cp1_le h1481 hd481) rfl (by rw [List.length_map, zea]; exact own_cp1_le h1481 hd481) N478 zgl (g := (mkF m 112 o1 [(.int (p3 - p2)), (.int (v16_ret za zq)), (.ref zv), (.int p2), (.ref ra1)])) rfl (by rw [hml]; rfl) rfl (hb hby d15_112) (by decide) (W := 0) (Nat.le_of_eq rfl) (by decide)
 have V481 : Arv Z h481 zv zbd .byte zai (List.map Value.int (v15_112_L p2 za zq zal L_ra1)) (.int 0) := by rw [h1481] at Vc481; rw [own_cp1 _ _ _ _ (by rw [zea]; exact own_lt_nat hd481.1 hd481.2)] at Vc481; exact Vc481
 have VL481 : (v15_112_L p2 za zq zal L_ra1).length = (zai).toNatClampNeg := (List.length_set).trans zea
 have K481 : Keep h0 h481 [zv, zu, ra0] := KC0.trans Kq481 (allS (Or.inl (List.mem_of_getElem? (i := 0) rfl)) all0)
 have k482 := fun t (kk : SF p e below T481 m 115 o1 [] t) => k480 t (st481 _ kk)
 have k483 := fun t (kk : SF p e below T481 m 116 o1 [(.ref ra0)] t) => k482 t (by
  refine XS.aloadN X481.here hx rfl (hb hby d15_115) rfl rfl ?_
  exact kk)
 have m484 : ra0 ≠ zv := own_ne_oa E_ra0 (w61 hw) zdb
 have f485 := (zdq.keep Kq481 (ninS m484 nin0))
 obtain ⟨T486, X486, e486, st486⟩ := getF X481 hx hZ hown (host := "") (Or.inl (w70 hw)) Via.refl e481 f485 (g := (mkF m 116 o1 [(.ref ra0)])) rfl rfl (hb hby d15_116)
 have k487 := fun t (kk : SF p e below T486 m 119 o1 [(.ref zu)] t) => k483 t (st486 _ kk)
 have k488 := fun t (kk : SF p e below T486 m 120 o1 [(.ref ra0), (.ref zu)] t) => k487 t (by
  refine XS.aloadN X486.here hx rfl (hb hby d15_119) rfl rfl ?_
  exact kk)
 have f489 := (zcc.keep Kq481 (ninS m484 nin0))
 obtain ⟨T490, X490, e490, st490⟩ := getF X486 hx hZ hown (host := "") (Or.inl (w129 hw)) Via.refl e486 f489 (g := (mkF m 120 o1 [(.ref ra0), (.ref zu)])) rfl rfl (hb hby d15_120)
 have k491 := fun t (kk : SF p e below T490 m 123 o1 [(.int za), (.ref zu)] t) => k488 t (st490 _ kk)
 have k492 := fun t (kk : SF p e below T490 m 124 o1 [(.ref ra0), (.int za), (.ref zu)] t) => k491 t (by
  refine XS.aloadN X490.here hx rfl (hb hby d15_123) rfl rfl ?_
  exact kk)
 have m493 : zu ≠ zv := Ne.symm zda
 have f494 := (zcp.keep Kq481 (ninS m493 nin0))
 have Zz495 : n0 ≤ h481.size := (Nat.le_trans Z0 K481.1)
 have f496 := (E_ra0.keep Kq481)
 obtain ⟨cq495, q495, q495'⟩ := f496.cell
 obtain ⟨_, _, ⟨T495, L495, k495, n495⟩, -, X495, ⟨Lc495, hQ495, l495, y495, z495⟩, st495⟩ := X490.privateBack hx (y := M26_) hown (mvT hZ (w125 hw)) (mvT hZ (w126 hw)) (own_selpriv (y := M26_) (mvT hZ (w61 hw)) (Cond.privateMethod_at (mvP hZ (w127 hw) (args := #[]))) (mvT hZ (w126 hw)) (by decide)) (Cond.privateMethod_at (mvP hZ (w127 hw) (args := #[]))) (mvT hZ (w128 hw)) (by decide) (backOf (W := 2) (rm16 l Z a0 hw [] ra0 za zu zay zac zq h481 n0 Zz495 (hs : ¬ za < 0 ∧ za < zac) f489 f485 f494 zdn) hZ (w128 hw) (w62 hw) (by decide) (by decide)) (g := (mkF m 124 o1 [(.ref ra0), (.int za), (.ref zu)])) rfl (by rw [hml]; rfl) (Steps.refl _) (a := ra0) (by rw [e490]; exact q495) q495' (argsL := []) (rest := [(.int za), (.ref zu)]) (lenOf pd_4 rfl) rfl (Nat.le_of_eq rfl) (hb hby d15_124) (fun _ _ => ⟨rfl, e490, (by decide : 0 + 0 ≤ _), (by decide : 0 + 0 ≤ _)⟩)
 dsimp only [Pt.U, Pt.locs, Pt.cells, Pt.slots] at X495 l495 y495 z495 st495 hQ495
 subst l495 y495 z495
 obtain ⟨rfl, N495q, e495⟩ := hQ495
 have N495 := Fr.app N481 N495q
 have k497 := fun t (kk : SF p e below T495 m 127 o1 [(.int (v16_ret za zq)), (.int za), (.ref zu)] t) => k492 t (st495.trans kk)
 have k498 := fun t (kk : SF p e below T495 m 131 o1 [(.int (((v16_ret za zq) + p3) - p2)), (.int za), (.ref zu)] t) => k497 t (by
  refine XS.iloadN X495.here hx rfl (hb hby d15_127) rfl ?_
  refine XS.iadd X495.here hx rfl (hb hby d15_128) rfl ?_
  refine XS.iloadN X495.here hx rfl (hb hby d15_129) rfl ?_
  refine XS.isub X495.here hx rfl (hb hby d15_130) rfl ?_
  exact kk)
 have hV499 := f494
 obtain ⟨cl499, Ar499, q499, S499, Nn499, H499, G499⟩ := hV499
 have hb500 : ¬ za < 0 ∧ za < zac := hs
 have hin500 : ¬ (za < 0 ∨ cl499.slots.size ≤ (za).toNatClampNeg) := inb_of S499 hb500
 obtain ⟨T500, h500, X500, e500, W500, st500⟩ := stI X495 hx hZ e495 Ar499 (j := za) hin500 (g := (mkF m 131 o1 [(.int (((v16_ret za zq) + p3) - p2)), (.int za), (.ref zu)])) rfl rfl (hb hby d15_131)
 have hl500 : (za).toNatClampNeg < (List.map Value.int zq).length := by rw [List.length_map, zdn]; exact own_lt_nat hb500.1 hb500.2
 have V500r : Arv Z h500 zu zay .int zac (List.map Value.int (zq.set (za).toNatClampNeg (((v16_ret za zq) + p3) - p2))) (.int 0) := by rw [List.map_set]; exact Arv.set Ar499 q499 S499 Nn499 H499 G499 rfl W500 _ rfl hl500
 have V500 : Arv Z h500 zu zay .int zac (List.map Value.int (v15_131_L p2 p3 za zq)) (.int 0) := V500r
 have VL500 : (v15_131_L p2 p3 za zq).length = (zac).toNatClampNeg := (List.length_set).trans zdn
 have K500 : Keep h0 h500 [zv, zu, ra0] := K481.wr W500 (Or.inl (List.mem_of_getElem? (i := 1) rfl))
 have N500 := Fr.snoc X500 N495 zgy
 have k501 := fun t (kk : SF p e below T500 m 132 o1 [] t) => k498 t (st500 _ kk)
 have k502 := fun t (kk : SF p e below T500 m 134 o1 [(.ref ra0), (.ref ra0)] t) => k501 t (by
  refine XS.aloadN X500.here hx rfl (hb hby d15_132) rfl rfl ?_
  refine XS.dup X500.here hx rfl (hb hby d15_133) rfl rfl ?_
  exact kk)
 have m503 : ra0 ≠ zu := own_ne_oa E_ra0 (w61 hw) zcp
 have f504 := (f489.other W500 (Or.inl m503))
 obtain ⟨T505, X505, e505, st505⟩ := getF X500 hx hZ hown (host := "") (Or.inl (w129 hw)) Via.refl e500 f504 (g := (mkF m 134 o1 [(.ref ra0), (.ref ra0)])) rfl rfl (hb hby d15_134)
 have k506 := fun t (kk : SF p e below T505 m 137 o1 [(.int za), (.ref ra0)] t) => k502 t (st505 _ kk)
 have k507 := fun t (kk : SF p e below T505 m 140 o1 [(.int (za + (1 : Int32))), (.ref ra0), (.int za)] t) => k506 t (by
  refine XS.dupX1 X505.here hx rfl (hb hby d15_137) rfl rfl rfl ?_
  refine XS.iconst X505.here hx rfl (hb hby d15_138) ?_
  show SF p e below T505 m 139 o1 [(.int 1), (.int za), (.ref ra0), (.int za)] _
  refine XS.iadd X505.here hx rfl (hb hby d15_139) rfl ?_
  exact kk)
 have f508 := (f496.wr W500)
 obtain ⟨T509, h509, X509, e509, W509, st509⟩ := putF X505 hx hZ hown (host := "") (Or.inl (w129 hw)) Via.refl e505 f504 f508 (Or.inl (w130 hw)) (w61 hw) (ty := .int) (by decide) rfl rfl (g := (mkF m 140 o1 [(.int (za + (1 : Int32))), (.ref ra0), (.int za)])) rfl rfl (hb hby d15_140)
 have Fw509 := f504.same W509
 have K509 : Keep h0 h509 [zv, zu, ra0] := K500.wr W509 (Or.inl (List.mem_of_getElem? (i := 2) rfl))
 have N509 := Fr.snoc X509 N500 g_ra0
 have k510 := fun t (kk : SF p e below T509 m 143 o1 [(.int za)] t) => k507 t (st509 _ kk)
 obtain ⟨fs, hr, hrun, hended, hW, hsame⟩ := X509.leave (v := some (.int za)) (fun h => by rw [Bd.returns] at h; cases h) hlk
 have f511 := (f508.wr W509)
 have f512 := (((zdy.keep Kq481 (ninS m484 nin0)).other W500 (Or.inl m503)).other W509 (Or.inr (own_sn (y69 hw) (y130 hw) (by decide))))
 have f513 := ((f485.other W500 (Or.inl m503)).other W509 (Or.inr (own_sn (y71 hw) (y130 hw) (by decide))))
 have f514 := (((zbv.keep Kq481 (ninS m484 nin0)).other W500 (Or.inl m503)).other W509 (Or.inr (own_sn (y73 hw) (y130 hw) (by decide))))
 have f515 := (((zcr.keep Kq481 (ninS m484 nin0)).other W500 (Or.inl m503)).other W509 (Or.inr (own_sn (y84 hw) (y130 hw) (by decide))))
 have f516 := (((zdr.keep Kq481 (ninS m484 nin0)).other W500 (Or.inl m503)).other W509 (Or.inr (own_sn (y114 hw) (y130 hw) (by decide))))
 have f517 := (((zdo.keep Kq481 (ninS m484 nin0)).other W500 (Or.inl m503)).other W509 (Or.inr (own_sn (y116 hw) (y130 hw) (by decide))))
 have f518 := (((zfe.keep Kq481 (ninS m484 nin0)).other W500 (Or.inl m503)).other W509 (Or.inr (own_sn (y136 hw) (y130 hw) (by decide))))
 have f519 := (((zeq.keep Kq481 (ninS m484 nin0)).other W500 (Or.inl m503)).other W509 (Or.inr (own_sn (y182 hw) (y130 hw) (by decide))))
 have m520 : zv ≠ zu := Ne.symm m493
 have m521 : zv ≠ ra0 := Ne.symm m484
 have f522 := ((V481.other W500 m520).other W509 m521)
 have m523 : zu ≠ ra0 := Ne.symm m503
 have f524 := (V500.other W509 m523)
 refine ⟨_, _, k510 _ ?_, hrun, hended, _, _, rfl, ?_, ⟨_, rfl⟩, hW, hsame.mono (by decide) (by decide)⟩
 ·show SF p e below T509 m 143 o1 [(.int za)] _
  exact retI X509 hx Bd.returns (hb hby d15_143) hr
 ·show Q15 Z ra0 ra1 p2 p3 za zu zay zac zq zv zbd zai zal k_ra1 L_ra1 zek zm zby zcf zak zat h0 n0 _ T509.heap _
  rw [e509]
  exact ⟨rfl, N509, K509, f511, f512, f513, f514, f515, f516, f517, Fw509, f518, f519, f522, VL481, f524, VL500⟩
theorem d13_0 : decode C12_ 0 = .ok (.iload_n 3, 1) := by decide +kernel
theorem d13_1 : decode C12_ 1 = .ok (.iload_n 2, 1) := by decide +kernel
theorem d13_2 : decode C12_ 2 = .ok (.isub, 1) := by decide +kernel
theorem d13_3 : decode C12_ 3 = .ok (.bipush 9, 2) := by decide +kernel
theorem d13_5 : decode C12_ 5 = .ok (.if_icmp .gt 23, 3) := by decide +kernel
theorem d13_8 : decode C12_ 8 = .ok (.iload_n 3, 1) := by decide +kernel
theorem d13_9 : decode C12_ 9 = .ok (.iload_n 2, 1) := by decide +kernel
theorem d13_10 : decode C12_ 10 = .ok (.if_icmp .eq 18, 3) := by decide +kernel
theorem d13_13 : decode C12_ 13 = .ok (.aload_n 1, 1) := by decide +kernel
theorem d13_14 : decode C12_ 14 = .ok (.iload_n 2, 1) := by decide +kernel
theorem d13_15 : decode C12_ 15 = .ok (.baload, 1) := by decide +kernel
theorem d13_16 : decode C12_ 16 = .ok (.bipush 48, 2) := by decide +kernel
theorem d13_18 : decode C12_ 18 = .ok (.if_icmp .ne 12, 3) := by decide +kernel
theorem d13_21 : decode C12_ 21 = .ok (.iload_n 3, 1) := by decide +kernel
theorem d13_22 : decode C12_ 22 = .ok (.iload_n 2, 1) := by decide +kernel
theorem d13_23 : decode C12_ 23 = .ok (.isub, 1) := by decide +kernel
theorem d13_24 : decode C12_ 24 = .ok (.iconst 1, 1) := by decide +kernel
theorem d13_25 : decode C12_ 25 = .ok (.if_icmp .le 5, 3) := by decide +kernel
theorem d13_30 : decode C12_ 30 = .ok (.iconst 0, 1) := by decide +kernel
theorem d13_31 : decode C12_ 31 = .ok (.istore 4, 2) := by decide +kernel
theorem d13_33 : decode C12_ 33 = .ok (.iload_n 2, 1) := by decide +kernel
theorem d13_34 : decode C12_ 34 = .ok (.istore 5, 2) := by decide +kernel
theorem d13_36 : decode C12_ 36 = .ok (.iload 5, 2) := by decide +kernel
theorem d13_38 : decode C12_ 38 = .ok (.iload_n 3, 1) := by decide +kernel
theorem d13_39 : decode C12_ 39 = .ok (.if_icmp .ge 42, 3) := by decide +kernel
theorem d13_42 : decode C12_ 42 = .ok (.aload_n 1, 1) := by decide +kernel
theorem d13_43 : decode C12_ 43 = .ok (.iload 5, 2) := by decide +kernel
theorem d13_45 : decode C12_ 45 = .ok (.baload, 1) := by decide +kernel
theorem d13_46 : decode C12_ 46 = .ok (.bipush 48, 2) := by decide +kernel
theorem d13_48 : decode C12_ 48 = .ok (.isub, 1) := by decide +kernel
theorem d13_49 : decode C12_ 49 = .ok (.istore 6, 2) := by decide +kernel
theorem d13_51 : decode C12_ 51 = .ok (.iload 6, 2) := by decide +kernel
theorem d13_53 : decode C12_ 53 = .ok (.ifCond .lt 10, 3) := by decide +kernel
theorem d13_56 : decode C12_ 56 = .ok (.iload 6, 2) := by decide +kernel
theorem d13_58 : decode C12_ 58 = .ok (.bipush 9, 2) := by decide +kernel
theorem d13_60 : decode C12_ 60 = .ok (.if_icmp .le 5, 3) := by decide +kernel
theorem d13_63 : decode C12_ 63 = .ok (.iconst (-1), 1) := by decide +kernel
theorem d13_64 : decode C12_ 64 = .ok (.ireturn, 1) := by decide +kernel
theorem d13_65 : decode C12_ 65 = .ok (.bipush 10, 2) := by decide +kernel
theorem d13_67 : decode C12_ 67 = .ok (.iload 4, 2) := by decide +kernel
theorem d13_69 : decode C12_ 69 = .ok (.imul, 1) := by decide +kernel
theorem d13_70 : decode C12_ 70 = .ok (.iload 6, 2) := by decide +kernel
theorem d13_72 : decode C12_ 72 = .ok (.iadd, 1) := by decide +kernel
theorem d13_73 : decode C12_ 73 = .ok (.istore 4, 2) := by decide +kernel
theorem d13_75 : decode C12_ 75 = .ok (.iinc 5 1, 3) := by decide +kernel
theorem d13_78 : decode C12_ 78 = .ok (.goto (-42), 3) := by decide +kernel
theorem d13_81 : decode C12_ 81 = .ok (.iload 4, 2) := by decide +kernel
theorem d13_83 : decode C12_ 83 = .ok (.aload_n 0, 1) := by decide +kernel
theorem d13_84 : decode C12_ 84 = .ok (.getfield 25, 3) := by decide +kernel
theorem d13_87 : decode C12_ 87 = .ok (.arraylength, 1) := by decide +kernel
theorem d13_88 : decode C12_ 88 = .ok (.if_icmp .ge 8, 3) := by decide +kernel
theorem d13_91 : decode C12_ 91 = .ok (.iload 4, 2) := by decide +kernel
theorem d13_93 : decode C12_ 93 = .ok (.goto 4, 3) := by decide +kernel
theorem d13_97 : decode C12_ 97 = .ok (.ireturn, 1) := by decide +kernel
def v13_15_at (p2 : Int32) (L_ra1 : List Int32) : Int32 := (L_ra1.getD (p2).toNatClampNeg (0 : Int32))
def v13_45_at (p2 : Int32) (L_ra1 : List Int32) : Int32 := (L_ra1.getD (p2).toNatClampNeg (0 : Int32))
def v13_49_l6 (p2 : Int32) (L_ra1 : List Int32) : Int32 := ((v13_45_at p2 L_ra1) - (48 : Int32))
def v13_73_l4 (p2 : Int32) (L_ra1 : List Int32) : Int32 := (((10 : Int32) * (0 : Int32)) + (v13_49_l6 p2 L_ra1))
def v13_ret (p2 : Int32) (L_ra1 : List Int32) : Int32 := (if (v13_49_l6 p2 L_ra1) < (0 : Int32) then (-1 : Int32) else (if (9 : Int32) < (v13_49_l6 p2 L_ra1) then (-1 : Int32) else (v13_73_l4 p2 L_ra1)))
theorem ef_rm13 (m : MethodId) (ra0 ra1 : Addr) (p2 p3 : Int32) : entryFrame m #[(.ref ra0), (.ref ra1), (.int p2), (.int p3)] 7 = mkF m 0 #[rv ra0, rv ra1, iv p2, iv p3, .unset, .unset, .unset] [] := by first | (simp [entryFrame, mkF, argsToLocals, Value.category]; done) | rfl
def Q13 (Z : State) (ra0 ra1 : Addr) (p2 p3 : Int32) (k_ra1 : ClassId) (L_ra1 : List Int32) (zz : Addr) (zba : ClassId) (zae : Int32) (zab : List Int32) (h0 : Heap) (n0 : Nat) (v : Option Value) (h : Heap) (L : List Loc) : Prop := (v = some (.int (v13_ret p2 L_ra1)) ∧ Fr n0 L ∧ h = h0)
set_option maxRecDepth 65536 in
set_option maxHeartbeats 40000000 in
theorem rm13 (l : Launch) (Z : State) (a0 : Array Value) (hw : HW Z a0) (ws : List Jvm.Cond) (ra0 ra1 : Addr) (p2 p3 : Int32) (k_ra1 : ClassId) (L_ra1 : List Int32) (zz : Addr) (zba : ClassId) (zae : Int32) (zab : List Int32) (h0 : Heap) (n0 : Nat) (Z0 : n0 ≤ h0.size) (hk : ¬ p2 < 0 ∧ p2 < (3 : Int32)) (ht : p3 = p2 + (1 : Int32)) (hv : ¬ zae < (64 : Int32)) (V_ra1 : Arv Z h0 ra1 k_ra1 .byte (3 : Int32) (List.map Value.int L_ra1) (.int 0)) (VL_ra1 : L_ra1.length = ((3 : Int32)).toNatClampNeg) (zbv : Fld Z h0 ra0 cBs "byValue" "[I" (.ref zz)) (zde : Arv Z h0 zz zba .int zae (List.map Value.int zab) (.int 0)) (zel : zab.length = zae.toNatClampNeg) :
  MetFree l M28_ (head1 (Jvm.Cond.code M28_ prog_10_method_3_code 7 (some .int) :: ws) R0_) (fun a U => a = #[(.ref ra0), (.ref ra1), (.int p2), (.int p3)] ∧ Z.Warmed39 U.vm ∧ U.heap = h0) (fun _ _ _ _ _ => True) (fun _ U o U' => ∃ v L, o = .returned v ∧ Q13 Z ra0 ra1 p2 p3 k_ra1 L_ra1 zz zba zae zab h0 n0 v U'.heap L ∧ FrameEnd U o U' L R0_.cells R0_.slots) := by
 refine MetFree.of_bodySF (plainFor_of_name pn_167) hisR ?_
 intro p e s m args below meth c s₁ Bd hml0 hP hK
 obtain ⟨rfl, hZ, hh⟩ := hP
 have hx := Bd.exec
 have hlk : meth.locks = false := by first | exact BodyLoose.notSynchronized Bd | exact Body.notSynchronized Bd
 have hby := Bd.bytes
 have hml : c.maxLocals = 7 := hml0
 have hown : s.vm.findClass cBs = some m.cls := findClass_of_methodNamed Bd.named
 have hnm := (name_of_methodNamed Bd.named Bd.method).1
 have X0 : Stand p l e R0_ s m #[(.ref ra0), (.ref ra1), (.int p2), (.int p3)] below meth c s₁ [] 0 0 := Stand.of_body Bd
 have e0 : s₁.heap = h0 := by rw [← hh, Bd.state]; rfl
 have N0 := Fr.nil n0
 have KC0 := Keep.refl h0 ([] : List Addr)
 let o1 : Array Slot := #[rv ra0, rv ra1, iv p2, iv p3, iv (v13_73_l4 p2 L_ra1), iv (p2 + (1 : Int32)), iv (v13_49_l6 p2 L_ra1)]
 let o2 : Array Slot := #[rv ra0, rv ra1, iv p2, iv p3, iv 0, iv p2, iv (v13_49_l6 p2 L_ra1)]
 let o3 : Array Slot := #[rv ra0, rv ra1, iv p2, iv p3, iv 0, iv p2, .unset]
 let o4 : Array Slot := #[rv ra0, rv ra1, iv p2, iv p3, .unset, .unset, .unset]
 let o5 : Array Slot := #[rv ra0, rv ra1, iv p2, iv p3, iv (v13_73_l4 p2 L_ra1), iv p2, iv (v13_49_l6 p2 L_ra1)]
 have pre0 : ∀ t, SF p e below s₁ m 0 o4 [] t → Steps p.tables e below (s₁.setTop (entryFrame m #[(.ref ra0), (.ref ra1), (.int p2), (.int p3)] 7)) t := fun t k => castTop (ef_rm13 m ra0 ra1 p2 p3) k
 have k525 := fun t (kk : SF p e below s₁ m 5 o4 [(.int 9), (.int (p3 - p2))] t) => pre0 t (by
  refine XS.iloadN X0.here hx rfl (hb hby d13_0) rfl ?_
  refine XS.iloadN X0.here hx rfl (hb hby d13_1) rfl ?_
  refine XS.isub X0.here hx rfl (hb hby d13_2) rfl ?_
  show SF p e below s₁ m 3 o4 [(.int (p3 - p2))] _
  refine XS.bipush X0.here hx rfl (hb hby d13_3) ?_
  exact kk)
 have hc5_526 : ¬ ((9 : Int32) < (p3 - p2)) := own_v1 ht hk
 have k527 := fun t (kk : SF p e below s₁ m 10 o4 [(.int p2), (.int p3)] t) => k525 t (by
  refine XS.icmpNo X0.here hx rfl (hb hby d13_5) rfl (flt hc5_526).2.2.1 ?_
  refine XS.iloadN X0.here hx rfl (hb hby d13_8) rfl ?_
  refine XS.iloadN X0.here hx rfl (hb hby d13_9) rfl ?_
  exact kk)
 have hc10_528 : ¬ (p3 = p2) := own_v2 ht hk
 have k529 := fun t (kk : SF p e below s₁ m 15 o4 [(.int p2), (.ref ra1)] t) => k527 t (by
  refine XS.icmpNo X0.here hx rfl (hb hby d13_10) rfl (feq hc10_528).1 ?_
  refine XS.aloadN X0.here hx rfl (hb hby d13_13) rfl rfl ?_
  refine XS.iloadN X0.here hx rfl (hb hby d13_14) rfl ?_
  exact kk)
 have hV530 := V_ra1
 obtain ⟨cl530, Ar530, q530, S530, Nn530, H530, G530⟩ := hV530
 have hb531 : ¬ p2 < 0 ∧ p2 < (3 : Int32) := hk
 have hin531 : ¬ (p2 < 0 ∨ cl530.slots.size ≤ (p2).toNatClampNeg) := inb_of S530 hb531
 have hat531 : cl530.slots[(p2).toNatClampNeg]? = some (.int (v13_15_at p2 L_ra1)) := Has.at H530 hin531 (own_getD_int _ _ _)
 have st531 := X0.baloadBytes hx (j := p2) (v := (.int (v13_15_at p2 L_ra1))) (by rw [e0]; exact Ar530.1) (State.isArrayOf_alike hZ.alike Ar530.2.1) Ar530.2.2 hin531 hat531 (g := (mkF m 15 o4 [(.int p2), (.ref ra1)])) rfl rfl (hb hby d13_15)
 have k532 := fun t (kk : SF p e below s₁ m 16 o4 [(.int (v13_15_at p2 L_ra1))] t) => k529 t (st531 _ kk)
 have k533 := fun t (kk : SF p e below s₁ m 18 o4 [(.int 48), (.int (v13_15_at p2 L_ra1))] t) => k532 t (by
  refine XS.bipush X0.here hx rfl (hb hby d13_16) ?_
  exact kk)
 by_cases hc18_534 : (v13_15_at p2 L_ra1) = (48 : Int32)
 ·have k535 := fun t (kk : SF p e below s₁ m 25 o4 [(.int 1), (.int (p3 - p2))] t) => k533 t (by
   refine XS.icmpNo X0.here hx rfl (hb hby d13_18) rfl (teq hc18_534).2 ?_
   refine XS.iloadN X0.here hx rfl (hb hby d13_21) rfl ?_
   refine XS.iloadN X0.here hx rfl (hb hby d13_22) rfl ?_
   refine XS.isub X0.here hx rfl (hb hby d13_23) rfl ?_
   show SF p e below s₁ m 24 o4 [(.int (p3 - p2))] _
   refine XS.iconst X0.here hx rfl (hb hby d13_24) ?_
   exact kk)
  have hc25_536 : ¬ ((1 : Int32) < (p3 - p2)) := own_v3 ht hk
  have k537 := fun t (kk : SF p e below s₁ m 39 o3 [(.int p3), (.int p2)] t) => k535 t (by
   refine XS.icmpYes X0.here hx rfl (pc0 := 25) (pc' := 30) rfl (hb hby d13_25) rfl (flt hc25_536).2.2.2 (by decide) (by decide) ?_
   refine XS.iconst X0.here hx rfl (hb hby d13_30) ?_
   refine XS.istore X0.here hx rfl (hb hby d13_31) rfl (l' := #[rv ra0, rv ra1, iv p2, iv p3, iv 0, .unset, .unset]) rfl ?_
   refine XS.iloadN X0.here hx rfl (hb hby d13_33) rfl ?_
   refine XS.istore X0.here hx rfl (hb hby d13_34) rfl (l' := o3) rfl ?_
   refine XS.iload X0.here hx rfl (hb hby d13_36) rfl ?_
   refine XS.iloadN X0.here hx rfl (hb hby d13_38) rfl ?_
   exact kk)
  have hc39_538 : p2 < p3 := own_v4 ht hk
  have k539 := fun t (kk : SF p e below s₁ m 45 o3 [(.int p2), (.ref ra1)] t) => k537 t (by
   refine XS.icmpNo X0.here hx rfl (hb hby d13_39) rfl (tlt hc39_538).2.1 ?_
   refine XS.aloadN X0.here hx rfl (hb hby d13_42) rfl rfl ?_
   refine XS.iload X0.here hx rfl (hb hby d13_43) rfl ?_
   exact kk)
  have hV540 := V_ra1
  obtain ⟨cl540, Ar540, q540, S540, Nn540, H540, G540⟩ := hV540
  have hb541 : ¬ p2 < 0 ∧ p2 < (3 : Int32) := hk
  have hin541 : ¬ (p2 < 0 ∨ cl540.slots.size ≤ (p2).toNatClampNeg) := inb_of S540 hb541
  have hat541 : cl540.slots[(p2).toNatClampNeg]? = some (.int (v13_45_at p2 L_ra1)) := Has.at H540 hin541 (own_getD_int _ _ _)
  have st541 := X0.baloadBytes hx (j := p2) (v := (.int (v13_45_at p2 L_ra1))) (by rw [e0]; exact Ar540.1) (State.isArrayOf_alike hZ.alike Ar540.2.1) Ar540.2.2 hin541 hat541 (g := (mkF m 45 o3 [(.int p2), (.ref ra1)])) rfl rfl (hb hby d13_45)
  have k542 := fun t (kk : SF p e below s₁ m 46 o3 [(.int (v13_45_at p2 L_ra1))] t) => k539 t (st541 _ kk)
  have k543 := fun t (kk : SF p e below s₁ m 53 o2 [(.int (v13_49_l6 p2 L_ra1))] t) => k542 t (by
   refine XS.bipush X0.here hx rfl (hb hby d13_46) ?_
   show SF p e below s₁ m 48 o3 [(.int 48), (.int (v13_45_at p2 L_ra1))] _
   refine XS.isub X0.here hx rfl (hb hby d13_48) rfl ?_
   refine XS.istore X0.here hx rfl (hb hby d13_49) rfl (l' := o2) rfl ?_
   refine XS.iload X0.here hx rfl (hb hby d13_51) rfl ?_
   exact kk)
  by_cases hc53_544 : (v13_49_l6 p2 L_ra1) < (0 : Int32)
  ·have k545 := fun t (kk : SF p e below s₁ m 64 o2 [(.int (-1 : Int32))] t) => k543 t (by
    refine XS.ifYes X0.here hx rfl (pc0 := 53) (pc' := 63) rfl (hb hby d13_53) rfl ((if0 _ _).trans (tlt hc53_544).1) (by decide) (by decide) ?_
    refine XS.iconst X0.here hx rfl (hb hby d13_63) ?_
    exact kk)
   obtain ⟨fs, hr, hrun, hended, hW, hsame⟩ := X0.leave (v := some (.int (-1 : Int32))) (fun h => by rw [Bd.returns] at h; cases h) hlk
   have hv : (v13_ret p2 L_ra1) = (-1 : Int32) := (if_pos hc53_544)
   refine ⟨_, _, k545 _ ?_, hrun, hended, _, _, rfl, ?_, ⟨_, rfl⟩, hW, hsame.mono (by decide) (by decide)⟩
   ·show SF p e below s₁ m 64 o2 [(.int (-1 : Int32))] _
    exact retI X0 hx Bd.returns (hb hby d13_64) hr
   ·show Q13 Z ra0 ra1 p2 p3 k_ra1 L_ra1 zz zba zae zab h0 n0 _ s₁.heap _
    rw [e0]
    exact ⟨(congrArg (fun z => some (Value.int z)) hv).symm, N0, rfl⟩
  ·have k546 := fun t (kk : SF p e below s₁ m 60 o2 [(.int 9), (.int (v13_49_l6 p2 L_ra1))] t) => k543 t (by
    refine XS.ifNo X0.here hx rfl (hb hby d13_53) rfl ((if0 _ _).trans (flt hc53_544).1) ?_
    refine XS.iload X0.here hx rfl (hb hby d13_56) rfl ?_
    refine XS.bipush X0.here hx rfl (hb hby d13_58) ?_
    exact kk)
   by_cases hc60_547 : (9 : Int32) < (v13_49_l6 p2 L_ra1)
   ·have k548 := fun t (kk : SF p e below s₁ m 64 o2 [(.int (-1 : Int32))] t) => k546 t (by
     refine XS.icmpNo X0.here hx rfl (hb hby d13_60) rfl (tlt hc60_547).2.2.2 ?_
     refine XS.iconst X0.here hx rfl (hb hby d13_63) ?_
     exact kk)
    obtain ⟨fs, hr, hrun, hended, hW, hsame⟩ := X0.leave (v := some (.int (-1 : Int32))) (fun h => by rw [Bd.returns] at h; cases h) hlk
    have hv : (v13_ret p2 L_ra1) = (-1 : Int32) := ((if_neg hc53_544).trans (if_pos hc60_547))
    refine ⟨_, _, k548 _ ?_, hrun, hended, _, _, rfl, ?_, ⟨_, rfl⟩, hW, hsame.mono (by decide) (by decide)⟩
    ·show SF p e below s₁ m 64 o2 [(.int (-1 : Int32))] _
     exact retI X0 hx Bd.returns (hb hby d13_64) hr
    ·show Q13 Z ra0 ra1 p2 p3 k_ra1 L_ra1 zz zba zae zab h0 n0 _ s₁.heap _
     rw [e0]
     exact ⟨(congrArg (fun z => some (Value.int z)) hv).symm, N0, rfl⟩
   ·have k549 := fun t (kk : SF p e below s₁ m 39 o1 [(.int p3), (.int (p2 + (1 : Int32)))] t) => k546 t (by
     refine XS.icmpYes X0.here hx rfl (pc0 := 60) (pc' := 65) rfl (hb hby d13_60) rfl (flt hc60_547).2.2.2 (by decide) (by decide) ?_
     refine XS.bipush X0.here hx rfl (hb hby d13_65) ?_
     show SF p e below s₁ m 67 o2 [(.int 10)] _
     refine XS.iload X0.here hx rfl (hb hby d13_67) rfl ?_
     refine XS.imul X0.here hx rfl (hb hby d13_69) rfl ?_
     refine XS.iload X0.here hx rfl (hb hby d13_70) rfl ?_
     refine XS.iadd X0.here hx rfl (hb hby d13_72) rfl ?_
     refine XS.istore X0.here hx rfl (hb hby d13_73) rfl (l' := o5) rfl ?_
     refine XS.iinc X0.here hx rfl (hb hby d13_75) rfl (l' := o1) rfl ?_
     refine XS.goto X0.here hx rfl (pc0 := 78) (pc' := 36) rfl (hb hby d13_78) (by decide) (by decide) ?_
     refine XS.iload X0.here hx rfl (hb hby d13_36) rfl ?_
     refine XS.iloadN X0.here hx rfl (hb hby d13_38) rfl ?_
     exact kk)
    have hc39_550 : ¬ ((p2 + (1 : Int32)) < p3) := own_v5 ht
    have k551 := fun t (kk : SF p e below s₁ m 84 o1 [(.ref ra0), (.int (v13_73_l4 p2 L_ra1))] t) => k549 t (by
     refine XS.icmpYes X0.here hx rfl (pc0 := 39) (pc' := 81) rfl (hb hby d13_39) rfl (flt hc39_550).2.1 (by decide) (by decide) ?_
     refine XS.iload X0.here hx rfl (hb hby d13_81) rfl ?_
     refine XS.aloadN X0.here hx rfl (hb hby d13_83) rfl rfl ?_
     exact kk)
    obtain ⟨T552, X552, e552, st552⟩ := getF X0 hx hZ hown (host := "") (Or.inl (w72 hw)) Via.refl e0 zbv (g := (mkF m 84 o1 [(.ref ra0), (.int (v13_73_l4 p2 L_ra1))])) rfl rfl (hb hby d13_84)
    have k553 := fun t (kk : SF p e below T552 m 87 o1 [(.ref zz), (.int (v13_73_l4 p2 L_ra1))] t) => k551 t (st552 _ kk)
    have hV554 := zde
    obtain ⟨cl554, Ar554, q554, S554, Nn554, H554, G554⟩ := hV554
    have st555 := X552.arraylength hx (by rw [e552]; exact Ar554.1) (State.isArrayOf_alike hZ.alike Ar554.2.1) (g := (mkF m 87 o1 [(.ref zz), (.int (v13_73_l4 p2 L_ra1))])) rfl rfl (hb hby d13_87)
    rw [len_of S554 Nn554] at st555
    have k556 := fun t (kk : SF p e below T552 m 88 o1 [(.int zae), (.int (v13_73_l4 p2 L_ra1))] t) => k553 t (st555 _ kk)
    have hc88_557 : (v13_73_l4 p2 L_ra1) < zae := own_v6 hv hc53_544 hc60_547
    have k558 := fun t (kk : SF p e below T552 m 97 o1 [(.int (v13_73_l4 p2 L_ra1))] t) => k556 t (by
     show SF p e below T552 m 88 o1 [(.int zae), (.int (v13_73_l4 p2 L_ra1))] _
     refine XS.icmpNo X552.here hx rfl (hb hby d13_88) rfl (tlt hc88_557).2.1 ?_
     refine XS.iload X552.here hx rfl (hb hby d13_91) rfl ?_
     refine XS.goto X552.here hx rfl (pc0 := 93) (pc' := 97) rfl (hb hby d13_93) (by decide) (by decide) ?_
     exact kk)
    obtain ⟨fs, hr, hrun, hended, hW, hsame⟩ := X552.leave (v := some (.int (v13_73_l4 p2 L_ra1))) (fun h => by rw [Bd.returns] at h; cases h) hlk
    have hv : (v13_ret p2 L_ra1) = (v13_73_l4 p2 L_ra1) := ((if_neg hc53_544).trans (if_neg hc60_547))
    refine ⟨_, _, k558 _ ?_, hrun, hended, _, _, rfl, ?_, ⟨_, rfl⟩, hW, hsame.mono (by decide) (by decide)⟩
    ·show SF p e below T552 m 97 o1 [(.int (v13_73_l4 p2 L_ra1))] _
     exact retI X552 hx Bd.returns (hb hby d13_97) hr
    ·show Q13 Z ra0 ra1 p2 p3 k_ra1 L_ra1 zz zba zae zab h0 n0 _ T552.heap _
     rw [e552]
     exact ⟨(congrArg (fun z => some (Value.int z)) hv).symm, N0, rfl⟩
 ·have k559 := fun t (kk : SF p e below s₁ m 39 o3 [(.int p3), (.int p2)] t) => k533 t (by
   refine XS.icmpYes X0.here hx rfl (pc0 := 18) (pc' := 30) rfl (hb hby d13_18) rfl (feq hc18_534).2 (by decide) (by decide) ?_
   refine XS.iconst X0.here hx rfl (hb hby d13_30) ?_
   refine XS.istore X0.here hx rfl (hb hby d13_31) rfl (l' := #[rv ra0, rv ra1, iv p2, iv p3, iv 0, .unset, .unset]) rfl ?_
   refine XS.iloadN X0.here hx rfl (hb hby d13_33) rfl ?_
   refine XS.istore X0.here hx rfl (hb hby d13_34) rfl (l' := o3) rfl ?_
   refine XS.iload X0.here hx rfl (hb hby d13_36) rfl ?_
   refine XS.iloadN X0.here hx rfl (hb hby d13_38) rfl ?_
   exact kk)
  have hc39_560 : p2 < p3 := own_v4 ht hk
  have k561 := fun t (kk : SF p e below s₁ m 45 o3 [(.int p2), (.ref ra1)] t) => k559 t (by
   refine XS.icmpNo X0.here hx rfl (hb hby d13_39) rfl (tlt hc39_560).2.1 ?_
   refine XS.aloadN X0.here hx rfl (hb hby d13_42) rfl rfl ?_
   show SF p e below s₁ m 43 o3 [(.ref ra1)] _
   refine XS.iload X0.here hx rfl (hb hby d13_43) rfl ?_
   exact kk)
  have hV562 := V_ra1
  obtain ⟨cl562, Ar562, q562, S562, Nn562, H562, G562⟩ := hV562
  have hb563 : ¬ p2 < 0 ∧ p2 < (3 : Int32) := hk
  have hin563 : ¬ (p2 < 0 ∨ cl562.slots.size ≤ (p2).toNatClampNeg) := inb_of S562 hb563
  have hat563 : cl562.slots[(p2).toNatClampNeg]? = some (.int (v13_45_at p2 L_ra1)) := Has.at H562 hin563 (own_getD_int _ _ _)
  have st563 := X0.baloadBytes hx (j := p2) (v := (.int (v13_45_at p2 L_ra1))) (by rw [e0]; exact Ar562.1) (State.isArrayOf_alike hZ.alike Ar562.2.1) Ar562.2.2 hin563 hat563 (g := (mkF m 45 o3 [(.int p2), (.ref ra1)])) rfl rfl (hb hby d13_45)
  have k564 := fun t (kk : SF p e below s₁ m 46 o3 [(.int (v13_45_at p2 L_ra1))] t) => k561 t (st563 _ kk)
  have k565 := fun t (kk : SF p e below s₁ m 53 o2 [(.int (v13_49_l6 p2 L_ra1))] t) => k564 t (by
   refine XS.bipush X0.here hx rfl (hb hby d13_46) ?_
   refine XS.isub X0.here hx rfl (hb hby d13_48) rfl ?_
   refine XS.istore X0.here hx rfl (hb hby d13_49) rfl (l' := o2) rfl ?_
   refine XS.iload X0.here hx rfl (hb hby d13_51) rfl ?_
   exact kk)
  by_cases hc53_566 : (v13_49_l6 p2 L_ra1) < (0 : Int32)
  ·have k567 := fun t (kk : SF p e below s₁ m 64 o2 [(.int (-1 : Int32))] t) => k565 t (by
    refine XS.ifYes X0.here hx rfl (pc0 := 53) (pc' := 63) rfl (hb hby d13_53) rfl ((if0 _ _).trans (tlt hc53_566).1) (by decide) (by decide) ?_
    refine XS.iconst X0.here hx rfl (hb hby d13_63) ?_
    exact kk)
   obtain ⟨fs, hr, hrun, hended, hW, hsame⟩ := X0.leave (v := some (.int (-1 : Int32))) (fun h => by rw [Bd.returns] at h; cases h) hlk
   have hv : (v13_ret p2 L_ra1) = (-1 : Int32) := (if_pos hc53_566)
   refine ⟨_, _, k567 _ ?_, hrun, hended, _, _, rfl, ?_, ⟨_, rfl⟩, hW, hsame.mono (by decide) (by decide)⟩
   ·show SF p e below s₁ m 64 o2 [(.int (-1 : Int32))] _
    exact retI X0 hx Bd.returns (hb hby d13_64) hr
   ·show Q13 Z ra0 ra1 p2 p3 k_ra1 L_ra1 zz zba zae zab h0 n0 _ s₁.heap _
    rw [e0]
    exact ⟨(congrArg (fun z => some (Value.int z)) hv).symm, N0, rfl⟩
  ·have k568 := fun t (kk : SF p e below s₁ m 60 o2 [(.int 9), (.int (v13_49_l6 p2 L_ra1))] t) => k565 t (by
    refine XS.ifNo X0.here hx rfl (hb hby d13_53) rfl ((if0 _ _).trans (flt hc53_566).1) ?_
    refine XS.iload X0.here hx rfl (hb hby d13_56) rfl ?_
    refine XS.bipush X0.here hx rfl (hb hby d13_58) ?_
    exact kk)
   by_cases hc60_569 : (9 : Int32) < (v13_49_l6 p2 L_ra1)
   ·have k570 := fun t (kk : SF p e below s₁ m 64 o2 [(.int (-1 : Int32))] t) => k568 t (by
     refine XS.icmpNo X0.here hx rfl (hb hby d13_60) rfl (tlt hc60_569).2.2.2 ?_
     refine XS.iconst X0.here hx rfl (hb hby d13_63) ?_
     exact kk)
    obtain ⟨fs, hr, hrun, hended, hW, hsame⟩ := X0.leave (v := some (.int (-1 : Int32))) (fun h => by rw [Bd.returns] at h; cases h) hlk
    have hv : (v13_ret p2 L_ra1) = (-1 : Int32) := ((if_neg hc53_566).trans (if_pos hc60_569))
    refine ⟨_, _, k570 _ ?_, hrun, hended, _, _, rfl, ?_, ⟨_, rfl⟩, hW, hsame.mono (by decide) (by decide)⟩
    ·show SF p e below s₁ m 64 o2 [(.int (-1 : Int32))] _
     exact retI X0 hx Bd.returns (hb hby d13_64) hr
    ·show Q13 Z ra0 ra1 p2 p3 k_ra1 L_ra1 zz zba zae zab h0 n0 _ s₁.heap _
     rw [e0]
     exact ⟨(congrArg (fun z => some (Value.int z)) hv).symm, N0, rfl⟩
   ·have k571 := fun t (kk : SF p e below s₁ m 39 o1 [(.int p3), (.int (p2 + (1 : Int32)))] t) => k568 t (by
     show SF p e below s₁ m 60 o2 [(.int 9), (.int (v13_49_l6 p2 L_ra1))] _
     refine XS.icmpYes X0.here hx rfl (pc0 := 60) (pc' := 65) rfl (hb hby d13_60) rfl (flt hc60_569).2.2.2 (by decide) (by decide) ?_
     refine XS.bipush X0.here hx rfl (hb hby d13_65) ?_
     refine XS.iload X0.here hx rfl (hb hby d13_67) rfl ?_
     refine XS.imul X0.here hx rfl (hb hby d13_69) rfl ?_
     refine XS.iload X0.here hx rfl (hb hby d13_70) rfl ?_
     refine XS.iadd X0.here hx rfl (hb hby d13_72) rfl ?_
     refine XS.istore X0.here hx rfl (hb hby d13_73) rfl (l' := o5) rfl ?_
     refine XS.iinc X0.here hx rfl (hb hby d13_75) rfl (l' := o1) rfl ?_
     refine XS.goto X0.here hx rfl (pc0 := 78) (pc' := 36) rfl (hb hby d13_78) (by decide) (by decide) ?_
     refine XS.iload X0.here hx rfl (hb hby d13_36) rfl ?_
     refine XS.iloadN X0.here hx rfl (hb hby d13_38) rfl ?_
     exact kk)
    have hc39_572 : ¬ ((p2 + (1 : Int32)) < p3) := own_v5 ht
    have k573 := fun t (kk : SF p e below s₁ m 84 o1 [(.ref ra0), (.int (v13_73_l4 p2 L_ra1))] t) => k571 t (by
     refine XS.icmpYes X0.here hx rfl (pc0 := 39) (pc' := 81) rfl (hb hby d13_39) rfl (flt hc39_572).2.1 (by decide) (by decide) ?_
     show SF p e below s₁ m 81 o1 [] _
     refine XS.iload X0.here hx rfl (hb hby d13_81) rfl ?_
     refine XS.aloadN X0.here hx rfl (hb hby d13_83) rfl rfl ?_
     exact kk)
    obtain ⟨T574, X574, e574, st574⟩ := getF X0 hx hZ hown (host := "") (Or.inl (w72 hw)) Via.refl e0 zbv (g := (mkF m 84 o1 [(.ref ra0), (.int (v13_73_l4 p2 L_ra1))])) rfl rfl (hb hby d13_84)
    have k575 := fun t (kk : SF p e below T574 m 87 o1 [(.ref zz), (.int (v13_73_l4 p2 L_ra1))] t) => k573 t (st574 _ kk)
    have hV576 := zde
    obtain ⟨cl576, Ar576, q576, S576, Nn576, H576, G576⟩ := hV576
    have st577 := X574.arraylength hx (by rw [e574]; exact Ar576.1) (State.isArrayOf_alike hZ.alike Ar576.2.1) (g := (mkF m 87 o1 [(.ref zz), (.int (v13_73_l4 p2 L_ra1))])) rfl rfl (hb hby d13_87)
    rw [len_of S576 Nn576] at st577
    have k578 := fun t (kk : SF p e below T574 m 88 o1 [(.int zae), (.int (v13_73_l4 p2 L_ra1))] t) => k575 t (st577 _ kk)
    have hc88_579 : (v13_73_l4 p2 L_ra1) < zae := own_v6 hv hc53_566 hc60_569
    have k580 := fun t (kk : SF p e below T574 m 97 o1 [(.int (v13_73_l4 p2 L_ra1))] t) => k578 t (by
     refine XS.icmpNo X574.here hx rfl (hb hby d13_88) rfl (tlt hc88_579).2.1 ?_
     refine XS.iload X574.here hx rfl (hb hby d13_91) rfl ?_
     refine XS.goto X574.here hx rfl (pc0 := 93) (pc' := 97) rfl (hb hby d13_93) (by decide) (by decide) ?_
     exact kk)
    obtain ⟨fs, hr, hrun, hended, hW, hsame⟩ := X574.leave (v := some (.int (v13_73_l4 p2 L_ra1))) (fun h => by rw [Bd.returns] at h; cases h) hlk
    have hv : (v13_ret p2 L_ra1) = (v13_73_l4 p2 L_ra1) := ((if_neg hc53_566).trans (if_neg hc60_569))
    refine ⟨_, _, k580 _ ?_, hrun, hended, _, _, rfl, ?_, ⟨_, rfl⟩, hW, hsame.mono (by decide) (by decide)⟩
    ·show SF p e below T574 m 97 o1 [(.int (v13_73_l4 p2 L_ra1))] _
     exact retI X574 hx Bd.returns (hb hby d13_97) hr
    ·show Q13 Z ra0 ra1 p2 p3 k_ra1 L_ra1 zz zba zae zab h0 n0 _ T574.heap _
     rw [e574]
     exact ⟨(congrArg (fun z => some (Value.int z)) hv).symm, N0, rfl⟩
theorem d14_0 : decode C13_ 0 = .ok (.iload_n 0, 1) := by decide +kernel
theorem d14_1 : decode C13_ 1 = .ok (.iload_n 0, 1) := by decide +kernel
theorem d14_2 : decode C13_ 2 = .ok (.bipush 16, 2) := by decide +kernel
theorem d14_4 : decode C13_ 4 = .ok (.iushr, 1) := by decide +kernel
theorem d14_5 : decode C13_ 5 = .ok (.ixor, 1) := by decide +kernel
theorem d14_6 : decode C13_ 6 = .ok (.ireturn, 1) := by decide +kernel
def v14_ret (p0 : Int32) : Int32 := (p0 ^^^ ((p0.toUInt32 >>> ((16 : Int32) &&& 31).toUInt32).toInt32))
theorem ef_rm14 (m : MethodId) (p0 : Int32) : entryFrame m #[(.int p0)] 1 = mkF m 0 #[iv p0] [] := by first | (simp [entryFrame, mkF, argsToLocals, Value.category]; done) | rfl
def Q14 (Z : State) (p0 : Int32) (h0 : Heap) (n0 : Nat) (v : Option Value) (h : Heap) (L : List Loc) : Prop := (v = some (.int (v14_ret p0)) ∧ Fr n0 L ∧ h = h0)
set_option maxRecDepth 65536 in
set_option maxHeartbeats 40000000 in
theorem rm14 (l : Launch) (Z : State) (a0 : Array Value) (hw : HW Z a0) (ws : List Jvm.Cond) (p0 : Int32) (h0 : Heap) (n0 : Nat) (Z0 : n0 ≤ h0.size) :
  MetFree l M29_ (head1 (Jvm.Cond.code M29_ prog_10_method_12_code 1 (some .int) :: ws) R0_) (fun a U => a = #[(.int p0)] ∧ Z.Warmed39 U.vm ∧ U.heap = h0) (fun _ _ _ _ _ => True) (fun _ U o U' => ∃ v L, o = .returned v ∧ Q14 Z p0 h0 n0 v U'.heap L ∧ FrameEnd U o U' L R0_.cells R0_.slots) := by
 refine MetFree.of_bodySF (plainFor_of_name pn_167) hisR ?_
 intro p e s m args below meth c s₁ Bd hml0 hP hK
 obtain ⟨rfl, hZ, hh⟩ := hP
 have hx := Bd.exec
 have hlk : meth.locks = false := by first | exact BodyLoose.notSynchronized Bd | exact Body.notSynchronized Bd
 have hby := Bd.bytes
 have hml : c.maxLocals = 1 := hml0
 have hown : s.vm.findClass cBs = some m.cls := findClass_of_methodNamed Bd.named
 have hnm := (name_of_methodNamed Bd.named Bd.method).1
 have X0 : Stand p l e R0_ s m #[(.int p0)] below meth c s₁ [] 0 0 := Stand.of_body Bd
 have e0 : s₁.heap = h0 := by rw [← hh, Bd.state]; rfl
 have N0 := Fr.nil n0
 have KC0 := Keep.refl h0 ([] : List Addr)
 have pre0 : ∀ t, SF p e below s₁ m 0 #[iv p0] [] t → Steps p.tables e below (s₁.setTop (entryFrame m #[(.int p0)] 1)) t := fun t k => castTop (ef_rm14 m p0) k
 have k581 := fun t (kk : SF p e below s₁ m 6 #[iv p0] [(.int (p0 ^^^ ((p0.toUInt32 >>> ((16 : Int32) &&& 31).toUInt32).toInt32)))] t) => pre0 t (by
  refine XS.iloadN X0.here hx rfl (hb hby d14_0) rfl ?_
  refine XS.iloadN X0.here hx rfl (hb hby d14_1) rfl ?_
  refine XS.bipush X0.here hx rfl (hb hby d14_2) ?_
  refine XS.iushr X0.here hx rfl (hb hby d14_4) rfl ?_
  refine XS.ixor X0.here hx rfl (hb hby d14_5) rfl ?_
  exact kk)
 obtain ⟨fs, hr, hrun, hended, hW, hsame⟩ := X0.leave (v := some (.int (p0 ^^^ ((p0.toUInt32 >>> ((16 : Int32) &&& 31).toUInt32).toInt32)))) (fun h => by rw [Bd.returns] at h; cases h) hlk
 have hv : (v14_ret p0) = (p0 ^^^ ((p0.toUInt32 >>> ((16 : Int32) &&& 31).toUInt32).toInt32)) := rfl
 refine ⟨_, _, k581 _ ?_, hrun, hended, _, _, rfl, ?_, ⟨_, rfl⟩, hW, hsame.mono (by decide) (by decide)⟩
 ·show SF p e below s₁ m 6 #[iv p0] [(.int (p0 ^^^ ((p0.toUInt32 >>> ((16 : Int32) &&& 31).toUInt32).toInt32)))] _
  exact retI X0 hx Bd.returns (hb hby d14_6) hr
 ·show Q14 Z p0 h0 n0 _ s₁.heap _
  rw [e0]
  exact ⟨(congrArg (fun z => some (Value.int z)) hv).symm, N0, rfl⟩
theorem d19_0 : decode C14_ 0 = .ok (.iload_n 1, 1) := by decide +kernel
theorem d19_1 : decode C14_ 1 = .ok (.ifCond .ne 7, 3) := by decide +kernel
theorem d19_4 : decode C14_ 4 = .ok (.iconst 0, 1) := by decide +kernel
theorem d19_5 : decode C14_ 5 = .ok (.goto 11, 3) := by decide +kernel
theorem d19_16 : decode C14_ 16 = .ok (.ireturn, 1) := by decide +kernel
theorem ef_rm19 (m : MethodId) (ra0 : Addr) (p1 : Int32) : entryFrame m #[(.ref ra0), (.int p1)] 2 = mkF m 0 #[rv ra0, iv p1] [] := by first | (simp [entryFrame, mkF, argsToLocals, Value.category]; done) | rfl
def Q19 (Z : State) (ra0 : Addr) (p1 : Int32) (h0 : Heap) (n0 : Nat) (v : Option Value) (h : Heap) (L : List Loc) : Prop := (v = some (.int 0) ∧ Fr n0 L ∧ h = h0)
set_option maxRecDepth 65536 in
set_option maxHeartbeats 40000000 in
theorem rm19 (l : Launch) (Z : State) (a0 : Array Value) (hw : HW Z a0) (ws : List Jvm.Cond) (ra0 : Addr) (p1 : Int32) (h0 : Heap) (n0 : Nat) (Z0 : n0 ≤ h0.size) (hzz : p1 = (0 : Int32)) :
  MetFree l M30_ (head1 (Jvm.Cond.code M30_ prog_10_method_7_code 2 (some .int) :: ws) R0_) (fun a U => a = #[(.ref ra0), (.int p1)] ∧ Z.Warmed39 U.vm ∧ U.heap = h0) (fun _ _ _ _ _ => True) (fun _ U o U' => ∃ v L, o = .returned v ∧ Q19 Z ra0 p1 h0 n0 v U'.heap L ∧ FrameEnd U o U' L R0_.cells R0_.slots) := by
 refine MetFree.of_bodySF (plainFor_of_name pn_167) hisR ?_
 intro p e s m args below meth c s₁ Bd hml0 hP hK
 obtain ⟨rfl, hZ, hh⟩ := hP
 have hx := Bd.exec
 have hlk : meth.locks = false := by first | exact BodyLoose.notSynchronized Bd | exact Body.notSynchronized Bd
 have hby := Bd.bytes
 have hml : c.maxLocals = 2 := hml0
 have hown : s.vm.findClass cBs = some m.cls := findClass_of_methodNamed Bd.named
 have hnm := (name_of_methodNamed Bd.named Bd.method).1
 have X0 : Stand p l e R0_ s m #[(.ref ra0), (.int p1)] below meth c s₁ [] 0 0 := Stand.of_body Bd
 have e0 : s₁.heap = h0 := by rw [← hh, Bd.state]; rfl
 have N0 := Fr.nil n0
 have KC0 := Keep.refl h0 ([] : List Addr)
 have pre0 : ∀ t, SF p e below s₁ m 0 #[rv ra0, iv p1] [] t → Steps p.tables e below (s₁.setTop (entryFrame m #[(.ref ra0), (.int p1)] 2)) t := fun t k => castTop (ef_rm19 m ra0 p1) k
 have k582 := fun t (kk : SF p e below s₁ m 1 #[rv ra0, iv p1] [(.int p1)] t) => pre0 t (by
  refine XS.iloadN X0.here hx rfl (hb hby d19_0) rfl ?_
  exact kk)
 have hc1_583 : p1 = (0 : Int32) := hzz
 have k584 := fun t (kk : SF p e below s₁ m 16 #[rv ra0, iv p1] [(.int 0)] t) => k582 t (by
  refine XS.ifNo X0.here hx rfl (hb hby d19_1) rfl ((if0 _ _).trans (teq hc1_583).2) ?_
  refine XS.iconst X0.here hx rfl (hb hby d19_4) ?_
  refine XS.goto X0.here hx rfl (pc0 := 5) (pc' := 16) rfl (hb hby d19_5) (by decide) (by decide) ?_
  exact kk)
 obtain ⟨fs, hr, hrun, hended, hW, hsame⟩ := X0.leave (v := some (.int 0)) (fun h => by rw [Bd.returns] at h; cases h) hlk
 refine ⟨_, _, k584 _ ?_, hrun, hended, _, _, rfl, ?_, ⟨_, rfl⟩, hW, hsame.mono (by decide) (by decide)⟩
 ·show SF p e below s₁ m 16 #[rv ra0, iv p1] [(.int 0)] _
  exact retI X0 hx Bd.returns (hb hby d19_16) hr
 ·show Q19 Z ra0 p1 h0 n0 _ s₁.heap _
  rw [e0]
  exact ⟨rfl, N0, rfl⟩
theorem d18_0 : decode C15_ 0 = .ok (.aload_n 0, 1) := by decide +kernel
theorem d18_1 : decode C15_ 1 = .ok (.iload_n 1, 1) := by decide +kernel
theorem d18_2 : decode C15_ 2 = .ok (.invokevirtual 140, 3) := by decide +kernel
theorem d18_5 : decode C15_ 5 = .ok (.istore 5, 2) := by decide +kernel
theorem d18_7 : decode C15_ 7 = .ok (.aload_n 0, 1) := by decide +kernel
theorem d18_8 : decode C15_ 8 = .ok (.getfield 21, 3) := by decide +kernel
theorem d18_11 : decode C15_ 11 = .ok (.iload_n 1, 1) := by decide +kernel
theorem d18_12 : decode C15_ 12 = .ok (.iaload, 1) := by decide +kernel
theorem d18_13 : decode C15_ 13 = .ok (.iload 5, 2) := by decide +kernel
theorem d18_15 : decode C15_ 15 = .ok (.isub, 1) := by decide +kernel
theorem d18_16 : decode C15_ 16 = .ok (.iload 4, 2) := by decide +kernel
theorem d18_18 : decode C15_ 18 = .ok (.iload_n 3, 1) := by decide +kernel
theorem d18_19 : decode C15_ 19 = .ok (.isub, 1) := by decide +kernel
theorem d18_20 : decode C15_ 20 = .ok (.if_icmp .eq 5, 3) := by decide +kernel
theorem d18_25 : decode C15_ 25 = .ok (.iconst 0, 1) := by decide +kernel
theorem d18_26 : decode C15_ 26 = .ok (.istore 6, 2) := by decide +kernel
theorem d18_28 : decode C15_ 28 = .ok (.iload 6, 2) := by decide +kernel
theorem d18_30 : decode C15_ 30 = .ok (.iload 4, 2) := by decide +kernel
theorem d18_32 : decode C15_ 32 = .ok (.iload_n 3, 1) := by decide +kernel
theorem d18_33 : decode C15_ 33 = .ok (.isub, 1) := by decide +kernel
theorem d18_34 : decode C15_ 34 = .ok (.if_icmp .ge 30, 3) := by decide +kernel
theorem d18_37 : decode C15_ 37 = .ok (.aload_n 0, 1) := by decide +kernel
theorem d18_38 : decode C15_ 38 = .ok (.getfield 15, 3) := by decide +kernel
theorem d18_41 : decode C15_ 41 = .ok (.iload 5, 2) := by decide +kernel
theorem d18_43 : decode C15_ 43 = .ok (.iload 6, 2) := by decide +kernel
theorem d18_45 : decode C15_ 45 = .ok (.iadd, 1) := by decide +kernel
theorem d18_46 : decode C15_ 46 = .ok (.baload, 1) := by decide +kernel
theorem d18_47 : decode C15_ 47 = .ok (.aload_n 2, 1) := by decide +kernel
theorem d18_48 : decode C15_ 48 = .ok (.iload_n 3, 1) := by decide +kernel
theorem d18_49 : decode C15_ 49 = .ok (.iload 6, 2) := by decide +kernel
theorem d18_51 : decode C15_ 51 = .ok (.iadd, 1) := by decide +kernel
theorem d18_52 : decode C15_ 52 = .ok (.baload, 1) := by decide +kernel
theorem d18_53 : decode C15_ 53 = .ok (.if_icmp .eq 5, 3) := by decide +kernel
theorem d18_58 : decode C15_ 58 = .ok (.iinc 6 1, 3) := by decide +kernel
theorem d18_61 : decode C15_ 61 = .ok (.goto (-33), 3) := by decide +kernel
theorem d18_64 : decode C15_ 64 = .ok (.iconst 1, 1) := by decide +kernel
theorem d18_65 : decode C15_ 65 = .ok (.ireturn, 1) := by decide +kernel
def v18_12_at (p1 : Int32) (zq : List Int32) : Int32 := (zq.getD (p1).toNatClampNeg (0 : Int32))
def v18_46_at (zal : List Int32) : Int32 := (zal.getD (((0 : Int32) + (0 : Int32))).toNatClampNeg (0 : Int32))
def v18_52_at (p3 : Int32) (L_ra2 : List Int32) : Int32 := (L_ra2.getD ((p3 + (0 : Int32))).toNatClampNeg (0 : Int32))
theorem ef_rm18 (m : MethodId) (ra0 : Addr) (p1 : Int32) (ra2 : Addr) (p3 p4 : Int32) : entryFrame m #[(.ref ra0), (.int p1), (.ref ra2), (.int p3), (.int p4)] 7 = mkF m 0 #[rv ra0, iv p1, rv ra2, iv p3, iv p4, .unset, .unset] [] := by first | (simp [entryFrame, mkF, argsToLocals, Value.category]; done) | rfl
def Q18 (Z : State) (ra0 : Addr) (p1 : Int32) (ra2 : Addr) (p3 p4 : Int32) (zu : Addr) (zay : ClassId) (zac : Int32) (zq : List Int32) (zv : Addr) (zbd : ClassId) (zai : Int32) (zal : List Int32) (k_ra2 : ClassId) (L_ra2 : List Int32) (h0 : Heap) (n0 : Nat) (v : Option Value) (h : Heap) (L : List Loc) : Prop := (v = some (.int 1) ∧ Fr n0 L ∧ h = h0)
set_option maxRecDepth 65536 in
set_option maxHeartbeats 40000000 in
theorem rm18 (l : Launch) (Z : State) (a0 : Array Value) (hw : HW Z a0) (ws : List Jvm.Cond) (ra0 : Addr) (p1 : Int32) (ra2 : Addr) (p3 p4 : Int32) (zu : Addr) (zay : ClassId) (zac : Int32) (zq : List Int32) (zv : Addr) (zbd : ClassId) (zai : Int32) (zal : List Int32) (k_ra2 : ClassId) (L_ra2 : List Int32) (h0 : Heap) (n0 : Nat) (Z0 : n0 ≤ h0.size) (h0n : p1 = (0 : Int32)) (hk : ¬ p3 < 0 ∧ p3 < (3 : Int32)) (ht : p4 = p3 + (1 : Int32)) (hn : ¬ zac < (64 : Int32)) (hbb : ¬ zai < (64 : Int32)) (hl : (zq.getD 0 (0 : Int32)) = (1 : Int32)) (hy : (zal.getD 0 (0 : Int32)) = (L_ra2.getD (p3).toNatClampNeg (0 : Int32))) (E_ra0 : Exa Z h0 ra0 cBs) (zdq : Fld Z h0 ra0 cBs "ends" "[I" (.ref zu)) (zcp : Arv Z h0 zu zay .int zac (List.map Value.int zq) (.int 0)) (zdn : zq.length = zac.toNatClampNeg) (zdy : Fld Z h0 ra0 cBs "bytes" "[B" (.ref zv)) (zdb : Arv Z h0 zv zbd .byte zai (List.map Value.int zal) (.int 0)) (zea : zal.length = zai.toNatClampNeg) (V_ra2 : Arv Z h0 ra2 k_ra2 .byte (3 : Int32) (List.map Value.int L_ra2) (.int 0)) (VL_ra2 : L_ra2.length = ((3 : Int32)).toNatClampNeg) :
  MetFree l M31_ (head1 (Jvm.Cond.code M31_ prog_10_method_9_code 7 (some .boolean) :: ws) R9_) (fun a U => a = #[(.ref ra0), (.int p1), (.ref ra2), (.int p3), (.int p4)] ∧ Z.Warmed39 U.vm ∧ U.heap = h0) (fun _ _ _ _ _ => True) (fun _ U o U' => ∃ v L, o = .returned v ∧ Q18 Z ra0 p1 ra2 p3 p4 zu zay zac zq zv zbd zai zal k_ra2 L_ra2 h0 n0 v U'.heap L ∧ FrameEnd U o U' L R9_.cells R9_.slots) := by
 refine MetFree.of_bodySF (plainFor_of_name pn_167) hisR ?_
 intro p e s m args below meth c s₁ Bd hml0 hP hK
 obtain ⟨rfl, hZ, hh⟩ := hP
 have hx := Bd.exec
 have hlk : meth.locks = false := by first | exact BodyLoose.notSynchronized Bd | exact Body.notSynchronized Bd
 have hby := Bd.bytes
 have hml : c.maxLocals = 7 := hml0
 have hown : s.vm.findClass cBs = some m.cls := findClass_of_methodNamed Bd.named
 have hnm := (name_of_methodNamed Bd.named Bd.method).1
 have X0 : Stand p l e R9_ s m #[(.ref ra0), (.int p1), (.ref ra2), (.int p3), (.int p4)] below meth c s₁ [] 0 0 := Stand.of_body Bd
 have e0 : s₁.heap = h0 := by rw [← hh, Bd.state]; rfl
 have N0 := Fr.nil n0
 have KC0 := Keep.refl h0 ([] : List Addr)
 let o1 : Array Slot := #[rv ra0, iv p1, rv ra2, iv p3, iv p4, iv 0, iv 0]
 let o2 : Array Slot := #[rv ra0, iv p1, rv ra2, iv p3, iv p4, iv 0, .unset]
 let o3 : Array Slot := #[rv ra0, iv p1, rv ra2, iv p3, iv p4, iv 0, iv ((0 : Int32) + (1 : Int32))]
 let o4 : Array Slot := #[rv ra0, iv p1, rv ra2, iv p3, iv p4, .unset, .unset]
 have pre0 : ∀ t, SF p e below s₁ m 0 o4 [] t → Steps p.tables e below (s₁.setTop (entryFrame m #[(.ref ra0), (.int p1), (.ref ra2), (.int p3), (.int p4)] 7)) t := fun t k => castTop (ef_rm18 m ra0 p1 ra2 p3 p4) k
 have k585 := fun t (kk : SF p e below s₁ m 2 o4 [(.int p1), (.ref ra0)] t) => pre0 t (by
  show SF p e below s₁ m 0 o4 [] _
  refine XS.aloadN X0.here hx rfl (hb hby d18_0) rfl rfl ?_
  refine XS.iloadN X0.here hx rfl (hb hby d18_1) rfl ?_
  exact kk)
 have Zz586 : n0 ≤ h0.size := (Nat.le_trans Z0 KC0.1)
 obtain ⟨cq586, q586, q586'⟩ := E_ra0.cell
 obtain ⟨_, _, ⟨T586, L586, k586, n586⟩, -, X586, ⟨Lc586, hQ586, l586, y586, z586⟩, st586⟩ := X0.privateBack hx (y := M30_) hown (mvT hZ (w159 hw)) (mvT hZ (w160 hw)) (own_selpriv (y := M30_) (mvT hZ (w61 hw)) (Cond.privateMethod_at (mvP hZ (w161 hw) (args := #[]))) (mvT hZ (w160 hw)) (by decide)) (Cond.privateMethod_at (mvP hZ (w161 hw) (args := #[]))) (mvT hZ (w162 hw)) (by decide) (backOf (W := 0) (rm19 l Z a0 hw [] ra0 p1 h0 n0 Zz586 (h0n : p1 = (0 : Int32))) hZ (w162 hw) (w62 hw) (by decide) (by decide)) (g := (mkF m 2 o4 [(.int p1), (.ref ra0)])) rfl (by rw [hml]; rfl) (Steps.refl _) (a := ra0) (by rw [e0]; exact q586) q586' (argsL := [(.int p1)]) (rest := []) (lenOf pd_1 rfl) rfl (Nat.le_of_eq rfl) (hb hby d18_2) (fun _ _ => ⟨rfl, e0, (by decide : 0 + 0 ≤ _), (by decide : 0 + 0 ≤ _)⟩)
 dsimp only [Pt.U, Pt.locs, Pt.cells, Pt.slots] at X586 l586 y586 z586 st586 hQ586
 subst l586 y586 z586
 obtain ⟨rfl, N586q, e586⟩ := hQ586
 have N586 := Fr.app N0 N586q
 have k587 := fun t (kk : SF p e below T586 m 5 o4 [(.int 0)] t) => k585 t (st586.trans kk)
 have k588 := fun t (kk : SF p e below T586 m 8 o2 [(.ref ra0)] t) => k587 t (by
  refine XS.istore X586.here hx rfl (hb hby d18_5) rfl (l' := o2) rfl ?_
  refine XS.aloadN X586.here hx rfl (hb hby d18_7) rfl rfl ?_
  exact kk)
 obtain ⟨T589, X589, e589, st589⟩ := getF X586 hx hZ hown (host := "") (Or.inl (w70 hw)) Via.refl e586 zdq (g := (mkF m 8 o2 [(.ref ra0)])) rfl rfl (hb hby d18_8)
 have k590 := fun t (kk : SF p e below T589 m 11 o2 [(.ref zu)] t) => k588 t (st589 _ kk)
 have k591 := fun t (kk : SF p e below T589 m 12 o2 [(.int p1), (.ref zu)] t) => k590 t (by
  refine XS.iloadN X589.here hx rfl (hb hby d18_11) rfl ?_
  exact kk)
 have hV592 := zcp
 obtain ⟨cl592, Ar592, q592, S592, Nn592, H592, G592⟩ := hV592
 have hb593 : ¬ p1 < 0 ∧ p1 < zac := own_q5 h0n hn
 have hin593 : ¬ (p1 < 0 ∨ cl592.slots.size ≤ (p1).toNatClampNeg) := inb_of S592 hb593
 have hat593 : cl592.slots[(p1).toNatClampNeg]? = some (.int (v18_12_at p1 zq)) := Has.at H592 hin593 (own_getD_int _ _ _)
 have st593 := X589.iaload hx (j := p1) (v := (.int (v18_12_at p1 zq))) (by rw [e589]; exact Ar592.1) (State.isArrayOf_alike hZ.alike Ar592.2.1) Ar592.2.2 hin593 hat593 (g := (mkF m 12 o2 [(.int p1), (.ref zu)])) rfl rfl (hb hby d18_12)
 have k594 := fun t (kk : SF p e below T589 m 13 o2 [(.int (v18_12_at p1 zq))] t) => k591 t (st593 _ kk)
 have k595 := fun t (kk : SF p e below T589 m 20 o2 [(.int (p4 - p3)), (.int ((v18_12_at p1 zq) - (0 : Int32)))] t) => k594 t (by
  refine XS.iload X589.here hx rfl (hb hby d18_13) rfl ?_
  refine XS.isub X589.here hx rfl (hb hby d18_15) rfl ?_
  refine XS.iload X589.here hx rfl (hb hby d18_16) rfl ?_
  refine XS.iloadN X589.here hx rfl (hb hby d18_18) rfl ?_
  refine XS.isub X589.here hx rfl (hb hby d18_19) rfl ?_
  exact kk)
 have hc20_596 : ((v18_12_at p1 zq) - (0 : Int32)) = (p4 - p3) := own_q1 h0n hk ht hl
 have k597 := fun t (kk : SF p e below T589 m 34 o1 [(.int (p4 - p3)), (.int 0)] t) => k595 t (by
  refine XS.icmpYes X589.here hx rfl (pc0 := 20) (pc' := 25) rfl (hb hby d18_20) rfl (teq hc20_596).1 (by decide) (by decide) ?_
  refine XS.iconst X589.here hx rfl (hb hby d18_25) ?_
  show SF p e below T589 m 26 o2 [(.int 0)] _
  refine XS.istore X589.here hx rfl (hb hby d18_26) rfl (l' := o1) rfl ?_
  refine XS.iload X589.here hx rfl (hb hby d18_28) rfl ?_
  refine XS.iload X589.here hx rfl (hb hby d18_30) rfl ?_
  refine XS.iloadN X589.here hx rfl (hb hby d18_32) rfl ?_
  refine XS.isub X589.here hx rfl (hb hby d18_33) rfl ?_
  exact kk)
 have hc34_598 : (0 : Int32) < (p4 - p3) := own_q2 hk ht
 have k599 := fun t (kk : SF p e below T589 m 38 o1 [(.ref ra0)] t) => k597 t (by
  refine XS.icmpNo X589.here hx rfl (hb hby d18_34) rfl (tlt hc34_598).2.1 ?_
  refine XS.aloadN X589.here hx rfl (hb hby d18_37) rfl rfl ?_
  exact kk)
 obtain ⟨T600, X600, e600, st600⟩ := getF X589 hx hZ hown (host := "") (Or.inl (w68 hw)) Via.refl e589 zdy (g := (mkF m 38 o1 [(.ref ra0)])) rfl rfl (hb hby d18_38)
 have k601 := fun t (kk : SF p e below T600 m 41 o1 [(.ref zv)] t) => k599 t (st600 _ kk)
 have k602 := fun t (kk : SF p e below T600 m 46 o1 [(.int ((0 : Int32) + (0 : Int32))), (.ref zv)] t) => k601 t (by
  refine XS.iload X600.here hx rfl (hb hby d18_41) rfl ?_
  refine XS.iload X600.here hx rfl (hb hby d18_43) rfl ?_
  refine XS.iadd X600.here hx rfl (hb hby d18_45) rfl ?_
  exact kk)
 have hV603 := zdb
 obtain ⟨cl603, Ar603, q603, S603, Nn603, H603, G603⟩ := hV603
 have hb604 : ¬ ((0 : Int32) + (0 : Int32)) < 0 ∧ ((0 : Int32) + (0 : Int32)) < zai := own_q6 hbb
 have hin604 : ¬ (((0 : Int32) + (0 : Int32)) < 0 ∨ cl603.slots.size ≤ (((0 : Int32) + (0 : Int32))).toNatClampNeg) := inb_of S603 hb604
 have hat604 : cl603.slots[(((0 : Int32) + (0 : Int32))).toNatClampNeg]? = some (.int (v18_46_at zal)) := Has.at H603 hin604 (own_getD_int _ _ _)
 have st604 := X600.baloadBytes hx (j := ((0 : Int32) + (0 : Int32))) (v := (.int (v18_46_at zal))) (by rw [e600]; exact Ar603.1) (State.isArrayOf_alike hZ.alike Ar603.2.1) Ar603.2.2 hin604 hat604 (g := (mkF m 46 o1 [(.int ((0 : Int32) + (0 : Int32))), (.ref zv)])) rfl rfl (hb hby d18_46)
 have k605 := fun t (kk : SF p e below T600 m 47 o1 [(.int (v18_46_at zal))] t) => k602 t (st604 _ kk)
 have k606 := fun t (kk : SF p e below T600 m 52 o1 [(.int (p3 + (0 : Int32))), (.ref ra2), (.int (v18_46_at zal))] t) => k605 t (by
  refine XS.aloadN X600.here hx rfl (hb hby d18_47) rfl rfl ?_
  refine XS.iloadN X600.here hx rfl (hb hby d18_48) rfl ?_
  show SF p e below T600 m 49 o1 [(.int p3), (.ref ra2), (.int (v18_46_at zal))] _
  refine XS.iload X600.here hx rfl (hb hby d18_49) rfl ?_
  refine XS.iadd X600.here hx rfl (hb hby d18_51) rfl ?_
  exact kk)
 have hV607 := V_ra2
 obtain ⟨cl607, Ar607, q607, S607, Nn607, H607, G607⟩ := hV607
 have hb608 : ¬ (p3 + (0 : Int32)) < 0 ∧ (p3 + (0 : Int32)) < (3 : Int32) := own_q7 hk
 have hin608 : ¬ ((p3 + (0 : Int32)) < 0 ∨ cl607.slots.size ≤ ((p3 + (0 : Int32))).toNatClampNeg) := inb_of S607 hb608
 have hat608 : cl607.slots[((p3 + (0 : Int32))).toNatClampNeg]? = some (.int (v18_52_at p3 L_ra2)) := Has.at H607 hin608 (own_getD_int _ _ _)
 have st608 := X600.baloadBytes hx (j := (p3 + (0 : Int32))) (v := (.int (v18_52_at p3 L_ra2))) (by rw [e600]; exact Ar607.1) (State.isArrayOf_alike hZ.alike Ar607.2.1) Ar607.2.2 hin608 hat608 (g := (mkF m 52 o1 [(.int (p3 + (0 : Int32))), (.ref ra2), (.int (v18_46_at zal))])) rfl rfl (hb hby d18_52)
 have k609 := fun t (kk : SF p e below T600 m 53 o1 [(.int (v18_52_at p3 L_ra2)), (.int (v18_46_at zal))] t) => k606 t (st608 _ kk)
 have hc53_610 : (v18_46_at zal) = (v18_52_at p3 L_ra2) := own_q4 hk hy
 have k611 := fun t (kk : SF p e below T600 m 34 o3 [(.int (p4 - p3)), (.int ((0 : Int32) + (1 : Int32)))] t) => k609 t (by
  refine XS.icmpYes X600.here hx rfl (pc0 := 53) (pc' := 58) rfl (hb hby d18_53) rfl (teq hc53_610).1 (by decide) (by decide) ?_
  refine XS.iinc X600.here hx rfl (hb hby d18_58) rfl (l' := o3) rfl ?_
  refine XS.goto X600.here hx rfl (pc0 := 61) (pc' := 28) rfl (hb hby d18_61) (by decide) (by decide) ?_
  refine XS.iload X600.here hx rfl (hb hby d18_28) rfl ?_
  refine XS.iload X600.here hx rfl (hb hby d18_30) rfl ?_
  refine XS.iloadN X600.here hx rfl (hb hby d18_32) rfl ?_
  refine XS.isub X600.here hx rfl (hb hby d18_33) rfl ?_
  exact kk)
 have hc34_612 : ¬ (((0 : Int32) + (1 : Int32)) < (p4 - p3)) := own_q3 hk ht
 have k613 := fun t (kk : SF p e below T600 m 65 o3 [(.int 1)] t) => k611 t (by
  refine XS.icmpYes X600.here hx rfl (pc0 := 34) (pc' := 64) rfl (hb hby d18_34) rfl (flt hc34_612).2.1 (by decide) (by decide) ?_
  refine XS.iconst X600.here hx rfl (hb hby d18_64) ?_
  exact kk)
 obtain ⟨fs, hr, hrun, hended, hW, hsame⟩ := X600.leave (v := some (.int 1)) (fun h => by rw [Bd.returns] at h; cases h) hlk
 refine ⟨_, _, k613 _ ?_, hrun, hended, _, _, rfl, ?_, ⟨_, rfl⟩, hW, hsame.mono (by decide) (by decide)⟩
 ·show SF p e below T600 m 65 o3 [(.int 1)] _
  exact retN X600 hx (t := .boolean) Bd.returns (by simp) (hb hby d18_65) hr
 ·show Q18 Z ra0 p1 ra2 p3 p4 zu zay zac zq zv zbd zai zal k_ra2 L_ra2 h0 n0 _ T600.heap _
  rw [e600]
  exact ⟨rfl, N586, rfl⟩
theorem pd_5 : parseMethodDescriptor "([BII)I" = some ⟨[(.array .byte), .int, .int], some .int⟩ := by decide +kernel
theorem d12_0 : decode C16_ 0 = .ok (.aload_n 0, 1) := by decide +kernel
theorem d12_1 : decode C16_ 1 = .ok (.getfield 25, 3) := by decide +kernel
theorem d12_4 : decode C16_ 4 = .ok (.ifnonnull 11, 3) := by decide +kernel
theorem d12_7 : decode C16_ 7 = .ok (.aload_n 0, 1) := by decide +kernel
theorem d12_8 : decode C16_ 8 = .ok (.aload_n 1, 1) := by decide +kernel
theorem d12_9 : decode C16_ 9 = .ok (.iload_n 2, 1) := by decide +kernel
theorem d12_10 : decode C16_ 10 = .ok (.iload_n 3, 1) := by decide +kernel
theorem d12_11 : decode C16_ 11 = .ok (.invokevirtual 36, 3) := by decide +kernel
theorem d12_14 : decode C16_ 14 = .ok (.ireturn, 1) := by decide +kernel
theorem ef_rm12m (m : MethodId) (ra0 ra1 : Addr) (p2 p3 : Int32) : entryFrame m #[(.ref ra0), (.ref ra1), (.int p2), (.int p3)] 11 = mkF m 0 #[rv ra0, rv ra1, iv p2, iv p3, .unset, .unset, .unset, .unset, .unset, .unset, .unset] [] := by first | (simp [entryFrame, mkF, argsToLocals, Value.category]; done) | rfl
def Q12m (Z : State) (ra0 ra1 : Addr) (p2 p3 za : Int32) (zu : Addr) (zay : ClassId) (zac : Int32) (zq : List Int32) (zv : Addr) (zbd : ClassId) (zai : Int32) (zal : List Int32) (k_ra1 : ClassId) (L_ra1 : List Int32) (zm : Int32) (zby zcf : Value) (zak : Int32) (zat : Int64) (h0 : Heap) (n0 : Nat) (v : Option Value) (h : Heap) (L : List Loc) : Prop := (v = some (.int za) ∧ Fr n0 L ∧ Keep h0 h [ra0, zu, zv] ∧ Exa Z h ra0 cBs ∧ Fld Z h ra0 cBs "bytes" "[B" (.ref zv) ∧ Fld Z h ra0 cBs "ends" "[I" (.ref zu) ∧ Fld Z h ra0 cBs "byValue" "[I" .null ∧ Fld Z h ra0 cBs "expectedSlots" "I" (.int zm) ∧ Fld Z h ra0 cBs "crowded" "Ljava/util/Map;" zby ∧ Fld Z h ra0 cBs "slots" "[J" zcf ∧ Fld Z h ra0 cBs "size" "I" (.int (za + (1 : Int32))) ∧ Fld Z h ra0 cBs "hashed" "I" (.int zak) ∧ Fld Z h ra0 cBs "probes" "J" (.long zat) ∧ Arv Z h zu zay .int zac (List.map Value.int (v15_131_L p2 p3 za zq)) (.int 0) ∧ (v15_131_L p2 p3 za zq).length = (zac).toNatClampNeg ∧ Arv Z h zv zbd .byte zai (List.map Value.int (v15_112_L p2 za zq zal L_ra1)) (.int 0) ∧ (v15_112_L p2 za zq zal L_ra1).length = (zai).toNatClampNeg)
set_option maxRecDepth 65536 in
set_option maxHeartbeats 40000000 in
theorem rm12m (l : Launch) (Z : State) (a0 : Array Value) (hw : HW Z a0) (ws : List Jvm.Cond) (ra0 ra1 : Addr) (p2 p3 za : Int32) (zu : Addr) (zay : ClassId) (zac : Int32) (zq : List Int32) (zv : Addr) (zbd : ClassId) (zai : Int32) (zal : List Int32) (k_ra1 : ClassId) (L_ra1 : List Int32) (zm : Int32) (zby zcf : Value) (zak : Int32) (zat : Int64) (h0 : Heap) (n0 : Nat) (Z0 : n0 ≤ h0.size) (hs : ¬ za < 0 ∧ za < zac) (hE : ¬ (v16_ret za zq) < 0 ∧ (v16_ret za zq) < (60 : Int32)) (hbb : ¬ zai < (64 : Int32)) (hk : ¬ p2 < 0 ∧ p2 < (3 : Int32)) (ht : p3 = p2 + (1 : Int32)) (zbv : Fld Z h0 ra0 cBs "byValue" "[I" .null) (zcc : Fld Z h0 ra0 cBs "size" "I" (.int za)) (zdq : Fld Z h0 ra0 cBs "ends" "[I" (.ref zu)) (zcp : Arv Z h0 zu zay .int zac (List.map Value.int zq) (.int 0)) (zdn : zq.length = zac.toNatClampNeg) (zdy : Fld Z h0 ra0 cBs "bytes" "[B" (.ref zv)) (zdb : Arv Z h0 zv zbd .byte zai (List.map Value.int zal) (.int 0)) (zea : zal.length = zai.toNatClampNeg) (V_ra1 : Arv Z h0 ra1 k_ra1 .byte (3 : Int32) (List.map Value.int L_ra1) (.int 0)) (VL_ra1 : L_ra1.length = ((3 : Int32)).toNatClampNeg) (zcr : Fld Z h0 ra0 cBs "expectedSlots" "I" (.int zm)) (zdr : Fld Z h0 ra0 cBs "crowded" "Ljava/util/Map;" zby) (zdo : Fld Z h0 ra0 cBs "slots" "[J" zcf) (zfe : Fld Z h0 ra0 cBs "hashed" "I" (.int zak)) (zeq : Fld Z h0 ra0 cBs "probes" "J" (.long zat)) (E_ra0 : Exa Z h0 ra0 cBs) (zgl : n0 ≤ zv) (zda : zv ≠ zu) (zgy : n0 ≤ zu) (g_ra0 : n0 ≤ ra0) :
  MetFree l M32_ (head1 (Jvm.Cond.code M32_ prog_10_method_2_code 11 (some .int) :: ws) R10_) (fun a U => a = #[(.ref ra0), (.ref ra1), (.int p2), (.int p3)] ∧ Z.Warmed39 U.vm ∧ U.heap = h0) (fun _ _ _ _ _ => True) (fun _ U o U' => ∃ v L, o = .returned v ∧ Q12m Z ra0 ra1 p2 p3 za zu zay zac zq zv zbd zai zal k_ra1 L_ra1 zm zby zcf zak zat h0 n0 v U'.heap L ∧ FrameEnd U o U' L R10_.cells R10_.slots) := by
 refine MetFree.of_bodySF (plainFor_of_name pn_167) hisR ?_
 intro p e s m args below meth c s₁ Bd hml0 hP hK
 obtain ⟨rfl, hZ, hh⟩ := hP
 have hx := Bd.exec
 have hlk : meth.locks = false := by first | exact BodyLoose.notSynchronized Bd | exact Body.notSynchronized Bd
 have hby := Bd.bytes
 have hml : c.maxLocals = 11 := hml0
 have hown : s.vm.findClass cBs = some m.cls := findClass_of_methodNamed Bd.named
 have hnm := (name_of_methodNamed Bd.named Bd.method).1
 have X0 : Stand p l e R10_ s m #[(.ref ra0), (.ref ra1), (.int p2), (.int p3)] below meth c s₁ [] 0 0 := Stand.of_body Bd
 have e0 : s₁.heap = h0 := by rw [← hh, Bd.state]; rfl
 have N0 := Fr.nil n0
 have KC0 := Keep.refl h0 [ra0, zu, zv]
 let o1 : Array Slot := #[rv ra0, rv ra1, iv p2, iv p3, .unset, .unset, .unset, .unset, .unset, .unset, .unset]
 have pre0 : ∀ t, SF p e below s₁ m 0 o1 [] t → Steps p.tables e below (s₁.setTop (entryFrame m #[(.ref ra0), (.ref ra1), (.int p2), (.int p3)] 11)) t := fun t k => castTop (ef_rm12m m ra0 ra1 p2 p3) k
 have k614 := fun t (kk : SF p e below s₁ m 1 o1 [(.ref ra0)] t) => pre0 t (by
  refine XS.aloadN X0.here hx rfl (hb hby d12_0) rfl rfl ?_
  exact kk)
 obtain ⟨T615, X615, e615, st615⟩ := getF X0 hx hZ hown (host := "") (Or.inl (w72 hw)) Via.refl e0 zbv (g := (mkF m 1 o1 [(.ref ra0)])) rfl rfl (hb hby d12_1)
 have k616 := fun t (kk : SF p e below T615 m 4 o1 [.null] t) => k614 t (st615 _ kk)
 have k617 := fun t (kk : SF p e below T615 m 11 o1 [(.int p3), (.int p2), (.ref ra1), (.ref ra0)] t) => k616 t (by
  show SF p e below T615 m 4 o1 [.null] _
  refine XS.ifnonnullNo X615.here hx rfl (hb hby d12_4) rfl ?_
  refine XS.aloadN X615.here hx rfl (hb hby d12_7) rfl rfl ?_
  refine XS.aloadN X615.here hx rfl (hb hby d12_8) rfl rfl ?_
  refine XS.iloadN X615.here hx rfl (hb hby d12_9) rfl ?_
  refine XS.iloadN X615.here hx rfl (hb hby d12_10) rfl ?_
  exact kk)
 have Zz618 : n0 ≤ h0.size := (Nat.le_trans Z0 KC0.1)
 obtain ⟨cq618, q618, q618'⟩ := E_ra0.cell
 obtain ⟨_, _, ⟨T618, L618, k618, n618⟩, -, X618, ⟨Lc618, hQ618, l618, y618, z618⟩, st618⟩ := X615.privateBack hx (y := M27_) hown (mvT hZ (w120 hw)) (mvT hZ (w121 hw)) (own_selpriv (y := M27_) (mvT hZ (w61 hw)) (Cond.privateMethod_at (mvP hZ (w122 hw) (args := #[]))) (mvT hZ (w121 hw)) (by decide)) (Cond.privateMethod_at (mvP hZ (w122 hw) (args := #[]))) (mvT hZ (w123 hw)) (by decide) (backOf (W := 0) (rm15 l Z a0 hw [] ra0 ra1 p2 p3 za zu zay zac zq zv zbd zai zal k_ra1 L_ra1 .null zm zby zcf zak zat h0 n0 Zz618 (hs : ¬ za < 0 ∧ za < zac) (hE : ¬ (v16_ret za zq) < 0 ∧ (v16_ret za zq) < (60 : Int32)) (hbb : ¬ zai < (64 : Int32)) (hk : ¬ p2 < 0 ∧ p2 < (3 : Int32)) (ht : p3 = p2 + (1 : Int32)) zcc zdq zcp zdn E_ra0 zdy zdb zea V_ra1 VL_ra1 zgl zda zgy g_ra0 zbv zcr zdr zdo zfe zeq) hZ (w123 hw) (w62 hw) (by decide) (by decide)) (g := (mkF m 11 o1 [(.int p3), (.int p2), (.ref ra1), (.ref ra0)])) rfl (by rw [hml]; rfl) (Steps.refl _) (a := ra0) (by rw [e615]; exact q618) q618' (argsL := [(.ref ra1), (.int p2), (.int p3)]) (rest := []) (lenOf pd_5 rfl) rfl (Nat.le_of_eq rfl) (hb hby d12_11) (fun _ _ => ⟨rfl, e615, (by decide : 0 + 0 ≤ _), (by decide : 0 + 0 ≤ _)⟩)
 dsimp only [Pt.U, Pt.locs, Pt.cells, Pt.slots] at X618 l618 y618 z618 st618 hQ618
 subst l618 y618 z618
 obtain ⟨rfl, N618q, Kq618, Eq618_0, Fq618_0, Fq618_1, Fq618_2, Fq618_3, Fq618_4, Fq618_5, Fq618_6, Fq618_7, Fq618_8, Vq618_0, VLq618_0, Vq618_1, VLq618_1⟩ := hQ618
 have K618 : Keep h0 T618.heap [ra0, zu, zv] := KC0.trans Kq618 (allS (Or.inl (List.mem_of_getElem? (i := 2) rfl)) (allS (Or.inl (List.mem_of_getElem? (i := 1) rfl)) (allS (Or.inl (List.mem_of_getElem? (i := 0) rfl)) all0)))
 have N618 := Fr.app N0 N618q
 have k619 := fun t (kk : SF p e below T618 m 14 o1 [(.int za)] t) => k617 t (st618.trans kk)
 obtain ⟨fs, hr, hrun, hended, hW, hsame⟩ := X618.leave (v := some (.int za)) (fun h => by rw [Bd.returns] at h; cases h) hlk
 refine ⟨_, _, k619 _ ?_, hrun, hended, _, _, rfl, ?_, ⟨_, rfl⟩, hW, hsame.mono (by decide) (by decide)⟩
 ·show SF p e below T618 m 14 o1 [(.int za)] _
  exact retI X618 hx Bd.returns (hb hby d12_14) hr
 ·show Q12m Z ra0 ra1 p2 p3 za zu zay zac zq zv zbd zai zal k_ra1 L_ra1 zm zby zcf zak zat h0 n0 _ T618.heap _
  exact ⟨rfl, N618, K618, Eq618_0, Fq618_0, Fq618_1, Fq618_2, Fq618_3, Fq618_4, Fq618_5, Fq618_6, Fq618_7, Fq618_8, Vq618_1, VLq618_1, Vq618_0, VLq618_0⟩
theorem d12_15 : decode C16_ 15 = .ok (.aload_n 0, 1) := by decide +kernel
theorem d12_16 : decode C16_ 16 = .ok (.aload_n 1, 1) := by decide +kernel
theorem d12_17 : decode C16_ 17 = .ok (.iload_n 2, 1) := by decide +kernel
theorem d12_18 : decode C16_ 18 = .ok (.iload_n 3, 1) := by decide +kernel
theorem d12_19 : decode C16_ 19 = .ok (.invokevirtual 40, 3) := by decide +kernel
theorem d12_22 : decode C16_ 22 = .ok (.istore 4, 2) := by decide +kernel
theorem d12_24 : decode C16_ 24 = .ok (.iload 4, 2) := by decide +kernel
theorem d12_26 : decode C16_ 26 = .ok (.ifCond .lt 45, 3) := by decide +kernel
theorem d12_29 : decode C16_ 29 = .ok (.aload_n 0, 1) := by decide +kernel
theorem d12_30 : decode C16_ 30 = .ok (.getfield 25, 3) := by decide +kernel
theorem d12_33 : decode C16_ 33 = .ok (.iload 4, 2) := by decide +kernel
theorem d12_35 : decode C16_ 35 = .ok (.iaload, 1) := by decide +kernel
theorem d12_36 : decode C16_ 36 = .ok (.istore 5, 2) := by decide +kernel
theorem d12_38 : decode C16_ 38 = .ok (.iload 5, 2) := by decide +kernel
theorem d12_40 : decode C16_ 40 = .ok (.ifCond .eq 8, 3) := by decide +kernel
theorem d12_48 : decode C16_ 48 = .ok (.aload_n 0, 1) := by decide +kernel
theorem d12_49 : decode C16_ 49 = .ok (.aload_n 1, 1) := by decide +kernel
theorem d12_50 : decode C16_ 50 = .ok (.iload_n 2, 1) := by decide +kernel
theorem d12_51 : decode C16_ 51 = .ok (.iload_n 3, 1) := by decide +kernel
theorem d12_52 : decode C16_ 52 = .ok (.invokevirtual 36, 3) := by decide +kernel
theorem d12_55 : decode C16_ 55 = .ok (.istore 6, 2) := by decide +kernel
theorem d12_57 : decode C16_ 57 = .ok (.aload_n 0, 1) := by decide +kernel
theorem d12_58 : decode C16_ 58 = .ok (.getfield 25, 3) := by decide +kernel
theorem d12_61 : decode C16_ 61 = .ok (.iload 4, 2) := by decide +kernel
theorem d12_63 : decode C16_ 63 = .ok (.iload 6, 2) := by decide +kernel
theorem d12_65 : decode C16_ 65 = .ok (.iconst 1, 1) := by decide +kernel
theorem d12_66 : decode C16_ 66 = .ok (.iadd, 1) := by decide +kernel
theorem d12_67 : decode C16_ 67 = .ok (.iastore, 1) := by decide +kernel
theorem d12_68 : decode C16_ 68 = .ok (.iload 6, 2) := by decide +kernel
theorem d12_70 : decode C16_ 70 = .ok (.ireturn, 1) := by decide +kernel
def dn12_35_at (p2 : Int32) (L_ra1 zab : List Int32) : Int32 := (zab.getD ((v13_ret p2 L_ra1)).toNatClampNeg (0 : Int32))
def dn12_67_L (p2 : Int32) (L_ra1 zab : List Int32) (za : Int32) : List Int32 := (zab.set ((v13_ret p2 L_ra1)).toNatClampNeg (za + (1 : Int32)))
def Q12dn (Z : State) (ra0 ra1 : Addr) (p2 p3 : Int32) (zz : Addr) (k_ra1 : ClassId) (L_ra1 : List Int32) (zba : ClassId) (zae : Int32) (zab : List Int32) (za : Int32) (zu : Addr) (zay : ClassId) (zac : Int32) (zq : List Int32) (zv : Addr) (zbd : ClassId) (zai : Int32) (zal : List Int32) (zm : Int32) (zby zcf : Value) (zak : Int32) (zat : Int64) (h0 : Heap) (n0 : Nat) (v : Option Value) (h : Heap) (L : List Loc) : Prop := (v = some (.int za) ∧ Fr n0 L ∧ Keep h0 h [ra0, zu, zv, zz] ∧ Exa Z h ra0 cBs ∧ Fld Z h ra0 cBs "bytes" "[B" (.ref zv) ∧ Fld Z h ra0 cBs "ends" "[I" (.ref zu) ∧ Fld Z h ra0 cBs "byValue" "[I" (.ref zz) ∧ Fld Z h ra0 cBs "expectedSlots" "I" (.int zm) ∧ Fld Z h ra0 cBs "crowded" "Ljava/util/Map;" zby ∧ Fld Z h ra0 cBs "slots" "[J" zcf ∧ Fld Z h ra0 cBs "size" "I" (.int (za + (1 : Int32))) ∧ Fld Z h ra0 cBs "hashed" "I" (.int zak) ∧ Fld Z h ra0 cBs "probes" "J" (.long zat) ∧ Arv Z h zu zay .int zac (List.map Value.int (v15_131_L p2 p3 za zq)) (.int 0) ∧ (v15_131_L p2 p3 za zq).length = (zac).toNatClampNeg ∧ Arv Z h zv zbd .byte zai (List.map Value.int (v15_112_L p2 za zq zal L_ra1)) (.int 0) ∧ (v15_112_L p2 za zq zal L_ra1).length = (zai).toNatClampNeg ∧ Arv Z h zz zba .int zae (List.map Value.int (dn12_67_L p2 L_ra1 zab za)) (.int 0) ∧ (dn12_67_L p2 L_ra1 zab za).length = (zae).toNatClampNeg)
set_option maxRecDepth 65536 in
set_option maxHeartbeats 40000000 in
theorem rm12dn (l : Launch) (Z : State) (a0 : Array Value) (hw : HW Z a0) (ws : List Jvm.Cond) (ra0 ra1 : Addr) (p2 p3 : Int32) (zz : Addr) (k_ra1 : ClassId) (L_ra1 : List Int32) (zba : ClassId) (zae : Int32) (zab : List Int32) (za : Int32) (zu : Addr) (zay : ClassId) (zac : Int32) (zq : List Int32) (zv : Addr) (zbd : ClassId) (zai : Int32) (zal : List Int32) (zm : Int32) (zby zcf : Value) (zak : Int32) (zat : Int64) (h0 : Heap) (n0 : Nat) (Z0 : n0 ≤ h0.size) (hs : ¬ za < 0 ∧ za < zac) (hE : ¬ (v16_ret za zq) < 0 ∧ (v16_ret za zq) < (60 : Int32)) (hbb : ¬ zai < (64 : Int32)) (hk : ¬ p2 < 0 ∧ p2 < (3 : Int32)) (ht : p3 = p2 + (1 : Int32)) (hv : ¬ zae < (64 : Int32)) (hd : ¬ ((v13_ret p2 L_ra1) < (0 : Int32))) (h9 : (v13_ret p2 L_ra1) < (10 : Int32)) (hz : (zab.getD ((v13_ret p2 L_ra1)).toNatClampNeg (0 : Int32)) = (0 : Int32)) (zbv : Fld Z h0 ra0 cBs "byValue" "[I" (.ref zz)) (V_ra1 : Arv Z h0 ra1 k_ra1 .byte (3 : Int32) (List.map Value.int L_ra1) (.int 0)) (VL_ra1 : L_ra1.length = ((3 : Int32)).toNatClampNeg) (zde : Arv Z h0 zz zba .int zae (List.map Value.int zab) (.int 0)) (zel : zab.length = zae.toNatClampNeg) (E_ra0 : Exa Z h0 ra0 cBs) (zcc : Fld Z h0 ra0 cBs "size" "I" (.int za)) (zdq : Fld Z h0 ra0 cBs "ends" "[I" (.ref zu)) (zcp : Arv Z h0 zu zay .int zac (List.map Value.int zq) (.int 0)) (zdn : zq.length = zac.toNatClampNeg) (zdy : Fld Z h0 ra0 cBs "bytes" "[B" (.ref zv)) (zdb : Arv Z h0 zv zbd .byte zai (List.map Value.int zal) (.int 0)) (zea : zal.length = zai.toNatClampNeg) (zcr : Fld Z h0 ra0 cBs "expectedSlots" "I" (.int zm)) (zdr : Fld Z h0 ra0 cBs "crowded" "Ljava/util/Map;" zby) (zdo : Fld Z h0 ra0 cBs "slots" "[J" zcf) (zfe : Fld Z h0 ra0 cBs "hashed" "I" (.int zak)) (zeq : Fld Z h0 ra0 cBs "probes" "J" (.long zat)) (zgl : n0 ≤ zv) (zda : zv ≠ zu) (zgy : n0 ≤ zu) (g_ra0 : n0 ≤ ra0) (ziz : zz ≠ zu) (ziw : zz ≠ zv) (zkp : n0 ≤ zz) :
  MetFree l M32_ (head1 (Jvm.Cond.code M32_ prog_10_method_2_code 11 (some .int) :: ws) R10_) (fun a U => a = #[(.ref ra0), (.ref ra1), (.int p2), (.int p3)] ∧ Z.Warmed39 U.vm ∧ U.heap = h0) (fun _ _ _ _ _ => True) (fun _ U o U' => ∃ v L, o = .returned v ∧ Q12dn Z ra0 ra1 p2 p3 zz k_ra1 L_ra1 zba zae zab za zu zay zac zq zv zbd zai zal zm zby zcf zak zat h0 n0 v U'.heap L ∧ FrameEnd U o U' L R10_.cells R10_.slots) := by
 refine MetFree.of_bodySF (plainFor_of_name pn_167) hisR ?_
 intro p e s m args below meth c s₁ Bd hml0 hP hK
 obtain ⟨rfl, hZ, hh⟩ := hP
 have hx := Bd.exec
 have hlk : meth.locks = false := by first | exact BodyLoose.notSynchronized Bd | exact Body.notSynchronized Bd
 have hby := Bd.bytes
 have hml : c.maxLocals = 11 := hml0
 have hown : s.vm.findClass cBs = some m.cls := findClass_of_methodNamed Bd.named
 have hnm := (name_of_methodNamed Bd.named Bd.method).1
 have X0 : Stand p l e R10_ s m #[(.ref ra0), (.ref ra1), (.int p2), (.int p3)] below meth c s₁ [] 0 0 := Stand.of_body Bd
 have e0 : s₁.heap = h0 := by rw [← hh, Bd.state]; rfl
 have N0 := Fr.nil n0
 have KC0 := Keep.refl h0 [ra0, zu, zv, zz]
 let o1 : Array Slot := #[rv ra0, rv ra1, iv p2, iv p3, iv (v13_ret p2 L_ra1), iv (dn12_35_at p2 L_ra1 zab), iv za, .unset, .unset, .unset, .unset]
 let o2 : Array Slot := #[rv ra0, rv ra1, iv p2, iv p3, iv (v13_ret p2 L_ra1), .unset, .unset, .unset, .unset, .unset, .unset]
 let o3 : Array Slot := #[rv ra0, rv ra1, iv p2, iv p3, iv (v13_ret p2 L_ra1), iv (dn12_35_at p2 L_ra1 zab), .unset, .unset, .unset, .unset, .unset]
 let o4 : Array Slot := #[rv ra0, rv ra1, iv p2, iv p3, .unset, .unset, .unset, .unset, .unset, .unset, .unset]
 have pre0 : ∀ t, SF p e below s₁ m 0 o4 [] t → Steps p.tables e below (s₁.setTop (entryFrame m #[(.ref ra0), (.ref ra1), (.int p2), (.int p3)] 11)) t := fun t k => castTop (ef_rm12m m ra0 ra1 p2 p3) k
 have k620 := fun t (kk : SF p e below s₁ m 1 o4 [(.ref ra0)] t) => pre0 t (by
  refine XS.aloadN X0.here hx rfl (hb hby d12_0) rfl rfl ?_
  exact kk)
 obtain ⟨T621, X621, e621, st621⟩ := getF X0 hx hZ hown (host := "") (Or.inl (w72 hw)) Via.refl e0 zbv (g := (mkF m 1 o4 [(.ref ra0)])) rfl rfl (hb hby d12_1)
 have k622 := fun t (kk : SF p e below T621 m 4 o4 [(.ref zz)] t) => k620 t (st621 _ kk)
 have k623 := fun t (kk : SF p e below T621 m 19 o4 [(.int p3), (.int p2), (.ref ra1), (.ref ra0)] t) => k622 t (by
  show SF p e below T621 m 4 o4 [(.ref zz)] _
  refine XS.ifnonnullYes X621.here hx rfl (pc0 := 4) (pc' := 15) rfl (hb hby d12_4) rfl (by decide) (by decide) ?_
  refine XS.aloadN X621.here hx rfl (hb hby d12_15) rfl rfl ?_
  refine XS.aloadN X621.here hx rfl (hb hby d12_16) rfl rfl ?_
  refine XS.iloadN X621.here hx rfl (hb hby d12_17) rfl ?_
  refine XS.iloadN X621.here hx rfl (hb hby d12_18) rfl ?_
  exact kk)
 have Zz624 : n0 ≤ h0.size := (Nat.le_trans Z0 KC0.1)
 obtain ⟨cq624, q624, q624'⟩ := E_ra0.cell
 obtain ⟨_, _, ⟨T624, L624, k624, n624⟩, -, X624, ⟨Lc624, hQ624, l624, y624, z624⟩, st624⟩ := X621.privateBack hx (y := M28_) hown (mvT hZ (w109 hw)) (mvT hZ (w110 hw)) (own_selpriv (y := M28_) (mvT hZ (w61 hw)) (Cond.privateMethod_at (mvP hZ (w111 hw) (args := #[]))) (mvT hZ (w110 hw)) (by decide)) (Cond.privateMethod_at (mvP hZ (w111 hw) (args := #[]))) (mvT hZ (w112 hw)) (by decide) (backOf (W := 0) (rm13 l Z a0 hw [] ra0 ra1 p2 p3 k_ra1 L_ra1 zz zba zae zab h0 n0 Zz624 (hk : ¬ p2 < 0 ∧ p2 < (3 : Int32)) (ht : p3 = p2 + (1 : Int32)) (hv : ¬ zae < (64 : Int32)) V_ra1 VL_ra1 zbv zde zel) hZ (w112 hw) (w62 hw) (by decide) (by decide)) (g := (mkF m 19 o4 [(.int p3), (.int p2), (.ref ra1), (.ref ra0)])) rfl (by rw [hml]; rfl) (Steps.refl _) (a := ra0) (by rw [e621]; exact q624) q624' (argsL := [(.ref ra1), (.int p2), (.int p3)]) (rest := []) (lenOf pd_5 rfl) rfl (Nat.le_of_eq rfl) (hb hby d12_19) (fun _ _ => ⟨rfl, e621, (by decide : 0 + 0 ≤ _), (by decide : 0 + 0 ≤ _)⟩)
 dsimp only [Pt.U, Pt.locs, Pt.cells, Pt.slots] at X624 l624 y624 z624 st624 hQ624
 subst l624 y624 z624
 obtain ⟨rfl, N624q, e624⟩ := hQ624
 have N624 := Fr.app N0 N624q
 have k625 := fun t (kk : SF p e below T624 m 22 o4 [(.int (v13_ret p2 L_ra1))] t) => k623 t (st624.trans kk)
 have k626 := fun t (kk : SF p e below T624 m 26 o2 [(.int (v13_ret p2 L_ra1))] t) => k625 t (by
  refine XS.istore X624.here hx rfl (hb hby d12_22) rfl (l' := o2) rfl ?_
  refine XS.iload X624.here hx rfl (hb hby d12_24) rfl ?_
  exact kk)
 have hc26_627 : ¬ ((v13_ret p2 L_ra1) < (0 : Int32)) := hd
 have k628 := fun t (kk : SF p e below T624 m 30 o2 [(.ref ra0)] t) => k626 t (by
  refine XS.ifNo X624.here hx rfl (hb hby d12_26) rfl ((if0 _ _).trans (flt hc26_627).1) ?_
  refine XS.aloadN X624.here hx rfl (hb hby d12_29) rfl rfl ?_
  exact kk)
 obtain ⟨T629, X629, e629, st629⟩ := getF X624 hx hZ hown (host := "") (Or.inl (w72 hw)) Via.refl e624 zbv (g := (mkF m 30 o2 [(.ref ra0)])) rfl rfl (hb hby d12_30)
 have k630 := fun t (kk : SF p e below T629 m 33 o2 [(.ref zz)] t) => k628 t (st629 _ kk)
 have k631 := fun t (kk : SF p e below T629 m 35 o2 [(.int (v13_ret p2 L_ra1)), (.ref zz)] t) => k630 t (by
  refine XS.iload X629.here hx rfl (hb hby d12_33) rfl ?_
  exact kk)
 have hV632 := zde
 obtain ⟨cl632, Ar632, q632, S632, Nn632, H632, G632⟩ := hV632
 have hb633 : ¬ (v13_ret p2 L_ra1) < 0 ∧ (v13_ret p2 L_ra1) < zae := own_dv hv hd h9
 have hin633 : ¬ ((v13_ret p2 L_ra1) < 0 ∨ cl632.slots.size ≤ ((v13_ret p2 L_ra1)).toNatClampNeg) := inb_of S632 hb633
 have hat633 : cl632.slots[((v13_ret p2 L_ra1)).toNatClampNeg]? = some (.int (dn12_35_at p2 L_ra1 zab)) := Has.at H632 hin633 (own_getD_int _ _ _)
 have st633 := X629.iaload hx (j := (v13_ret p2 L_ra1)) (v := (.int (dn12_35_at p2 L_ra1 zab))) (by rw [e629]; exact Ar632.1) (State.isArrayOf_alike hZ.alike Ar632.2.1) Ar632.2.2 hin633 hat633 (g := (mkF m 35 o2 [(.int (v13_ret p2 L_ra1)), (.ref zz)])) rfl rfl (hb hby d12_35)
 have k634 := fun t (kk : SF p e below T629 m 36 o2 [(.int (dn12_35_at p2 L_ra1 zab))] t) => k631 t (st633 _ kk)
 have k635 := fun t (kk : SF p e below T629 m 40 o3 [(.int (dn12_35_at p2 L_ra1 zab))] t) => k634 t (by
  refine XS.istore X629.here hx rfl (hb hby d12_36) rfl (l' := o3) rfl ?_
  show SF p e below T629 m 38 o3 [] _
  refine XS.iload X629.here hx rfl (hb hby d12_38) rfl ?_
  exact kk)
 have hc40_636 : (dn12_35_at p2 L_ra1 zab) = (0 : Int32) := hz
 have k637 := fun t (kk : SF p e below T629 m 52 o3 [(.int p3), (.int p2), (.ref ra1), (.ref ra0)] t) => k635 t (by
  refine XS.ifYes X629.here hx rfl (pc0 := 40) (pc' := 48) rfl (hb hby d12_40) rfl ((if0 _ _).trans (teq hc40_636).1) (by decide) (by decide) ?_
  refine XS.aloadN X629.here hx rfl (hb hby d12_48) rfl rfl ?_
  refine XS.aloadN X629.here hx rfl (hb hby d12_49) rfl rfl ?_
  refine XS.iloadN X629.here hx rfl (hb hby d12_50) rfl ?_
  refine XS.iloadN X629.here hx rfl (hb hby d12_51) rfl ?_
  exact kk)
 have Zz638 : n0 ≤ h0.size := (Nat.le_trans Z0 KC0.1)
 obtain ⟨cq638, q638, q638'⟩ := E_ra0.cell
 obtain ⟨_, _, ⟨T638, L638, k638, n638⟩, -, X638, ⟨Lc638, hQ638, l638, y638, z638⟩, st638⟩ := X629.privateBack hx (y := M27_) hown (mvT hZ (w120 hw)) (mvT hZ (w121 hw)) (own_selpriv (y := M27_) (mvT hZ (w61 hw)) (Cond.privateMethod_at (mvP hZ (w122 hw) (args := #[]))) (mvT hZ (w121 hw)) (by decide)) (Cond.privateMethod_at (mvP hZ (w122 hw) (args := #[]))) (mvT hZ (w123 hw)) (by decide) (backOf (W := 0) (rm15 l Z a0 hw [] ra0 ra1 p2 p3 za zu zay zac zq zv zbd zai zal k_ra1 L_ra1 (.ref zz) zm zby zcf zak zat h0 n0 Zz638 (hs : ¬ za < 0 ∧ za < zac) (hE : ¬ (v16_ret za zq) < 0 ∧ (v16_ret za zq) < (60 : Int32)) (hbb : ¬ zai < (64 : Int32)) (hk : ¬ p2 < 0 ∧ p2 < (3 : Int32)) (ht : p3 = p2 + (1 : Int32)) zcc zdq zcp zdn E_ra0 zdy zdb zea V_ra1 VL_ra1 zgl zda zgy g_ra0 zbv zcr zdr zdo zfe zeq) hZ (w123 hw) (w62 hw) (by decide) (by decide)) (g := (mkF m 52 o3 [(.int p3), (.int p2), (.ref ra1), (.ref ra0)])) rfl (by rw [hml]; rfl) (Steps.refl _) (a := ra0) (by rw [e629]; exact q638) q638' (argsL := [(.ref ra1), (.int p2), (.int p3)]) (rest := []) (lenOf pd_5 rfl) rfl (Nat.le_of_eq rfl) (hb hby d12_52) (fun _ _ => ⟨rfl, e629, (by decide : 0 + 0 ≤ _), (by decide : 0 + 0 ≤ _)⟩)
 dsimp only [Pt.U, Pt.locs, Pt.cells, Pt.slots] at X638 l638 y638 z638 st638 hQ638
 subst l638 y638 z638
 obtain ⟨rfl, N638q, Kq638, Eq638_0, Fq638_0, Fq638_1, Fq638_2, Fq638_3, Fq638_4, Fq638_5, Fq638_6, Fq638_7, Fq638_8, Vq638_0, VLq638_0, Vq638_1, VLq638_1⟩ := hQ638
 have K638 : Keep h0 T638.heap [ra0, zu, zv, zz] := KC0.trans Kq638 (allS (Or.inl (List.mem_of_getElem? (i := 2) rfl)) (allS (Or.inl (List.mem_of_getElem? (i := 1) rfl)) (allS (Or.inl (List.mem_of_getElem? (i := 0) rfl)) all0)))
 have N638 := Fr.app N624 N638q
 have k639 := fun t (kk : SF p e below T638 m 55 o3 [(.int za)] t) => k637 t (st638.trans kk)
 have k640 := fun t (kk : SF p e below T638 m 58 o1 [(.ref ra0)] t) => k639 t (by
  refine XS.istore X638.here hx rfl (hb hby d12_55) rfl (l' := o1) rfl ?_
  refine XS.aloadN X638.here hx rfl (hb hby d12_57) rfl rfl ?_
  exact kk)
 obtain ⟨T641, X641, e641, st641⟩ := getF X638 hx hZ hown (host := "") (Or.inl (w72 hw)) Via.refl rfl Fq638_2 (g := (mkF m 58 o1 [(.ref ra0)])) rfl rfl (hb hby d12_58)
 have k642 := fun t (kk : SF p e below T641 m 61 o1 [(.ref zz)] t) => k640 t (st641 _ kk)
 have k643 := fun t (kk : SF p e below T641 m 67 o1 [(.int (za + (1 : Int32))), (.int (v13_ret p2 L_ra1)), (.ref zz)] t) => k642 t (by
  refine XS.iload X641.here hx rfl (hb hby d12_61) rfl ?_
  refine XS.iload X641.here hx rfl (hb hby d12_63) rfl ?_
  refine XS.iconst X641.here hx rfl (hb hby d12_65) ?_
  refine XS.iadd X641.here hx rfl (hb hby d12_66) rfl ?_
  exact kk)
 have m644 : zz ≠ ra0 := Ne.symm (own_ne_oa E_ra0 (w61 hw) zde)
 have f645 := (zde.keep Kq638 (ninS ziw (ninS ziz (ninS m644 nin0))))
 have hV646 := f645
 obtain ⟨cl646, Ar646, q646, S646, Nn646, H646, G646⟩ := hV646
 have hb647 : ¬ (v13_ret p2 L_ra1) < 0 ∧ (v13_ret p2 L_ra1) < zae := own_dv hv hd h9
 have hin647 : ¬ ((v13_ret p2 L_ra1) < 0 ∨ cl646.slots.size ≤ ((v13_ret p2 L_ra1)).toNatClampNeg) := inb_of S646 hb647
 obtain ⟨T647, h647, X647, e647, W647, st647⟩ := stI X641 hx hZ e641 Ar646 (j := (v13_ret p2 L_ra1)) hin647 (g := (mkF m 67 o1 [(.int (za + (1 : Int32))), (.int (v13_ret p2 L_ra1)), (.ref zz)])) rfl rfl (hb hby d12_67)
 have hl647 : ((v13_ret p2 L_ra1)).toNatClampNeg < (List.map Value.int zab).length := by rw [List.length_map, zel]; exact own_lt_nat hb647.1 hb647.2
 have V647r : Arv Z h647 zz zba .int zae (List.map Value.int (zab.set ((v13_ret p2 L_ra1)).toNatClampNeg (za + (1 : Int32)))) (.int 0) := by rw [List.map_set]; exact Arv.set Ar646 q646 S646 Nn646 H646 G646 rfl W647 _ rfl hl647
 have V647 : Arv Z h647 zz zba .int zae (List.map Value.int (dn12_67_L p2 L_ra1 zab za)) (.int 0) := V647r
 have VL647 : (dn12_67_L p2 L_ra1 zab za).length = (zae).toNatClampNeg := (List.length_set).trans zel
 have K647 : Keep h0 h647 [ra0, zu, zv, zz] := K638.wr W647 (Or.inl (List.mem_of_getElem? (i := 3) rfl))
 have N647 := Fr.snoc X647 N638 zkp
 have k648 := fun t (kk : SF p e below T647 m 68 o1 [] t) => k643 t (st647 _ kk)
 have k649 := fun t (kk : SF p e below T647 m 70 o1 [(.int za)] t) => k648 t (by
  show SF p e below T647 m 68 o1 [] _
  refine XS.iload X647.here hx rfl (hb hby d12_68) rfl ?_
  exact kk)
 obtain ⟨fs, hr, hrun, hended, hW, hsame⟩ := X647.leave (v := some (.int za)) (fun h => by rw [Bd.returns] at h; cases h) hlk
 have f650 := (Eq638_0.wr W647)
 have m651 : ra0 ≠ zz := Ne.symm m644
 have f652 := (Fq638_0.other W647 (Or.inl m651))
 have f653 := (Fq638_1.other W647 (Or.inl m651))
 have f654 := (Fq638_2.other W647 (Or.inl m651))
 have f655 := (Fq638_3.other W647 (Or.inl m651))
 have f656 := (Fq638_4.other W647 (Or.inl m651))
 have f657 := (Fq638_5.other W647 (Or.inl m651))
 have f658 := (Fq638_6.other W647 (Or.inl m651))
 have f659 := (Fq638_7.other W647 (Or.inl m651))
 have f660 := (Fq638_8.other W647 (Or.inl m651))
 have m661 : zu ≠ zz := Ne.symm ziz
 have f662 := (Vq638_1.other W647 m661)
 have m663 : zv ≠ zz := Ne.symm ziw
 have f664 := (Vq638_0.other W647 m663)
 refine ⟨_, _, k649 _ ?_, hrun, hended, _, _, rfl, ?_, ⟨_, rfl⟩, hW, hsame.mono (by decide) (by decide)⟩
 ·show SF p e below T647 m 70 o1 [(.int za)] _
  exact retI X647 hx Bd.returns (hb hby d12_70) hr
 ·show Q12dn Z ra0 ra1 p2 p3 zz k_ra1 L_ra1 zba zae zab za zu zay zac zq zv zbd zai zal zm zby zcf zak zat h0 n0 _ T647.heap _
  rw [e647]
  exact ⟨rfl, N647, K647, f650, f652, f653, f654, f655, f656, f657, f658, f659, f660, f662, VLq638_1, f664, VLq638_0, V647, VL647⟩
theorem d12_43 : decode C16_ 43 = .ok (.iload 5, 2) := by decide +kernel
theorem d12_45 : decode C16_ 45 = .ok (.iconst 1, 1) := by decide +kernel
theorem d12_46 : decode C16_ 46 = .ok (.isub, 1) := by decide +kernel
theorem d12_47 : decode C16_ 47 = .ok (.ireturn, 1) := by decide +kernel
def do12_35_at (p2 : Int32) (L_ra1 zab : List Int32) : Int32 := (zab.getD ((v13_ret p2 L_ra1)).toNatClampNeg (0 : Int32))
def Q12do (Z : State) (ra0 ra1 : Addr) (p2 p3 : Int32) (zz : Addr) (k_ra1 : ClassId) (L_ra1 : List Int32) (zba : ClassId) (zae : Int32) (zab : List Int32) (h0 : Heap) (n0 : Nat) (v : Option Value) (h : Heap) (L : List Loc) : Prop := (v = some (.int ((do12_35_at p2 L_ra1 zab) - (1 : Int32))) ∧ Fr n0 L ∧ h = h0)
set_option maxRecDepth 65536 in
set_option maxHeartbeats 40000000 in
theorem rm12do (l : Launch) (Z : State) (a0 : Array Value) (hw : HW Z a0) (ws : List Jvm.Cond) (ra0 ra1 : Addr) (p2 p3 : Int32) (zz : Addr) (k_ra1 : ClassId) (L_ra1 : List Int32) (zba : ClassId) (zae : Int32) (zab : List Int32) (h0 : Heap) (n0 : Nat) (Z0 : n0 ≤ h0.size) (hk : ¬ p2 < 0 ∧ p2 < (3 : Int32)) (ht : p3 = p2 + (1 : Int32)) (hv : ¬ zae < (64 : Int32)) (hd : ¬ ((v13_ret p2 L_ra1) < (0 : Int32))) (h9 : (v13_ret p2 L_ra1) < (10 : Int32)) (hz : ¬ ((zab.getD ((v13_ret p2 L_ra1)).toNatClampNeg (0 : Int32)) = (0 : Int32))) (zbv : Fld Z h0 ra0 cBs "byValue" "[I" (.ref zz)) (V_ra1 : Arv Z h0 ra1 k_ra1 .byte (3 : Int32) (List.map Value.int L_ra1) (.int 0)) (VL_ra1 : L_ra1.length = ((3 : Int32)).toNatClampNeg) (zde : Arv Z h0 zz zba .int zae (List.map Value.int zab) (.int 0)) (zel : zab.length = zae.toNatClampNeg) (E_ra0 : Exa Z h0 ra0 cBs) :
  MetFree l M32_ (head1 (Jvm.Cond.code M32_ prog_10_method_2_code 11 (some .int) :: ws) R11_) (fun a U => a = #[(.ref ra0), (.ref ra1), (.int p2), (.int p3)] ∧ Z.Warmed39 U.vm ∧ U.heap = h0) (fun _ _ _ _ _ => True) (fun _ U o U' => ∃ v L, o = .returned v ∧ Q12do Z ra0 ra1 p2 p3 zz k_ra1 L_ra1 zba zae zab h0 n0 v U'.heap L ∧ FrameEnd U o U' L R11_.cells R11_.slots) := by
 refine MetFree.of_bodySF (plainFor_of_name pn_167) hisR ?_
 intro p e s m args below meth c s₁ Bd hml0 hP hK
 obtain ⟨rfl, hZ, hh⟩ := hP
 have hx := Bd.exec
 have hlk : meth.locks = false := by first | exact BodyLoose.notSynchronized Bd | exact Body.notSynchronized Bd
 have hby := Bd.bytes
 have hml : c.maxLocals = 11 := hml0
 have hown : s.vm.findClass cBs = some m.cls := findClass_of_methodNamed Bd.named
 have hnm := (name_of_methodNamed Bd.named Bd.method).1
 have X0 : Stand p l e R11_ s m #[(.ref ra0), (.ref ra1), (.int p2), (.int p3)] below meth c s₁ [] 0 0 := Stand.of_body Bd
 have e0 : s₁.heap = h0 := by rw [← hh, Bd.state]; rfl
 have N0 := Fr.nil n0
 have KC0 := Keep.refl h0 ([] : List Addr)
 let o1 : Array Slot := #[rv ra0, rv ra1, iv p2, iv p3, iv (v13_ret p2 L_ra1), .unset, .unset, .unset, .unset, .unset, .unset]
 let o2 : Array Slot := #[rv ra0, rv ra1, iv p2, iv p3, .unset, .unset, .unset, .unset, .unset, .unset, .unset]
 let o3 : Array Slot := #[rv ra0, rv ra1, iv p2, iv p3, iv (v13_ret p2 L_ra1), iv (do12_35_at p2 L_ra1 zab), .unset, .unset, .unset, .unset, .unset]
 have pre0 : ∀ t, SF p e below s₁ m 0 o2 [] t → Steps p.tables e below (s₁.setTop (entryFrame m #[(.ref ra0), (.ref ra1), (.int p2), (.int p3)] 11)) t := fun t k => castTop (ef_rm12m m ra0 ra1 p2 p3) k
 have k665 := fun t (kk : SF p e below s₁ m 1 o2 [(.ref ra0)] t) => pre0 t (by
  refine XS.aloadN X0.here hx rfl (hb hby d12_0) rfl rfl ?_
  exact kk)
 obtain ⟨T666, X666, e666, st666⟩ := getF X0 hx hZ hown (host := "") (Or.inl (w72 hw)) Via.refl e0 zbv (g := (mkF m 1 o2 [(.ref ra0)])) rfl rfl (hb hby d12_1)
 have k667 := fun t (kk : SF p e below T666 m 4 o2 [(.ref zz)] t) => k665 t (st666 _ kk)
 have k668 := fun t (kk : SF p e below T666 m 19 o2 [(.int p3), (.int p2), (.ref ra1), (.ref ra0)] t) => k667 t (by
  show SF p e below T666 m 4 o2 [(.ref zz)] _
  refine XS.ifnonnullYes X666.here hx rfl (pc0 := 4) (pc' := 15) rfl (hb hby d12_4) rfl (by decide) (by decide) ?_
  refine XS.aloadN X666.here hx rfl (hb hby d12_15) rfl rfl ?_
  refine XS.aloadN X666.here hx rfl (hb hby d12_16) rfl rfl ?_
  refine XS.iloadN X666.here hx rfl (hb hby d12_17) rfl ?_
  refine XS.iloadN X666.here hx rfl (hb hby d12_18) rfl ?_
  exact kk)
 have Zz669 : n0 ≤ h0.size := (Nat.le_trans Z0 KC0.1)
 obtain ⟨cq669, q669, q669'⟩ := E_ra0.cell
 obtain ⟨_, _, ⟨T669, L669, k669, n669⟩, -, X669, ⟨Lc669, hQ669, l669, y669, z669⟩, st669⟩ := X666.privateBack hx (y := M28_) hown (mvT hZ (w109 hw)) (mvT hZ (w110 hw)) (own_selpriv (y := M28_) (mvT hZ (w61 hw)) (Cond.privateMethod_at (mvP hZ (w111 hw) (args := #[]))) (mvT hZ (w110 hw)) (by decide)) (Cond.privateMethod_at (mvP hZ (w111 hw) (args := #[]))) (mvT hZ (w112 hw)) (by decide) (backOf (W := 0) (rm13 l Z a0 hw [] ra0 ra1 p2 p3 k_ra1 L_ra1 zz zba zae zab h0 n0 Zz669 (hk : ¬ p2 < 0 ∧ p2 < (3 : Int32)) (ht : p3 = p2 + (1 : Int32)) (hv : ¬ zae < (64 : Int32)) V_ra1 VL_ra1 zbv zde zel) hZ (w112 hw) (w62 hw) (by decide) (by decide)) (g := (mkF m 19 o2 [(.int p3), (.int p2), (.ref ra1), (.ref ra0)])) rfl (by rw [hml]; rfl) (Steps.refl _) (a := ra0) (by rw [e666]; exact q669) q669' (argsL := [(.ref ra1), (.int p2), (.int p3)]) (rest := []) (lenOf pd_5 rfl) rfl (Nat.le_of_eq rfl) (hb hby d12_19) (fun _ _ => ⟨rfl, e666, (by decide : 0 + 0 ≤ _), (by decide : 0 + 0 ≤ _)⟩)
 dsimp only [Pt.U, Pt.locs, Pt.cells, Pt.slots] at X669 l669 y669 z669 st669 hQ669
 subst l669 y669 z669
 obtain ⟨rfl, N669q, e669⟩ := hQ669
 have N669 := Fr.app N0 N669q
 have k670 := fun t (kk : SF p e below T669 m 22 o2 [(.int (v13_ret p2 L_ra1))] t) => k668 t (st669.trans kk)
 have k671 := fun t (kk : SF p e below T669 m 26 o1 [(.int (v13_ret p2 L_ra1))] t) => k670 t (by
  refine XS.istore X669.here hx rfl (hb hby d12_22) rfl (l' := o1) rfl ?_
  refine XS.iload X669.here hx rfl (hb hby d12_24) rfl ?_
  exact kk)
 have hc26_672 : ¬ ((v13_ret p2 L_ra1) < (0 : Int32)) := hd
 have k673 := fun t (kk : SF p e below T669 m 30 o1 [(.ref ra0)] t) => k671 t (by
  show SF p e below T669 m 26 o1 [(.int (v13_ret p2 L_ra1))] _
  refine XS.ifNo X669.here hx rfl (hb hby d12_26) rfl ((if0 _ _).trans (flt hc26_672).1) ?_
  refine XS.aloadN X669.here hx rfl (hb hby d12_29) rfl rfl ?_
  exact kk)
 obtain ⟨T674, X674, e674, st674⟩ := getF X669 hx hZ hown (host := "") (Or.inl (w72 hw)) Via.refl e669 zbv (g := (mkF m 30 o1 [(.ref ra0)])) rfl rfl (hb hby d12_30)
 have k675 := fun t (kk : SF p e below T674 m 33 o1 [(.ref zz)] t) => k673 t (st674 _ kk)
 have k676 := fun t (kk : SF p e below T674 m 35 o1 [(.int (v13_ret p2 L_ra1)), (.ref zz)] t) => k675 t (by
  refine XS.iload X674.here hx rfl (hb hby d12_33) rfl ?_
  exact kk)
 have hV677 := zde
 obtain ⟨cl677, Ar677, q677, S677, Nn677, H677, G677⟩ := hV677
 have hb678 : ¬ (v13_ret p2 L_ra1) < 0 ∧ (v13_ret p2 L_ra1) < zae := own_dv hv hd h9
 have hin678 : ¬ ((v13_ret p2 L_ra1) < 0 ∨ cl677.slots.size ≤ ((v13_ret p2 L_ra1)).toNatClampNeg) := inb_of S677 hb678
 have hat678 : cl677.slots[((v13_ret p2 L_ra1)).toNatClampNeg]? = some (.int (do12_35_at p2 L_ra1 zab)) := Has.at H677 hin678 (own_getD_int _ _ _)
 have st678 := X674.iaload hx (j := (v13_ret p2 L_ra1)) (v := (.int (do12_35_at p2 L_ra1 zab))) (by rw [e674]; exact Ar677.1) (State.isArrayOf_alike hZ.alike Ar677.2.1) Ar677.2.2 hin678 hat678 (g := (mkF m 35 o1 [(.int (v13_ret p2 L_ra1)), (.ref zz)])) rfl rfl (hb hby d12_35)
 have k679 := fun t (kk : SF p e below T674 m 36 o1 [(.int (do12_35_at p2 L_ra1 zab))] t) => k676 t (st678 _ kk)
 have k680 := fun t (kk : SF p e below T674 m 40 o3 [(.int (do12_35_at p2 L_ra1 zab))] t) => k679 t (by
  refine XS.istore X674.here hx rfl (hb hby d12_36) rfl (l' := o3) rfl ?_
  refine XS.iload X674.here hx rfl (hb hby d12_38) rfl ?_
  exact kk)
 have hc40_681 : ¬ ((do12_35_at p2 L_ra1 zab) = (0 : Int32)) := hz
 have k682 := fun t (kk : SF p e below T674 m 47 o3 [(.int ((do12_35_at p2 L_ra1 zab) - (1 : Int32)))] t) => k680 t (by
  refine XS.ifNo X674.here hx rfl (hb hby d12_40) rfl ((if0 _ _).trans (feq hc40_681).1) ?_
  refine XS.iload X674.here hx rfl (hb hby d12_43) rfl ?_
  refine XS.iconst X674.here hx rfl (hb hby d12_45) ?_
  refine XS.isub X674.here hx rfl (hb hby d12_46) rfl ?_
  exact kk)
 obtain ⟨fs, hr, hrun, hended, hW, hsame⟩ := X674.leave (v := some (.int ((do12_35_at p2 L_ra1 zab) - (1 : Int32)))) (fun h => by rw [Bd.returns] at h; cases h) hlk
 refine ⟨_, _, k682 _ ?_, hrun, hended, _, _, rfl, ?_, ⟨_, rfl⟩, hW, hsame.mono (by decide) (by decide)⟩
 ·show SF p e below T674 m 47 o3 [(.int ((do12_35_at p2 L_ra1 zab) - (1 : Int32)))] _
  exact retI X674 hx Bd.returns (hb hby d12_47) hr
 ·show Q12do Z ra0 ra1 p2 p3 zz k_ra1 L_ra1 zba zae zab h0 n0 _ T674.heap _
  rw [e674]
  exact ⟨rfl, N669, rfl⟩
theorem d12_71 : decode C16_ 71 = .ok (.aload_n 0, 1) := by decide +kernel
theorem d12_72 : decode C16_ 72 = .ok (.getfield 43, 3) := by decide +kernel
theorem d12_75 : decode C16_ 75 = .ok (.ifnull 60, 3) := by decide +kernel
theorem d12_135 : decode C16_ 135 = .ok (.aload_n 0, 1) := by decide +kernel
theorem d12_136 : decode C16_ 136 = .ok (.getfield 75, 3) := by decide +kernel
theorem d12_139 : decode C16_ 139 = .ok (.ifnonnull 13, 3) := by decide +kernel
theorem d12_142 : decode C16_ 142 = .ok (.aload_n 0, 1) := by decide +kernel
theorem d12_143 : decode C16_ 143 = .ok (.aload_n 0, 1) := by decide +kernel
theorem d12_144 : decode C16_ 144 = .ok (.getfield 32, 3) := by decide +kernel
theorem d12_147 : decode C16_ 147 = .ok (.newarray .long, 2) := by decide +kernel
theorem d12_149 : decode C16_ 149 = .ok (.putfield 75, 3) := by decide +kernel
theorem d12_152 : decode C16_ 152 = .ok (.iconst 1, 1) := by decide +kernel
theorem d12_153 : decode C16_ 153 = .ok (.istore 5, 2) := by decide +kernel
theorem d12_155 : decode C16_ 155 = .ok (.iload_n 2, 1) := by decide +kernel
theorem d12_156 : decode C16_ 156 = .ok (.istore 6, 2) := by decide +kernel
theorem d12_158 : decode C16_ 158 = .ok (.iload 6, 2) := by decide +kernel
theorem d12_160 : decode C16_ 160 = .ok (.iload_n 3, 1) := by decide +kernel
theorem d12_161 : decode C16_ 161 = .ok (.if_icmp .ge 21, 3) := by decide +kernel
theorem d12_164 : decode C16_ 164 = .ok (.bipush 31, 2) := by decide +kernel
theorem d12_166 : decode C16_ 166 = .ok (.iload 5, 2) := by decide +kernel
theorem d12_168 : decode C16_ 168 = .ok (.imul, 1) := by decide +kernel
theorem d12_169 : decode C16_ 169 = .ok (.aload_n 1, 1) := by decide +kernel
theorem d12_170 : decode C16_ 170 = .ok (.iload 6, 2) := by decide +kernel
theorem d12_172 : decode C16_ 172 = .ok (.baload, 1) := by decide +kernel
theorem d12_173 : decode C16_ 173 = .ok (.iadd, 1) := by decide +kernel
theorem d12_174 : decode C16_ 174 = .ok (.istore 5, 2) := by decide +kernel
theorem d12_176 : decode C16_ 176 = .ok (.iinc 6 1, 3) := by decide +kernel
theorem d12_179 : decode C16_ 179 = .ok (.goto (-21), 3) := by decide +kernel
theorem d12_182 : decode C16_ 182 = .ok (.aload_n 0, 1) := by decide +kernel
theorem d12_183 : decode C16_ 183 = .ok (.getfield 75, 3) := by decide +kernel
theorem d12_186 : decode C16_ 186 = .ok (.arraylength, 1) := by decide +kernel
theorem d12_187 : decode C16_ 187 = .ok (.iconst 1, 1) := by decide +kernel
theorem d12_188 : decode C16_ 188 = .ok (.isub, 1) := by decide +kernel
theorem d12_189 : decode C16_ 189 = .ok (.istore 6, 2) := by decide +kernel
theorem d12_191 : decode C16_ 191 = .ok (.iload 5, 2) := by decide +kernel
theorem d12_193 : decode C16_ 193 = .ok (.invokestatic 79, 3) := by decide +kernel
theorem d12_196 : decode C16_ 196 = .ok (.iload 6, 2) := by decide +kernel
theorem d12_198 : decode C16_ 198 = .ok (.iand, 1) := by decide +kernel
theorem d12_199 : decode C16_ 199 = .ok (.istore 7, 2) := by decide +kernel
theorem d12_201 : decode C16_ 201 = .ok (.aload_n 0, 1) := by decide +kernel
theorem d12_202 : decode C16_ 202 = .ok (.getfield 75, 3) := by decide +kernel
theorem d12_205 : decode C16_ 205 = .ok (.iload 7, 2) := by decide +kernel
theorem d12_207 : decode C16_ 207 = .ok (.laload, 1) := by decide +kernel
theorem d12_208 : decode C16_ 208 = .ok (.lstore 8, 2) := by decide +kernel
theorem d12_210 : decode C16_ 210 = .ok (.lload 8, 2) := by decide +kernel
theorem d12_212 : decode C16_ 212 = .ok (.lconst 0, 1) := by decide +kernel
theorem d12_213 : decode C16_ 213 = .ok (.lcmp, 1) := by decide +kernel
theorem d12_214 : decode C16_ 214 = .ok (.ifCond .eq 97, 3) := by decide +kernel
theorem d12_311 : decode C16_ 311 = .ok (.aload_n 0, 1) := by decide +kernel
theorem d12_312 : decode C16_ 312 = .ok (.aload_n 1, 1) := by decide +kernel
theorem d12_313 : decode C16_ 313 = .ok (.iload_n 2, 1) := by decide +kernel
theorem d12_314 : decode C16_ 314 = .ok (.iload_n 3, 1) := by decide +kernel
theorem d12_315 : decode C16_ 315 = .ok (.invokevirtual 36, 3) := by decide +kernel
theorem d12_318 : decode C16_ 318 = .ok (.pop, 1) := by decide +kernel
theorem d12_319 : decode C16_ 319 = .ok (.aload_n 0, 1) := by decide +kernel
theorem d12_320 : decode C16_ 320 = .ok (.getfield 75, 3) := by decide +kernel
theorem d12_323 : decode C16_ 323 = .ok (.iload 7, 2) := by decide +kernel
theorem d12_325 : decode C16_ 325 = .ok (.iload 5, 2) := by decide +kernel
theorem d12_327 : decode C16_ 327 = .ok (.i2l, 1) := by decide +kernel
theorem d12_328 : decode C16_ 328 = .ok (.bipush 32, 2) := by decide +kernel
theorem d12_330 : decode C16_ 330 = .ok (.lshl, 1) := by decide +kernel
theorem d12_331 : decode C16_ 331 = .ok (.aload_n 0, 1) := by decide +kernel
theorem d12_332 : decode C16_ 332 = .ok (.getfield 58, 3) := by decide +kernel
theorem d12_335 : decode C16_ 335 = .ok (.i2l, 1) := by decide +kernel
theorem d12_336 : decode C16_ 336 = .ok (.lor, 1) := by decide +kernel
theorem d12_337 : decode C16_ 337 = .ok (.lastore, 1) := by decide +kernel
theorem d12_338 : decode C16_ 338 = .ok (.aload_n 0, 1) := by decide +kernel
theorem d12_339 : decode C16_ 339 = .ok (.dup, 1) := by decide +kernel
theorem d12_340 : decode C16_ 340 = .ok (.getfield 92, 3) := by decide +kernel
theorem d12_343 : decode C16_ 343 = .ok (.iconst 1, 1) := by decide +kernel
theorem d12_344 : decode C16_ 344 = .ok (.iadd, 1) := by decide +kernel
theorem d12_345 : decode C16_ 345 = .ok (.putfield 92, 3) := by decide +kernel
theorem d12_348 : decode C16_ 348 = .ok (.iconst 2, 1) := by decide +kernel
theorem d12_349 : decode C16_ 349 = .ok (.aload_n 0, 1) := by decide +kernel
theorem d12_350 : decode C16_ 350 = .ok (.getfield 92, 3) := by decide +kernel
theorem d12_353 : decode C16_ 353 = .ok (.imul, 1) := by decide +kernel
theorem d12_354 : decode C16_ 354 = .ok (.aload_n 0, 1) := by decide +kernel
theorem d12_355 : decode C16_ 355 = .ok (.getfield 75, 3) := by decide +kernel
theorem d12_358 : decode C16_ 358 = .ok (.arraylength, 1) := by decide +kernel
theorem d12_359 : decode C16_ 359 = .ok (.if_icmp .le 7, 3) := by decide +kernel
theorem d12_366 : decode C16_ 366 = .ok (.aload_n 0, 1) := by decide +kernel
theorem d12_367 : decode C16_ 367 = .ok (.getfield 58, 3) := by decide +kernel
theorem d12_370 : decode C16_ 370 = .ok (.iconst 1, 1) := by decide +kernel
theorem d12_371 : decode C16_ 371 = .ok (.isub, 1) := by decide +kernel
theorem d12_372 : decode C16_ 372 = .ok (.ireturn, 1) := by decide +kernel
def hf12_172_at (p2 : Int32) (L_ra1 : List Int32) : Int32 := (L_ra1.getD (p2).toNatClampNeg (0 : Int32))
def hf12_174_l5 (p2 : Int32) (L_ra1 : List Int32) : Int32 := (((31 : Int32) * (1 : Int32)) + (hf12_172_at p2 L_ra1))
def hf12_189_l6 (zm : Int32) : Int32 := (zm - (1 : Int32))
def hf12_199_l7 (p2 : Int32) (L_ra1 : List Int32) (zm : Int32) : Int32 := ((v14_ret (hf12_174_l5 p2 L_ra1)) &&& (hf12_189_l6 zm))
def hf12_207_at (p2 : Int32) (L_ra1 : List Int32) (zm : Int32) : Int64 := ((List.replicate (zm).toNatClampNeg (0 : Int64)).getD ((hf12_199_l7 p2 L_ra1 zm)).toNatClampNeg (0 : Int64))
def hf12_337_L (p2 : Int32) (L_ra1 : List Int32) (zm za : Int32) : List Int64 := ((List.replicate (zm).toNatClampNeg (0 : Int64)).set ((hf12_199_l7 p2 L_ra1 zm)).toNatClampNeg ((((hf12_174_l5 p2 L_ra1).toInt64) <<< ((32 : Int32) &&& 0x3f).toInt64) ||| ((za + (1 : Int32)).toInt64)))
def Q12hf (Z : State) (ra0 ra1 : Addr) (p2 p3 : Int32) (zz : Addr) (k_ra1 : ClassId) (L_ra1 : List Int32) (zba : ClassId) (zae : Int32) (zab : List Int32) (zm za : Int32) (zu : Addr) (zay : ClassId) (zac : Int32) (zq : List Int32) (zv : Addr) (zbd : ClassId) (zai : Int32) (zal : List Int32) (zak : Int32) (zat : Int64) (h0 : Heap) (n0 : Nat) (v : Option Value) (h : Heap) (L : List Loc) : Prop := (∃ (xs : Addr) (k_xs : ClassId), v = some (.int ((za + (1 : Int32)) - (1 : Int32))) ∧ Fr n0 L ∧ Keep h0 h [ra0, zu, zv] ∧ Exa Z h ra0 cBs ∧ Fld Z h ra0 cBs "bytes" "[B" (.ref zv) ∧ Fld Z h ra0 cBs "ends" "[I" (.ref zu) ∧ Fld Z h ra0 cBs "byValue" "[I" (.ref zz) ∧ Fld Z h ra0 cBs "expectedSlots" "I" (.int zm) ∧ Fld Z h ra0 cBs "crowded" "Ljava/util/Map;" .null ∧ Fld Z h ra0 cBs "slots" "[J" (.ref xs) ∧ Fld Z h ra0 cBs "size" "I" (.int (za + (1 : Int32))) ∧ Fld Z h ra0 cBs "hashed" "I" (.int (zak + (1 : Int32))) ∧ Fld Z h ra0 cBs "probes" "J" (.long zat) ∧ Arv Z h zu zay .int zac (List.map Value.int (v15_131_L p2 p3 za zq)) (.int 0) ∧ (v15_131_L p2 p3 za zq).length = (zac).toNatClampNeg ∧ Arv Z h zv zbd .byte zai (List.map Value.int (v15_112_L p2 za zq zal L_ra1)) (.int 0) ∧ (v15_112_L p2 za zq zal L_ra1).length = (zai).toNatClampNeg ∧ h0.size ≤ xs ∧ Arv Z h xs k_xs .long zm (List.map Value.long (hf12_337_L p2 L_ra1 zm za)) (.long (0 : Int64)) ∧ (hf12_337_L p2 L_ra1 zm za).length = (zm).toNatClampNeg)
set_option maxRecDepth 65536 in
set_option maxHeartbeats 40000000 in
theorem rm12hf (l : Launch) (Z : State) (a0 : Array Value) (hw : HW Z a0) (ws : List Jvm.Cond) (ra0 ra1 : Addr) (p2 p3 : Int32) (zz : Addr) (k_ra1 : ClassId) (L_ra1 : List Int32) (zba : ClassId) (zae : Int32) (zab : List Int32) (zm za : Int32) (zu : Addr) (zay : ClassId) (zac : Int32) (zq : List Int32) (zv : Addr) (zbd : ClassId) (zai : Int32) (zal : List Int32) (zak : Int32) (zat : Int64) (h0 : Heap) (n0 : Nat) (Z0 : n0 ≤ h0.size) (hs : ¬ za < 0 ∧ za < zac) (hE : ¬ (v16_ret za zq) < 0 ∧ (v16_ret za zq) < (60 : Int32)) (hbb : ¬ zai < (64 : Int32)) (hk : ¬ p2 < 0 ∧ p2 < (3 : Int32)) (ht : p3 = p2 + (1 : Int32)) (hneg : (v13_ret p2 L_ra1) < (0 : Int32)) (hv : ¬ zae < (64 : Int32)) (hxx : ¬ zm < (128 : Int32) ∧ zm < (513 : Int32)) (hha : zak = (0 : Int32)) (zbv : Fld Z h0 ra0 cBs "byValue" "[I" (.ref zz)) (V_ra1 : Arv Z h0 ra1 k_ra1 .byte (3 : Int32) (List.map Value.int L_ra1) (.int 0)) (VL_ra1 : L_ra1.length = ((3 : Int32)).toNatClampNeg) (zde : Arv Z h0 zz zba .int zae (List.map Value.int zab) (.int 0)) (zel : zab.length = zae.toNatClampNeg) (E_ra0 : Exa Z h0 ra0 cBs) (zdr : Fld Z h0 ra0 cBs "crowded" "Ljava/util/Map;" .null) (zdo : Fld Z h0 ra0 cBs "slots" "[J" .null) (zcr : Fld Z h0 ra0 cBs "expectedSlots" "I" (.int zm)) (g_ra0 : n0 ≤ ra0) (zcc : Fld Z h0 ra0 cBs "size" "I" (.int za)) (zdq : Fld Z h0 ra0 cBs "ends" "[I" (.ref zu)) (zcp : Arv Z h0 zu zay .int zac (List.map Value.int zq) (.int 0)) (zdn : zq.length = zac.toNatClampNeg) (zdy : Fld Z h0 ra0 cBs "bytes" "[B" (.ref zv)) (zdb : Arv Z h0 zv zbd .byte zai (List.map Value.int zal) (.int 0)) (zea : zal.length = zai.toNatClampNeg) (zfe : Fld Z h0 ra0 cBs "hashed" "I" (.int zak)) (zeq : Fld Z h0 ra0 cBs "probes" "J" (.long zat)) (zgl : n0 ≤ zv) (zda : zv ≠ zu) (zgy : n0 ≤ zu) :
  MetFree l M32_ (head1 (Jvm.Cond.code M32_ prog_10_method_2_code 11 (some .int) :: ws) R12_) (fun a U => a = #[(.ref ra0), (.ref ra1), (.int p2), (.int p3)] ∧ Z.Warmed39 U.vm ∧ U.heap = h0) (fun _ _ _ _ _ => True) (fun _ U o U' => ∃ v L, o = .returned v ∧ Q12hf Z ra0 ra1 p2 p3 zz k_ra1 L_ra1 zba zae zab zm za zu zay zac zq zv zbd zai zal zak zat h0 n0 v U'.heap L ∧ FrameEnd U o U' L R12_.cells R12_.slots) := by
 refine MetFree.of_bodySF (plainFor_of_name pn_167) hisR ?_
 intro p e s m args below meth c s₁ Bd hml0 hP hK
 obtain ⟨rfl, hZ, hh⟩ := hP
 have hx := Bd.exec
 have hlk : meth.locks = false := by first | exact BodyLoose.notSynchronized Bd | exact Body.notSynchronized Bd
 have hby := Bd.bytes
 have hml : c.maxLocals = 11 := hml0
 have hown : s.vm.findClass cBs = some m.cls := findClass_of_methodNamed Bd.named
 have hnm := (name_of_methodNamed Bd.named Bd.method).1
 have X0 : Stand p l e R12_ s m #[(.ref ra0), (.ref ra1), (.int p2), (.int p3)] below meth c s₁ [] 0 0 := Stand.of_body Bd
 have e0 : s₁.heap = h0 := by rw [← hh, Bd.state]; rfl
 have N0 := Fr.nil n0
 have KC0 := Keep.refl h0 [ra0, zu, zv]
 let o1 : Array Slot := #[rv ra0, rv ra1, iv p2, iv p3, iv (v13_ret p2 L_ra1), iv (hf12_174_l5 p2 L_ra1), iv (hf12_189_l6 zm), iv (hf12_199_l7 p2 L_ra1 zm), .val (.long (hf12_207_at p2 L_ra1 zm)), .second, .unset]
 let o2 : Array Slot := #[rv ra0, rv ra1, iv p2, iv p3, iv (v13_ret p2 L_ra1), .unset, .unset, .unset, .unset, .unset, .unset]
 let o3 : Array Slot := #[rv ra0, rv ra1, iv p2, iv p3, iv (v13_ret p2 L_ra1), iv (hf12_174_l5 p2 L_ra1), iv (hf12_189_l6 zm), iv (hf12_199_l7 p2 L_ra1 zm), .unset, .unset, .unset]
 let o4 : Array Slot := #[rv ra0, rv ra1, iv p2, iv p3, iv (v13_ret p2 L_ra1), iv (hf12_174_l5 p2 L_ra1), iv (p2 + (1 : Int32)), .unset, .unset, .unset, .unset]
 let o5 : Array Slot := #[rv ra0, rv ra1, iv p2, iv p3, iv (v13_ret p2 L_ra1), iv (hf12_174_l5 p2 L_ra1), iv (hf12_189_l6 zm), .unset, .unset, .unset, .unset]
 let o6 : Array Slot := #[rv ra0, rv ra1, iv p2, iv p3, .unset, .unset, .unset, .unset, .unset, .unset, .unset]
 let o7 : Array Slot := #[rv ra0, rv ra1, iv p2, iv p3, iv (v13_ret p2 L_ra1), iv 1, iv p2, .unset, .unset, .unset, .unset]
 have pre0 : ∀ t, SF p e below s₁ m 0 o6 [] t → Steps p.tables e below (s₁.setTop (entryFrame m #[(.ref ra0), (.ref ra1), (.int p2), (.int p3)] 11)) t := fun t k => castTop (ef_rm12m m ra0 ra1 p2 p3) k
 have k683 := fun t (kk : SF p e below s₁ m 1 o6 [(.ref ra0)] t) => pre0 t (by
  refine XS.aloadN X0.here hx rfl (hb hby d12_0) rfl rfl ?_
  exact kk)
 obtain ⟨T684, X684, e684, st684⟩ := getF X0 hx hZ hown (host := "") (Or.inl (w72 hw)) Via.refl e0 zbv (g := (mkF m 1 o6 [(.ref ra0)])) rfl rfl (hb hby d12_1)
 have k685 := fun t (kk : SF p e below T684 m 4 o6 [(.ref zz)] t) => k683 t (st684 _ kk)
 have k686 := fun t (kk : SF p e below T684 m 19 o6 [(.int p3), (.int p2), (.ref ra1), (.ref ra0)] t) => k685 t (by
  show SF p e below T684 m 4 o6 [(.ref zz)] _
  refine XS.ifnonnullYes X684.here hx rfl (pc0 := 4) (pc' := 15) rfl (hb hby d12_4) rfl (by decide) (by decide) ?_
  refine XS.aloadN X684.here hx rfl (hb hby d12_15) rfl rfl ?_
  refine XS.aloadN X684.here hx rfl (hb hby d12_16) rfl rfl ?_
  refine XS.iloadN X684.here hx rfl (hb hby d12_17) rfl ?_
  refine XS.iloadN X684.here hx rfl (hb hby d12_18) rfl ?_
  exact kk)
 have Zz687 : n0 ≤ h0.size := (Nat.le_trans Z0 KC0.1)
 obtain ⟨cq687, q687, q687'⟩ := E_ra0.cell
 obtain ⟨_, _, ⟨T687, L687, k687, n687⟩, -, X687, ⟨Lc687, hQ687, l687, y687, z687⟩, st687⟩ := X684.privateBack hx (y := M28_) hown (mvT hZ (w109 hw)) (mvT hZ (w110 hw)) (own_selpriv (y := M28_) (mvT hZ (w61 hw)) (Cond.privateMethod_at (mvP hZ (w111 hw) (args := #[]))) (mvT hZ (w110 hw)) (by decide)) (Cond.privateMethod_at (mvP hZ (w111 hw) (args := #[]))) (mvT hZ (w112 hw)) (by decide) (backOf (W := 0) (rm13 l Z a0 hw [] ra0 ra1 p2 p3 k_ra1 L_ra1 zz zba zae zab h0 n0 Zz687 (hk : ¬ p2 < 0 ∧ p2 < (3 : Int32)) (ht : p3 = p2 + (1 : Int32)) (hv : ¬ zae < (64 : Int32)) V_ra1 VL_ra1 zbv zde zel) hZ (w112 hw) (w62 hw) (by decide) (by decide)) (g := (mkF m 19 o6 [(.int p3), (.int p2), (.ref ra1), (.ref ra0)])) rfl (by rw [hml]; rfl) (Steps.refl _) (a := ra0) (by rw [e684]; exact q687) q687' (argsL := [(.ref ra1), (.int p2), (.int p3)]) (rest := []) (lenOf pd_5 rfl) rfl (Nat.le_of_eq rfl) (hb hby d12_19) (fun _ _ => ⟨rfl, e684, (by decide : 0 + 0 ≤ _), (by decide : 0 + 0 ≤ _)⟩)
 dsimp only [Pt.U, Pt.locs, Pt.cells, Pt.slots] at X687 l687 y687 z687 st687 hQ687
 subst l687 y687 z687
 obtain ⟨rfl, N687q, e687⟩ := hQ687
 have N687 := Fr.app N0 N687q
 have k688 := fun t (kk : SF p e below T687 m 22 o6 [(.int (v13_ret p2 L_ra1))] t) => k686 t (st687.trans kk)
 have k689 := fun t (kk : SF p e below T687 m 26 o2 [(.int (v13_ret p2 L_ra1))] t) => k688 t (by
  refine XS.istore X687.here hx rfl (hb hby d12_22) rfl (l' := o2) rfl ?_
  refine XS.iload X687.here hx rfl (hb hby d12_24) rfl ?_
  exact kk)
 have hc26_690 : (v13_ret p2 L_ra1) < (0 : Int32) := hneg
 have k691 := fun t (kk : SF p e below T687 m 72 o2 [(.ref ra0)] t) => k689 t (by
  refine XS.ifYes X687.here hx rfl (pc0 := 26) (pc' := 71) rfl (hb hby d12_26) rfl ((if0 _ _).trans (tlt hc26_690).1) (by decide) (by decide) ?_
  refine XS.aloadN X687.here hx rfl (hb hby d12_71) rfl rfl ?_
  exact kk)
 obtain ⟨T692, X692, e692, st692⟩ := getF X687 hx hZ hown (host := "") (Or.inl (w113 hw)) Via.refl e687 zdr (g := (mkF m 72 o2 [(.ref ra0)])) rfl rfl (hb hby d12_72)
 have k693 := fun t (kk : SF p e below T692 m 75 o2 [.null] t) => k691 t (st692 _ kk)
 have k694 := fun t (kk : SF p e below T692 m 136 o2 [(.ref ra0)] t) => k693 t (by
  show SF p e below T692 m 75 o2 [.null] _
  refine XS.ifnullYes X692.here hx rfl (pc0 := 75) (pc' := 135) rfl (hb hby d12_75) rfl (by decide) (by decide) ?_
  refine XS.aloadN X692.here hx rfl (hb hby d12_135) rfl rfl ?_
  exact kk)
 obtain ⟨T695, X695, e695, st695⟩ := getF X692 hx hZ hown (host := "") (Or.inl (w115 hw)) Via.refl e692 zdo (g := (mkF m 136 o2 [(.ref ra0)])) rfl rfl (hb hby d12_136)
 have k696 := fun t (kk : SF p e below T695 m 139 o2 [.null] t) => k694 t (st695 _ kk)
 have k697 := fun t (kk : SF p e below T695 m 144 o2 [(.ref ra0), (.ref ra0)] t) => k696 t (by
  show SF p e below T695 m 139 o2 [.null] _
  refine XS.ifnonnullNo X695.here hx rfl (hb hby d12_139) rfl ?_
  refine XS.aloadN X695.here hx rfl (hb hby d12_142) rfl rfl ?_
  show SF p e below T695 m 143 o2 [(.ref ra0)] _
  refine XS.aloadN X695.here hx rfl (hb hby d12_143) rfl rfl ?_
  exact kk)
 obtain ⟨T698, X698, e698, st698⟩ := getF X695 hx hZ hown (host := "") (Or.inl (w83 hw)) Via.refl e695 zcr (g := (mkF m 144 o2 [(.ref ra0), (.ref ra0)])) rfl rfl (hb hby d12_144)
 have k699 := fun t (kk : SF p e below T698 m 147 o2 [(.int zm), (.ref ra0)] t) => k697 t (st698 _ kk)
 obtain ⟨T700, h700, k700, X700, e700, E700, A700, st700⟩ := newP (aty := .long) X698 hx hZ (w89 hw) e698 (g := (mkF m 147 o2 [(.int zm), (.ref ra0)])) rfl (hb hby d12_147) rfl (own_xs1 hxx) (cap := 512) (own_xs2 hxx) (by decide) (by decide) (by decide)
 obtain ⟨b700, g700⟩ : ∃ z, z = h0.size := ⟨_, rfl⟩
 rw [← g700] at A700 st700
 have ne_ra0_b700 : ra0 ≠ b700 := own_nb1 E_ra0.lt g700
 have ne_ra1_b700 : ra1 ≠ b700 := own_nb1 V_ra1.lt g700
 have ne_r_byValue_ra0_b700 : zz ≠ b700 := own_nb1 zde.lt g700
 have g_b700 : n0 ≤ b700 := Nat.le_trans (Nat.le_trans Z0 KC0.1) (Nat.le_of_eq g700.symm)
 have sz_b700 : h0.size ≤ b700 := Nat.le_trans KC0.1 (Nat.le_of_eq g700.symm)
 have K700 : Keep h0 h700 [ra0, zu, zv] := KC0.ext E700
 have V700 : Arv Z h700 b700 k700 .long zm (List.map Value.long (List.replicate (zm).toNatClampNeg (0 : Int64))) (.long (0 : Int64)) := by rw [List.map_replicate]; exact own_pad (Arv.new A700 (own_xs1 hxx)) _
 have VL700 : (List.replicate (zm).toNatClampNeg (0 : Int64)).length = (zm).toNatClampNeg := List.length_replicate
 have k701 := fun t (kk : SF p e below T700 m 149 o2 [(.ref b700), (.ref ra0)] t) => k699 t (st700 _ kk)
 have f702 := (E_ra0.ext E700)
 have f703 := (zdo.ext E700)
 obtain ⟨T704, h704, X704, e704, W704, st704⟩ := putF X700 hx hZ hown (host := "") (Or.inl (w115 hw)) Via.refl e700 f703 f702 (Or.inl (w116 hw)) (w61 hw) (ty := (.array .long)) (by decide) rfl rfl (g := (mkF m 149 o2 [(.ref b700), (.ref ra0)])) rfl rfl (hb hby d12_149)
 have Fw704 := f703.same W704
 have K704 : Keep h0 h704 [ra0, zu, zv] := K700.wr W704 (Or.inl (List.mem_of_getElem? (i := 0) rfl))
 have N704 := Fr.snoc X704 N687 g_ra0
 have k705 := fun t (kk : SF p e below T704 m 152 o2 [] t) => k701 t (st704 _ kk)
 have k706 := fun t (kk : SF p e below T704 m 161 o7 [(.int p3), (.int p2)] t) => k705 t (by
  refine XS.iconst X704.here hx rfl (hb hby d12_152) ?_
  refine XS.istore X704.here hx rfl (hb hby d12_153) rfl (l' := #[rv ra0, rv ra1, iv p2, iv p3, iv (v13_ret p2 L_ra1), iv 1, .unset, .unset, .unset, .unset, .unset]) rfl ?_
  refine XS.iloadN X704.here hx rfl (hb hby d12_155) rfl ?_
  refine XS.istore X704.here hx rfl (hb hby d12_156) rfl (l' := o7) rfl ?_
  refine XS.iload X704.here hx rfl (hb hby d12_158) rfl ?_
  refine XS.iloadN X704.here hx rfl (hb hby d12_160) rfl ?_
  exact kk)
 have hc161_707 : p2 < p3 := own_v4 ht hk
 have k708 := fun t (kk : SF p e below T704 m 172 o7 [(.int p2), (.ref ra1), (.int ((31 : Int32) * (1 : Int32)))] t) => k706 t (by
  refine XS.icmpNo X704.here hx rfl (hb hby d12_161) rfl (tlt hc161_707).2.1 ?_
  refine XS.bipush X704.here hx rfl (hb hby d12_164) ?_
  refine XS.iload X704.here hx rfl (hb hby d12_166) rfl ?_
  refine XS.imul X704.here hx rfl (hb hby d12_168) rfl ?_
  refine XS.aloadN X704.here hx rfl (hb hby d12_169) rfl rfl ?_
  show SF p e below T704 m 170 o7 [(.ref ra1), (.int ((31 : Int32) * (1 : Int32)))] _
  refine XS.iload X704.here hx rfl (hb hby d12_170) rfl ?_
  exact kk)
 have m709 : ra1 ≠ ra0 := Ne.symm (own_ne_oa E_ra0 (w61 hw) V_ra1)
 have f710 := ((V_ra1.ext E700).other W704 m709)
 have hV711 := f710
 obtain ⟨cl711, Ar711, q711, S711, Nn711, H711, G711⟩ := hV711
 have hb712 : ¬ p2 < 0 ∧ p2 < (3 : Int32) := hk
 have hin712 : ¬ (p2 < 0 ∨ cl711.slots.size ≤ (p2).toNatClampNeg) := inb_of S711 hb712
 have hat712 : cl711.slots[(p2).toNatClampNeg]? = some (.int (hf12_172_at p2 L_ra1)) := Has.at H711 hin712 (own_getD_int _ _ _)
 have st712 := X704.baloadBytes hx (j := p2) (v := (.int (hf12_172_at p2 L_ra1))) (by rw [e704]; exact Ar711.1) (State.isArrayOf_alike hZ.alike Ar711.2.1) Ar711.2.2 hin712 hat712 (g := (mkF m 172 o7 [(.int p2), (.ref ra1), (.int ((31 : Int32) * (1 : Int32)))])) rfl rfl (hb hby d12_172)
 have k713 := fun t (kk : SF p e below T704 m 173 o7 [(.int (hf12_172_at p2 L_ra1)), (.int ((31 : Int32) * (1 : Int32)))] t) => k708 t (st712 _ kk)
 have k714 := fun t (kk : SF p e below T704 m 161 o4 [(.int p3), (.int (p2 + (1 : Int32)))] t) => k713 t (by
  refine XS.iadd X704.here hx rfl (hb hby d12_173) rfl ?_
  refine XS.istore X704.here hx rfl (hb hby d12_174) rfl (l' := #[rv ra0, rv ra1, iv p2, iv p3, iv (v13_ret p2 L_ra1), iv (hf12_174_l5 p2 L_ra1), iv p2, .unset, .unset, .unset, .unset]) rfl ?_
  refine XS.iinc X704.here hx rfl (hb hby d12_176) rfl (l' := o4) rfl ?_
  refine XS.goto X704.here hx rfl (pc0 := 179) (pc' := 158) rfl (hb hby d12_179) (by decide) (by decide) ?_
  refine XS.iload X704.here hx rfl (hb hby d12_158) rfl ?_
  refine XS.iloadN X704.here hx rfl (hb hby d12_160) rfl ?_
  exact kk)
 have hc161_715 : ¬ ((p2 + (1 : Int32)) < p3) := own_v5 ht
 have k716 := fun t (kk : SF p e below T704 m 183 o4 [(.ref ra0)] t) => k714 t (by
  refine XS.icmpYes X704.here hx rfl (pc0 := 161) (pc' := 182) rfl (hb hby d12_161) rfl (flt hc161_715).2.1 (by decide) (by decide) ?_
  refine XS.aloadN X704.here hx rfl (hb hby d12_182) rfl rfl ?_
  exact kk)
 obtain ⟨T717, X717, e717, st717⟩ := getF X704 hx hZ hown (host := "") (Or.inl (w115 hw)) Via.refl e704 Fw704 (g := (mkF m 183 o4 [(.ref ra0)])) rfl rfl (hb hby d12_183)
 have k718 := fun t (kk : SF p e below T717 m 186 o4 [(.ref b700)] t) => k716 t (st717 _ kk)
 have m719 : b700 ≠ ra0 := Ne.symm ne_ra0_b700
 have f720 := (V700.other W704 m719)
 have hV721 := f720
 obtain ⟨cl721, Ar721, q721, S721, Nn721, H721, G721⟩ := hV721
 have st722 := X717.arraylength hx (by rw [e717]; exact Ar721.1) (State.isArrayOf_alike hZ.alike Ar721.2.1) (g := (mkF m 186 o4 [(.ref b700)])) rfl rfl (hb hby d12_186)
 rw [len_of S721 Nn721] at st722
 have k723 := fun t (kk : SF p e below T717 m 187 o4 [(.int zm)] t) => k718 t (st722 _ kk)
 have k724 := fun t (kk : SF p e below T717 m 193 o5 [(.int (hf12_174_l5 p2 L_ra1))] t) => k723 t (by
  refine XS.iconst X717.here hx rfl (hb hby d12_187) ?_
  refine XS.isub X717.here hx rfl (hb hby d12_188) rfl ?_
  refine XS.istore X717.here hx rfl (hb hby d12_189) rfl (l' := o5) rfl ?_
  show SF p e below T717 m 191 o5 [] _
  refine XS.iload X717.here hx rfl (hb hby d12_191) rfl ?_
  exact kk)
 have Zz725 : n0 ≤ h704.size := (Nat.le_trans Z0 K704.1)
 obtain ⟨_, _, ⟨T725, L725, k725, n725⟩, -, X725, ⟨Lc725, hQ725, l725, y725, z725⟩, st725⟩ := Jvm.LawKit.callS X717 hx (y := M29_) hown (mvT hZ (w117 hw)) (mvT hZ (w118 hw)) (mvT hZ (w62 hw)) (mvT hZ (w119 hw)) (by decide) (backOf (W := 0) (rm14 l Z a0 hw [] (hf12_174_l5 p2 L_ra1) h704 n0 Zz725) hZ (w119 hw) (w62 hw) (by decide) (by decide)) (g := (mkF m 193 o5 [(.int (hf12_174_l5 p2 L_ra1))])) rfl (by rw [hml]; rfl) (argsL := [(.int (hf12_174_l5 p2 L_ra1))]) (rest := []) (lenOf pd_1 rfl) rfl (Nat.le_of_eq rfl) (hb hby d12_193) (fun _ _ => ⟨rfl, e717, (by decide : 1 + 0 ≤ _), (by decide : 512 + 0 ≤ _)⟩)
 dsimp only [Pt.U, Pt.locs, Pt.cells, Pt.slots] at X725 l725 y725 z725 st725 hQ725
 subst l725 y725 z725
 obtain ⟨rfl, N725q, e725⟩ := hQ725
 have N725 := Fr.app N704 N725q
 have k726 := fun t (kk : SF p e below T725 m 196 o5 [(.int (v14_ret (hf12_174_l5 p2 L_ra1)))] t) => k724 t (st725 _ kk)
 have k727 := fun t (kk : SF p e below T725 m 202 o3 [(.ref ra0)] t) => k726 t (by
  refine XS.iload X725.here hx rfl (hb hby d12_196) rfl ?_
  refine XS.iand X725.here hx rfl (hb hby d12_198) rfl ?_
  refine XS.istore X725.here hx rfl (hb hby d12_199) rfl (l' := o3) rfl ?_
  refine XS.aloadN X725.here hx rfl (hb hby d12_201) rfl rfl ?_
  exact kk)
 obtain ⟨T728, X728, e728, st728⟩ := getF X725 hx hZ hown (host := "") (Or.inl (w115 hw)) Via.refl e725 Fw704 (g := (mkF m 202 o3 [(.ref ra0)])) rfl rfl (hb hby d12_202)
 have k729 := fun t (kk : SF p e below T728 m 205 o3 [(.ref b700)] t) => k727 t (st728 _ kk)
 have k730 := fun t (kk : SF p e below T728 m 207 o3 [(.int (hf12_199_l7 p2 L_ra1 zm)), (.ref b700)] t) => k729 t (by
  refine XS.iload X728.here hx rfl (hb hby d12_205) rfl ?_
  exact kk)
 have hV731 := f720
 obtain ⟨cl731, Ar731, q731, S731, Nn731, H731, G731⟩ := hV731
 have hb732 : ¬ (hf12_199_l7 p2 L_ra1 zm) < 0 ∧ (hf12_199_l7 p2 L_ra1 zm) < zm := own_sl hxx
 have hin732 : ¬ ((hf12_199_l7 p2 L_ra1 zm) < 0 ∨ cl731.slots.size ≤ ((hf12_199_l7 p2 L_ra1 zm)).toNatClampNeg) := inb_of S731 hb732
 have hat732 : cl731.slots[((hf12_199_l7 p2 L_ra1 zm)).toNatClampNeg]? = some (.long (hf12_207_at p2 L_ra1 zm)) := Has.at H731 hin732 (own_getD_long _ _ _)
 have st732 := X728.laload hx (j := (hf12_199_l7 p2 L_ra1 zm)) (v := (.long (hf12_207_at p2 L_ra1 zm))) (by rw [e728]; exact Ar731.1) (State.isArrayOf_alike hZ.alike Ar731.2.1) Ar731.2.2 hin732 hat732 (g := (mkF m 207 o3 [(.int (hf12_199_l7 p2 L_ra1 zm)), (.ref b700)])) rfl rfl (hb hby d12_207)
 have k733 := fun t (kk : SF p e below T728 m 208 o3 [(.long (hf12_207_at p2 L_ra1 zm))] t) => k730 t (st732 _ kk)
 have k734 := fun t (kk : SF p e below T728 m 214 o1 [(.int (lcmpW (hf12_207_at p2 L_ra1 zm) (0 : Int64)))] t) => k733 t (by
  refine XS.lstore X728.here hx rfl (hb hby d12_208) rfl (l' := o1) rfl ?_
  refine XS.lload X728.here hx rfl (hb hby d12_210) rfl ?_
  refine XS.lconst X728.here hx rfl (hb hby d12_212) ?_
  refine XS.lcmp X728.here hx rfl (hb hby d12_213) rfl ?_
  exact kk)
 have hc214_735 : (hf12_207_at p2 L_ra1 zm) = (0 : Int64) := own_rep0 _ _
 have k736 := fun t (kk : SF p e below T728 m 315 o1 [(.int p3), (.int p2), (.ref ra1), (.ref ra0)] t) => k734 t (by
  refine XS.ifYes X728.here hx rfl (pc0 := 214) (pc' := 311) rfl (hb hby d12_214) rfl ((if0 _ _).trans (teq ((lw_eq _ _).mpr hc214_735)).1) (by decide) (by decide) ?_
  refine XS.aloadN X728.here hx rfl (hb hby d12_311) rfl rfl ?_
  show SF p e below T728 m 312 o1 [(.ref ra0)] _
  refine XS.aloadN X728.here hx rfl (hb hby d12_312) rfl rfl ?_
  refine XS.iloadN X728.here hx rfl (hb hby d12_313) rfl ?_
  refine XS.iloadN X728.here hx rfl (hb hby d12_314) rfl ?_
  exact kk)
 have f737 := ((zcc.ext E700).other W704 (Or.inr (own_sn (y130 hw) (y116 hw) (by decide))))
 have f738 := ((zdq.ext E700).other W704 (Or.inr (own_sn (y71 hw) (y116 hw) (by decide))))
 have f739 := ((zdy.ext E700).other W704 (Or.inr (own_sn (y69 hw) (y116 hw) (by decide))))
 have f740 := ((zbv.ext E700).other W704 (Or.inr (own_sn (y73 hw) (y116 hw) (by decide))))
 have f741 := ((zcr.ext E700).other W704 (Or.inr (own_sn (y84 hw) (y116 hw) (by decide))))
 have f742 := ((zdr.ext E700).other W704 (Or.inr (own_sn (y114 hw) (y116 hw) (by decide))))
 have f743 := ((zfe.ext E700).other W704 (Or.inr (own_sn (y136 hw) (y116 hw) (by decide))))
 have f744 := ((zeq.ext E700).other W704 (Or.inr (own_sn (y182 hw) (y116 hw) (by decide))))
 have m745 : zu ≠ ra0 := Ne.symm (own_ne_oa E_ra0 (w61 hw) zcp)
 have f746 := ((zcp.ext E700).other W704 m745)
 have f747 := (f702.wr W704)
 have m748 : zv ≠ ra0 := Ne.symm (own_ne_oa E_ra0 (w61 hw) zdb)
 have f749 := ((zdb.ext E700).other W704 m748)
 have Zz750 : n0 ≤ h704.size := (Nat.le_trans Z0 K704.1)
 obtain ⟨cq750, q750, q750'⟩ := f747.cell
 obtain ⟨_, _, ⟨T750, L750, k750, n750⟩, -, X750, ⟨Lc750, hQ750, l750, y750, z750⟩, st750⟩ := X728.privateBack hx (y := M27_) hown (mvT hZ (w120 hw)) (mvT hZ (w121 hw)) (own_selpriv (y := M27_) (mvT hZ (w61 hw)) (Cond.privateMethod_at (mvP hZ (w122 hw) (args := #[]))) (mvT hZ (w121 hw)) (by decide)) (Cond.privateMethod_at (mvP hZ (w122 hw) (args := #[]))) (mvT hZ (w123 hw)) (by decide) (backOf (W := 0) (rm15 l Z a0 hw [] ra0 ra1 p2 p3 za zu zay zac zq zv zbd zai zal k_ra1 L_ra1 (.ref zz) zm .null (.ref b700) zak zat h704 n0 Zz750 (hs : ¬ za < 0 ∧ za < zac) (hE : ¬ (v16_ret za zq) < 0 ∧ (v16_ret za zq) < (60 : Int32)) (hbb : ¬ zai < (64 : Int32)) (hk : ¬ p2 < 0 ∧ p2 < (3 : Int32)) (ht : p3 = p2 + (1 : Int32)) f737 f738 f746 zdn f747 f739 f749 zea f710 VL_ra1 zgl zda zgy g_ra0 f740 f741 f742 Fw704 f743 f744) hZ (w123 hw) (w62 hw) (by decide) (by decide)) (g := (mkF m 315 o1 [(.int p3), (.int p2), (.ref ra1), (.ref ra0)])) rfl (by rw [hml]; rfl) (Steps.refl _) (a := ra0) (by rw [e728]; exact q750) q750' (argsL := [(.ref ra1), (.int p2), (.int p3)]) (rest := []) (lenOf pd_5 rfl) rfl (Nat.le_of_eq rfl) (hb hby d12_315) (fun _ _ => ⟨rfl, e728, (by decide : 1 + 0 ≤ _), (by decide : 512 + 0 ≤ _)⟩)
 dsimp only [Pt.U, Pt.locs, Pt.cells, Pt.slots] at X750 l750 y750 z750 st750 hQ750
 subst l750 y750 z750
 obtain ⟨rfl, N750q, Kq750, Eq750_0, Fq750_0, Fq750_1, Fq750_2, Fq750_3, Fq750_4, Fq750_5, Fq750_6, Fq750_7, Fq750_8, Vq750_0, VLq750_0, Vq750_1, VLq750_1⟩ := hQ750
 have K750 : Keep h0 T750.heap [ra0, zu, zv] := K704.trans Kq750 (allS (Or.inl (List.mem_of_getElem? (i := 2) rfl)) (allS (Or.inl (List.mem_of_getElem? (i := 1) rfl)) (allS (Or.inl (List.mem_of_getElem? (i := 0) rfl)) all0)))
 have N750 := Fr.app N725 N750q
 have k751 := fun t (kk : SF p e below T750 m 318 o1 [(.int za)] t) => k736 t (st750.trans kk)
 have k752 := fun t (kk : SF p e below T750 m 320 o1 [(.ref ra0)] t) => k751 t (by
  refine XS.pop X750.here hx rfl (hb hby d12_318) rfl rfl ?_
  refine XS.aloadN X750.here hx rfl (hb hby d12_319) rfl rfl ?_
  exact kk)
 obtain ⟨T753, X753, e753, st753⟩ := getF X750 hx hZ hown (host := "") (Or.inl (w115 hw)) Via.refl rfl Fq750_5 (g := (mkF m 320 o1 [(.ref ra0)])) rfl rfl (hb hby d12_320)
 have k754 := fun t (kk : SF p e below T753 m 323 o1 [(.ref b700)] t) => k752 t (st753 _ kk)
 have k755 := fun t (kk : SF p e below T753 m 332 o1 [(.ref ra0), (.long (((hf12_174_l5 p2 L_ra1).toInt64) <<< ((32 : Int32) &&& 0x3f).toInt64)), (.int (hf12_199_l7 p2 L_ra1 zm)), (.ref b700)] t) => k754 t (by
  refine XS.iload X753.here hx rfl (hb hby d12_323) rfl ?_
  refine XS.iload X753.here hx rfl (hb hby d12_325) rfl ?_
  refine XS.i2l X753.here hx rfl (hb hby d12_327) rfl ?_
  refine XS.bipush X753.here hx rfl (hb hby d12_328) ?_
  refine XS.lshl X753.here hx rfl (hb hby d12_330) rfl ?_
  refine XS.aloadN X753.here hx rfl (hb hby d12_331) rfl rfl ?_
  exact kk)
 obtain ⟨T756, X756, e756, st756⟩ := getF X753 hx hZ hown (host := "") (Or.inl (w129 hw)) Via.refl e753 Fq750_6 (g := (mkF m 332 o1 [(.ref ra0), (.long (((hf12_174_l5 p2 L_ra1).toInt64) <<< ((32 : Int32) &&& 0x3f).toInt64)), (.int (hf12_199_l7 p2 L_ra1 zm)), (.ref b700)])) rfl rfl (hb hby d12_332)
 have k757 := fun t (kk : SF p e below T756 m 335 o1 [(.int (za + (1 : Int32))), (.long (((hf12_174_l5 p2 L_ra1).toInt64) <<< ((32 : Int32) &&& 0x3f).toInt64)), (.int (hf12_199_l7 p2 L_ra1 zm)), (.ref b700)] t) => k755 t (st756 _ kk)
 have k758 := fun t (kk : SF p e below T756 m 337 o1 [(.long ((((hf12_174_l5 p2 L_ra1).toInt64) <<< ((32 : Int32) &&& 0x3f).toInt64) ||| ((za + (1 : Int32)).toInt64))), (.int (hf12_199_l7 p2 L_ra1 zm)), (.ref b700)] t) => k757 t (by
  refine XS.i2l X756.here hx rfl (hb hby d12_335) rfl ?_
  show SF p e below T756 m 336 o1 [(.long ((za + (1 : Int32)).toInt64)), (.long (((hf12_174_l5 p2 L_ra1).toInt64) <<< ((32 : Int32) &&& 0x3f).toInt64)), (.int (hf12_199_l7 p2 L_ra1 zm)), (.ref b700)] _
  refine XS.lor X756.here hx rfl (hb hby d12_336) rfl ?_
  exact kk)
 have m759 : b700 ≠ zu := Ne.symm (own_ne_b zcp.lt sz_b700)
 have m760 : b700 ≠ zv := Ne.symm (own_ne_b zdb.lt sz_b700)
 have f761 := (f720.keep Kq750 (ninS m760 (ninS m759 (ninS m719 nin0))))
 have hV762 := f761
 obtain ⟨cl762, Ar762, q762, S762, Nn762, H762, G762⟩ := hV762
 have hb763 : ¬ (hf12_199_l7 p2 L_ra1 zm) < 0 ∧ (hf12_199_l7 p2 L_ra1 zm) < zm := own_sl hxx
 have hin763 : ¬ ((hf12_199_l7 p2 L_ra1 zm) < 0 ∨ cl762.slots.size ≤ ((hf12_199_l7 p2 L_ra1 zm)).toNatClampNeg) := inb_of S762 hb763
 obtain ⟨T763, h763, X763, e763, W763, st763⟩ := stJ X756 hx hZ e756 Ar762 (j := (hf12_199_l7 p2 L_ra1 zm)) hin763 (g := (mkF m 337 o1 [(.long ((((hf12_174_l5 p2 L_ra1).toInt64) <<< ((32 : Int32) &&& 0x3f).toInt64) ||| ((za + (1 : Int32)).toInt64))), (.int (hf12_199_l7 p2 L_ra1 zm)), (.ref b700)])) rfl rfl (hb hby d12_337)
 have hl763 : ((hf12_199_l7 p2 L_ra1 zm)).toNatClampNeg < (List.map Value.long (List.replicate (zm).toNatClampNeg (0 : Int64))).length := by rw [List.length_map, VL700]; exact own_lt_nat hb763.1 hb763.2
 have V763r : Arv Z h763 b700 k700 .long zm (List.map Value.long ((List.replicate (zm).toNatClampNeg (0 : Int64)).set ((hf12_199_l7 p2 L_ra1 zm)).toNatClampNeg ((((hf12_174_l5 p2 L_ra1).toInt64) <<< ((32 : Int32) &&& 0x3f).toInt64) ||| ((za + (1 : Int32)).toInt64)))) (.long (0 : Int64)) := by rw [List.map_set]; exact Arv.set Ar762 q762 S762 Nn762 H762 G762 rfl W763 _ rfl hl763
 have V763 : Arv Z h763 b700 k700 .long zm (List.map Value.long (hf12_337_L p2 L_ra1 zm za)) (.long (0 : Int64)) := V763r
 have VL763 : (hf12_337_L p2 L_ra1 zm za).length = (zm).toNatClampNeg := (List.length_set).trans VL700
 have K763 : Keep h0 h763 [ra0, zu, zv] := K750.wr W763 (Or.inr sz_b700)
 have N763 := Fr.snoc X763 N750 g_b700
 have k764 := fun t (kk : SF p e below T763 m 338 o1 [] t) => k758 t (st763 _ kk)
 have k765 := fun t (kk : SF p e below T763 m 340 o1 [(.ref ra0), (.ref ra0)] t) => k764 t (by
  refine XS.aloadN X763.here hx rfl (hb hby d12_338) rfl rfl ?_
  refine XS.dup X763.here hx rfl (hb hby d12_339) rfl rfl ?_
  exact kk)
 have f766 := (Fq750_7.other W763 (Or.inl ne_ra0_b700))
 obtain ⟨T767, X767, e767, st767⟩ := getF X763 hx hZ hown (host := "") (Or.inl (w135 hw)) Via.refl e763 f766 (g := (mkF m 340 o1 [(.ref ra0), (.ref ra0)])) rfl rfl (hb hby d12_340)
 have k768 := fun t (kk : SF p e below T767 m 343 o1 [(.int zak), (.ref ra0)] t) => k765 t (st767 _ kk)
 have k769 := fun t (kk : SF p e below T767 m 345 o1 [(.int (zak + (1 : Int32))), (.ref ra0)] t) => k768 t (by
  refine XS.iconst X767.here hx rfl (hb hby d12_343) ?_
  refine XS.iadd X767.here hx rfl (hb hby d12_344) rfl ?_
  exact kk)
 have f770 := (Eq750_0.wr W763)
 obtain ⟨T771, h771, X771, e771, W771, st771⟩ := putF X767 hx hZ hown (host := "") (Or.inl (w135 hw)) Via.refl e767 f766 f770 (Or.inl (w136 hw)) (w61 hw) (ty := .int) (by decide) rfl rfl (g := (mkF m 345 o1 [(.int (zak + (1 : Int32))), (.ref ra0)])) rfl rfl (hb hby d12_345)
 have Fw771 := f766.same W771
 have K771 : Keep h0 h771 [ra0, zu, zv] := K763.wr W771 (Or.inl (List.mem_of_getElem? (i := 0) rfl))
 have N771 := Fr.snoc X771 N763 g_ra0
 have k772 := fun t (kk : SF p e below T771 m 348 o1 [] t) => k769 t (st771 _ kk)
 have k773 := fun t (kk : SF p e below T771 m 350 o1 [(.ref ra0), (.int 2)] t) => k772 t (by
  refine XS.iconst X771.here hx rfl (hb hby d12_348) ?_
  refine XS.aloadN X771.here hx rfl (hb hby d12_349) rfl rfl ?_
  exact kk)
 obtain ⟨T774, X774, e774, st774⟩ := getF X771 hx hZ hown (host := "") (Or.inl (w135 hw)) Via.refl e771 Fw771 (g := (mkF m 350 o1 [(.ref ra0), (.int 2)])) rfl rfl (hb hby d12_350)
 have k775 := fun t (kk : SF p e below T774 m 353 o1 [(.int (zak + (1 : Int32))), (.int 2)] t) => k773 t (st774 _ kk)
 have k776 := fun t (kk : SF p e below T774 m 355 o1 [(.ref ra0), (.int ((2 : Int32) * (zak + (1 : Int32))))] t) => k775 t (by
  refine XS.imul X774.here hx rfl (hb hby d12_353) rfl ?_
  refine XS.aloadN X774.here hx rfl (hb hby d12_354) rfl rfl ?_
  exact kk)
 have f777 := ((Fq750_5.other W763 (Or.inl ne_ra0_b700)).other W771 (Or.inr (own_sn (y116 hw) (y136 hw) (by decide))))
 obtain ⟨T778, X778, e778, st778⟩ := getF X774 hx hZ hown (host := "") (Or.inl (w115 hw)) Via.refl e774 f777 (g := (mkF m 355 o1 [(.ref ra0), (.int ((2 : Int32) * (zak + (1 : Int32))))])) rfl rfl (hb hby d12_355)
 have k779 := fun t (kk : SF p e below T778 m 358 o1 [(.ref b700), (.int ((2 : Int32) * (zak + (1 : Int32))))] t) => k776 t (st778 _ kk)
 have f780 := (V763.other W771 m719)
 have hV781 := f780
 obtain ⟨cl781, Ar781, q781, S781, Nn781, H781, G781⟩ := hV781
 have st782 := X778.arraylength hx (by rw [e778]; exact Ar781.1) (State.isArrayOf_alike hZ.alike Ar781.2.1) (g := (mkF m 358 o1 [(.ref b700), (.int ((2 : Int32) * (zak + (1 : Int32))))])) rfl rfl (hb hby d12_358)
 rw [len_of S781 Nn781] at st782
 have k783 := fun t (kk : SF p e below T778 m 359 o1 [(.int zm), (.int ((2 : Int32) * (zak + (1 : Int32))))] t) => k779 t (st782 _ kk)
 have hc359_784 : ¬ (zm < ((2 : Int32) * (zak + (1 : Int32)))) := own_fit hha hxx
 have k785 := fun t (kk : SF p e below T778 m 367 o1 [(.ref ra0)] t) => k783 t (by
  refine XS.icmpYes X778.here hx rfl (pc0 := 359) (pc' := 366) rfl (hb hby d12_359) rfl (flt hc359_784).2.2.2 (by decide) (by decide) ?_
  refine XS.aloadN X778.here hx rfl (hb hby d12_366) rfl rfl ?_
  exact kk)
 have f786 := ((Fq750_6.other W763 (Or.inl ne_ra0_b700)).other W771 (Or.inr (own_sn (y130 hw) (y136 hw) (by decide))))
 obtain ⟨T787, X787, e787, st787⟩ := getF X778 hx hZ hown (host := "") (Or.inl (w129 hw)) Via.refl e778 f786 (g := (mkF m 367 o1 [(.ref ra0)])) rfl rfl (hb hby d12_367)
 have k788 := fun t (kk : SF p e below T787 m 370 o1 [(.int (za + (1 : Int32)))] t) => k785 t (st787 _ kk)
 have k789 := fun t (kk : SF p e below T787 m 372 o1 [(.int ((za + (1 : Int32)) - (1 : Int32)))] t) => k788 t (by
  refine XS.iconst X787.here hx rfl (hb hby d12_370) ?_
  show SF p e below T787 m 371 o1 [(.int 1), (.int (za + (1 : Int32)))] _
  refine XS.isub X787.here hx rfl (hb hby d12_371) rfl ?_
  exact kk)
 obtain ⟨fs, hr, hrun, hended, hW, hsame⟩ := X787.leave (v := some (.int ((za + (1 : Int32)) - (1 : Int32)))) (fun h => by rw [Bd.returns] at h; cases h) hlk
 have f790 := (f770.wr W771)
 have f791 := ((Fq750_0.other W763 (Or.inl ne_ra0_b700)).other W771 (Or.inr (own_sn (y69 hw) (y136 hw) (by decide))))
 have f792 := ((Fq750_1.other W763 (Or.inl ne_ra0_b700)).other W771 (Or.inr (own_sn (y71 hw) (y136 hw) (by decide))))
 have f793 := ((Fq750_2.other W763 (Or.inl ne_ra0_b700)).other W771 (Or.inr (own_sn (y73 hw) (y136 hw) (by decide))))
 have f794 := ((Fq750_3.other W763 (Or.inl ne_ra0_b700)).other W771 (Or.inr (own_sn (y84 hw) (y136 hw) (by decide))))
 have f795 := ((Fq750_4.other W763 (Or.inl ne_ra0_b700)).other W771 (Or.inr (own_sn (y114 hw) (y136 hw) (by decide))))
 have f796 := ((Fq750_8.other W763 (Or.inl ne_ra0_b700)).other W771 (Or.inr (own_sn (y182 hw) (y136 hw) (by decide))))
 have m797 : zu ≠ b700 := Ne.symm m759
 have f798 := ((Vq750_1.other W763 m797).other W771 m745)
 have m799 : zv ≠ b700 := Ne.symm m760
 have f800 := ((Vq750_0.other W763 m799).other W771 m748)
 refine ⟨_, _, k789 _ ?_, hrun, hended, _, _, rfl, ?_, ⟨_, rfl⟩, hW, hsame.mono (by decide) (by decide)⟩
 ·show SF p e below T787 m 372 o1 [(.int ((za + (1 : Int32)) - (1 : Int32)))] _
  exact retI X787 hx Bd.returns (hb hby d12_372) hr
 ·show Q12hf Z ra0 ra1 p2 p3 zz k_ra1 L_ra1 zba zae zab zm za zu zay zac zq zv zbd zai zal zak zat h0 n0 _ T787.heap _
  rw [e787]
  exact ⟨b700, k700, rfl, N771, K771, f790, f791, f792, f793, f794, f795, f777, f786, Fw771, f796, f798, VLq750_1, f800, VLq750_0, sz_b700, f780, VL763⟩
theorem d12_217 : decode C16_ 217 = .ok (.lload 8, 2) := by decide +kernel
theorem d12_219 : decode C16_ 219 = .ok (.l2i, 1) := by decide +kernel
theorem d12_220 : decode C16_ 220 = .ok (.iconst 1, 1) := by decide +kernel
theorem d12_221 : decode C16_ 221 = .ok (.isub, 1) := by decide +kernel
theorem d12_222 : decode C16_ 222 = .ok (.istore 10, 2) := by decide +kernel
theorem d12_224 : decode C16_ 224 = .ok (.lload 8, 2) := by decide +kernel
theorem d12_226 : decode C16_ 226 = .ok (.bipush 32, 2) := by decide +kernel
theorem d12_228 : decode C16_ 228 = .ok (.lushr, 1) := by decide +kernel
theorem d12_229 : decode C16_ 229 = .ok (.l2i, 1) := by decide +kernel
theorem d12_230 : decode C16_ 230 = .ok (.iload 5, 2) := by decide +kernel
theorem d12_232 : decode C16_ 232 = .ok (.if_icmp .ne 18, 3) := by decide +kernel
theorem d12_250 : decode C16_ 250 = .ok (.iload 7, 2) := by decide +kernel
theorem d12_252 : decode C16_ 252 = .ok (.iconst 1, 1) := by decide +kernel
theorem d12_253 : decode C16_ 253 = .ok (.iadd, 1) := by decide +kernel
theorem d12_254 : decode C16_ 254 = .ok (.iload 6, 2) := by decide +kernel
theorem d12_256 : decode C16_ 256 = .ok (.iand, 1) := by decide +kernel
theorem d12_257 : decode C16_ 257 = .ok (.istore 7, 2) := by decide +kernel
theorem d12_259 : decode C16_ 259 = .ok (.aload_n 0, 1) := by decide +kernel
theorem d12_260 : decode C16_ 260 = .ok (.dup, 1) := by decide +kernel
theorem d12_261 : decode C16_ 261 = .ok (.getfield 86, 3) := by decide +kernel
theorem d12_264 : decode C16_ 264 = .ok (.lconst 1, 1) := by decide +kernel
theorem d12_265 : decode C16_ 265 = .ok (.ladd, 1) := by decide +kernel
theorem d12_266 : decode C16_ 266 = .ok (.dup2_x1, 1) := by decide +kernel
theorem d12_267 : decode C16_ 267 = .ok (.putfield 86, 3) := by decide +kernel
theorem d12_270 : decode C16_ 270 = .ok (.ldc2_w 90, 3) := by decide +kernel
theorem d12_273 : decode C16_ 273 = .ok (.aload_n 0, 1) := by decide +kernel
theorem d12_274 : decode C16_ 274 = .ok (.getfield 92, 3) := by decide +kernel
theorem d12_277 : decode C16_ 277 = .ok (.i2l, 1) := by decide +kernel
theorem d12_278 : decode C16_ 278 = .ok (.lmul, 1) := by decide +kernel
theorem d12_279 : decode C16_ 279 = .ok (.ldc2_w 95, 3) := by decide +kernel
theorem d12_282 : decode C16_ 282 = .ok (.ladd, 1) := by decide +kernel
theorem d12_283 : decode C16_ 283 = .ok (.lcmp, 1) := by decide +kernel
theorem d12_284 : decode C16_ 284 = .ok (.ifCond .le 15, 3) := by decide +kernel
theorem d12_299 : decode C16_ 299 = .ok (.aload_n 0, 1) := by decide +kernel
theorem d12_300 : decode C16_ 300 = .ok (.getfield 75, 3) := by decide +kernel
theorem d12_303 : decode C16_ 303 = .ok (.iload 7, 2) := by decide +kernel
theorem d12_305 : decode C16_ 305 = .ok (.laload, 1) := by decide +kernel
theorem d12_306 : decode C16_ 306 = .ok (.lstore 8, 2) := by decide +kernel
theorem d12_308 : decode C16_ 308 = .ok (.goto (-98), 3) := by decide +kernel
def hn12_172_at (p2 : Int32) (L_ra1 : List Int32) : Int32 := (L_ra1.getD (p2).toNatClampNeg (0 : Int32))
def hn12_174_l5 (p2 : Int32) (L_ra1 : List Int32) : Int32 := (((31 : Int32) * (1 : Int32)) + (hn12_172_at p2 L_ra1))
def hn12_199_l7 (p2 : Int32) (L_ra1 : List Int32) (zi : Int32) : Int32 := ((v14_ret (hn12_174_l5 p2 L_ra1)) &&& (zi - (1 : Int32)))
def hn12_207_at (p2 : Int32) (L_ra1 : List Int32) (zi : Int32) (zw : List Int64) : Int64 := (zw.getD ((hn12_199_l7 p2 L_ra1 zi)).toNatClampNeg (0 : Int64))
def hn12_337_L (p2 : Int32) (L_ra1 : List Int32) (zi : Int32) (zw : List Int64) (za : Int32) : List Int64 := (zw.set ((hn12_199_l7 p2 L_ra1 zi)).toNatClampNeg ((((hn12_174_l5 p2 L_ra1).toInt64) <<< ((32 : Int32) &&& 0x3f).toInt64) ||| ((za + (1 : Int32)).toInt64)))
def hn12_222_l10 (p2 : Int32) (L_ra1 : List Int32) (zi : Int32) (zw : List Int64) : Int32 := (((hn12_207_at p2 L_ra1 zi zw).toInt32) - (1 : Int32))
def hn12_257_l7 (p2 : Int32) (L_ra1 : List Int32) (zi : Int32) : Int32 := (((hn12_199_l7 p2 L_ra1 zi) + (1 : Int32)) &&& (zi - (1 : Int32)))
def hn12_305_at (p2 : Int32) (L_ra1 : List Int32) (zi : Int32) (zw : List Int64) : Int64 := (zw.getD ((hn12_257_l7 p2 L_ra1 zi)).toNatClampNeg (0 : Int64))
def hn12_337_L_1 (p2 : Int32) (L_ra1 : List Int32) (zi : Int32) (zw : List Int64) (za : Int32) : List Int64 := (zw.set ((hn12_257_l7 p2 L_ra1 zi)).toNatClampNeg ((((hn12_174_l5 p2 L_ra1).toInt64) <<< ((32 : Int32) &&& 0x3f).toInt64) ||| ((za + (1 : Int32)).toInt64)))
def hn12_f_probes_ra0 (p2 : Int32) (L_ra1 : List Int32) (zi : Int32) (zw : List Int64) (zat : Int64) : Int64 := (if (hn12_207_at p2 L_ra1 zi zw) = (0 : Int64) then zat else (zat + (1 : Int64)))
def hn12_a_r_slots_ra0 (p2 : Int32) (L_ra1 : List Int32) (zi : Int32) (zw : List Int64) (za : Int32) : List Int64 := (if (hn12_207_at p2 L_ra1 zi zw) = (0 : Int64) then (hn12_337_L p2 L_ra1 zi zw za) else (hn12_337_L_1 p2 L_ra1 zi zw za))
def Q12hn (Z : State) (ra0 ra1 : Addr) (p2 p3 : Int32) (zz : Addr) (k_ra1 : ClassId) (L_ra1 : List Int32) (zba : ClassId) (zae : Int32) (zab : List Int32) (zar : Addr) (zem : ClassId) (zi : Int32) (zw : List Int64) (za : Int32) (zu : Addr) (zay : ClassId) (zac : Int32) (zq : List Int32) (zv : Addr) (zbd : ClassId) (zai : Int32) (zal : List Int32) (zm zak : Int32) (zat : Int64) (h0 : Heap) (n0 : Nat) (v : Option Value) (h : Heap) (L : List Loc) : Prop := (v = some (.int ((za + (1 : Int32)) - (1 : Int32))) ∧ Fr n0 L ∧ Keep h0 h [ra0, zu, zv, zar] ∧ Exa Z h ra0 cBs ∧ Fld Z h ra0 cBs "bytes" "[B" (.ref zv) ∧ Fld Z h ra0 cBs "ends" "[I" (.ref zu) ∧ Fld Z h ra0 cBs "byValue" "[I" (.ref zz) ∧ Fld Z h ra0 cBs "expectedSlots" "I" (.int zm) ∧ Fld Z h ra0 cBs "crowded" "Ljava/util/Map;" .null ∧ Fld Z h ra0 cBs "slots" "[J" (.ref zar) ∧ Fld Z h ra0 cBs "size" "I" (.int (za + (1 : Int32))) ∧ Fld Z h ra0 cBs "hashed" "I" (.int (zak + (1 : Int32))) ∧ Fld Z h ra0 cBs "probes" "J" (.long (hn12_f_probes_ra0 p2 L_ra1 zi zw zat)) ∧ Arv Z h zu zay .int zac (List.map Value.int (v15_131_L p2 p3 za zq)) (.int 0) ∧ (v15_131_L p2 p3 za zq).length = (zac).toNatClampNeg ∧ Arv Z h zv zbd .byte zai (List.map Value.int (v15_112_L p2 za zq zal L_ra1)) (.int 0) ∧ (v15_112_L p2 za zq zal L_ra1).length = (zai).toNatClampNeg ∧ Arv Z h zar zem .long zi (List.map Value.long (hn12_a_r_slots_ra0 p2 L_ra1 zi zw za)) (.long (0 : Int64)) ∧ (hn12_a_r_slots_ra0 p2 L_ra1 zi zw za).length = (zi).toNatClampNeg)
set_option maxRecDepth 65536 in
set_option maxHeartbeats 40000000 in
theorem rm12hn (l : Launch) (Z : State) (a0 : Array Value) (hw : HW Z a0) (ws : List Jvm.Cond) (ra0 ra1 : Addr) (p2 p3 : Int32) (zz : Addr) (k_ra1 : ClassId) (L_ra1 : List Int32) (zba : ClassId) (zae : Int32) (zab : List Int32) (zar : Addr) (zem : ClassId) (zi : Int32) (zw : List Int64) (za : Int32) (zu : Addr) (zay : ClassId) (zac : Int32) (zq : List Int32) (zv : Addr) (zbd : ClassId) (zai : Int32) (zal : List Int32) (zm zak : Int32) (zat : Int64) (h0 : Heap) (n0 : Nat) (Z0 : n0 ≤ h0.size) (hs : ¬ za < 0 ∧ za < zac) (hE : ¬ (v16_ret za zq) < 0 ∧ (v16_ret za zq) < (60 : Int32)) (hbb : ¬ zai < (64 : Int32)) (hk : ¬ p2 < 0 ∧ p2 < (3 : Int32)) (ht : p3 = p2 + (1 : Int32)) (hneg : (v13_ret p2 L_ra1) < (0 : Int32)) (hv : ¬ zae < (64 : Int32)) (hxx : ¬ zi < (128 : Int32) ∧ zi < (513 : Int32)) (hha : zak = (1 : Int32)) (hp : zat = (0 : Int64)) (hq : ¬ ((hn12_207_at p2 L_ra1 zi zw) = (0 : Int64)) → ¬ (((((hn12_207_at p2 L_ra1 zi zw).toUInt64 >>> ((32 : Int32) &&& 0x3f).toInt64.toUInt64).toInt64).toInt32) = (hn12_174_l5 p2 L_ra1))) (hr : ¬ ((hn12_207_at p2 L_ra1 zi zw) = (0 : Int64)) → (hn12_305_at p2 L_ra1 zi zw) = (0 : Int64)) (zbv : Fld Z h0 ra0 cBs "byValue" "[I" (.ref zz)) (V_ra1 : Arv Z h0 ra1 k_ra1 .byte (3 : Int32) (List.map Value.int L_ra1) (.int 0)) (VL_ra1 : L_ra1.length = ((3 : Int32)).toNatClampNeg) (zde : Arv Z h0 zz zba .int zae (List.map Value.int zab) (.int 0)) (zel : zab.length = zae.toNatClampNeg) (E_ra0 : Exa Z h0 ra0 cBs) (zdr : Fld Z h0 ra0 cBs "crowded" "Ljava/util/Map;" .null) (zdo : Fld Z h0 ra0 cBs "slots" "[J" (.ref zar)) (zgz : Arv Z h0 zar zem .long zi (List.map Value.long zw) (.long (0 : Int64))) (zix : zw.length = zi.toNatClampNeg) (zcc : Fld Z h0 ra0 cBs "size" "I" (.int za)) (zdq : Fld Z h0 ra0 cBs "ends" "[I" (.ref zu)) (zcp : Arv Z h0 zu zay .int zac (List.map Value.int zq) (.int 0)) (zdn : zq.length = zac.toNatClampNeg) (zdy : Fld Z h0 ra0 cBs "bytes" "[B" (.ref zv)) (zdb : Arv Z h0 zv zbd .byte zai (List.map Value.int zal) (.int 0)) (zea : zal.length = zai.toNatClampNeg) (zcr : Fld Z h0 ra0 cBs "expectedSlots" "I" (.int zm)) (zfe : Fld Z h0 ra0 cBs "hashed" "I" (.int zak)) (zeq : Fld Z h0 ra0 cBs "probes" "J" (.long zat)) (zgl : n0 ≤ zv) (zda : zv ≠ zu) (zgy : n0 ≤ zu) (g_ra0 : n0 ≤ ra0) (zjn : zu ≠ zar) (zjf : zv ≠ zar) (zkm : n0 ≤ zar) :
  MetFree l M32_ (head1 (Jvm.Cond.code M32_ prog_10_method_2_code 11 (some .int) :: ws) R10_) (fun a U => a = #[(.ref ra0), (.ref ra1), (.int p2), (.int p3)] ∧ Z.Warmed39 U.vm ∧ U.heap = h0) (fun _ _ _ _ _ => True) (fun _ U o U' => ∃ v L, o = .returned v ∧ Q12hn Z ra0 ra1 p2 p3 zz k_ra1 L_ra1 zba zae zab zar zem zi zw za zu zay zac zq zv zbd zai zal zm zak zat h0 n0 v U'.heap L ∧ FrameEnd U o U' L R10_.cells R10_.slots) := by
 refine MetFree.of_bodySF (plainFor_of_name pn_167) hisR ?_
 intro p e s m args below meth c s₁ Bd hml0 hP hK
 obtain ⟨rfl, hZ, hh⟩ := hP
 have hx := Bd.exec
 have hlk : meth.locks = false := by first | exact BodyLoose.notSynchronized Bd | exact Body.notSynchronized Bd
 have hby := Bd.bytes
 have hml : c.maxLocals = 11 := hml0
 have hown : s.vm.findClass cBs = some m.cls := findClass_of_methodNamed Bd.named
 have hnm := (name_of_methodNamed Bd.named Bd.method).1
 have X0 : Stand p l e R10_ s m #[(.ref ra0), (.ref ra1), (.int p2), (.int p3)] below meth c s₁ [] 0 0 := Stand.of_body Bd
 have e0 : s₁.heap = h0 := by rw [← hh, Bd.state]; rfl
 have N0 := Fr.nil n0
 have KC0 := Keep.refl h0 [ra0, zu, zv, zar]
 let o1 : Array Slot := #[rv ra0, rv ra1, iv p2, iv p3, iv (v13_ret p2 L_ra1), iv (hn12_174_l5 p2 L_ra1), iv (zi - (1 : Int32)), iv (hn12_257_l7 p2 L_ra1 zi), .val (.long (hn12_305_at p2 L_ra1 zi zw)), .second, iv (hn12_222_l10 p2 L_ra1 zi zw)]
 let o2 : Array Slot := #[rv ra0, rv ra1, iv p2, iv p3, iv (v13_ret p2 L_ra1), iv (hn12_174_l5 p2 L_ra1), iv (zi - (1 : Int32)), iv (hn12_199_l7 p2 L_ra1 zi), .val (.long (hn12_207_at p2 L_ra1 zi zw)), .second, .unset]
 let o3 : Array Slot := #[rv ra0, rv ra1, iv p2, iv p3, iv (v13_ret p2 L_ra1), iv (hn12_174_l5 p2 L_ra1), iv (zi - (1 : Int32)), iv (hn12_257_l7 p2 L_ra1 zi), .val (.long (hn12_207_at p2 L_ra1 zi zw)), .second, iv (hn12_222_l10 p2 L_ra1 zi zw)]
 let o4 : Array Slot := #[rv ra0, rv ra1, iv p2, iv p3, iv (v13_ret p2 L_ra1), iv (hn12_174_l5 p2 L_ra1), iv (zi - (1 : Int32)), iv (hn12_199_l7 p2 L_ra1 zi), .unset, .unset, .unset]
 let o5 : Array Slot := #[rv ra0, rv ra1, iv p2, iv p3, iv (v13_ret p2 L_ra1), .unset, .unset, .unset, .unset, .unset, .unset]
 let o6 : Array Slot := #[rv ra0, rv ra1, iv p2, iv p3, iv (v13_ret p2 L_ra1), iv (hn12_174_l5 p2 L_ra1), iv (p2 + (1 : Int32)), .unset, .unset, .unset, .unset]
 let o7 : Array Slot := #[rv ra0, rv ra1, iv p2, iv p3, iv (v13_ret p2 L_ra1), iv (hn12_174_l5 p2 L_ra1), iv (zi - (1 : Int32)), iv (hn12_199_l7 p2 L_ra1 zi), .val (.long (hn12_207_at p2 L_ra1 zi zw)), .second, iv (hn12_222_l10 p2 L_ra1 zi zw)]
 let o8 : Array Slot := #[rv ra0, rv ra1, iv p2, iv p3, .unset, .unset, .unset, .unset, .unset, .unset, .unset]
 let o9 : Array Slot := #[rv ra0, rv ra1, iv p2, iv p3, iv (v13_ret p2 L_ra1), iv 1, iv p2, .unset, .unset, .unset, .unset]
 let o10 : Array Slot := #[rv ra0, rv ra1, iv p2, iv p3, iv (v13_ret p2 L_ra1), iv (hn12_174_l5 p2 L_ra1), iv (zi - (1 : Int32)), .unset, .unset, .unset, .unset]
 have pre0 : ∀ t, SF p e below s₁ m 0 o8 [] t → Steps p.tables e below (s₁.setTop (entryFrame m #[(.ref ra0), (.ref ra1), (.int p2), (.int p3)] 11)) t := fun t k => castTop (ef_rm12m m ra0 ra1 p2 p3) k
 have k801 := fun t (kk : SF p e below s₁ m 1 o8 [(.ref ra0)] t) => pre0 t (by
  refine XS.aloadN X0.here hx rfl (hb hby d12_0) rfl rfl ?_
  exact kk)
 obtain ⟨T802, X802, e802, st802⟩ := getF X0 hx hZ hown (host := "") (Or.inl (w72 hw)) Via.refl e0 zbv (g := (mkF m 1 o8 [(.ref ra0)])) rfl rfl (hb hby d12_1)
 have k803 := fun t (kk : SF p e below T802 m 4 o8 [(.ref zz)] t) => k801 t (st802 _ kk)
 have k804 := fun t (kk : SF p e below T802 m 19 o8 [(.int p3), (.int p2), (.ref ra1), (.ref ra0)] t) => k803 t (by
  show SF p e below T802 m 4 o8 [(.ref zz)] _
  refine XS.ifnonnullYes X802.here hx rfl (pc0 := 4) (pc' := 15) rfl (hb hby d12_4) rfl (by decide) (by decide) ?_
  refine XS.aloadN X802.here hx rfl (hb hby d12_15) rfl rfl ?_
  refine XS.aloadN X802.here hx rfl (hb hby d12_16) rfl rfl ?_
  refine XS.iloadN X802.here hx rfl (hb hby d12_17) rfl ?_
  refine XS.iloadN X802.here hx rfl (hb hby d12_18) rfl ?_
  exact kk)
 have Zz805 : n0 ≤ h0.size := (Nat.le_trans Z0 KC0.1)
 obtain ⟨cq805, q805, q805'⟩ := E_ra0.cell
 obtain ⟨_, _, ⟨T805, L805, k805, n805⟩, -, X805, ⟨Lc805, hQ805, l805, y805, z805⟩, st805⟩ := X802.privateBack hx (y := M28_) hown (mvT hZ (w109 hw)) (mvT hZ (w110 hw)) (own_selpriv (y := M28_) (mvT hZ (w61 hw)) (Cond.privateMethod_at (mvP hZ (w111 hw) (args := #[]))) (mvT hZ (w110 hw)) (by decide)) (Cond.privateMethod_at (mvP hZ (w111 hw) (args := #[]))) (mvT hZ (w112 hw)) (by decide) (backOf (W := 0) (rm13 l Z a0 hw [] ra0 ra1 p2 p3 k_ra1 L_ra1 zz zba zae zab h0 n0 Zz805 (hk : ¬ p2 < 0 ∧ p2 < (3 : Int32)) (ht : p3 = p2 + (1 : Int32)) (hv : ¬ zae < (64 : Int32)) V_ra1 VL_ra1 zbv zde zel) hZ (w112 hw) (w62 hw) (by decide) (by decide)) (g := (mkF m 19 o8 [(.int p3), (.int p2), (.ref ra1), (.ref ra0)])) rfl (by rw [hml]; rfl) (Steps.refl _) (a := ra0) (by rw [e802]; exact q805) q805' (argsL := [(.ref ra1), (.int p2), (.int p3)]) (rest := []) (lenOf pd_5 rfl) rfl (Nat.le_of_eq rfl) (hb hby d12_19) (fun _ _ => ⟨rfl, e802, (by decide : 0 + 0 ≤ _), (by decide : 0 + 0 ≤ _)⟩)
 dsimp only [Pt.U, Pt.locs, Pt.cells, Pt.slots] at X805 l805 y805 z805 st805 hQ805
 subst l805 y805 z805
 obtain ⟨rfl, N805q, e805⟩ := hQ805
 have N805 := Fr.app N0 N805q
 have k806 := fun t (kk : SF p e below T805 m 22 o8 [(.int (v13_ret p2 L_ra1))] t) => k804 t (st805.trans kk)
 have k807 := fun t (kk : SF p e below T805 m 26 o5 [(.int (v13_ret p2 L_ra1))] t) => k806 t (by
  refine XS.istore X805.here hx rfl (hb hby d12_22) rfl (l' := o5) rfl ?_
  refine XS.iload X805.here hx rfl (hb hby d12_24) rfl ?_
  exact kk)
 have hc26_808 : (v13_ret p2 L_ra1) < (0 : Int32) := hneg
 have k809 := fun t (kk : SF p e below T805 m 72 o5 [(.ref ra0)] t) => k807 t (by
  refine XS.ifYes X805.here hx rfl (pc0 := 26) (pc' := 71) rfl (hb hby d12_26) rfl ((if0 _ _).trans (tlt hc26_808).1) (by decide) (by decide) ?_
  show SF p e below T805 m 71 o5 [] _
  refine XS.aloadN X805.here hx rfl (hb hby d12_71) rfl rfl ?_
  exact kk)
 obtain ⟨T810, X810, e810, st810⟩ := getF X805 hx hZ hown (host := "") (Or.inl (w113 hw)) Via.refl e805 zdr (g := (mkF m 72 o5 [(.ref ra0)])) rfl rfl (hb hby d12_72)
 have k811 := fun t (kk : SF p e below T810 m 75 o5 [.null] t) => k809 t (st810 _ kk)
 have k812 := fun t (kk : SF p e below T810 m 136 o5 [(.ref ra0)] t) => k811 t (by
  show SF p e below T810 m 75 o5 [.null] _
  refine XS.ifnullYes X810.here hx rfl (pc0 := 75) (pc' := 135) rfl (hb hby d12_75) rfl (by decide) (by decide) ?_
  refine XS.aloadN X810.here hx rfl (hb hby d12_135) rfl rfl ?_
  exact kk)
 obtain ⟨T813, X813, e813, st813⟩ := getF X810 hx hZ hown (host := "") (Or.inl (w115 hw)) Via.refl e810 zdo (g := (mkF m 136 o5 [(.ref ra0)])) rfl rfl (hb hby d12_136)
 have k814 := fun t (kk : SF p e below T813 m 139 o5 [(.ref zar)] t) => k812 t (st813 _ kk)
 have k815 := fun t (kk : SF p e below T813 m 161 o9 [(.int p3), (.int p2)] t) => k814 t (by
  show SF p e below T813 m 139 o5 [(.ref zar)] _
  refine XS.ifnonnullYes X813.here hx rfl (pc0 := 139) (pc' := 152) rfl (hb hby d12_139) rfl (by decide) (by decide) ?_
  refine XS.iconst X813.here hx rfl (hb hby d12_152) ?_
  refine XS.istore X813.here hx rfl (hb hby d12_153) rfl (l' := #[rv ra0, rv ra1, iv p2, iv p3, iv (v13_ret p2 L_ra1), iv 1, .unset, .unset, .unset, .unset, .unset]) rfl ?_
  refine XS.iloadN X813.here hx rfl (hb hby d12_155) rfl ?_
  refine XS.istore X813.here hx rfl (hb hby d12_156) rfl (l' := o9) rfl ?_
  refine XS.iload X813.here hx rfl (hb hby d12_158) rfl ?_
  refine XS.iloadN X813.here hx rfl (hb hby d12_160) rfl ?_
  exact kk)
 have hc161_816 : p2 < p3 := own_v4 ht hk
 have k817 := fun t (kk : SF p e below T813 m 172 o9 [(.int p2), (.ref ra1), (.int ((31 : Int32) * (1 : Int32)))] t) => k815 t (by
  refine XS.icmpNo X813.here hx rfl (hb hby d12_161) rfl (tlt hc161_816).2.1 ?_
  refine XS.bipush X813.here hx rfl (hb hby d12_164) ?_
  refine XS.iload X813.here hx rfl (hb hby d12_166) rfl ?_
  refine XS.imul X813.here hx rfl (hb hby d12_168) rfl ?_
  show SF p e below T813 m 169 o9 [(.int ((31 : Int32) * (1 : Int32)))] _
  refine XS.aloadN X813.here hx rfl (hb hby d12_169) rfl rfl ?_
  refine XS.iload X813.here hx rfl (hb hby d12_170) rfl ?_
  exact kk)
 have hV818 := V_ra1
 obtain ⟨cl818, Ar818, q818, S818, Nn818, H818, G818⟩ := hV818
 have hb819 : ¬ p2 < 0 ∧ p2 < (3 : Int32) := hk
 have hin819 : ¬ (p2 < 0 ∨ cl818.slots.size ≤ (p2).toNatClampNeg) := inb_of S818 hb819
 have hat819 : cl818.slots[(p2).toNatClampNeg]? = some (.int (hn12_172_at p2 L_ra1)) := Has.at H818 hin819 (own_getD_int _ _ _)
 have st819 := X813.baloadBytes hx (j := p2) (v := (.int (hn12_172_at p2 L_ra1))) (by rw [e813]; exact Ar818.1) (State.isArrayOf_alike hZ.alike Ar818.2.1) Ar818.2.2 hin819 hat819 (g := (mkF m 172 o9 [(.int p2), (.ref ra1), (.int ((31 : Int32) * (1 : Int32)))])) rfl rfl (hb hby d12_172)
 have k820 := fun t (kk : SF p e below T813 m 173 o9 [(.int (hn12_172_at p2 L_ra1)), (.int ((31 : Int32) * (1 : Int32)))] t) => k817 t (st819 _ kk)
 have k821 := fun t (kk : SF p e below T813 m 161 o6 [(.int p3), (.int (p2 + (1 : Int32)))] t) => k820 t (by
  refine XS.iadd X813.here hx rfl (hb hby d12_173) rfl ?_
  refine XS.istore X813.here hx rfl (hb hby d12_174) rfl (l' := #[rv ra0, rv ra1, iv p2, iv p3, iv (v13_ret p2 L_ra1), iv (hn12_174_l5 p2 L_ra1), iv p2, .unset, .unset, .unset, .unset]) rfl ?_
  refine XS.iinc X813.here hx rfl (hb hby d12_176) rfl (l' := o6) rfl ?_
  refine XS.goto X813.here hx rfl (pc0 := 179) (pc' := 158) rfl (hb hby d12_179) (by decide) (by decide) ?_
  refine XS.iload X813.here hx rfl (hb hby d12_158) rfl ?_
  refine XS.iloadN X813.here hx rfl (hb hby d12_160) rfl ?_
  exact kk)
 have hc161_822 : ¬ ((p2 + (1 : Int32)) < p3) := own_v5 ht
 have k823 := fun t (kk : SF p e below T813 m 183 o6 [(.ref ra0)] t) => k821 t (by
  refine XS.icmpYes X813.here hx rfl (pc0 := 161) (pc' := 182) rfl (hb hby d12_161) rfl (flt hc161_822).2.1 (by decide) (by decide) ?_
  refine XS.aloadN X813.here hx rfl (hb hby d12_182) rfl rfl ?_
  exact kk)
 obtain ⟨T824, X824, e824, st824⟩ := getF X813 hx hZ hown (host := "") (Or.inl (w115 hw)) Via.refl e813 zdo (g := (mkF m 183 o6 [(.ref ra0)])) rfl rfl (hb hby d12_183)
 have k825 := fun t (kk : SF p e below T824 m 186 o6 [(.ref zar)] t) => k823 t (st824 _ kk)
 have hV826 := zgz
 obtain ⟨cl826, Ar826, q826, S826, Nn826, H826, G826⟩ := hV826
 have st827 := X824.arraylength hx (by rw [e824]; exact Ar826.1) (State.isArrayOf_alike hZ.alike Ar826.2.1) (g := (mkF m 186 o6 [(.ref zar)])) rfl rfl (hb hby d12_186)
 rw [len_of S826 Nn826] at st827
 have k828 := fun t (kk : SF p e below T824 m 187 o6 [(.int zi)] t) => k825 t (st827 _ kk)
 have k829 := fun t (kk : SF p e below T824 m 193 o10 [(.int (hn12_174_l5 p2 L_ra1))] t) => k828 t (by
  refine XS.iconst X824.here hx rfl (hb hby d12_187) ?_
  refine XS.isub X824.here hx rfl (hb hby d12_188) rfl ?_
  show SF p e below T824 m 189 o6 [(.int (zi - (1 : Int32)))] _
  refine XS.istore X824.here hx rfl (hb hby d12_189) rfl (l' := o10) rfl ?_
  refine XS.iload X824.here hx rfl (hb hby d12_191) rfl ?_
  exact kk)
 have Zz830 : n0 ≤ h0.size := (Nat.le_trans Z0 KC0.1)
 obtain ⟨_, _, ⟨T830, L830, k830, n830⟩, -, X830, ⟨Lc830, hQ830, l830, y830, z830⟩, st830⟩ := Jvm.LawKit.callS X824 hx (y := M29_) hown (mvT hZ (w117 hw)) (mvT hZ (w118 hw)) (mvT hZ (w62 hw)) (mvT hZ (w119 hw)) (by decide) (backOf (W := 0) (rm14 l Z a0 hw [] (hn12_174_l5 p2 L_ra1) h0 n0 Zz830) hZ (w119 hw) (w62 hw) (by decide) (by decide)) (g := (mkF m 193 o10 [(.int (hn12_174_l5 p2 L_ra1))])) rfl (by rw [hml]; rfl) (argsL := [(.int (hn12_174_l5 p2 L_ra1))]) (rest := []) (lenOf pd_1 rfl) rfl (Nat.le_of_eq rfl) (hb hby d12_193) (fun _ _ => ⟨rfl, e824, (by decide : 0 + 0 ≤ _), (by decide : 0 + 0 ≤ _)⟩)
 dsimp only [Pt.U, Pt.locs, Pt.cells, Pt.slots] at X830 l830 y830 z830 st830 hQ830
 subst l830 y830 z830
 obtain ⟨rfl, N830q, e830⟩ := hQ830
 have N830 := Fr.app N805 N830q
 have k831 := fun t (kk : SF p e below T830 m 196 o10 [(.int (v14_ret (hn12_174_l5 p2 L_ra1)))] t) => k829 t (st830 _ kk)
 have k832 := fun t (kk : SF p e below T830 m 202 o4 [(.ref ra0)] t) => k831 t (by
  refine XS.iload X830.here hx rfl (hb hby d12_196) rfl ?_
  refine XS.iand X830.here hx rfl (hb hby d12_198) rfl ?_
  refine XS.istore X830.here hx rfl (hb hby d12_199) rfl (l' := o4) rfl ?_
  refine XS.aloadN X830.here hx rfl (hb hby d12_201) rfl rfl ?_
  exact kk)
 obtain ⟨T833, X833, e833, st833⟩ := getF X830 hx hZ hown (host := "") (Or.inl (w115 hw)) Via.refl e830 zdo (g := (mkF m 202 o4 [(.ref ra0)])) rfl rfl (hb hby d12_202)
 have k834 := fun t (kk : SF p e below T833 m 205 o4 [(.ref zar)] t) => k832 t (st833 _ kk)
 have k835 := fun t (kk : SF p e below T833 m 207 o4 [(.int (hn12_199_l7 p2 L_ra1 zi)), (.ref zar)] t) => k834 t (by
  refine XS.iload X833.here hx rfl (hb hby d12_205) rfl ?_
  exact kk)
 have hV836 := zgz
 obtain ⟨cl836, Ar836, q836, S836, Nn836, H836, G836⟩ := hV836
 have hb837 : ¬ (hn12_199_l7 p2 L_ra1 zi) < 0 ∧ (hn12_199_l7 p2 L_ra1 zi) < zi := own_sl hxx
 have hin837 : ¬ ((hn12_199_l7 p2 L_ra1 zi) < 0 ∨ cl836.slots.size ≤ ((hn12_199_l7 p2 L_ra1 zi)).toNatClampNeg) := inb_of S836 hb837
 have hat837 : cl836.slots[((hn12_199_l7 p2 L_ra1 zi)).toNatClampNeg]? = some (.long (hn12_207_at p2 L_ra1 zi zw)) := Has.at H836 hin837 (own_getD_long _ _ _)
 have st837 := X833.laload hx (j := (hn12_199_l7 p2 L_ra1 zi)) (v := (.long (hn12_207_at p2 L_ra1 zi zw))) (by rw [e833]; exact Ar836.1) (State.isArrayOf_alike hZ.alike Ar836.2.1) Ar836.2.2 hin837 hat837 (g := (mkF m 207 o4 [(.int (hn12_199_l7 p2 L_ra1 zi)), (.ref zar)])) rfl rfl (hb hby d12_207)
 have k838 := fun t (kk : SF p e below T833 m 208 o4 [(.long (hn12_207_at p2 L_ra1 zi zw))] t) => k835 t (st837 _ kk)
 have k839 := fun t (kk : SF p e below T833 m 214 o2 [(.int (lcmpW (hn12_207_at p2 L_ra1 zi zw) (0 : Int64)))] t) => k838 t (by
  refine XS.lstore X833.here hx rfl (hb hby d12_208) rfl (l' := o2) rfl ?_
  refine XS.lload X833.here hx rfl (hb hby d12_210) rfl ?_
  refine XS.lconst X833.here hx rfl (hb hby d12_212) ?_
  refine XS.lcmp X833.here hx rfl (hb hby d12_213) rfl ?_
  exact kk)
 by_cases hc214_840 : (hn12_207_at p2 L_ra1 zi zw) = (0 : Int64)
 ·have k841 := fun t (kk : SF p e below T833 m 315 o2 [(.int p3), (.int p2), (.ref ra1), (.ref ra0)] t) => k839 t (by
   refine XS.ifYes X833.here hx rfl (pc0 := 214) (pc' := 311) rfl (hb hby d12_214) rfl ((if0 _ _).trans (teq ((lw_eq _ _).mpr hc214_840)).1) (by decide) (by decide) ?_
   show SF p e below T833 m 311 o2 [] _
   refine XS.aloadN X833.here hx rfl (hb hby d12_311) rfl rfl ?_
   refine XS.aloadN X833.here hx rfl (hb hby d12_312) rfl rfl ?_
   refine XS.iloadN X833.here hx rfl (hb hby d12_313) rfl ?_
   refine XS.iloadN X833.here hx rfl (hb hby d12_314) rfl ?_
   exact kk)
  have Zz842 : n0 ≤ h0.size := (Nat.le_trans Z0 KC0.1)
  obtain ⟨cq842, q842, q842'⟩ := E_ra0.cell
  obtain ⟨_, _, ⟨T842, L842, k842, n842⟩, -, X842, ⟨Lc842, hQ842, l842, y842, z842⟩, st842⟩ := X833.privateBack hx (y := M27_) hown (mvT hZ (w120 hw)) (mvT hZ (w121 hw)) (own_selpriv (y := M27_) (mvT hZ (w61 hw)) (Cond.privateMethod_at (mvP hZ (w122 hw) (args := #[]))) (mvT hZ (w121 hw)) (by decide)) (Cond.privateMethod_at (mvP hZ (w122 hw) (args := #[]))) (mvT hZ (w123 hw)) (by decide) (backOf (W := 0) (rm15 l Z a0 hw [] ra0 ra1 p2 p3 za zu zay zac zq zv zbd zai zal k_ra1 L_ra1 (.ref zz) zm .null (.ref zar) zak zat h0 n0 Zz842 (hs : ¬ za < 0 ∧ za < zac) (hE : ¬ (v16_ret za zq) < 0 ∧ (v16_ret za zq) < (60 : Int32)) (hbb : ¬ zai < (64 : Int32)) (hk : ¬ p2 < 0 ∧ p2 < (3 : Int32)) (ht : p3 = p2 + (1 : Int32)) zcc zdq zcp zdn E_ra0 zdy zdb zea V_ra1 VL_ra1 zgl zda zgy g_ra0 zbv zcr zdr zdo zfe zeq) hZ (w123 hw) (w62 hw) (by decide) (by decide)) (g := (mkF m 315 o2 [(.int p3), (.int p2), (.ref ra1), (.ref ra0)])) rfl (by rw [hml]; rfl) (Steps.refl _) (a := ra0) (by rw [e833]; exact q842) q842' (argsL := [(.ref ra1), (.int p2), (.int p3)]) (rest := []) (lenOf pd_5 rfl) rfl (Nat.le_of_eq rfl) (hb hby d12_315) (fun _ _ => ⟨rfl, e833, (by decide : 0 + 0 ≤ _), (by decide : 0 + 0 ≤ _)⟩)
  dsimp only [Pt.U, Pt.locs, Pt.cells, Pt.slots] at X842 l842 y842 z842 st842 hQ842
  subst l842 y842 z842
  obtain ⟨rfl, N842q, Kq842, Eq842_0, Fq842_0, Fq842_1, Fq842_2, Fq842_3, Fq842_4, Fq842_5, Fq842_6, Fq842_7, Fq842_8, Vq842_0, VLq842_0, Vq842_1, VLq842_1⟩ := hQ842
  have K842 : Keep h0 T842.heap [ra0, zu, zv, zar] := KC0.trans Kq842 (allS (Or.inl (List.mem_of_getElem? (i := 2) rfl)) (allS (Or.inl (List.mem_of_getElem? (i := 1) rfl)) (allS (Or.inl (List.mem_of_getElem? (i := 0) rfl)) all0)))
  have N842 := Fr.app N830 N842q
  have k843 := fun t (kk : SF p e below T842 m 318 o2 [(.int za)] t) => k841 t (st842.trans kk)
  have k844 := fun t (kk : SF p e below T842 m 320 o2 [(.ref ra0)] t) => k843 t (by
   refine XS.pop X842.here hx rfl (hb hby d12_318) rfl rfl ?_
   refine XS.aloadN X842.here hx rfl (hb hby d12_319) rfl rfl ?_
   exact kk)
  obtain ⟨T845, X845, e845, st845⟩ := getF X842 hx hZ hown (host := "") (Or.inl (w115 hw)) Via.refl rfl Fq842_5 (g := (mkF m 320 o2 [(.ref ra0)])) rfl rfl (hb hby d12_320)
  have k846 := fun t (kk : SF p e below T845 m 323 o2 [(.ref zar)] t) => k844 t (st845 _ kk)
  have k847 := fun t (kk : SF p e below T845 m 332 o2 [(.ref ra0), (.long (((hn12_174_l5 p2 L_ra1).toInt64) <<< ((32 : Int32) &&& 0x3f).toInt64)), (.int (hn12_199_l7 p2 L_ra1 zi)), (.ref zar)] t) => k846 t (by
   refine XS.iload X845.here hx rfl (hb hby d12_323) rfl ?_
   refine XS.iload X845.here hx rfl (hb hby d12_325) rfl ?_
   refine XS.i2l X845.here hx rfl (hb hby d12_327) rfl ?_
   refine XS.bipush X845.here hx rfl (hb hby d12_328) ?_
   refine XS.lshl X845.here hx rfl (hb hby d12_330) rfl ?_
   refine XS.aloadN X845.here hx rfl (hb hby d12_331) rfl rfl ?_
   exact kk)
  obtain ⟨T848, X848, e848, st848⟩ := getF X845 hx hZ hown (host := "") (Or.inl (w129 hw)) Via.refl e845 Fq842_6 (g := (mkF m 332 o2 [(.ref ra0), (.long (((hn12_174_l5 p2 L_ra1).toInt64) <<< ((32 : Int32) &&& 0x3f).toInt64)), (.int (hn12_199_l7 p2 L_ra1 zi)), (.ref zar)])) rfl rfl (hb hby d12_332)
  have k849 := fun t (kk : SF p e below T848 m 335 o2 [(.int (za + (1 : Int32))), (.long (((hn12_174_l5 p2 L_ra1).toInt64) <<< ((32 : Int32) &&& 0x3f).toInt64)), (.int (hn12_199_l7 p2 L_ra1 zi)), (.ref zar)] t) => k847 t (st848 _ kk)
  have k850 := fun t (kk : SF p e below T848 m 337 o2 [(.long ((((hn12_174_l5 p2 L_ra1).toInt64) <<< ((32 : Int32) &&& 0x3f).toInt64) ||| ((za + (1 : Int32)).toInt64))), (.int (hn12_199_l7 p2 L_ra1 zi)), (.ref zar)] t) => k849 t (by
   show SF p e below T848 m 335 o2 [(.int (za + (1 : Int32))), (.long (((hn12_174_l5 p2 L_ra1).toInt64) <<< ((32 : Int32) &&& 0x3f).toInt64)), (.int (hn12_199_l7 p2 L_ra1 zi)), (.ref zar)] _
   refine XS.i2l X848.here hx rfl (hb hby d12_335) rfl ?_
   refine XS.lor X848.here hx rfl (hb hby d12_336) rfl ?_
   exact kk)
  have m851 : zar ≠ ra0 := Ne.symm (own_ne_oa E_ra0 (w61 hw) zgz)
  have m852 : zar ≠ zu := Ne.symm zjn
  have m853 : zar ≠ zv := Ne.symm zjf
  have f854 := (zgz.keep Kq842 (ninS m853 (ninS m852 (ninS m851 nin0))))
  have hV855 := f854
  obtain ⟨cl855, Ar855, q855, S855, Nn855, H855, G855⟩ := hV855
  have hb856 : ¬ (hn12_199_l7 p2 L_ra1 zi) < 0 ∧ (hn12_199_l7 p2 L_ra1 zi) < zi := own_sl hxx
  have hin856 : ¬ ((hn12_199_l7 p2 L_ra1 zi) < 0 ∨ cl855.slots.size ≤ ((hn12_199_l7 p2 L_ra1 zi)).toNatClampNeg) := inb_of S855 hb856
  obtain ⟨T856, h856, X856, e856, W856, st856⟩ := stJ X848 hx hZ e848 Ar855 (j := (hn12_199_l7 p2 L_ra1 zi)) hin856 (g := (mkF m 337 o2 [(.long ((((hn12_174_l5 p2 L_ra1).toInt64) <<< ((32 : Int32) &&& 0x3f).toInt64) ||| ((za + (1 : Int32)).toInt64))), (.int (hn12_199_l7 p2 L_ra1 zi)), (.ref zar)])) rfl rfl (hb hby d12_337)
  have hl856 : ((hn12_199_l7 p2 L_ra1 zi)).toNatClampNeg < (List.map Value.long zw).length := by rw [List.length_map, zix]; exact own_lt_nat hb856.1 hb856.2
  have V856r : Arv Z h856 zar zem .long zi (List.map Value.long (zw.set ((hn12_199_l7 p2 L_ra1 zi)).toNatClampNeg ((((hn12_174_l5 p2 L_ra1).toInt64) <<< ((32 : Int32) &&& 0x3f).toInt64) ||| ((za + (1 : Int32)).toInt64)))) (.long (0 : Int64)) := by rw [List.map_set]; exact Arv.set Ar855 q855 S855 Nn855 H855 G855 rfl W856 _ rfl hl856
  have V856 : Arv Z h856 zar zem .long zi (List.map Value.long (hn12_337_L p2 L_ra1 zi zw za)) (.long (0 : Int64)) := V856r
  have VL856 : (hn12_337_L p2 L_ra1 zi zw za).length = (zi).toNatClampNeg := (List.length_set).trans zix
  have K856 : Keep h0 h856 [ra0, zu, zv, zar] := K842.wr W856 (Or.inl (List.mem_of_getElem? (i := 3) rfl))
  have N856 := Fr.snoc X856 N842 zkm
  have k857 := fun t (kk : SF p e below T856 m 338 o2 [] t) => k850 t (st856 _ kk)
  have k858 := fun t (kk : SF p e below T856 m 340 o2 [(.ref ra0), (.ref ra0)] t) => k857 t (by
   refine XS.aloadN X856.here hx rfl (hb hby d12_338) rfl rfl ?_
   refine XS.dup X856.here hx rfl (hb hby d12_339) rfl rfl ?_
   exact kk)
  have m859 : ra0 ≠ zar := Ne.symm m851
  have f860 := (Fq842_7.other W856 (Or.inl m859))
  obtain ⟨T861, X861, e861, st861⟩ := getF X856 hx hZ hown (host := "") (Or.inl (w135 hw)) Via.refl e856 f860 (g := (mkF m 340 o2 [(.ref ra0), (.ref ra0)])) rfl rfl (hb hby d12_340)
  have k862 := fun t (kk : SF p e below T861 m 343 o2 [(.int zak), (.ref ra0)] t) => k858 t (st861 _ kk)
  have k863 := fun t (kk : SF p e below T861 m 345 o2 [(.int (zak + (1 : Int32))), (.ref ra0)] t) => k862 t (by
   refine XS.iconst X861.here hx rfl (hb hby d12_343) ?_
   refine XS.iadd X861.here hx rfl (hb hby d12_344) rfl ?_
   exact kk)
  have f864 := (Eq842_0.wr W856)
  obtain ⟨T865, h865, X865, e865, W865, st865⟩ := putF X861 hx hZ hown (host := "") (Or.inl (w135 hw)) Via.refl e861 f860 f864 (Or.inl (w136 hw)) (w61 hw) (ty := .int) (by decide) rfl rfl (g := (mkF m 345 o2 [(.int (zak + (1 : Int32))), (.ref ra0)])) rfl rfl (hb hby d12_345)
  have Fw865 := f860.same W865
  have K865 : Keep h0 h865 [ra0, zu, zv, zar] := K856.wr W865 (Or.inl (List.mem_of_getElem? (i := 0) rfl))
  have N865 := Fr.snoc X865 N856 g_ra0
  have k866 := fun t (kk : SF p e below T865 m 348 o2 [] t) => k863 t (st865 _ kk)
  have k867 := fun t (kk : SF p e below T865 m 350 o2 [(.ref ra0), (.int 2)] t) => k866 t (by
   refine XS.iconst X865.here hx rfl (hb hby d12_348) ?_
   refine XS.aloadN X865.here hx rfl (hb hby d12_349) rfl rfl ?_
   exact kk)
  obtain ⟨T868, X868, e868, st868⟩ := getF X865 hx hZ hown (host := "") (Or.inl (w135 hw)) Via.refl e865 Fw865 (g := (mkF m 350 o2 [(.ref ra0), (.int 2)])) rfl rfl (hb hby d12_350)
  have k869 := fun t (kk : SF p e below T868 m 353 o2 [(.int (zak + (1 : Int32))), (.int 2)] t) => k867 t (st868 _ kk)
  have k870 := fun t (kk : SF p e below T868 m 355 o2 [(.ref ra0), (.int ((2 : Int32) * (zak + (1 : Int32))))] t) => k869 t (by
   refine XS.imul X868.here hx rfl (hb hby d12_353) rfl ?_
   refine XS.aloadN X868.here hx rfl (hb hby d12_354) rfl rfl ?_
   exact kk)
  have f871 := ((Fq842_5.other W856 (Or.inl m859)).other W865 (Or.inr (own_sn (y116 hw) (y136 hw) (by decide))))
  obtain ⟨T872, X872, e872, st872⟩ := getF X868 hx hZ hown (host := "") (Or.inl (w115 hw)) Via.refl e868 f871 (g := (mkF m 355 o2 [(.ref ra0), (.int ((2 : Int32) * (zak + (1 : Int32))))])) rfl rfl (hb hby d12_355)
  have k873 := fun t (kk : SF p e below T872 m 358 o2 [(.ref zar), (.int ((2 : Int32) * (zak + (1 : Int32))))] t) => k870 t (st872 _ kk)
  have f874 := (V856.other W865 m851)
  have hV875 := f874
  obtain ⟨cl875, Ar875, q875, S875, Nn875, H875, G875⟩ := hV875
  have st876 := X872.arraylength hx (by rw [e872]; exact Ar875.1) (State.isArrayOf_alike hZ.alike Ar875.2.1) (g := (mkF m 358 o2 [(.ref zar), (.int ((2 : Int32) * (zak + (1 : Int32))))])) rfl rfl (hb hby d12_358)
  rw [len_of S875 Nn875] at st876
  have k877 := fun t (kk : SF p e below T872 m 359 o2 [(.int zi), (.int ((2 : Int32) * (zak + (1 : Int32))))] t) => k873 t (st876 _ kk)
  have hc359_878 : ¬ (zi < ((2 : Int32) * (zak + (1 : Int32)))) := own_fit1 hha hxx
  have k879 := fun t (kk : SF p e below T872 m 367 o2 [(.ref ra0)] t) => k877 t (by
   refine XS.icmpYes X872.here hx rfl (pc0 := 359) (pc' := 366) rfl (hb hby d12_359) rfl (flt hc359_878).2.2.2 (by decide) (by decide) ?_
   refine XS.aloadN X872.here hx rfl (hb hby d12_366) rfl rfl ?_
   exact kk)
  have f880 := ((Fq842_6.other W856 (Or.inl m859)).other W865 (Or.inr (own_sn (y130 hw) (y136 hw) (by decide))))
  obtain ⟨T881, X881, e881, st881⟩ := getF X872 hx hZ hown (host := "") (Or.inl (w129 hw)) Via.refl e872 f880 (g := (mkF m 367 o2 [(.ref ra0)])) rfl rfl (hb hby d12_367)
  have k882 := fun t (kk : SF p e below T881 m 370 o2 [(.int (za + (1 : Int32)))] t) => k879 t (st881 _ kk)
  have k883 := fun t (kk : SF p e below T881 m 372 o2 [(.int ((za + (1 : Int32)) - (1 : Int32)))] t) => k882 t (by
   show SF p e below T881 m 370 o2 [(.int (za + (1 : Int32)))] _
   refine XS.iconst X881.here hx rfl (hb hby d12_370) ?_
   refine XS.isub X881.here hx rfl (hb hby d12_371) rfl ?_
   exact kk)
  obtain ⟨fs, hr, hrun, hended, hW, hsame⟩ := X881.leave (v := some (.int ((za + (1 : Int32)) - (1 : Int32)))) (fun h => by rw [Bd.returns] at h; cases h) hlk
  have f884 := (f864.wr W865)
  have f885 := ((Fq842_0.other W856 (Or.inl m859)).other W865 (Or.inr (own_sn (y69 hw) (y136 hw) (by decide))))
  have f886 := ((Fq842_1.other W856 (Or.inl m859)).other W865 (Or.inr (own_sn (y71 hw) (y136 hw) (by decide))))
  have f887 := ((Fq842_2.other W856 (Or.inl m859)).other W865 (Or.inr (own_sn (y73 hw) (y136 hw) (by decide))))
  have f888 := ((Fq842_3.other W856 (Or.inl m859)).other W865 (Or.inr (own_sn (y84 hw) (y136 hw) (by decide))))
  have f889 := ((Fq842_4.other W856 (Or.inl m859)).other W865 (Or.inr (own_sn (y114 hw) (y136 hw) (by decide))))
  have f890 := ((Fq842_8.other W856 (Or.inl m859)).other W865 (Or.inr (own_sn (y182 hw) (y136 hw) (by decide))))
  have hf891 : (hn12_f_probes_ra0 p2 L_ra1 zi zw zat) = zat := (if_pos hc214_840)
  have m892 : zu ≠ zar := Ne.symm m852
  have m893 : zu ≠ ra0 := Ne.symm (own_ne_oa E_ra0 (w61 hw) zcp)
  have f894 := ((Vq842_1.other W856 m892).other W865 m893)
  have m895 : zv ≠ zar := Ne.symm m853
  have m896 : zv ≠ ra0 := Ne.symm (own_ne_oa E_ra0 (w61 hw) zdb)
  have f897 := ((Vq842_0.other W856 m895).other W865 m896)
  have ha898 : (hn12_a_r_slots_ra0 p2 L_ra1 zi zw za) = (hn12_337_L p2 L_ra1 zi zw za) := (if_pos hc214_840)
  refine ⟨_, _, k883 _ ?_, hrun, hended, _, _, rfl, ?_, ⟨_, rfl⟩, hW, hsame.mono (by decide) (by decide)⟩
  ·show SF p e below T881 m 372 o2 [(.int ((za + (1 : Int32)) - (1 : Int32)))] _
   exact retI X881 hx Bd.returns (hb hby d12_372) hr
  ·show Q12hn Z ra0 ra1 p2 p3 zz k_ra1 L_ra1 zba zae zab zar zem zi zw za zu zay zac zq zv zbd zai zal zm zak zat h0 n0 _ T881.heap _
   rw [e881]
   exact ⟨rfl, N865, K865, f884, f885, f886, f887, f888, f889, f871, f880, Fw865, (by rw [hf891]; exact f890), f894, VLq842_1, f897, VLq842_0, (by rw [ha898]; exact f874), (by rw [ha898]; exact VL856)⟩
 ·have k899 := fun t (kk : SF p e below T833 m 232 o7 [(.int (hn12_174_l5 p2 L_ra1)), (.int ((((hn12_207_at p2 L_ra1 zi zw).toUInt64 >>> ((32 : Int32) &&& 0x3f).toInt64.toUInt64).toInt64).toInt32))] t) => k839 t (by
   refine XS.ifNo X833.here hx rfl (hb hby d12_214) rfl ((if0 _ _).trans (feq (fun q => hc214_840 ((lw_eq _ _).mp q))).1) ?_
   refine XS.lload X833.here hx rfl (hb hby d12_217) rfl ?_
   refine XS.l2i X833.here hx rfl (hb hby d12_219) rfl ?_
   refine XS.iconst X833.here hx rfl (hb hby d12_220) ?_
   refine XS.isub X833.here hx rfl (hb hby d12_221) rfl ?_
   refine XS.istore X833.here hx rfl (hb hby d12_222) rfl (l' := o7) rfl ?_
   refine XS.lload X833.here hx rfl (hb hby d12_224) rfl ?_
   refine XS.bipush X833.here hx rfl (hb hby d12_226) ?_
   refine XS.lushr X833.here hx rfl (hb hby d12_228) rfl ?_
   refine XS.l2i X833.here hx rfl (hb hby d12_229) rfl ?_
   show SF p e below T833 m 230 o7 [(.int ((((hn12_207_at p2 L_ra1 zi zw).toUInt64 >>> ((32 : Int32) &&& 0x3f).toInt64.toUInt64).toInt64).toInt32))] _
   refine XS.iload X833.here hx rfl (hb hby d12_230) rfl ?_
   exact kk)
  have hc232_900 : ¬ (((((hn12_207_at p2 L_ra1 zi zw).toUInt64 >>> ((32 : Int32) &&& 0x3f).toInt64.toUInt64).toInt64).toInt32) = (hn12_174_l5 p2 L_ra1)) := hq hc214_840
  have k901 := fun t (kk : SF p e below T833 m 261 o3 [(.ref ra0), (.ref ra0)] t) => k899 t (by
   refine XS.icmpYes X833.here hx rfl (pc0 := 232) (pc' := 250) rfl (hb hby d12_232) rfl (feq hc232_900).2 (by decide) (by decide) ?_
   refine XS.iload X833.here hx rfl (hb hby d12_250) rfl ?_
   refine XS.iconst X833.here hx rfl (hb hby d12_252) ?_
   refine XS.iadd X833.here hx rfl (hb hby d12_253) rfl ?_
   refine XS.iload X833.here hx rfl (hb hby d12_254) rfl ?_
   refine XS.iand X833.here hx rfl (hb hby d12_256) rfl ?_
   refine XS.istore X833.here hx rfl (hb hby d12_257) rfl (l' := o3) rfl ?_
   refine XS.aloadN X833.here hx rfl (hb hby d12_259) rfl rfl ?_
   refine XS.dup X833.here hx rfl (hb hby d12_260) rfl rfl ?_
   exact kk)
  obtain ⟨T902, X902, e902, st902⟩ := getF X833 hx hZ hown (host := "") (Or.inl (w181 hw)) Via.refl e833 zeq (g := (mkF m 261 o3 [(.ref ra0), (.ref ra0)])) rfl rfl (hb hby d12_261)
  have k903 := fun t (kk : SF p e below T902 m 264 o3 [(.long zat), (.ref ra0)] t) => k901 t (st902 _ kk)
  have k904 := fun t (kk : SF p e below T902 m 267 o3 [(.long (zat + (1 : Int64))), (.ref ra0), (.long (zat + (1 : Int64)))] t) => k903 t (by
   refine XS.lconst X902.here hx rfl (hb hby d12_264) ?_
   refine XS.ladd X902.here hx rfl (hb hby d12_265) rfl ?_
   show SF p e below T902 m 266 o3 [(.long (zat + (1 : Int64))), (.ref ra0)] _
   refine own_dup2X1 X902.here hx rfl (hb hby d12_266) rfl rfl ?_
   exact kk)
  obtain ⟨T905, h905, X905, e905, W905, st905⟩ := putF X902 hx hZ hown (host := "") (Or.inl (w181 hw)) Via.refl e902 zeq E_ra0 (Or.inl (w182 hw)) (w61 hw) (ty := .long) (by decide) rfl rfl (g := (mkF m 267 o3 [(.long (zat + (1 : Int64))), (.ref ra0), (.long (zat + (1 : Int64)))])) rfl rfl (hb hby d12_267)
  have Fw905 := zeq.same W905
  have K905 : Keep h0 h905 [ra0, zu, zv, zar] := KC0.wr W905 (Or.inl (List.mem_of_getElem? (i := 0) rfl))
  have N905 := Fr.snoc X905 N830 g_ra0
  have k906 := fun t (kk : SF p e below T905 m 270 o3 [(.long (zat + (1 : Int64)))] t) => k904 t (st905 _ kk)
  have k907 := fun t (kk : SF p e below T905 m 274 o3 [(.ref ra0), (.long (16 : Int64)), (.long (zat + (1 : Int64)))] t) => k906 t (by
   refine X905.ldc2Long hx hown (mvT hZ (w183 hw)) (g := (mkF m 270 o3 [(.long (zat + (1 : Int64)))])) rfl (hb hby d12_270) _ ?_
   refine XS.aloadN X905.here hx rfl (hb hby d12_273) rfl rfl ?_
   exact kk)
  have f908 := (zfe.other W905 (Or.inr (own_sn (y136 hw) (y182 hw) (by decide))))
  obtain ⟨T909, X909, e909, st909⟩ := getF X905 hx hZ hown (host := "") (Or.inl (w135 hw)) Via.refl e905 f908 (g := (mkF m 274 o3 [(.ref ra0), (.long (16 : Int64)), (.long (zat + (1 : Int64)))])) rfl rfl (hb hby d12_274)
  have k910 := fun t (kk : SF p e below T909 m 277 o3 [(.int zak), (.long (16 : Int64)), (.long (zat + (1 : Int64)))] t) => k907 t (st909 _ kk)
  have k911 := fun t (kk : SF p e below T909 m 284 o3 [(.int (lcmpW (zat + (1 : Int64)) (((16 : Int64) * (zak.toInt64)) + (1048576 : Int64))))] t) => k910 t (by
   refine XS.i2l X909.here hx rfl (hb hby d12_277) rfl ?_
   refine XS.lmul X909.here hx rfl (hb hby d12_278) rfl ?_
   refine X909.ldc2Long hx hown (mvT hZ (w184 hw)) (g := (mkF m 279 o3 [(.long ((16 : Int64) * (zak.toInt64))), (.long (zat + (1 : Int64)))])) rfl (hb hby d12_279) _ ?_
   refine XS.ladd X909.here hx rfl (hb hby d12_282) rfl ?_
   refine XS.lcmp X909.here hx rfl (hb hby d12_283) rfl ?_
   exact kk)
  have hc284_912 : ¬ ((((16 : Int64) * (zak.toInt64)) + (1048576 : Int64)) < (zat + (1 : Int64))) := own_prb hha hp
  have k913 := fun t (kk : SF p e below T909 m 300 o3 [(.ref ra0)] t) => k911 t (by
   refine XS.ifYes X909.here hx rfl (pc0 := 284) (pc' := 299) rfl (hb hby d12_284) rfl ((if0 _ _).trans (flt (fun q => hc284_912 ((lw_gt _ _).mp q))).2.2.2) (by decide) (by decide) ?_
   refine XS.aloadN X909.here hx rfl (hb hby d12_299) rfl rfl ?_
   exact kk)
  have f914 := (zdo.other W905 (Or.inr (own_sn (y116 hw) (y182 hw) (by decide))))
  obtain ⟨T915, X915, e915, st915⟩ := getF X909 hx hZ hown (host := "") (Or.inl (w115 hw)) Via.refl e909 f914 (g := (mkF m 300 o3 [(.ref ra0)])) rfl rfl (hb hby d12_300)
  have k916 := fun t (kk : SF p e below T915 m 303 o3 [(.ref zar)] t) => k913 t (st915 _ kk)
  have k917 := fun t (kk : SF p e below T915 m 305 o3 [(.int (hn12_257_l7 p2 L_ra1 zi)), (.ref zar)] t) => k916 t (by
   refine XS.iload X915.here hx rfl (hb hby d12_303) rfl ?_
   exact kk)
  have m918 : zar ≠ ra0 := Ne.symm (own_ne_oa E_ra0 (w61 hw) zgz)
  have f919 := (zgz.other W905 m918)
  have hV920 := f919
  obtain ⟨cl920, Ar920, q920, S920, Nn920, H920, G920⟩ := hV920
  have hb921 : ¬ (hn12_257_l7 p2 L_ra1 zi) < 0 ∧ (hn12_257_l7 p2 L_ra1 zi) < zi := own_sl hxx
  have hin921 : ¬ ((hn12_257_l7 p2 L_ra1 zi) < 0 ∨ cl920.slots.size ≤ ((hn12_257_l7 p2 L_ra1 zi)).toNatClampNeg) := inb_of S920 hb921
  have hat921 : cl920.slots[((hn12_257_l7 p2 L_ra1 zi)).toNatClampNeg]? = some (.long (hn12_305_at p2 L_ra1 zi zw)) := Has.at H920 hin921 (own_getD_long _ _ _)
  have st921 := X915.laload hx (j := (hn12_257_l7 p2 L_ra1 zi)) (v := (.long (hn12_305_at p2 L_ra1 zi zw))) (by rw [e915]; exact Ar920.1) (State.isArrayOf_alike hZ.alike Ar920.2.1) Ar920.2.2 hin921 hat921 (g := (mkF m 305 o3 [(.int (hn12_257_l7 p2 L_ra1 zi)), (.ref zar)])) rfl rfl (hb hby d12_305)
  have k922 := fun t (kk : SF p e below T915 m 306 o3 [(.long (hn12_305_at p2 L_ra1 zi zw))] t) => k917 t (st921 _ kk)
  have k923 := fun t (kk : SF p e below T915 m 214 o1 [(.int (lcmpW (hn12_305_at p2 L_ra1 zi zw) (0 : Int64)))] t) => k922 t (by
   refine XS.lstore X915.here hx rfl (hb hby d12_306) rfl (l' := o1) rfl ?_
   show SF p e below T915 m 308 o1 [] _
   refine XS.goto X915.here hx rfl (pc0 := 308) (pc' := 210) rfl (hb hby d12_308) (by decide) (by decide) ?_
   refine XS.lload X915.here hx rfl (hb hby d12_210) rfl ?_
   refine XS.lconst X915.here hx rfl (hb hby d12_212) ?_
   refine XS.lcmp X915.here hx rfl (hb hby d12_213) rfl ?_
   exact kk)
  have hc214_924 : (hn12_305_at p2 L_ra1 zi zw) = (0 : Int64) := hr hc214_840
  have k925 := fun t (kk : SF p e below T915 m 315 o1 [(.int p3), (.int p2), (.ref ra1), (.ref ra0)] t) => k923 t (by
   refine XS.ifYes X915.here hx rfl (pc0 := 214) (pc' := 311) rfl (hb hby d12_214) rfl ((if0 _ _).trans (teq ((lw_eq _ _).mpr hc214_924)).1) (by decide) (by decide) ?_
   refine XS.aloadN X915.here hx rfl (hb hby d12_311) rfl rfl ?_
   refine XS.aloadN X915.here hx rfl (hb hby d12_312) rfl rfl ?_
   refine XS.iloadN X915.here hx rfl (hb hby d12_313) rfl ?_
   refine XS.iloadN X915.here hx rfl (hb hby d12_314) rfl ?_
   exact kk)
  have f926 := (zcc.other W905 (Or.inr (own_sn (y130 hw) (y182 hw) (by decide))))
  have f927 := (zdq.other W905 (Or.inr (own_sn (y71 hw) (y182 hw) (by decide))))
  have f928 := (zdy.other W905 (Or.inr (own_sn (y69 hw) (y182 hw) (by decide))))
  have f929 := (zbv.other W905 (Or.inr (own_sn (y73 hw) (y182 hw) (by decide))))
  have f930 := (zcr.other W905 (Or.inr (own_sn (y84 hw) (y182 hw) (by decide))))
  have f931 := (zdr.other W905 (Or.inr (own_sn (y114 hw) (y182 hw) (by decide))))
  have m932 : zu ≠ ra0 := Ne.symm (own_ne_oa E_ra0 (w61 hw) zcp)
  have f933 := (zcp.other W905 m932)
  have f934 := (E_ra0.wr W905)
  have m935 : zv ≠ ra0 := Ne.symm (own_ne_oa E_ra0 (w61 hw) zdb)
  have f936 := (zdb.other W905 m935)
  have m937 : ra1 ≠ ra0 := Ne.symm (own_ne_oa E_ra0 (w61 hw) V_ra1)
  have f938 := (V_ra1.other W905 m937)
  have Zz939 : n0 ≤ h905.size := (Nat.le_trans Z0 K905.1)
  obtain ⟨cq939, q939, q939'⟩ := f934.cell
  obtain ⟨_, _, ⟨T939, L939, k939, n939⟩, -, X939, ⟨Lc939, hQ939, l939, y939, z939⟩, st939⟩ := X915.privateBack hx (y := M27_) hown (mvT hZ (w120 hw)) (mvT hZ (w121 hw)) (own_selpriv (y := M27_) (mvT hZ (w61 hw)) (Cond.privateMethod_at (mvP hZ (w122 hw) (args := #[]))) (mvT hZ (w121 hw)) (by decide)) (Cond.privateMethod_at (mvP hZ (w122 hw) (args := #[]))) (mvT hZ (w123 hw)) (by decide) (backOf (W := 0) (rm15 l Z a0 hw [] ra0 ra1 p2 p3 za zu zay zac zq zv zbd zai zal k_ra1 L_ra1 (.ref zz) zm .null (.ref zar) zak (zat + (1 : Int64)) h905 n0 Zz939 (hs : ¬ za < 0 ∧ za < zac) (hE : ¬ (v16_ret za zq) < 0 ∧ (v16_ret za zq) < (60 : Int32)) (hbb : ¬ zai < (64 : Int32)) (hk : ¬ p2 < 0 ∧ p2 < (3 : Int32)) (ht : p3 = p2 + (1 : Int32)) f926 f927 f933 zdn f934 f928 f936 zea f938 VL_ra1 zgl zda zgy g_ra0 f929 f930 f931 f914 f908 Fw905) hZ (w123 hw) (w62 hw) (by decide) (by decide)) (g := (mkF m 315 o1 [(.int p3), (.int p2), (.ref ra1), (.ref ra0)])) rfl (by rw [hml]; rfl) (Steps.refl _) (a := ra0) (by rw [e915]; exact q939) q939' (argsL := [(.ref ra1), (.int p2), (.int p3)]) (rest := []) (lenOf pd_5 rfl) rfl (Nat.le_of_eq rfl) (hb hby d12_315) (fun _ _ => ⟨rfl, e915, (by decide : 0 + 0 ≤ _), (by decide : 0 + 0 ≤ _)⟩)
  dsimp only [Pt.U, Pt.locs, Pt.cells, Pt.slots] at X939 l939 y939 z939 st939 hQ939
  subst l939 y939 z939
  obtain ⟨rfl, N939q, Kq939, Eq939_0, Fq939_0, Fq939_1, Fq939_2, Fq939_3, Fq939_4, Fq939_5, Fq939_6, Fq939_7, Fq939_8, Vq939_0, VLq939_0, Vq939_1, VLq939_1⟩ := hQ939
  have K939 : Keep h0 T939.heap [ra0, zu, zv, zar] := K905.trans Kq939 (allS (Or.inl (List.mem_of_getElem? (i := 2) rfl)) (allS (Or.inl (List.mem_of_getElem? (i := 1) rfl)) (allS (Or.inl (List.mem_of_getElem? (i := 0) rfl)) all0)))
  have N939 := Fr.app N905 N939q
  have k940 := fun t (kk : SF p e below T939 m 318 o1 [(.int za)] t) => k925 t (st939.trans kk)
  have k941 := fun t (kk : SF p e below T939 m 320 o1 [(.ref ra0)] t) => k940 t (by
   refine XS.pop X939.here hx rfl (hb hby d12_318) rfl rfl ?_
   refine XS.aloadN X939.here hx rfl (hb hby d12_319) rfl rfl ?_
   exact kk)
  obtain ⟨T942, X942, e942, st942⟩ := getF X939 hx hZ hown (host := "") (Or.inl (w115 hw)) Via.refl rfl Fq939_5 (g := (mkF m 320 o1 [(.ref ra0)])) rfl rfl (hb hby d12_320)
  have k943 := fun t (kk : SF p e below T942 m 323 o1 [(.ref zar)] t) => k941 t (st942 _ kk)
  have k944 := fun t (kk : SF p e below T942 m 332 o1 [(.ref ra0), (.long (((hn12_174_l5 p2 L_ra1).toInt64) <<< ((32 : Int32) &&& 0x3f).toInt64)), (.int (hn12_257_l7 p2 L_ra1 zi)), (.ref zar)] t) => k943 t (by
   refine XS.iload X942.here hx rfl (hb hby d12_323) rfl ?_
   show SF p e below T942 m 325 o1 [(.int (hn12_257_l7 p2 L_ra1 zi)), (.ref zar)] _
   refine XS.iload X942.here hx rfl (hb hby d12_325) rfl ?_
   refine XS.i2l X942.here hx rfl (hb hby d12_327) rfl ?_
   refine XS.bipush X942.here hx rfl (hb hby d12_328) ?_
   refine XS.lshl X942.here hx rfl (hb hby d12_330) rfl ?_
   refine XS.aloadN X942.here hx rfl (hb hby d12_331) rfl rfl ?_
   exact kk)
  obtain ⟨T945, X945, e945, st945⟩ := getF X942 hx hZ hown (host := "") (Or.inl (w129 hw)) Via.refl e942 Fq939_6 (g := (mkF m 332 o1 [(.ref ra0), (.long (((hn12_174_l5 p2 L_ra1).toInt64) <<< ((32 : Int32) &&& 0x3f).toInt64)), (.int (hn12_257_l7 p2 L_ra1 zi)), (.ref zar)])) rfl rfl (hb hby d12_332)
  have k946 := fun t (kk : SF p e below T945 m 335 o1 [(.int (za + (1 : Int32))), (.long (((hn12_174_l5 p2 L_ra1).toInt64) <<< ((32 : Int32) &&& 0x3f).toInt64)), (.int (hn12_257_l7 p2 L_ra1 zi)), (.ref zar)] t) => k944 t (st945 _ kk)
  have k947 := fun t (kk : SF p e below T945 m 337 o1 [(.long ((((hn12_174_l5 p2 L_ra1).toInt64) <<< ((32 : Int32) &&& 0x3f).toInt64) ||| ((za + (1 : Int32)).toInt64))), (.int (hn12_257_l7 p2 L_ra1 zi)), (.ref zar)] t) => k946 t (by
   refine XS.i2l X945.here hx rfl (hb hby d12_335) rfl ?_
   refine XS.lor X945.here hx rfl (hb hby d12_336) rfl ?_
   exact kk)
  have m948 : zar ≠ zu := Ne.symm zjn
  have m949 : zar ≠ zv := Ne.symm zjf
  have f950 := (f919.keep Kq939 (ninS m949 (ninS m948 (ninS m918 nin0))))
  have hV951 := f950
  obtain ⟨cl951, Ar951, q951, S951, Nn951, H951, G951⟩ := hV951
  have hb952 : ¬ (hn12_257_l7 p2 L_ra1 zi) < 0 ∧ (hn12_257_l7 p2 L_ra1 zi) < zi := own_sl hxx
  have hin952 : ¬ ((hn12_257_l7 p2 L_ra1 zi) < 0 ∨ cl951.slots.size ≤ ((hn12_257_l7 p2 L_ra1 zi)).toNatClampNeg) := inb_of S951 hb952
  obtain ⟨T952, h952, X952, e952, W952, st952⟩ := stJ X945 hx hZ e945 Ar951 (j := (hn12_257_l7 p2 L_ra1 zi)) hin952 (g := (mkF m 337 o1 [(.long ((((hn12_174_l5 p2 L_ra1).toInt64) <<< ((32 : Int32) &&& 0x3f).toInt64) ||| ((za + (1 : Int32)).toInt64))), (.int (hn12_257_l7 p2 L_ra1 zi)), (.ref zar)])) rfl rfl (hb hby d12_337)
  have hl952 : ((hn12_257_l7 p2 L_ra1 zi)).toNatClampNeg < (List.map Value.long zw).length := by rw [List.length_map, zix]; exact own_lt_nat hb952.1 hb952.2
  have V952r : Arv Z h952 zar zem .long zi (List.map Value.long (zw.set ((hn12_257_l7 p2 L_ra1 zi)).toNatClampNeg ((((hn12_174_l5 p2 L_ra1).toInt64) <<< ((32 : Int32) &&& 0x3f).toInt64) ||| ((za + (1 : Int32)).toInt64)))) (.long (0 : Int64)) := by rw [List.map_set]; exact Arv.set Ar951 q951 S951 Nn951 H951 G951 rfl W952 _ rfl hl952
  have V952 : Arv Z h952 zar zem .long zi (List.map Value.long (hn12_337_L_1 p2 L_ra1 zi zw za)) (.long (0 : Int64)) := V952r
  have VL952 : (hn12_337_L_1 p2 L_ra1 zi zw za).length = (zi).toNatClampNeg := (List.length_set).trans zix
  have K952 : Keep h0 h952 [ra0, zu, zv, zar] := K939.wr W952 (Or.inl (List.mem_of_getElem? (i := 3) rfl))
  have N952 := Fr.snoc X952 N939 zkm
  have k953 := fun t (kk : SF p e below T952 m 338 o1 [] t) => k947 t (st952 _ kk)
  have k954 := fun t (kk : SF p e below T952 m 340 o1 [(.ref ra0), (.ref ra0)] t) => k953 t (by
   refine XS.aloadN X952.here hx rfl (hb hby d12_338) rfl rfl ?_
   refine XS.dup X952.here hx rfl (hb hby d12_339) rfl rfl ?_
   exact kk)
  have m955 : ra0 ≠ zar := Ne.symm m918
  have f956 := (Fq939_7.other W952 (Or.inl m955))
  obtain ⟨T957, X957, e957, st957⟩ := getF X952 hx hZ hown (host := "") (Or.inl (w135 hw)) Via.refl e952 f956 (g := (mkF m 340 o1 [(.ref ra0), (.ref ra0)])) rfl rfl (hb hby d12_340)
  have k958 := fun t (kk : SF p e below T957 m 343 o1 [(.int zak), (.ref ra0)] t) => k954 t (st957 _ kk)
  have k959 := fun t (kk : SF p e below T957 m 345 o1 [(.int (zak + (1 : Int32))), (.ref ra0)] t) => k958 t (by
   refine XS.iconst X957.here hx rfl (hb hby d12_343) ?_
   refine XS.iadd X957.here hx rfl (hb hby d12_344) rfl ?_
   exact kk)
  have f960 := (Eq939_0.wr W952)
  obtain ⟨T961, h961, X961, e961, W961, st961⟩ := putF X957 hx hZ hown (host := "") (Or.inl (w135 hw)) Via.refl e957 f956 f960 (Or.inl (w136 hw)) (w61 hw) (ty := .int) (by decide) rfl rfl (g := (mkF m 345 o1 [(.int (zak + (1 : Int32))), (.ref ra0)])) rfl rfl (hb hby d12_345)
  have Fw961 := f956.same W961
  have K961 : Keep h0 h961 [ra0, zu, zv, zar] := K952.wr W961 (Or.inl (List.mem_of_getElem? (i := 0) rfl))
  have N961 := Fr.snoc X961 N952 g_ra0
  have k962 := fun t (kk : SF p e below T961 m 348 o1 [] t) => k959 t (st961 _ kk)
  have k963 := fun t (kk : SF p e below T961 m 350 o1 [(.ref ra0), (.int 2)] t) => k962 t (by
   refine XS.iconst X961.here hx rfl (hb hby d12_348) ?_
   show SF p e below T961 m 349 o1 [(.int 2)] _
   refine XS.aloadN X961.here hx rfl (hb hby d12_349) rfl rfl ?_
   exact kk)
  obtain ⟨T964, X964, e964, st964⟩ := getF X961 hx hZ hown (host := "") (Or.inl (w135 hw)) Via.refl e961 Fw961 (g := (mkF m 350 o1 [(.ref ra0), (.int 2)])) rfl rfl (hb hby d12_350)
  have k965 := fun t (kk : SF p e below T964 m 353 o1 [(.int (zak + (1 : Int32))), (.int 2)] t) => k963 t (st964 _ kk)
  have k966 := fun t (kk : SF p e below T964 m 355 o1 [(.ref ra0), (.int ((2 : Int32) * (zak + (1 : Int32))))] t) => k965 t (by
   refine XS.imul X964.here hx rfl (hb hby d12_353) rfl ?_
   refine XS.aloadN X964.here hx rfl (hb hby d12_354) rfl rfl ?_
   exact kk)
  have f967 := ((Fq939_5.other W952 (Or.inl m955)).other W961 (Or.inr (own_sn (y116 hw) (y136 hw) (by decide))))
  obtain ⟨T968, X968, e968, st968⟩ := getF X964 hx hZ hown (host := "") (Or.inl (w115 hw)) Via.refl e964 f967 (g := (mkF m 355 o1 [(.ref ra0), (.int ((2 : Int32) * (zak + (1 : Int32))))])) rfl rfl (hb hby d12_355)
  have k969 := fun t (kk : SF p e below T968 m 358 o1 [(.ref zar), (.int ((2 : Int32) * (zak + (1 : Int32))))] t) => k966 t (st968 _ kk)
  have f970 := (V952.other W961 m918)
  have hV971 := f970
  obtain ⟨cl971, Ar971, q971, S971, Nn971, H971, G971⟩ := hV971
  have st972 := X968.arraylength hx (by rw [e968]; exact Ar971.1) (State.isArrayOf_alike hZ.alike Ar971.2.1) (g := (mkF m 358 o1 [(.ref zar), (.int ((2 : Int32) * (zak + (1 : Int32))))])) rfl rfl (hb hby d12_358)
  rw [len_of S971 Nn971] at st972
  have k973 := fun t (kk : SF p e below T968 m 359 o1 [(.int zi), (.int ((2 : Int32) * (zak + (1 : Int32))))] t) => k969 t (st972 _ kk)
  have hc359_974 : ¬ (zi < ((2 : Int32) * (zak + (1 : Int32)))) := own_fit1 hha hxx
  have k975 := fun t (kk : SF p e below T968 m 367 o1 [(.ref ra0)] t) => k973 t (by
   refine XS.icmpYes X968.here hx rfl (pc0 := 359) (pc' := 366) rfl (hb hby d12_359) rfl (flt hc359_974).2.2.2 (by decide) (by decide) ?_
   refine XS.aloadN X968.here hx rfl (hb hby d12_366) rfl rfl ?_
   exact kk)
  have f976 := ((Fq939_6.other W952 (Or.inl m955)).other W961 (Or.inr (own_sn (y130 hw) (y136 hw) (by decide))))
  obtain ⟨T977, X977, e977, st977⟩ := getF X968 hx hZ hown (host := "") (Or.inl (w129 hw)) Via.refl e968 f976 (g := (mkF m 367 o1 [(.ref ra0)])) rfl rfl (hb hby d12_367)
  have k978 := fun t (kk : SF p e below T977 m 370 o1 [(.int (za + (1 : Int32)))] t) => k975 t (st977 _ kk)
  have k979 := fun t (kk : SF p e below T977 m 372 o1 [(.int ((za + (1 : Int32)) - (1 : Int32)))] t) => k978 t (by
   refine XS.iconst X977.here hx rfl (hb hby d12_370) ?_
   refine XS.isub X977.here hx rfl (hb hby d12_371) rfl ?_
   exact kk)
  obtain ⟨fs, hr, hrun, hended, hW, hsame⟩ := X977.leave (v := some (.int ((za + (1 : Int32)) - (1 : Int32)))) (fun h => by rw [Bd.returns] at h; cases h) hlk
  have f980 := (f960.wr W961)
  have f981 := ((Fq939_0.other W952 (Or.inl m955)).other W961 (Or.inr (own_sn (y69 hw) (y136 hw) (by decide))))
  have f982 := ((Fq939_1.other W952 (Or.inl m955)).other W961 (Or.inr (own_sn (y71 hw) (y136 hw) (by decide))))
  have f983 := ((Fq939_2.other W952 (Or.inl m955)).other W961 (Or.inr (own_sn (y73 hw) (y136 hw) (by decide))))
  have f984 := ((Fq939_3.other W952 (Or.inl m955)).other W961 (Or.inr (own_sn (y84 hw) (y136 hw) (by decide))))
  have f985 := ((Fq939_4.other W952 (Or.inl m955)).other W961 (Or.inr (own_sn (y114 hw) (y136 hw) (by decide))))
  have f986 := ((Fq939_8.other W952 (Or.inl m955)).other W961 (Or.inr (own_sn (y182 hw) (y136 hw) (by decide))))
  have hf987 : (hn12_f_probes_ra0 p2 L_ra1 zi zw zat) = (zat + (1 : Int64)) := (if_neg hc214_840)
  have m988 : zu ≠ zar := Ne.symm m948
  have f989 := ((Vq939_1.other W952 m988).other W961 m932)
  have m990 : zv ≠ zar := Ne.symm m949
  have f991 := ((Vq939_0.other W952 m990).other W961 m935)
  have ha992 : (hn12_a_r_slots_ra0 p2 L_ra1 zi zw za) = (hn12_337_L_1 p2 L_ra1 zi zw za) := (if_neg hc214_840)
  refine ⟨_, _, k979 _ ?_, hrun, hended, _, _, rfl, ?_, ⟨_, rfl⟩, hW, hsame.mono (by decide) (by decide)⟩
  ·show SF p e below T977 m 372 o1 [(.int ((za + (1 : Int32)) - (1 : Int32)))] _
   exact retI X977 hx Bd.returns (hb hby d12_372) hr
  ·show Q12hn Z ra0 ra1 p2 p3 zz k_ra1 L_ra1 zba zae zab zar zem zi zw za zu zay zac zq zv zbd zai zal zm zak zat h0 n0 _ T977.heap _
   rw [e977]
   exact ⟨rfl, N961, K961, f980, f981, f982, f983, f984, f985, f967, f976, Fw961, (by rw [hf987]; exact f986), f989, VLq939_1, f991, VLq939_0, (by rw [ha992]; exact f970), (by rw [ha992]; exact VL952)⟩
theorem pd_6 : parseMethodDescriptor "(I[BII)Z" = some ⟨[.int, (.array .byte), .int, .int], some .boolean⟩ := by decide +kernel
theorem d12_235 : decode C16_ 235 = .ok (.aload_n 0, 1) := by decide +kernel
theorem d12_236 : decode C16_ 236 = .ok (.iload 10, 2) := by decide +kernel
theorem d12_238 : decode C16_ 238 = .ok (.aload_n 1, 1) := by decide +kernel
theorem d12_239 : decode C16_ 239 = .ok (.iload_n 2, 1) := by decide +kernel
theorem d12_240 : decode C16_ 240 = .ok (.iload_n 3, 1) := by decide +kernel
theorem d12_241 : decode C16_ 241 = .ok (.invokevirtual 82, 3) := by decide +kernel
theorem d12_244 : decode C16_ 244 = .ok (.ifCond .eq 6, 3) := by decide +kernel
theorem d12_247 : decode C16_ 247 = .ok (.iload 10, 2) := by decide +kernel
theorem d12_249 : decode C16_ 249 = .ok (.ireturn, 1) := by decide +kernel
def hk12_172_at (p2 : Int32) (L_ra1 : List Int32) : Int32 := (L_ra1.getD (p2).toNatClampNeg (0 : Int32))
def hk12_174_l5 (p2 : Int32) (L_ra1 : List Int32) : Int32 := (((31 : Int32) * (1 : Int32)) + (hk12_172_at p2 L_ra1))
def hk12_199_l7 (p2 : Int32) (L_ra1 : List Int32) (zi : Int32) : Int32 := ((v14_ret (hk12_174_l5 p2 L_ra1)) &&& (zi - (1 : Int32)))
def hk12_207_at (p2 : Int32) (L_ra1 : List Int32) (zi : Int32) (zw : List Int64) : Int64 := (zw.getD ((hk12_199_l7 p2 L_ra1 zi)).toNatClampNeg (0 : Int64))
def hk12_222_l10 (p2 : Int32) (L_ra1 : List Int32) (zi : Int32) (zw : List Int64) : Int32 := (((hk12_207_at p2 L_ra1 zi zw).toInt32) - (1 : Int32))
def Q12hk (Z : State) (ra0 ra1 : Addr) (p2 p3 : Int32) (zz : Addr) (k_ra1 : ClassId) (L_ra1 : List Int32) (zba : ClassId) (zae : Int32) (zab : List Int32) (zar : Addr) (zem : ClassId) (zi : Int32) (zw : List Int64) (zu : Addr) (zay : ClassId) (zac : Int32) (zq : List Int32) (zv : Addr) (zbd : ClassId) (zai : Int32) (zal : List Int32) (h0 : Heap) (n0 : Nat) (v : Option Value) (h : Heap) (L : List Loc) : Prop := (v = some (.int (hk12_222_l10 p2 L_ra1 zi zw)) ∧ Fr n0 L ∧ h = h0)
set_option maxRecDepth 65536 in
set_option maxHeartbeats 40000000 in
theorem rm12hk (l : Launch) (Z : State) (a0 : Array Value) (hw : HW Z a0) (ws : List Jvm.Cond) (ra0 ra1 : Addr) (p2 p3 : Int32) (zz : Addr) (k_ra1 : ClassId) (L_ra1 : List Int32) (zba : ClassId) (zae : Int32) (zab : List Int32) (zar : Addr) (zem : ClassId) (zi : Int32) (zw : List Int64) (zu : Addr) (zay : ClassId) (zac : Int32) (zq : List Int32) (zv : Addr) (zbd : ClassId) (zai : Int32) (zal : List Int32) (h0 : Heap) (n0 : Nat) (Z0 : n0 ≤ h0.size) (hk : ¬ p2 < 0 ∧ p2 < (3 : Int32)) (ht : p3 = p2 + (1 : Int32)) (hneg : (v13_ret p2 L_ra1) < (0 : Int32)) (hv : ¬ zae < (64 : Int32)) (hxx : ¬ zi < (128 : Int32) ∧ zi < (513 : Int32)) (hz : ¬ ((hk12_207_at p2 L_ra1 zi zw) = (0 : Int64))) (hq : (((((hk12_207_at p2 L_ra1 zi zw).toUInt64 >>> ((32 : Int32) &&& 0x3f).toInt64.toUInt64).toInt64).toInt32) = (hk12_174_l5 p2 L_ra1))) (h0n : (hk12_222_l10 p2 L_ra1 zi zw) = (0 : Int32)) (hn : ¬ zac < (64 : Int32)) (hbb : ¬ zai < (64 : Int32)) (hl : (zq.getD 0 (0 : Int32)) = (1 : Int32)) (hy : (zal.getD 0 (0 : Int32)) = (L_ra1.getD (p2).toNatClampNeg (0 : Int32))) (zbv : Fld Z h0 ra0 cBs "byValue" "[I" (.ref zz)) (V_ra1 : Arv Z h0 ra1 k_ra1 .byte (3 : Int32) (List.map Value.int L_ra1) (.int 0)) (VL_ra1 : L_ra1.length = ((3 : Int32)).toNatClampNeg) (zde : Arv Z h0 zz zba .int zae (List.map Value.int zab) (.int 0)) (zel : zab.length = zae.toNatClampNeg) (E_ra0 : Exa Z h0 ra0 cBs) (zdr : Fld Z h0 ra0 cBs "crowded" "Ljava/util/Map;" .null) (zdo : Fld Z h0 ra0 cBs "slots" "[J" (.ref zar)) (zgz : Arv Z h0 zar zem .long zi (List.map Value.long zw) (.long (0 : Int64))) (zix : zw.length = zi.toNatClampNeg) (zdq : Fld Z h0 ra0 cBs "ends" "[I" (.ref zu)) (zcp : Arv Z h0 zu zay .int zac (List.map Value.int zq) (.int 0)) (zdn : zq.length = zac.toNatClampNeg) (zdy : Fld Z h0 ra0 cBs "bytes" "[B" (.ref zv)) (zdb : Arv Z h0 zv zbd .byte zai (List.map Value.int zal) (.int 0)) (zea : zal.length = zai.toNatClampNeg) :
  MetFree l M32_ (head1 (Jvm.Cond.code M32_ prog_10_method_2_code 11 (some .int) :: ws) R13_) (fun a U => a = #[(.ref ra0), (.ref ra1), (.int p2), (.int p3)] ∧ Z.Warmed39 U.vm ∧ U.heap = h0) (fun _ _ _ _ _ => True) (fun _ U o U' => ∃ v L, o = .returned v ∧ Q12hk Z ra0 ra1 p2 p3 zz k_ra1 L_ra1 zba zae zab zar zem zi zw zu zay zac zq zv zbd zai zal h0 n0 v U'.heap L ∧ FrameEnd U o U' L R13_.cells R13_.slots) := by
 refine MetFree.of_bodySF (plainFor_of_name pn_167) hisR ?_
 intro p e s m args below meth c s₁ Bd hml0 hP hK
 obtain ⟨rfl, hZ, hh⟩ := hP
 have hx := Bd.exec
 have hlk : meth.locks = false := by first | exact BodyLoose.notSynchronized Bd | exact Body.notSynchronized Bd
 have hby := Bd.bytes
 have hml : c.maxLocals = 11 := hml0
 have hown : s.vm.findClass cBs = some m.cls := findClass_of_methodNamed Bd.named
 have hnm := (name_of_methodNamed Bd.named Bd.method).1
 have X0 : Stand p l e R13_ s m #[(.ref ra0), (.ref ra1), (.int p2), (.int p3)] below meth c s₁ [] 0 0 := Stand.of_body Bd
 have e0 : s₁.heap = h0 := by rw [← hh, Bd.state]; rfl
 have N0 := Fr.nil n0
 have KC0 := Keep.refl h0 ([] : List Addr)
 let o1 : Array Slot := #[rv ra0, rv ra1, iv p2, iv p3, iv (v13_ret p2 L_ra1), iv (hk12_174_l5 p2 L_ra1), iv (zi - (1 : Int32)), iv (hk12_199_l7 p2 L_ra1 zi), .val (.long (hk12_207_at p2 L_ra1 zi zw)), .second, iv (hk12_222_l10 p2 L_ra1 zi zw)]
 let o2 : Array Slot := #[rv ra0, rv ra1, iv p2, iv p3, iv (v13_ret p2 L_ra1), iv (hk12_174_l5 p2 L_ra1), iv (zi - (1 : Int32)), iv (hk12_199_l7 p2 L_ra1 zi), .unset, .unset, .unset]
 let o3 : Array Slot := #[rv ra0, rv ra1, iv p2, iv p3, iv (v13_ret p2 L_ra1), .unset, .unset, .unset, .unset, .unset, .unset]
 let o4 : Array Slot := #[rv ra0, rv ra1, iv p2, iv p3, iv (v13_ret p2 L_ra1), iv (hk12_174_l5 p2 L_ra1), iv (p2 + (1 : Int32)), .unset, .unset, .unset, .unset]
 let o5 : Array Slot := #[rv ra0, rv ra1, iv p2, iv p3, iv (v13_ret p2 L_ra1), iv (hk12_174_l5 p2 L_ra1), iv (zi - (1 : Int32)), .unset, .unset, .unset, .unset]
 let o6 : Array Slot := #[rv ra0, rv ra1, iv p2, iv p3, iv (v13_ret p2 L_ra1), iv (hk12_174_l5 p2 L_ra1), iv (zi - (1 : Int32)), iv (hk12_199_l7 p2 L_ra1 zi), .val (.long (hk12_207_at p2 L_ra1 zi zw)), .second, .unset]
 let o7 : Array Slot := #[rv ra0, rv ra1, iv p2, iv p3, .unset, .unset, .unset, .unset, .unset, .unset, .unset]
 let o8 : Array Slot := #[rv ra0, rv ra1, iv p2, iv p3, iv (v13_ret p2 L_ra1), iv 1, iv p2, .unset, .unset, .unset, .unset]
 have pre0 : ∀ t, SF p e below s₁ m 0 o7 [] t → Steps p.tables e below (s₁.setTop (entryFrame m #[(.ref ra0), (.ref ra1), (.int p2), (.int p3)] 11)) t := fun t k => castTop (ef_rm12m m ra0 ra1 p2 p3) k
 have k993 := fun t (kk : SF p e below s₁ m 1 o7 [(.ref ra0)] t) => pre0 t (by
  refine XS.aloadN X0.here hx rfl (hb hby d12_0) rfl rfl ?_
  exact kk)
 obtain ⟨T994, X994, e994, st994⟩ := getF X0 hx hZ hown (host := "") (Or.inl (w72 hw)) Via.refl e0 zbv (g := (mkF m 1 o7 [(.ref ra0)])) rfl rfl (hb hby d12_1)
 have k995 := fun t (kk : SF p e below T994 m 4 o7 [(.ref zz)] t) => k993 t (st994 _ kk)
 have k996 := fun t (kk : SF p e below T994 m 19 o7 [(.int p3), (.int p2), (.ref ra1), (.ref ra0)] t) => k995 t (by
  show SF p e below T994 m 4 o7 [(.ref zz)] _
  refine XS.ifnonnullYes X994.here hx rfl (pc0 := 4) (pc' := 15) rfl (hb hby d12_4) rfl (by decide) (by decide) ?_
  refine XS.aloadN X994.here hx rfl (hb hby d12_15) rfl rfl ?_
  refine XS.aloadN X994.here hx rfl (hb hby d12_16) rfl rfl ?_
  refine XS.iloadN X994.here hx rfl (hb hby d12_17) rfl ?_
  refine XS.iloadN X994.here hx rfl (hb hby d12_18) rfl ?_
  exact kk)
 have Zz997 : n0 ≤ h0.size := (Nat.le_trans Z0 KC0.1)
 obtain ⟨cq997, q997, q997'⟩ := E_ra0.cell
 obtain ⟨_, _, ⟨T997, L997, k997, n997⟩, -, X997, ⟨Lc997, hQ997, l997, y997, z997⟩, st997⟩ := X994.privateBack hx (y := M28_) hown (mvT hZ (w109 hw)) (mvT hZ (w110 hw)) (own_selpriv (y := M28_) (mvT hZ (w61 hw)) (Cond.privateMethod_at (mvP hZ (w111 hw) (args := #[]))) (mvT hZ (w110 hw)) (by decide)) (Cond.privateMethod_at (mvP hZ (w111 hw) (args := #[]))) (mvT hZ (w112 hw)) (by decide) (backOf (W := 0) (rm13 l Z a0 hw [] ra0 ra1 p2 p3 k_ra1 L_ra1 zz zba zae zab h0 n0 Zz997 (hk : ¬ p2 < 0 ∧ p2 < (3 : Int32)) (ht : p3 = p2 + (1 : Int32)) (hv : ¬ zae < (64 : Int32)) V_ra1 VL_ra1 zbv zde zel) hZ (w112 hw) (w62 hw) (by decide) (by decide)) (g := (mkF m 19 o7 [(.int p3), (.int p2), (.ref ra1), (.ref ra0)])) rfl (by rw [hml]; rfl) (Steps.refl _) (a := ra0) (by rw [e994]; exact q997) q997' (argsL := [(.ref ra1), (.int p2), (.int p3)]) (rest := []) (lenOf pd_5 rfl) rfl (Nat.le_of_eq rfl) (hb hby d12_19) (fun _ _ => ⟨rfl, e994, (by decide : 0 + 0 ≤ _), (by decide : 0 + 0 ≤ _)⟩)
 dsimp only [Pt.U, Pt.locs, Pt.cells, Pt.slots] at X997 l997 y997 z997 st997 hQ997
 subst l997 y997 z997
 obtain ⟨rfl, N997q, e997⟩ := hQ997
 have N997 := Fr.app N0 N997q
 have k998 := fun t (kk : SF p e below T997 m 22 o7 [(.int (v13_ret p2 L_ra1))] t) => k996 t (st997.trans kk)
 have k999 := fun t (kk : SF p e below T997 m 26 o3 [(.int (v13_ret p2 L_ra1))] t) => k998 t (by
  refine XS.istore X997.here hx rfl (hb hby d12_22) rfl (l' := o3) rfl ?_
  refine XS.iload X997.here hx rfl (hb hby d12_24) rfl ?_
  exact kk)
 have hc26_1000 : (v13_ret p2 L_ra1) < (0 : Int32) := hneg
 have k1001 := fun t (kk : SF p e below T997 m 72 o3 [(.ref ra0)] t) => k999 t (by
  refine XS.ifYes X997.here hx rfl (pc0 := 26) (pc' := 71) rfl (hb hby d12_26) rfl ((if0 _ _).trans (tlt hc26_1000).1) (by decide) (by decide) ?_
  refine XS.aloadN X997.here hx rfl (hb hby d12_71) rfl rfl ?_
  exact kk)
 obtain ⟨T1002, X1002, e1002, st1002⟩ := getF X997 hx hZ hown (host := "") (Or.inl (w113 hw)) Via.refl e997 zdr (g := (mkF m 72 o3 [(.ref ra0)])) rfl rfl (hb hby d12_72)
 have k1003 := fun t (kk : SF p e below T1002 m 75 o3 [.null] t) => k1001 t (st1002 _ kk)
 have k1004 := fun t (kk : SF p e below T1002 m 136 o3 [(.ref ra0)] t) => k1003 t (by
  show SF p e below T1002 m 75 o3 [.null] _
  refine XS.ifnullYes X1002.here hx rfl (pc0 := 75) (pc' := 135) rfl (hb hby d12_75) rfl (by decide) (by decide) ?_
  show SF p e below T1002 m 135 o3 [] _
  refine XS.aloadN X1002.here hx rfl (hb hby d12_135) rfl rfl ?_
  exact kk)
 obtain ⟨T1005, X1005, e1005, st1005⟩ := getF X1002 hx hZ hown (host := "") (Or.inl (w115 hw)) Via.refl e1002 zdo (g := (mkF m 136 o3 [(.ref ra0)])) rfl rfl (hb hby d12_136)
 have k1006 := fun t (kk : SF p e below T1005 m 139 o3 [(.ref zar)] t) => k1004 t (st1005 _ kk)
 have k1007 := fun t (kk : SF p e below T1005 m 161 o8 [(.int p3), (.int p2)] t) => k1006 t (by
  show SF p e below T1005 m 139 o3 [(.ref zar)] _
  refine XS.ifnonnullYes X1005.here hx rfl (pc0 := 139) (pc' := 152) rfl (hb hby d12_139) rfl (by decide) (by decide) ?_
  refine XS.iconst X1005.here hx rfl (hb hby d12_152) ?_
  refine XS.istore X1005.here hx rfl (hb hby d12_153) rfl (l' := #[rv ra0, rv ra1, iv p2, iv p3, iv (v13_ret p2 L_ra1), iv 1, .unset, .unset, .unset, .unset, .unset]) rfl ?_
  refine XS.iloadN X1005.here hx rfl (hb hby d12_155) rfl ?_
  refine XS.istore X1005.here hx rfl (hb hby d12_156) rfl (l' := o8) rfl ?_
  refine XS.iload X1005.here hx rfl (hb hby d12_158) rfl ?_
  refine XS.iloadN X1005.here hx rfl (hb hby d12_160) rfl ?_
  exact kk)
 have hc161_1008 : p2 < p3 := own_v4 ht hk
 have k1009 := fun t (kk : SF p e below T1005 m 172 o8 [(.int p2), (.ref ra1), (.int ((31 : Int32) * (1 : Int32)))] t) => k1007 t (by
  refine XS.icmpNo X1005.here hx rfl (hb hby d12_161) rfl (tlt hc161_1008).2.1 ?_
  refine XS.bipush X1005.here hx rfl (hb hby d12_164) ?_
  refine XS.iload X1005.here hx rfl (hb hby d12_166) rfl ?_
  refine XS.imul X1005.here hx rfl (hb hby d12_168) rfl ?_
  refine XS.aloadN X1005.here hx rfl (hb hby d12_169) rfl rfl ?_
  show SF p e below T1005 m 170 o8 [(.ref ra1), (.int ((31 : Int32) * (1 : Int32)))] _
  refine XS.iload X1005.here hx rfl (hb hby d12_170) rfl ?_
  exact kk)
 have hV1010 := V_ra1
 obtain ⟨cl1010, Ar1010, q1010, S1010, Nn1010, H1010, G1010⟩ := hV1010
 have hb1011 : ¬ p2 < 0 ∧ p2 < (3 : Int32) := hk
 have hin1011 : ¬ (p2 < 0 ∨ cl1010.slots.size ≤ (p2).toNatClampNeg) := inb_of S1010 hb1011
 have hat1011 : cl1010.slots[(p2).toNatClampNeg]? = some (.int (hk12_172_at p2 L_ra1)) := Has.at H1010 hin1011 (own_getD_int _ _ _)
 have st1011 := X1005.baloadBytes hx (j := p2) (v := (.int (hk12_172_at p2 L_ra1))) (by rw [e1005]; exact Ar1010.1) (State.isArrayOf_alike hZ.alike Ar1010.2.1) Ar1010.2.2 hin1011 hat1011 (g := (mkF m 172 o8 [(.int p2), (.ref ra1), (.int ((31 : Int32) * (1 : Int32)))])) rfl rfl (hb hby d12_172)
 have k1012 := fun t (kk : SF p e below T1005 m 173 o8 [(.int (hk12_172_at p2 L_ra1)), (.int ((31 : Int32) * (1 : Int32)))] t) => k1009 t (st1011 _ kk)
 have k1013 := fun t (kk : SF p e below T1005 m 161 o4 [(.int p3), (.int (p2 + (1 : Int32)))] t) => k1012 t (by
  refine XS.iadd X1005.here hx rfl (hb hby d12_173) rfl ?_
  refine XS.istore X1005.here hx rfl (hb hby d12_174) rfl (l' := #[rv ra0, rv ra1, iv p2, iv p3, iv (v13_ret p2 L_ra1), iv (hk12_174_l5 p2 L_ra1), iv p2, .unset, .unset, .unset, .unset]) rfl ?_
  refine XS.iinc X1005.here hx rfl (hb hby d12_176) rfl (l' := o4) rfl ?_
  refine XS.goto X1005.here hx rfl (pc0 := 179) (pc' := 158) rfl (hb hby d12_179) (by decide) (by decide) ?_
  refine XS.iload X1005.here hx rfl (hb hby d12_158) rfl ?_
  refine XS.iloadN X1005.here hx rfl (hb hby d12_160) rfl ?_
  exact kk)
 have hc161_1014 : ¬ ((p2 + (1 : Int32)) < p3) := own_v5 ht
 have k1015 := fun t (kk : SF p e below T1005 m 183 o4 [(.ref ra0)] t) => k1013 t (by
  refine XS.icmpYes X1005.here hx rfl (pc0 := 161) (pc' := 182) rfl (hb hby d12_161) rfl (flt hc161_1014).2.1 (by decide) (by decide) ?_
  refine XS.aloadN X1005.here hx rfl (hb hby d12_182) rfl rfl ?_
  exact kk)
 obtain ⟨T1016, X1016, e1016, st1016⟩ := getF X1005 hx hZ hown (host := "") (Or.inl (w115 hw)) Via.refl e1005 zdo (g := (mkF m 183 o4 [(.ref ra0)])) rfl rfl (hb hby d12_183)
 have k1017 := fun t (kk : SF p e below T1016 m 186 o4 [(.ref zar)] t) => k1015 t (st1016 _ kk)
 have hV1018 := zgz
 obtain ⟨cl1018, Ar1018, q1018, S1018, Nn1018, H1018, G1018⟩ := hV1018
 have st1019 := X1016.arraylength hx (by rw [e1016]; exact Ar1018.1) (State.isArrayOf_alike hZ.alike Ar1018.2.1) (g := (mkF m 186 o4 [(.ref zar)])) rfl rfl (hb hby d12_186)
 rw [len_of S1018 Nn1018] at st1019
 have k1020 := fun t (kk : SF p e below T1016 m 187 o4 [(.int zi)] t) => k1017 t (st1019 _ kk)
 have k1021 := fun t (kk : SF p e below T1016 m 193 o5 [(.int (hk12_174_l5 p2 L_ra1))] t) => k1020 t (by
  refine XS.iconst X1016.here hx rfl (hb hby d12_187) ?_
  refine XS.isub X1016.here hx rfl (hb hby d12_188) rfl ?_
  refine XS.istore X1016.here hx rfl (hb hby d12_189) rfl (l' := o5) rfl ?_
  show SF p e below T1016 m 191 o5 [] _
  refine XS.iload X1016.here hx rfl (hb hby d12_191) rfl ?_
  exact kk)
 have Zz1022 : n0 ≤ h0.size := (Nat.le_trans Z0 KC0.1)
 obtain ⟨_, _, ⟨T1022, L1022, k1022, n1022⟩, -, X1022, ⟨Lc1022, hQ1022, l1022, y1022, z1022⟩, st1022⟩ := Jvm.LawKit.callS X1016 hx (y := M29_) hown (mvT hZ (w117 hw)) (mvT hZ (w118 hw)) (mvT hZ (w62 hw)) (mvT hZ (w119 hw)) (by decide) (backOf (W := 0) (rm14 l Z a0 hw [] (hk12_174_l5 p2 L_ra1) h0 n0 Zz1022) hZ (w119 hw) (w62 hw) (by decide) (by decide)) (g := (mkF m 193 o5 [(.int (hk12_174_l5 p2 L_ra1))])) rfl (by rw [hml]; rfl) (argsL := [(.int (hk12_174_l5 p2 L_ra1))]) (rest := []) (lenOf pd_1 rfl) rfl (Nat.le_of_eq rfl) (hb hby d12_193) (fun _ _ => ⟨rfl, e1016, (by decide : 0 + 0 ≤ _), (by decide : 0 + 0 ≤ _)⟩)
 dsimp only [Pt.U, Pt.locs, Pt.cells, Pt.slots] at X1022 l1022 y1022 z1022 st1022 hQ1022
 subst l1022 y1022 z1022
 obtain ⟨rfl, N1022q, e1022⟩ := hQ1022
 have N1022 := Fr.app N997 N1022q
 have k1023 := fun t (kk : SF p e below T1022 m 196 o5 [(.int (v14_ret (hk12_174_l5 p2 L_ra1)))] t) => k1021 t (st1022 _ kk)
 have k1024 := fun t (kk : SF p e below T1022 m 202 o2 [(.ref ra0)] t) => k1023 t (by
  refine XS.iload X1022.here hx rfl (hb hby d12_196) rfl ?_
  refine XS.iand X1022.here hx rfl (hb hby d12_198) rfl ?_
  refine XS.istore X1022.here hx rfl (hb hby d12_199) rfl (l' := o2) rfl ?_
  refine XS.aloadN X1022.here hx rfl (hb hby d12_201) rfl rfl ?_
  exact kk)
 obtain ⟨T1025, X1025, e1025, st1025⟩ := getF X1022 hx hZ hown (host := "") (Or.inl (w115 hw)) Via.refl e1022 zdo (g := (mkF m 202 o2 [(.ref ra0)])) rfl rfl (hb hby d12_202)
 have k1026 := fun t (kk : SF p e below T1025 m 205 o2 [(.ref zar)] t) => k1024 t (st1025 _ kk)
 have k1027 := fun t (kk : SF p e below T1025 m 207 o2 [(.int (hk12_199_l7 p2 L_ra1 zi)), (.ref zar)] t) => k1026 t (by
  refine XS.iload X1025.here hx rfl (hb hby d12_205) rfl ?_
  exact kk)
 have hV1028 := zgz
 obtain ⟨cl1028, Ar1028, q1028, S1028, Nn1028, H1028, G1028⟩ := hV1028
 have hb1029 : ¬ (hk12_199_l7 p2 L_ra1 zi) < 0 ∧ (hk12_199_l7 p2 L_ra1 zi) < zi := own_sl hxx
 have hin1029 : ¬ ((hk12_199_l7 p2 L_ra1 zi) < 0 ∨ cl1028.slots.size ≤ ((hk12_199_l7 p2 L_ra1 zi)).toNatClampNeg) := inb_of S1028 hb1029
 have hat1029 : cl1028.slots[((hk12_199_l7 p2 L_ra1 zi)).toNatClampNeg]? = some (.long (hk12_207_at p2 L_ra1 zi zw)) := Has.at H1028 hin1029 (own_getD_long _ _ _)
 have st1029 := X1025.laload hx (j := (hk12_199_l7 p2 L_ra1 zi)) (v := (.long (hk12_207_at p2 L_ra1 zi zw))) (by rw [e1025]; exact Ar1028.1) (State.isArrayOf_alike hZ.alike Ar1028.2.1) Ar1028.2.2 hin1029 hat1029 (g := (mkF m 207 o2 [(.int (hk12_199_l7 p2 L_ra1 zi)), (.ref zar)])) rfl rfl (hb hby d12_207)
 have k1030 := fun t (kk : SF p e below T1025 m 208 o2 [(.long (hk12_207_at p2 L_ra1 zi zw))] t) => k1027 t (st1029 _ kk)
 have k1031 := fun t (kk : SF p e below T1025 m 214 o6 [(.int (lcmpW (hk12_207_at p2 L_ra1 zi zw) (0 : Int64)))] t) => k1030 t (by
  refine XS.lstore X1025.here hx rfl (hb hby d12_208) rfl (l' := o6) rfl ?_
  refine XS.lload X1025.here hx rfl (hb hby d12_210) rfl ?_
  refine XS.lconst X1025.here hx rfl (hb hby d12_212) ?_
  refine XS.lcmp X1025.here hx rfl (hb hby d12_213) rfl ?_
  exact kk)
 have hc214_1032 : ¬ ((hk12_207_at p2 L_ra1 zi zw) = (0 : Int64)) := hz
 have k1033 := fun t (kk : SF p e below T1025 m 232 o1 [(.int (hk12_174_l5 p2 L_ra1)), (.int ((((hk12_207_at p2 L_ra1 zi zw).toUInt64 >>> ((32 : Int32) &&& 0x3f).toInt64.toUInt64).toInt64).toInt32))] t) => k1031 t (by
  refine XS.ifNo X1025.here hx rfl (hb hby d12_214) rfl ((if0 _ _).trans (feq (fun q => hc214_1032 ((lw_eq _ _).mp q))).1) ?_
  refine XS.lload X1025.here hx rfl (hb hby d12_217) rfl ?_
  show SF p e below T1025 m 219 o6 [(.long (hk12_207_at p2 L_ra1 zi zw))] _
  refine XS.l2i X1025.here hx rfl (hb hby d12_219) rfl ?_
  refine XS.iconst X1025.here hx rfl (hb hby d12_220) ?_
  refine XS.isub X1025.here hx rfl (hb hby d12_221) rfl ?_
  refine XS.istore X1025.here hx rfl (hb hby d12_222) rfl (l' := o1) rfl ?_
  refine XS.lload X1025.here hx rfl (hb hby d12_224) rfl ?_
  refine XS.bipush X1025.here hx rfl (hb hby d12_226) ?_
  refine XS.lushr X1025.here hx rfl (hb hby d12_228) rfl ?_
  refine XS.l2i X1025.here hx rfl (hb hby d12_229) rfl ?_
  refine XS.iload X1025.here hx rfl (hb hby d12_230) rfl ?_
  exact kk)
 have hc232_1034 : ((((hk12_207_at p2 L_ra1 zi zw).toUInt64 >>> ((32 : Int32) &&& 0x3f).toInt64.toUInt64).toInt64).toInt32) = (hk12_174_l5 p2 L_ra1) := hq
 have k1035 := fun t (kk : SF p e below T1025 m 241 o1 [(.int p3), (.int p2), (.ref ra1), (.int (hk12_222_l10 p2 L_ra1 zi zw)), (.ref ra0)] t) => k1033 t (by
  refine XS.icmpNo X1025.here hx rfl (hb hby d12_232) rfl (teq hc232_1034).2 ?_
  refine XS.aloadN X1025.here hx rfl (hb hby d12_235) rfl rfl ?_
  refine XS.iload X1025.here hx rfl (hb hby d12_236) rfl ?_
  show SF p e below T1025 m 238 o1 [(.int (hk12_222_l10 p2 L_ra1 zi zw)), (.ref ra0)] _
  refine XS.aloadN X1025.here hx rfl (hb hby d12_238) rfl rfl ?_
  refine XS.iloadN X1025.here hx rfl (hb hby d12_239) rfl ?_
  refine XS.iloadN X1025.here hx rfl (hb hby d12_240) rfl ?_
  exact kk)
 have Zz1036 : n0 ≤ h0.size := (Nat.le_trans Z0 KC0.1)
 obtain ⟨cq1036, q1036, q1036'⟩ := E_ra0.cell
 obtain ⟨_, _, ⟨T1036, L1036, k1036, n1036⟩, -, X1036, ⟨Lc1036, hQ1036, l1036, y1036, z1036⟩, st1036⟩ := X1025.privateBack hx (y := M31_) hown (mvT hZ (w155 hw)) (mvT hZ (w156 hw)) (own_selpriv (y := M31_) (mvT hZ (w61 hw)) (Cond.privateMethod_at (mvP hZ (w157 hw) (args := #[]))) (mvT hZ (w156 hw)) (by decide)) (Cond.privateMethod_at (mvP hZ (w157 hw) (args := #[]))) (mvT hZ (w158 hw)) (by decide) (backOf (W := 0) (rm18 l Z a0 hw [] ra0 (hk12_222_l10 p2 L_ra1 zi zw) ra1 p2 p3 zu zay zac zq zv zbd zai zal k_ra1 L_ra1 h0 n0 Zz1036 (h0n : (hk12_222_l10 p2 L_ra1 zi zw) = (0 : Int32)) (hk : ¬ p2 < 0 ∧ p2 < (3 : Int32)) (ht : p3 = p2 + (1 : Int32)) (hn : ¬ zac < (64 : Int32)) (hbb : ¬ zai < (64 : Int32)) (hl : (zq.getD 0 (0 : Int32)) = (1 : Int32)) (hy : (zal.getD 0 (0 : Int32)) = (L_ra1.getD (p2).toNatClampNeg (0 : Int32))) E_ra0 zdq zcp zdn zdy zdb zea V_ra1 VL_ra1) hZ (w158 hw) (w62 hw) (by decide) (by decide)) (g := (mkF m 241 o1 [(.int p3), (.int p2), (.ref ra1), (.int (hk12_222_l10 p2 L_ra1 zi zw)), (.ref ra0)])) rfl (by rw [hml]; rfl) (Steps.refl _) (a := ra0) (by rw [e1025]; exact q1036) q1036' (argsL := [(.int (hk12_222_l10 p2 L_ra1 zi zw)), (.ref ra1), (.int p2), (.int p3)]) (rest := []) (lenOf pd_6 rfl) rfl (Nat.le_of_eq rfl) (hb hby d12_241) (fun _ _ => ⟨rfl, e1025, (by decide : 0 + 0 ≤ _), (by decide : 0 + 0 ≤ _)⟩)
 dsimp only [Pt.U, Pt.locs, Pt.cells, Pt.slots] at X1036 l1036 y1036 z1036 st1036 hQ1036
 subst l1036 y1036 z1036
 obtain ⟨rfl, N1036q, e1036⟩ := hQ1036
 have N1036 := Fr.app N1022 N1036q
 have k1037 := fun t (kk : SF p e below T1036 m 244 o1 [(.int 1)] t) => k1035 t (st1036.trans kk)
 have k1038 := fun t (kk : SF p e below T1036 m 249 o1 [(.int (hk12_222_l10 p2 L_ra1 zi zw))] t) => k1037 t (by
  refine XS.ifNo X1036.here hx rfl (hb hby d12_244) rfl ((if0 _ _).trans (feq (by decide : ¬ ((1 : Int32) = (0 : Int32)))).1) ?_
  refine XS.iload X1036.here hx rfl (hb hby d12_247) rfl ?_
  exact kk)
 obtain ⟨fs, hr, hrun, hended, hW, hsame⟩ := X1036.leave (v := some (.int (hk12_222_l10 p2 L_ra1 zi zw))) (fun h => by rw [Bd.returns] at h; cases h) hlk
 refine ⟨_, _, k1038 _ ?_, hrun, hended, _, _, rfl, ?_, ⟨_, rfl⟩, hW, hsame.mono (by decide) (by decide)⟩
 ·show SF p e below T1036 m 249 o1 [(.int (hk12_222_l10 p2 L_ra1 zi zw))] _
  exact retI X1036 hx Bd.returns (hb hby d12_249) hr
 ·show Q12hk Z ra0 ra1 p2 p3 zz k_ra1 L_ra1 zba zae zab zar zem zi zw zu zay zac zq zv zbd zai zal h0 n0 _ T1036.heap _
  rw [e1036]
  exact ⟨rfl, N1036, rfl⟩
theorem d11_0 : decode C17_ 0 = .ok (.aload_n 0, 1) := by decide +kernel
theorem d11_1 : decode C17_ 1 = .ok (.getfield 48, 3) := by decide +kernel
theorem d11_4 : decode C17_ 4 = .ok (.aload_n 1, 1) := by decide +kernel
theorem d11_5 : decode C17_ 5 = .ok (.iload_n 2, 1) := by decide +kernel
theorem d11_6 : decode C17_ 6 = .ok (.iload_n 3, 1) := by decide +kernel
theorem d11_7 : decode C17_ 7 = .ok (.invokevirtual 69, 3) := by decide +kernel
theorem d11_10 : decode C17_ 10 = .ok (.istore 15, 2) := by decide +kernel
theorem d11_12 : decode C17_ 12 = .ok (.iload 15, 2) := by decide +kernel
theorem d11_14 : decode C17_ 14 = .ok (.aload_n 0, 1) := by decide +kernel
theorem d11_15 : decode C17_ 15 = .ok (.getfield 73, 3) := by decide +kernel
theorem d11_18 : decode C17_ 18 = .ok (.if_icmp .ge 6, 3) := by decide +kernel
theorem d11_24 : decode C17_ 24 = .ok (.aload_n 0, 1) := by decide +kernel
theorem d11_25 : decode C17_ 25 = .ok (.getfield 73, 3) := by decide +kernel
theorem d11_28 : decode C17_ 28 = .ok (.aload_n 0, 1) := by decide +kernel
theorem d11_29 : decode C17_ 29 = .ok (.getfield 55, 3) := by decide +kernel
theorem d11_32 : decode C17_ 32 = .ok (.arraylength, 1) := by decide +kernel
theorem d11_33 : decode C17_ 33 = .ok (.if_icmp .ne 83, 3) := by decide +kernel
theorem d11_116 : decode C17_ 116 = .ok (.lload 13, 2) := by decide +kernel
theorem d11_118 : decode C17_ 118 = .ok (.ldc2_w 89, 3) := by decide +kernel
theorem d11_121 : decode C17_ 121 = .ok (.lcmp, 1) := by decide +kernel
theorem d11_122 : decode C17_ 122 = .ok (.ifCond .eq 31, 3) := by decide +kernel
theorem d11_153 : decode C17_ 153 = .ok (.aload_n 0, 1) := by decide +kernel
theorem d11_154 : decode C17_ 154 = .ok (.getfield 55, 3) := by decide +kernel
theorem d11_157 : decode C17_ 157 = .ok (.aload_n 0, 1) := by decide +kernel
theorem d11_158 : decode C17_ 158 = .ok (.getfield 73, 3) := by decide +kernel
theorem d11_161 : decode C17_ 161 = .ok (.lload 6, 2) := by decide +kernel
theorem d11_163 : decode C17_ 163 = .ok (.lastore, 1) := by decide +kernel
theorem d11_164 : decode C17_ 164 = .ok (.aload_n 0, 1) := by decide +kernel
theorem d11_165 : decode C17_ 165 = .ok (.getfield 52, 3) := by decide +kernel
theorem d11_168 : decode C17_ 168 = .ok (.aload_n 1, 1) := by decide +kernel
theorem d11_169 : decode C17_ 169 = .ok (.iload 4, 2) := by decide +kernel
theorem d11_171 : decode C17_ 171 = .ok (.iload 5, 2) := by decide +kernel
theorem d11_173 : decode C17_ 173 = .ok (.invokevirtual 69, 3) := by decide +kernel
theorem d11_176 : decode C17_ 176 = .ok (.pop, 1) := by decide +kernel
theorem d11_177 : decode C17_ 177 = .ok (.aload_n 0, 1) := by decide +kernel
theorem d11_178 : decode C17_ 178 = .ok (.getfield 59, 3) := by decide +kernel
theorem d11_181 : decode C17_ 181 = .ok (.aload_n 0, 1) := by decide +kernel
theorem d11_182 : decode C17_ 182 = .ok (.getfield 73, 3) := by decide +kernel
theorem d11_185 : decode C17_ 185 = .ok (.aload 8, 2) := by decide +kernel
theorem d11_187 : decode C17_ 187 = .ok (.invokevirtual 95, 3) := by decide +kernel
theorem d11_190 : decode C17_ 190 = .ok (.i2b, 1) := by decide +kernel
theorem d11_191 : decode C17_ 191 = .ok (.bastore, 1) := by decide +kernel
theorem d11_192 : decode C17_ 192 = .ok (.aload_n 0, 1) := by decide +kernel
theorem d11_193 : decode C17_ 193 = .ok (.getfield 20, 3) := by decide +kernel
theorem d11_196 : decode C17_ 196 = .ok (.aload 8, 2) := by decide +kernel
theorem d11_198 : decode C17_ 198 = .ok (.invokevirtual 95, 3) := by decide +kernel
theorem d11_201 : decode C17_ 201 = .ok (.dup2, 1) := by decide +kernel
theorem d11_202 : decode C17_ 202 = .ok (.iaload, 1) := by decide +kernel
theorem d11_203 : decode C17_ 203 = .ok (.iconst 1, 1) := by decide +kernel
theorem d11_204 : decode C17_ 204 = .ok (.iadd, 1) := by decide +kernel
theorem d11_205 : decode C17_ 205 = .ok (.iastore, 1) := by decide +kernel
theorem d11_206 : decode C17_ 206 = .ok (.aload_n 0, 1) := by decide +kernel
theorem d11_207 : decode C17_ 207 = .ok (.aconst_null, 1) := by decide +kernel
theorem d11_208 : decode C17_ 208 = .ok (.putfield 101, 3) := by decide +kernel
theorem d11_211 : decode C17_ 211 = .ok (.aload_n 0, 1) := by decide +kernel
theorem d11_212 : decode C17_ 212 = .ok (.getfield 63, 3) := by decide +kernel
theorem d11_215 : decode C17_ 215 = .ok (.aload_n 0, 1) := by decide +kernel
theorem d11_216 : decode C17_ 216 = .ok (.getfield 73, 3) := by decide +kernel
theorem d11_219 : decode C17_ 219 = .ok (.lload 9, 2) := by decide +kernel
theorem d11_221 : decode C17_ 221 = .ok (.lastore, 1) := by decide +kernel
theorem d11_222 : decode C17_ 222 = .ok (.aload_n 0, 1) := by decide +kernel
theorem d11_223 : decode C17_ 223 = .ok (.getfield 66, 3) := by decide +kernel
theorem d11_226 : decode C17_ 226 = .ok (.aload_n 0, 1) := by decide +kernel
theorem d11_227 : decode C17_ 227 = .ok (.getfield 73, 3) := by decide +kernel
theorem d11_230 : decode C17_ 230 = .ok (.lload 11, 2) := by decide +kernel
theorem d11_232 : decode C17_ 232 = .ok (.lastore, 1) := by decide +kernel
theorem d11_233 : decode C17_ 233 = .ok (.lload 11, 2) := by decide +kernel
theorem d11_235 : decode C17_ 235 = .ok (.ldc2_w 89, 3) := by decide +kernel
theorem d11_238 : decode C17_ 238 = .ok (.lcmp, 1) := by decide +kernel
theorem d11_239 : decode C17_ 239 = .ok (.ifCond .eq 60, 3) := by decide +kernel
theorem d11_299 : decode C17_ 299 = .ok (.aload_n 0, 1) := by decide +kernel
theorem d11_300 : decode C17_ 300 = .ok (.getfield 86, 3) := by decide +kernel
theorem d11_303 : decode C17_ 303 = .ok (.ifnull 14, 3) := by decide +kernel
theorem d11_317 : decode C17_ 317 = .ok (.aload_n 0, 1) := by decide +kernel
theorem d11_318 : decode C17_ 318 = .ok (.dup, 1) := by decide +kernel
theorem d11_319 : decode C17_ 319 = .ok (.getfield 73, 3) := by decide +kernel
theorem d11_322 : decode C17_ 322 = .ok (.iconst 1, 1) := by decide +kernel
theorem d11_323 : decode C17_ 323 = .ok (.iadd, 1) := by decide +kernel
theorem d11_324 : decode C17_ 324 = .ok (.putfield 73, 3) := by decide +kernel
theorem d11_327 : decode C17_ 327 = .ok (.iload 15, 2) := by decide +kernel
theorem d11_329 : decode C17_ 329 = .ok (.ireturn, 1) := by decide +kernel
def odn11_7_L1 (p2 : Int32) (L_ra1 : List Int32) (zr : Int32) (zaa zap : List Int32) : List Int32 := (v15_112_L p2 zr zaa zap L_ra1)
def odn11_173_f_size (zj : Int32) : Int32 := (zj + (1 : Int32))
def odn11_173_L0 (p4 p5 zj : Int32) (zs : List Int32) : List Int32 := (v15_131_L p4 p5 zj zs)
def odn11_173_L1 (p4 : Int32) (L_ra1 : List Int32) (zj : Int32) (zs zaf : List Int32) : List Int32 := (v15_112_L p4 zj zs zaf L_ra1)
def odn11_191_L (za zk : Int32) (zbj : List Int32) : List Int32 := (zbj.set (za).toNatClampNeg (((zk.toInt8.toInt32)).toInt8.toInt32))
def odn11_202_at (zk : Int32) (zy : List Int32) : Int32 := (zy.getD (zk).toNatClampNeg (0 : Int32))
def odn11_205_L (zk : Int32) (zy : List Int32) : List Int32 := (zy.set (zk).toNatClampNeg ((odn11_202_at zk zy) + (1 : Int32)))
theorem ef_rm11dn (m : MethodId) (ra0 ra1 : Addr) (p2 p3 : Int32) (p4 p5 : Int32) (q6 : Int64) (ra7 : Addr) (q8 q9 q10 : Int64) : entryFrame m #[(.ref ra0), (.ref ra1), (.int p2), (.int p3), (.int p4), (.int p5), (.long q6), (.ref ra7), (.long q8), (.long q9), (.long q10)] 18 = mkF m 0 #[rv ra0, rv ra1, iv p2, iv p3, iv p4, iv p5, .val (.long q6), .second, rv ra7, .val (.long q8), .second, .val (.long q9), .second, .val (.long q10), .second, .unset, .unset, .unset] [] := by first | (simp [entryFrame, mkF, argsToLocals, Value.category]; done) | rfl
def Q11dn (Z : State) (ra0 ra1 : Addr) (p2 p3 : Int32) (p4 p5 : Int32) (q6 : Int64) (ra7 : Addr) (q8 q9 q10 : Int64) (zp zt : Addr) (k_ra1 : ClassId) (L_ra1 : List Int32) (zbb : ClassId) (zam : Int32) (zad : List Int32) (zr : Int32) (zh : Addr) (zbq : ClassId) (zaw : Int32) (zaa : List Int32) (zg : Addr) (zbf : ClassId) (zaq : Int32) (zap : List Int32) (zax : Int32) (zgx zhi : Value) (zbi : Int32) (zbr : Int64) (za : Int32) (zo : Addr) (zdc : ClassId) (zbk : Int32) (zbw : List Int64) (zd : Addr) (zj : Int32) (zc : Addr) (zbe : ClassId) (zaj : Int32) (zs : List Int32) (zb : Addr) (zbc : ClassId) (zag : Int32) (zaf : List Int32) (zaz : Int32) (zbh zbn : Value) (zbl : Int32) (zbm : Int64) (zl : Addr) (zk : Int32) (zcq : ClassId) (zbo : Int32) (zbj : List Int32) (ze : Addr) (zbu : ClassId) (zy : List Int32) (zdp : Value) (zf : Addr) (zbs : ClassId) (zav : Int32) (zas : List Int64) (zn : Addr) (zcs : ClassId) (zbp : Int32) (zbt : List Int64) (zcn : Value) (zcb zcj : Int64) (zcd : Int32) (h0 : Heap) (n0 : Nat) (v : Option Value) (h : Heap) (L : List Loc) : Prop := (v = some (.int zr) ∧ Fr n0 L ∧ Keep h0 h [zt, zg, zh, zp, zo, zb, zc, zd, zl, ze, ra0, zf, zn] ∧ Exa Z h zp cBs ∧ Exa Z h zd cBs ∧ Exa Z h ra0 cOr ∧ Fld Z h zp cBs "bytes" "[B" (.ref zg) ∧ Fld Z h zp cBs "ends" "[I" (.ref zh) ∧ Fld Z h zp cBs "byValue" "[I" (.ref zt) ∧ Fld Z h zp cBs "expectedSlots" "I" (.int zax) ∧ Fld Z h zp cBs "crowded" "Ljava/util/Map;" zgx ∧ Fld Z h zp cBs "slots" "[J" zhi ∧ Fld Z h zp cBs "size" "I" (.int (zr + (1 : Int32))) ∧ Fld Z h zp cBs "hashed" "I" (.int zbi) ∧ Fld Z h zp cBs "probes" "J" (.long zbr) ∧ Fld Z h zd cBs "bytes" "[B" (.ref zb) ∧ Fld Z h zd cBs "ends" "[I" (.ref zc) ∧ Fld Z h zd cBs "byValue" "[I" .null ∧ Fld Z h zd cBs "expectedSlots" "I" (.int zaz) ∧ Fld Z h zd cBs "crowded" "Ljava/util/Map;" zbh ∧ Fld Z h zd cBs "slots" "[J" zbn ∧ Fld Z h zd cBs "size" "I" (.int (odn11_173_f_size zj)) ∧ Fld Z h zd cBs "hashed" "I" (.int zbl) ∧ Fld Z h zd cBs "probes" "J" (.long zbm) ∧ Fld Z h ra0 cOr "unpacked" "Ljava/util/List;" zcn ∧ Fld Z h ra0 cOr "kindCounts" "[I" (.ref ze) ∧ Fld Z h ra0 cOr "leastPrice" "J" (.long zcb) ∧ Fld Z h ra0 cOr "mostPrice" "J" (.long zcj) ∧ Fld Z h ra0 cOr "ids" "Lcom/example/gavelbook/gavelbook/ByteStrings;" (.ref zp) ∧ Fld Z h ra0 cOr "memberNames" "Lcom/example/gavelbook/gavelbook/ByteStrings;" (.ref zd) ∧ Fld Z h ra0 cOr "lines" "[J" (.ref zo) ∧ Fld Z h ra0 cOr "kinds" "[B" (.ref zl) ∧ Fld Z h ra0 cOr "quantities" "[J" (.ref zf) ∧ Fld Z h ra0 cOr "prices" "[J" (.ref zn) ∧ Fld Z h ra0 cOr "size" "I" (.int (za + (1 : Int32))) ∧ Fld Z h ra0 cOr "byKind" "[[I" .null ∧ Fld Z h ra0 cOr "amounts" "[J" .null ∧ Fld Z h ra0 cOr "uncounted" "Z" (.int zcd) ∧ Arv Z h zt zbb .int zam (List.map Value.int (dn12_67_L p2 L_ra1 zad zr)) (.int 0) ∧ (dn12_67_L p2 L_ra1 zad zr).length = (zam).toNatClampNeg ∧ Arv Z h zg zbf .byte zaq (List.map Value.int (odn11_7_L1 p2 L_ra1 zr zaa zap)) (.int 0) ∧ (odn11_7_L1 p2 L_ra1 zr zaa zap).length = (zaq).toNatClampNeg ∧ Arv Z h zh zbq .int zaw (List.map Value.int (v15_131_L p2 p3 zr zaa)) (.int 0) ∧ (v15_131_L p2 p3 zr zaa).length = (zaw).toNatClampNeg ∧ Arv Z h zo zdc .long zbk (List.map Value.long (zbw.set (za).toNatClampNeg q6)) (.long (0 : Int64)) ∧ (zbw.set (za).toNatClampNeg q6).length = (zbk).toNatClampNeg ∧ Arv Z h zb zbc .byte zag (List.map Value.int (odn11_173_L1 p4 L_ra1 zj zs zaf)) (.int 0) ∧ (odn11_173_L1 p4 L_ra1 zj zs zaf).length = (zag).toNatClampNeg ∧ Arv Z h zc zbe .int zaj (List.map Value.int (odn11_173_L0 p4 p5 zj zs)) (.int 0) ∧ (odn11_173_L0 p4 p5 zj zs).length = (zaj).toNatClampNeg ∧ Arv Z h zl zcq .byte zbo (List.map Value.int (odn11_191_L za zk zbj)) (.int 0) ∧ (odn11_191_L za zk zbj).length = (zbo).toNatClampNeg ∧ Arv Z h ze zbu .int 5 (List.map Value.int (odn11_205_L zk zy)) (.int 0) ∧ (odn11_205_L zk zy).length = ((5 : Int32)).toNatClampNeg ∧ Arv Z h zf zbs .long zav (List.map Value.long (zas.set (za).toNatClampNeg q8)) (.long (0 : Int64)) ∧ (zas.set (za).toNatClampNeg q8).length = (zav).toNatClampNeg ∧ Arv Z h zn zcs .long zbp (List.map Value.long (zbt.set (za).toNatClampNeg q9)) (.long (0 : Int64)) ∧ (zbt.set (za).toNatClampNeg q9).length = (zbp).toNatClampNeg)
set_option maxRecDepth 65536 in
set_option maxHeartbeats 40000000 in
theorem rm11dn (l : Launch) (Z : State) (a0 : Array Value) (hw : HW Z a0) (ws : List Jvm.Cond) (ra0 ra1 : Addr) (p2 p3 : Int32) (p4 p5 : Int32) (q6 : Int64) (ra7 : Addr) (q8 q9 q10 : Int64) (zp zt : Addr) (k_ra1 : ClassId) (L_ra1 : List Int32) (zbb : ClassId) (zam : Int32) (zad : List Int32) (zr : Int32) (zh : Addr) (zbq : ClassId) (zaw : Int32) (zaa : List Int32) (zg : Addr) (zbf : ClassId) (zaq : Int32) (zap : List Int32) (zax : Int32) (zgx zhi : Value) (zbi : Int32) (zbr : Int64) (za : Int32) (zo : Addr) (zdc : ClassId) (zbk : Int32) (zbw : List Int64) (zd : Addr) (zj : Int32) (zc : Addr) (zbe : ClassId) (zaj : Int32) (zs : List Int32) (zb : Addr) (zbc : ClassId) (zag : Int32) (zaf : List Int32) (zaz : Int32) (zbh zbn : Value) (zbl : Int32) (zbm : Int64) (zl : Addr) (zk : Int32) (zcq : ClassId) (zbo : Int32) (zbj : List Int32) (ze : Addr) (zbu : ClassId) (zy : List Int32) (zdp : Value) (zf : Addr) (zbs : ClassId) (zav : Int32) (zas : List Int64) (zn : Addr) (zcs : ClassId) (zbp : Int32) (zbt : List Int64) (zcn : Value) (zcb zcj : Int64) (zcd : Int32) (h0 : Heap) (n0 : Nat) (Z0 : n0 ≤ h0.size) (ihs : ¬ zr < 0 ∧ zr < zaw) (ihE : ¬ (v16_ret zr zaa) < 0 ∧ (v16_ret zr zaa) < (60 : Int32)) (ihbb : ¬ zaq < (64 : Int32)) (ihk : ¬ p2 < 0 ∧ p2 < (3 : Int32)) (iht : p3 = p2 + (1 : Int32)) (ihv : ¬ zam < (64 : Int32)) (ihd : ¬ ((v13_ret p2 L_ra1) < (0 : Int32))) (ih9 : (v13_ret p2 L_ra1) < (10 : Int32)) (ihz : (zad.getD ((v13_ret p2 L_ra1)).toNatClampNeg (0 : Int32)) = (0 : Int32)) (mhs : ¬ zj < 0 ∧ zj < zaj) (mhE : ¬ (v16_ret zj zs) < 0 ∧ (v16_ret zj zs) < (60 : Int32)) (mhbb : ¬ zag < (64 : Int32)) (mhk : ¬ p4 < 0 ∧ p4 < (3 : Int32)) (mht : p5 = p4 + (1 : Int32)) (hz : zr = za) (hn : ¬ za < 0 ∧ za < (60 : Int32)) (ho : ¬ zk < 0 ∧ zk < (5 : Int32)) (ha : q10 = (-1 : Int64)) (hp : q9 = (-1 : Int64)) (hllines : ¬ zbk < (64 : Int32)) (hlkinds : ¬ zbo < (64 : Int32)) (hlquantities : ¬ zav < (64 : Int32)) (hlprices : ¬ zbp < (64 : Int32)) (zgu : Fld Z h0 ra0 cOr "ids" "Lcom/example/gavelbook/gavelbook/ByteStrings;" (.ref zp)) (zej : Fld Z h0 zp cBs "byValue" "[I" (.ref zt)) (V_ra1 : Arv Z h0 ra1 k_ra1 .byte (3 : Int32) (List.map Value.int L_ra1) (.int 0)) (VL_ra1 : L_ra1.length = ((3 : Int32)).toNatClampNeg) (zdd : Arv Z h0 zt zbb .int zam (List.map Value.int zad) (.int 0)) (zef : zad.length = zam.toNatClampNeg) (zii : Fld Z h0 zp cBs "size" "I" (.int zr)) (zhc : Fld Z h0 zp cBs "ends" "[I" (.ref zh)) (zdf : Arv Z h0 zh zbq .int zaw (List.map Value.int zaa) (.int 0)) (zfz : zaa.length = zaw.toNatClampNeg) (zgr : Fld Z h0 zp cBs "bytes" "[B" (.ref zg)) (zcv : Arv Z h0 zg zbf .byte zaq (List.map Value.int zap) (.int 0)) (zfs : zap.length = zaq.toNatClampNeg) (zgb : Fld Z h0 zp cBs "expectedSlots" "I" (.int zax)) (zga : Fld Z h0 zp cBs "crowded" "Ljava/util/Map;" zgx) (zgs : Fld Z h0 zp cBs "slots" "[J" zhi) (zhu : Fld Z h0 zp cBs "hashed" "I" (.int zbi)) (zhv : Fld Z h0 zp cBs "probes" "J" (.long zbr)) (zbx : Exa Z h0 zp cBs) (zhk : n0 ≤ zg) (zec : zg ≠ zh) (zhw : n0 ≤ zh) (zjw : n0 ≤ zp) (zjg : zt ≠ zh) (zjc : zt ≠ zg) (zkk : n0 ≤ zt) (zcc : Fld Z h0 ra0 cOr "size" "I" (.int za)) (zlj : zt ≠ ra0) (zjp : zg ≠ ra0) (zjs : zh ≠ ra0) (zij : zp ≠ ra0) (zis : Fld Z h0 ra0 cOr "lines" "[J" (.ref zo)) (zen : Arv Z h0 zo zdc .long zbk (List.map Value.long zbw) (.long (0 : Int64))) (zhd : zbw.length = zbk.toNatClampNeg) (zju : zt ≠ zo) (zet : zg ≠ zo) (zez : zh ≠ zo) (zjh : n0 ≤ zo) (zgq : Fld Z h0 ra0 cOr "memberNames" "Lcom/example/gavelbook/gavelbook/ByteStrings;" (.ref zd)) (zkc : zo ≠ ra0) (zgf : Fld Z h0 zd cBs "size" "I" (.int zj)) (zkl : zt ≠ zd) (zhl : zg ≠ zd) (zhp : zh ≠ zd) (zff : zp ≠ zd) (zik : zo ≠ zd) (zgg : Fld Z h0 zd cBs "ends" "[I" (.ref zc)) (zck : Arv Z h0 zc zbe .int zaj (List.map Value.int zs) (.int 0)) (zfl : zs.length = zaj.toNatClampNeg) (zgc : Fld Z h0 zd cBs "bytes" "[B" (.ref zb)) (zcg : Arv Z h0 zb zbc .byte zag (List.map Value.int zaf) (.int 0)) (zfh : zaf.length = zag.toNatClampNeg) (zer : Fld Z h0 zd cBs "expectedSlots" "I" (.int zaz)) (zfm : Fld Z h0 zd cBs "crowded" "Ljava/util/Map;" zbh) (zgd : Fld Z h0 zd cBs "slots" "[J" zbn) (zft : Fld Z h0 zd cBs "hashed" "I" (.int zbl)) (zfu : Fld Z h0 zd cBs "probes" "J" (.long zbm)) (zfn : Fld Z h0 zd cBs "byValue" "[I" .null) (ziq : zt ≠ zc) (zdg : zg ≠ zc) (zdk : zh ≠ zc) (zch : zc ≠ zo) (zil : zt ≠ zb) (zcz : zg ≠ zb) (zbz : zb ≠ zh) (zce : zb ≠ zo) (zke : zt ≠ ra1) (zgh : zg ≠ ra1) (zgm : zh ≠ ra1) (zhx : zo ≠ ra1) (zbg : Exa Z h0 zd cBs) (zfo : n0 ≤ zb) (zco : zb ≠ zc) (zfv : n0 ≤ zc) (zhm : n0 ≤ zd) (zit : Fld Z h0 ra0 cOr "kinds" "[B" (.ref zl)) (zim : zb ≠ ra0) (zir : zc ≠ ra0) (zgi : zd ≠ ra0) (zji : Fld Z h0 ra7 "java/lang/Enum" "ordinal" "I" (.int zk)) (zkf : zt ≠ ra7) (zgj : zg ≠ ra7) (zgn : zh ≠ ra7) (zin : zp ≠ ra7) (zhy : zo ≠ ra7) (zeu : zb ≠ ra7) (zfa : zc ≠ ra7) (zgk : zd ≠ ra7) (E_ra7 : Exa Z h0 ra7 cKi) (zeo : Arv Z h0 zl zcq .byte zbo (List.map Value.int zbj) (.int 0)) (zhe : zbj.length = zbo.toNatClampNeg) (zjv : zt ≠ zl) (zev : zg ≠ zl) (zfb : zh ≠ zl) (zdw : zl ≠ zo) (zdu : zb ≠ zl) (zdx : zc ≠ zl) (zjj : n0 ≤ zl) (zha : Fld Z h0 ra0 cOr "kindCounts" "[I" (.ref ze)) (zkd : zl ≠ ra0) (zhz : zl ≠ ra7) (zct : Arv Z h0 ze zbu .int 5 (List.map Value.int zy) (.int 0)) (zfg : zy.length = ((5 : Int32)).toNatClampNeg) (zjk : zt ≠ ze) (zed : zg ≠ ze) (zeg : zh ≠ ze) (zcx : ze ≠ zo) (zdh : zb ≠ ze) (zdl : zc ≠ ze) (zcy : ze ≠ zl) (zia : n0 ≤ ze) (E_ra0 : Exa Z h0 ra0 cOr) (zih : Fld Z h0 ra0 cOr "byKind" "[[I" zdp) (g_ra0 : n0 ≤ ra0) (zfr : Fld Z h0 ra0 cOr "quantities" "[J" (.ref zf)) (zcm : Arv Z h0 zf zbs .long zav (List.map Value.long zas) (.long (0 : Int64))) (zey : zas.length = zav.toNatClampNeg) (zjl : zt ≠ zf) (zee : zg ≠ zf) (zeh : zh ≠ zf) (zfc : zo ≠ zf) (zdi : zb ≠ zf) (zdm : zc ≠ zf) (zfd : zl ≠ zf) (zei : ze ≠ zf) (zib : n0 ≤ zf) (zig : Fld Z h0 ra0 cOr "prices" "[J" (.ref zn)) (zeb : Arv Z h0 zn zcs .long zbp (List.map Value.long zbt) (.long (0 : Int64))) (zgv : zbt.length = zbp.toNatClampNeg) (zjr : zt ≠ zn) (zes : zg ≠ zn) (zew : zh ≠ zn) (zfp : zo ≠ zn) (zds : zb ≠ zn) (zdv : zc ≠ zn) (zfq : zl ≠ zn) (zex : ze ≠ zn) (zcu : zn ≠ zf) (ziy : n0 ≤ zn) (zic : Fld Z h0 ra0 cOr "amounts" "[J" .null) (zho : Fld Z h0 ra0 cOr "unpacked" "Ljava/util/List;" zcn) (zhb : Fld Z h0 ra0 cOr "leastPrice" "J" (.long zcb)) (zhg : Fld Z h0 ra0 cOr "mostPrice" "J" (.long zcj)) (zhh : Fld Z h0 ra0 cOr "uncounted" "Z" (.int zcd)) :
  MetFree l M33_ (head1 (Jvm.Cond.code M33_ prog_25_method_2_code 18 (some .int) :: ws) R14_) (fun a U => a = #[(.ref ra0), (.ref ra1), (.int p2), (.int p3), (.int p4), (.int p5), (.long q6), (.ref ra7), (.long q8), (.long q9), (.long q10)] ∧ Z.Warmed39 U.vm ∧ U.heap = h0) (fun _ _ _ _ _ => True) (fun _ U o U' => ∃ v L, o = .returned v ∧ Q11dn Z ra0 ra1 p2 p3 p4 p5 q6 ra7 q8 q9 q10 zp zt k_ra1 L_ra1 zbb zam zad zr zh zbq zaw zaa zg zbf zaq zap zax zgx zhi zbi zbr za zo zdc zbk zbw zd zj zc zbe zaj zs zb zbc zag zaf zaz zbh zbn zbl zbm zl zk zcq zbo zbj ze zbu zy zdp zf zbs zav zas zn zcs zbp zbt zcn zcb zcj zcd h0 n0 v U'.heap L ∧ FrameEnd U o U' L R14_.cells R14_.slots) := by
 refine MetFree.of_bodySF (plainFor_of_name pn_226) hisR ?_
 intro p e s m args below meth c s₁ Bd hml0 hP hK
 obtain ⟨rfl, hZ, hh⟩ := hP
 have hx := Bd.exec
 have hlk : meth.locks = false := by first | exact BodyLoose.notSynchronized Bd | exact Body.notSynchronized Bd
 have hby := Bd.bytes
 have hml : c.maxLocals = 18 := hml0
 have hown : s.vm.findClass cOr = some m.cls := findClass_of_methodNamed Bd.named
 have hnm := (name_of_methodNamed Bd.named Bd.method).1
 have X0 : Stand p l e R14_ s m #[(.ref ra0), (.ref ra1), (.int p2), (.int p3), (.int p4), (.int p5), (.long q6), (.ref ra7), (.long q8), (.long q9), (.long q10)] below meth c s₁ [] 0 0 := Stand.of_body Bd
 have e0 : s₁.heap = h0 := by rw [← hh, Bd.state]; rfl
 have N0 := Fr.nil n0
 have KC0 := Keep.refl h0 [zt, zg, zh, zp, zo, zb, zc, zd, zl, ze, ra0, zf, zn]
 let o1 : Array Slot := #[rv ra0, rv ra1, iv p2, iv p3, iv p4, iv p5, .val (.long q6), .second, rv ra7, .val (.long q8), .second, .val (.long q9), .second, .val (.long q10), .second, iv zr, .unset, .unset]
 let o2 : Array Slot := #[rv ra0, rv ra1, iv p2, iv p3, iv p4, iv p5, .val (.long q6), .second, rv ra7, .val (.long q8), .second, .val (.long q9), .second, .val (.long q10), .second, .unset, .unset, .unset]
 have pre0 : ∀ t, SF p e below s₁ m 0 o2 [] t → Steps p.tables e below (s₁.setTop (entryFrame m #[(.ref ra0), (.ref ra1), (.int p2), (.int p3), (.int p4), (.int p5), (.long q6), (.ref ra7), (.long q8), (.long q9), (.long q10)] 18)) t := fun t k => castTop (ef_rm11dn m ra0 ra1 p2 p3 p4 p5 q6 ra7 q8 q9 q10) k
 have k1039 := fun t (kk : SF p e below s₁ m 1 o2 [(.ref ra0)] t) => pre0 t (by
  refine XS.aloadN X0.here hx rfl (hb hby d11_0) rfl rfl ?_
  exact kk)
 obtain ⟨T1040, X1040, e1040, st1040⟩ := getF X0 hx hZ hown (host := "") (Or.inl (w85 hw)) Via.refl e0 zgu (g := (mkF m 1 o2 [(.ref ra0)])) rfl rfl (hb hby d11_1)
 have k1041 := fun t (kk : SF p e below T1040 m 4 o2 [(.ref zp)] t) => k1039 t (st1040 _ kk)
 have k1042 := fun t (kk : SF p e below T1040 m 7 o2 [(.int p3), (.int p2), (.ref ra1), (.ref zp)] t) => k1041 t (by
  refine XS.aloadN X1040.here hx rfl (hb hby d11_4) rfl rfl ?_
  refine XS.iloadN X1040.here hx rfl (hb hby d11_5) rfl ?_
  refine XS.iloadN X1040.here hx rfl (hb hby d11_6) rfl ?_
  exact kk)
 have Zz1043 : n0 ≤ h0.size := (Nat.le_trans Z0 KC0.1)
 obtain ⟨cq1043, kq1043, q1043a, q1043b, q1043c⟩ := isOf hZ e1040 zbx
 obtain ⟨_, _, ⟨T1043, L1043, k1043, n1043⟩, -, X1043, ⟨Lc1043, hQ1043, l1043, y1043, z1043⟩, st1043⟩ := X1040.virtualBack hx (y := M32_) (z := M32_) hown (mvT hZ (w104 hw)) (mvT hZ (w105 hw)) (notFace_of_selects (args := #[]) (mvT hZ (w107 hw))) (mvT hZ (w107 hw)) (mvT hZ (w106 hw)) (by decide) (backOf (W := 0) (rm12dn l Z a0 hw [] zp ra1 p2 p3 zt k_ra1 L_ra1 zbb zam zad zr zh zbq zaw zaa zg zbf zaq zap zax zgx zhi zbi zbr h0 n0 Zz1043 (ihs : ¬ zr < 0 ∧ zr < zaw) (ihE : ¬ (v16_ret zr zaa) < 0 ∧ (v16_ret zr zaa) < (60 : Int32)) (ihbb : ¬ zaq < (64 : Int32)) (ihk : ¬ p2 < 0 ∧ p2 < (3 : Int32)) (iht : p3 = p2 + (1 : Int32)) (ihv : ¬ zam < (64 : Int32)) (ihd : ¬ ((v13_ret p2 L_ra1) < (0 : Int32))) (ih9 : (v13_ret p2 L_ra1) < (10 : Int32)) (ihz : (zad.getD ((v13_ret p2 L_ra1)).toNatClampNeg (0 : Int32)) = (0 : Int32)) zej V_ra1 VL_ra1 zdd zef zbx zii zhc zdf zfz zgr zcv zfs zgb zga zgs zhu zhv zhk zec zhw zjw zjg zjc zkk) hZ (w108 hw) (w62 hw) (by decide) (by decide)) q1043a q1043c (g := (mkF m 7 o2 [(.int p3), (.int p2), (.ref ra1), (.ref zp)])) rfl (by rw [hml]; rfl) (Steps.refl _) (argsL := [(.ref ra1), (.int p2), (.int p3)]) (rest := []) (lenOf pd_5 rfl) rfl (Nat.le_of_eq rfl) (hb hby d11_7) (fun _ _ => ⟨rfl, e1040, (by decide : 0 + 0 ≤ _), (by decide : 0 + 0 ≤ _)⟩)
 dsimp only [Pt.U, Pt.locs, Pt.cells, Pt.slots] at X1043 l1043 y1043 z1043 st1043 hQ1043
 subst l1043 y1043 z1043
 obtain ⟨rfl, N1043q, Kq1043, Eq1043_0, Fq1043_0, Fq1043_1, Fq1043_2, Fq1043_3, Fq1043_4, Fq1043_5, Fq1043_6, Fq1043_7, Fq1043_8, Vq1043_0, VLq1043_0, Vq1043_1, VLq1043_1, Vq1043_2, VLq1043_2⟩ := hQ1043
 have K1043 : Keep h0 T1043.heap [zt, zg, zh, zp, zo, zb, zc, zd, zl, ze, ra0, zf, zn] := KC0.trans Kq1043 (allS (Or.inl (List.mem_of_getElem? (i := 3) rfl)) (allS (Or.inl (List.mem_of_getElem? (i := 2) rfl)) (allS (Or.inl (List.mem_of_getElem? (i := 1) rfl)) (allS (Or.inl (List.mem_of_getElem? (i := 0) rfl)) all0))))
 have V1043n1 : Arv Z T1043.heap zg zbf .byte zaq (List.map Value.int (odn11_7_L1 p2 L_ra1 zr zaa zap)) (.int 0) := Vq1043_1
 have VL1043n1 : (odn11_7_L1 p2 L_ra1 zr zaa zap).length = (zaq).toNatClampNeg := VLq1043_1
 have N1043 := Fr.app N0 N1043q
 have k1044 := fun t (kk : SF p e below T1043 m 10 o2 [(.int zr)] t) => k1042 t (st1043.trans kk)
 have k1045 := fun t (kk : SF p e below T1043 m 15 o1 [(.ref ra0), (.int zr)] t) => k1044 t (by
  refine XS.istore X1043.here hx rfl (hb hby d11_10) rfl (l' := o1) rfl ?_
  refine XS.iload X1043.here hx rfl (hb hby d11_12) rfl ?_
  refine XS.aloadN X1043.here hx rfl (hb hby d11_14) rfl rfl ?_
  exact kk)
 have m1046 : ra0 ≠ zt := own_ne_oa E_ra0 (w11 hw) zdd
 have m1047 : ra0 ≠ zg := own_ne_oa E_ra0 (w11 hw) zcv
 have m1048 : ra0 ≠ zh := own_ne_oa E_ra0 (w11 hw) zdf
 have m1049 : ra0 ≠ zp := Ne.symm zij
 have f1050 := (zcc.keep Kq1043 (ninS m1049 (ninS m1048 (ninS m1047 (ninS m1046 nin0)))))
 obtain ⟨T1051, X1051, e1051, st1051⟩ := getF X1043 hx hZ hown (host := "") (Or.inl (w137 hw)) Via.refl rfl f1050 (g := (mkF m 15 o1 [(.ref ra0), (.int zr)])) rfl rfl (hb hby d11_15)
 have k1052 := fun t (kk : SF p e below T1051 m 18 o1 [(.int za), (.int zr)] t) => k1045 t (st1051 _ kk)
 have hc18_1053 : ¬ (zr < za) := own_oi hz
 have k1054 := fun t (kk : SF p e below T1051 m 25 o1 [(.ref ra0)] t) => k1052 t (by
  refine XS.icmpYes X1051.here hx rfl (pc0 := 18) (pc' := 24) rfl (hb hby d11_18) rfl (flt hc18_1053).2.1 (by decide) (by decide) ?_
  refine XS.aloadN X1051.here hx rfl (hb hby d11_24) rfl rfl ?_
  exact kk)
 obtain ⟨T1055, X1055, e1055, st1055⟩ := getF X1051 hx hZ hown (host := "") (Or.inl (w137 hw)) Via.refl e1051 f1050 (g := (mkF m 25 o1 [(.ref ra0)])) rfl rfl (hb hby d11_25)
 have k1056 := fun t (kk : SF p e below T1055 m 28 o1 [(.int za)] t) => k1054 t (st1055 _ kk)
 have k1057 := fun t (kk : SF p e below T1055 m 29 o1 [(.ref ra0), (.int za)] t) => k1056 t (by
  show SF p e below T1055 m 28 o1 [(.int za)] _
  refine XS.aloadN X1055.here hx rfl (hb hby d11_28) rfl rfl ?_
  exact kk)
 have f1058 := (zis.keep Kq1043 (ninS m1049 (ninS m1048 (ninS m1047 (ninS m1046 nin0)))))
 obtain ⟨T1059, X1059, e1059, st1059⟩ := getF X1055 hx hZ hown (host := "") (Or.inl (w90 hw)) Via.refl e1055 f1058 (g := (mkF m 29 o1 [(.ref ra0), (.int za)])) rfl rfl (hb hby d11_29)
 have k1060 := fun t (kk : SF p e below T1059 m 32 o1 [(.ref zo), (.int za)] t) => k1057 t (st1059 _ kk)
 have m1061 : zo ≠ zt := Ne.symm zju
 have m1062 : zo ≠ zg := Ne.symm zet
 have m1063 : zo ≠ zh := Ne.symm zez
 have m1064 : zo ≠ zp := Ne.symm (own_ne_oa zbx (w61 hw) zen)
 have f1065 := (zen.keep Kq1043 (ninS m1064 (ninS m1063 (ninS m1062 (ninS m1061 nin0)))))
 have hV1066 := f1065
 obtain ⟨cl1066, Ar1066, q1066, S1066, Nn1066, H1066, G1066⟩ := hV1066
 have st1067 := X1059.arraylength hx (by rw [e1059]; exact Ar1066.1) (State.isArrayOf_alike hZ.alike Ar1066.2.1) (g := (mkF m 32 o1 [(.ref zo), (.int za)])) rfl rfl (hb hby d11_32)
 rw [len_of S1066 Nn1066] at st1067
 have k1068 := fun t (kk : SF p e below T1059 m 33 o1 [(.int zbk), (.int za)] t) => k1060 t (st1067 _ kk)
 have hc33_1069 : ¬ (za = zbk) := own_os hn hllines
 have k1070 := fun t (kk : SF p e below T1059 m 122 o1 [(.int (lcmpW q10 (-1 : Int64)))] t) => k1068 t (by
  refine XS.icmpYes X1059.here hx rfl (pc0 := 33) (pc' := 116) rfl (hb hby d11_33) rfl (feq hc33_1069).2 (by decide) (by decide) ?_
  refine XS.lload X1059.here hx rfl (hb hby d11_116) rfl ?_
  refine X1059.ldc2Long hx hown (mvT hZ (w139 hw)) (g := (mkF m 118 o1 [(.long q10)])) rfl (hb hby d11_118) _ ?_
  refine XS.lcmp X1059.here hx rfl (hb hby d11_121) rfl ?_
  exact kk)
 have hc122_1071 : q10 = (-1 : Int64) := ha
 have k1072 := fun t (kk : SF p e below T1059 m 154 o1 [(.ref ra0)] t) => k1070 t (by
  refine XS.ifYes X1059.here hx rfl (pc0 := 122) (pc' := 153) rfl (hb hby d11_122) rfl ((if0 _ _).trans (teq ((lw_eq _ _).mpr hc122_1071)).1) (by decide) (by decide) ?_
  refine XS.aloadN X1059.here hx rfl (hb hby d11_153) rfl rfl ?_
  exact kk)
 obtain ⟨T1073, X1073, e1073, st1073⟩ := getF X1059 hx hZ hown (host := "") (Or.inl (w90 hw)) Via.refl e1059 f1058 (g := (mkF m 154 o1 [(.ref ra0)])) rfl rfl (hb hby d11_154)
 have k1074 := fun t (kk : SF p e below T1073 m 157 o1 [(.ref zo)] t) => k1072 t (st1073 _ kk)
 have k1075 := fun t (kk : SF p e below T1073 m 158 o1 [(.ref ra0), (.ref zo)] t) => k1074 t (by
  refine XS.aloadN X1073.here hx rfl (hb hby d11_157) rfl rfl ?_
  exact kk)
 obtain ⟨T1076, X1076, e1076, st1076⟩ := getF X1073 hx hZ hown (host := "") (Or.inl (w137 hw)) Via.refl e1073 f1050 (g := (mkF m 158 o1 [(.ref ra0), (.ref zo)])) rfl rfl (hb hby d11_158)
 have k1077 := fun t (kk : SF p e below T1076 m 161 o1 [(.int za), (.ref zo)] t) => k1075 t (st1076 _ kk)
 have k1078 := fun t (kk : SF p e below T1076 m 163 o1 [(.long q6), (.int za), (.ref zo)] t) => k1077 t (by
  refine XS.lload X1076.here hx rfl (hb hby d11_161) rfl ?_
  exact kk)
 have hV1079 := f1065
 obtain ⟨cl1079, Ar1079, q1079, S1079, Nn1079, H1079, G1079⟩ := hV1079
 have hb1080 : ¬ za < 0 ∧ za < zbk := own_ix hn hllines
 have hin1080 : ¬ (za < 0 ∨ cl1079.slots.size ≤ (za).toNatClampNeg) := inb_of S1079 hb1080
 obtain ⟨T1080, h1080, X1080, e1080, W1080, st1080⟩ := stJ X1076 hx hZ e1076 Ar1079 (j := za) hin1080 (g := (mkF m 163 o1 [(.long q6), (.int za), (.ref zo)])) rfl rfl (hb hby d11_163)
 have hl1080 : (za).toNatClampNeg < (List.map Value.long zbw).length := by rw [List.length_map, zhd]; exact own_lt_nat hb1080.1 hb1080.2
 have V1080 : Arv Z h1080 zo zdc .long zbk (List.map Value.long (zbw.set (za).toNatClampNeg q6)) (.long (0 : Int64)) := by rw [List.map_set]; exact Arv.set Ar1079 q1079 S1079 Nn1079 H1079 G1079 rfl W1080 _ rfl hl1080
 have VL1080 : (zbw.set (za).toNatClampNeg q6).length = (zbk).toNatClampNeg := (List.length_set).trans zhd
 have K1080 : Keep h0 h1080 [zt, zg, zh, zp, zo, zb, zc, zd, zl, ze, ra0, zf, zn] := K1043.wr W1080 (Or.inl (List.mem_of_getElem? (i := 4) rfl))
 have N1080 := Fr.snoc X1080 N1043 zjh
 have k1081 := fun t (kk : SF p e below T1080 m 164 o1 [] t) => k1078 t (st1080 _ kk)
 have k1082 := fun t (kk : SF p e below T1080 m 165 o1 [(.ref ra0)] t) => k1081 t (by
  refine XS.aloadN X1080.here hx rfl (hb hby d11_164) rfl rfl ?_
  exact kk)
 have m1083 : ra0 ≠ zo := own_ne_oa E_ra0 (w11 hw) zen
 have t1084 := fun {C n d : String} {v : Value} (F : Fld Z _ ra0 C n d v) => (F.keep Kq1043 (ninS m1049 (ninS m1048 (ninS m1047 (ninS m1046 nin0))))).other W1080 (Or.inl m1083)
 have f1085 := t1084 zgq
 obtain ⟨T1086, X1086, e1086, st1086⟩ := getF X1080 hx hZ hown (host := "") (Or.inl (w87 hw)) Via.refl e1080 f1085 (g := (mkF m 165 o1 [(.ref ra0)])) rfl rfl (hb hby d11_165)
 have k1087 := fun t (kk : SF p e below T1086 m 168 o1 [(.ref zd)] t) => k1082 t (st1086 _ kk)
 have k1088 := fun t (kk : SF p e below T1086 m 173 o1 [(.int p5), (.int p4), (.ref ra1), (.ref zd)] t) => k1087 t (by
  refine XS.aloadN X1086.here hx rfl (hb hby d11_168) rfl rfl ?_
  refine XS.iload X1086.here hx rfl (hb hby d11_169) rfl ?_
  show SF p e below T1086 m 171 o1 [(.int p4), (.ref ra1), (.ref zd)] _
  refine XS.iload X1086.here hx rfl (hb hby d11_171) rfl ?_
  exact kk)
 have m1089 : zd ≠ zt := own_ne_oa zbg (w61 hw) zdd
 have m1090 : zd ≠ zg := own_ne_oa zbg (w61 hw) zcv
 have m1091 : zd ≠ zh := own_ne_oa zbg (w61 hw) zdf
 have m1092 : zd ≠ zp := Ne.symm zff
 have m1093 : zd ≠ zo := own_ne_oa zbg (w61 hw) zen
 have t1094 := fun {C n d : String} {v : Value} (F : Fld Z _ zd C n d v) => (F.keep Kq1043 (ninS m1092 (ninS m1091 (ninS m1090 (ninS m1089 nin0))))).other W1080 (Or.inl m1093)
 have f1095 := t1094 zgf
 have f1096 := t1094 zgg
 have f1097 := t1094 zgc
 have f1098 := t1094 zer
 have f1099 := t1094 zfm
 have f1100 := t1094 zgd
 have f1101 := t1094 zft
 have f1102 := t1094 zfu
 have f1103 := t1094 zfn
 have m1104 : zc ≠ zt := Ne.symm ziq
 have m1105 : zc ≠ zg := Ne.symm zdg
 have m1106 : zc ≠ zh := Ne.symm zdk
 have m1107 : zc ≠ zp := Ne.symm (own_ne_oa zbx (w61 hw) zck)
 have f1108 := ((zck.keep Kq1043 (ninS m1107 (ninS m1106 (ninS m1105 (ninS m1104 nin0))))).other W1080 zch)
 have m1109 : zb ≠ zt := Ne.symm zil
 have m1110 : zb ≠ zg := Ne.symm zcz
 have m1111 : zb ≠ zp := Ne.symm (own_ne_oa zbx (w61 hw) zcg)
 have f1112 := ((zcg.keep Kq1043 (ninS m1111 (ninS zbz (ninS m1110 (ninS m1109 nin0))))).other W1080 zce)
 have m1113 : ra1 ≠ zt := Ne.symm zke
 have m1114 : ra1 ≠ zg := Ne.symm zgh
 have m1115 : ra1 ≠ zh := Ne.symm zgm
 have m1116 : ra1 ≠ zp := Ne.symm (own_ne_oa zbx (w61 hw) V_ra1)
 have m1117 : ra1 ≠ zo := Ne.symm zhx
 have f1118 := ((V_ra1.keep Kq1043 (ninS m1116 (ninS m1115 (ninS m1114 (ninS m1113 nin0))))).other W1080 m1117)
 have f1119 := ((zbg.keep Kq1043).wr W1080)
 have Zz1120 : n0 ≤ h1080.size := (Nat.le_trans Z0 K1080.1)
 obtain ⟨cq1120, kq1120, q1120a, q1120b, q1120c⟩ := isOf hZ e1086 f1119
 obtain ⟨_, _, ⟨T1120, L1120, k1120, n1120⟩, -, X1120, ⟨Lc1120, hQ1120, l1120, y1120, z1120⟩, st1120⟩ := X1086.virtualBack hx (y := M32_) (z := M32_) hown (mvT hZ (w104 hw)) (mvT hZ (w105 hw)) (notFace_of_selects (args := #[]) (mvT hZ (w107 hw))) (mvT hZ (w107 hw)) (mvT hZ (w106 hw)) (by decide) (backOf (W := 0) (rm12m l Z a0 hw [] zd ra1 p4 p5 zj zc zbe zaj zs zb zbc zag zaf k_ra1 L_ra1 zaz zbh zbn zbl zbm h1080 n0 Zz1120 (mhs : ¬ zj < 0 ∧ zj < zaj) (mhE : ¬ (v16_ret zj zs) < 0 ∧ (v16_ret zj zs) < (60 : Int32)) (mhbb : ¬ zag < (64 : Int32)) (mhk : ¬ p4 < 0 ∧ p4 < (3 : Int32)) (mht : p5 = p4 + (1 : Int32)) f1103 f1095 f1096 f1108 zfl f1097 f1112 zfh f1118 VL_ra1 f1098 f1099 f1100 f1101 f1102 f1119 zfo zco zfv zhm) hZ (w108 hw) (w62 hw) (by decide) (by decide)) q1120a q1120c (g := (mkF m 173 o1 [(.int p5), (.int p4), (.ref ra1), (.ref zd)])) rfl (by rw [hml]; rfl) (Steps.refl _) (argsL := [(.ref ra1), (.int p4), (.int p5)]) (rest := []) (lenOf pd_5 rfl) rfl (Nat.le_of_eq rfl) (hb hby d11_173) (fun _ _ => ⟨rfl, e1086, (by decide : 0 + 0 ≤ _), (by decide : 0 + 0 ≤ _)⟩)
 dsimp only [Pt.U, Pt.locs, Pt.cells, Pt.slots] at X1120 l1120 y1120 z1120 st1120 hQ1120
 subst l1120 y1120 z1120
 obtain ⟨rfl, N1120q, Kq1120, Eq1120_0, Fq1120_0, Fq1120_1, Fq1120_2, Fq1120_3, Fq1120_4, Fq1120_5, Fq1120_6, Fq1120_7, Fq1120_8, Vq1120_0, VLq1120_0, Vq1120_1, VLq1120_1⟩ := hQ1120
 have K1120 : Keep h0 T1120.heap [zt, zg, zh, zp, zo, zb, zc, zd, zl, ze, ra0, zf, zn] := K1080.trans Kq1120 (allS (Or.inl (List.mem_of_getElem? (i := 7) rfl)) (allS (Or.inl (List.mem_of_getElem? (i := 6) rfl)) (allS (Or.inl (List.mem_of_getElem? (i := 5) rfl)) all0)))
 have Fn1120_6 : Fld Z T1120.heap zd cBs "size" "I" (.int (odn11_173_f_size zj)) := Fq1120_6
 have V1120n : Arv Z T1120.heap zc zbe .int zaj (List.map Value.int (odn11_173_L0 p4 p5 zj zs)) (.int 0) := Vq1120_0
 have VL1120n : (odn11_173_L0 p4 p5 zj zs).length = (zaj).toNatClampNeg := VLq1120_0
 have V1120n1 : Arv Z T1120.heap zb zbc .byte zag (List.map Value.int (odn11_173_L1 p4 L_ra1 zj zs zaf)) (.int 0) := Vq1120_1
 have VL1120n1 : (odn11_173_L1 p4 L_ra1 zj zs zaf).length = (zag).toNatClampNeg := VLq1120_1
 have N1120 := Fr.app N1080 N1120q
 have k1121 := fun t (kk : SF p e below T1120 m 176 o1 [(.int zj)] t) => k1088 t (st1120.trans kk)
 have k1122 := fun t (kk : SF p e below T1120 m 178 o1 [(.ref ra0)] t) => k1121 t (by
  refine XS.pop X1120.here hx rfl (hb hby d11_176) rfl rfl ?_
  refine XS.aloadN X1120.here hx rfl (hb hby d11_177) rfl rfl ?_
  exact kk)
 have m1123 : ra0 ≠ zb := own_ne_oa E_ra0 (w11 hw) zcg
 have m1124 : ra0 ≠ zc := own_ne_oa E_ra0 (w11 hw) zck
 have m1125 : ra0 ≠ zd := Ne.symm zgi
 have t1126 := fun {C n d : String} {v : Value} (F : Fld Z _ ra0 C n d v) => ((F.keep Kq1043 (ninS m1049 (ninS m1048 (ninS m1047 (ninS m1046 nin0))))).other W1080 (Or.inl m1083)).keep Kq1120 (ninS m1125 (ninS m1124 (ninS m1123 nin0)))
 have f1127 := t1126 zit
 obtain ⟨T1128, X1128, e1128, st1128⟩ := getF X1120 hx hZ hown (host := "") (Or.inl (w92 hw)) Via.refl rfl f1127 (g := (mkF m 178 o1 [(.ref ra0)])) rfl rfl (hb hby d11_178)
 have k1129 := fun t (kk : SF p e below T1128 m 181 o1 [(.ref zl)] t) => k1122 t (st1128 _ kk)
 have k1130 := fun t (kk : SF p e below T1128 m 182 o1 [(.ref ra0), (.ref zl)] t) => k1129 t (by
  refine XS.aloadN X1128.here hx rfl (hb hby d11_181) rfl rfl ?_
  exact kk)
 have t1131 := fun {C n d : String} {v : Value} (F : Fld Z _ ra0 C n d v) => (F.other W1080 (Or.inl m1083)).keep Kq1120 (ninS m1125 (ninS m1124 (ninS m1123 nin0)))
 have f1132 := t1131 f1050
 obtain ⟨T1133, X1133, e1133, st1133⟩ := getF X1128 hx hZ hown (host := "") (Or.inl (w137 hw)) Via.refl e1128 f1132 (g := (mkF m 182 o1 [(.ref ra0), (.ref zl)])) rfl rfl (hb hby d11_182)
 have k1134 := fun t (kk : SF p e below T1133 m 185 o1 [(.int za), (.ref zl)] t) => k1130 t (st1133 _ kk)
 have k1135 := fun t (kk : SF p e below T1133 m 187 o1 [(.ref ra7), (.int za), (.ref zl)] t) => k1134 t (by
  refine XS.aload X1133.here hx rfl (hb hby d11_185) rfl rfl ?_
  exact kk)
 have m1136 : ra7 ≠ zt := Ne.symm zkf
 have m1137 : ra7 ≠ zg := Ne.symm zgj
 have m1138 : ra7 ≠ zh := Ne.symm zgn
 have m1139 : ra7 ≠ zp := Ne.symm zin
 have m1140 : ra7 ≠ zo := Ne.symm zhy
 have m1141 : ra7 ≠ zb := Ne.symm zeu
 have m1142 : ra7 ≠ zc := Ne.symm zfa
 have m1143 : ra7 ≠ zd := Ne.symm zgk
 have t1144 := fun {C n d : String} {v : Value} (F : Fld Z _ ra7 C n d v) => ((F.keep Kq1043 (ninS m1139 (ninS m1138 (ninS m1137 (ninS m1136 nin0))))).other W1080 (Or.inl m1140)).keep Kq1120 (ninS m1143 (ninS m1142 (ninS m1141 nin0)))
 have f1145 := t1144 zji
 have f1146 := (((E_ra7.keep Kq1043).wr W1080).keep Kq1120)
 have Zz1147 : n0 ≤ T1120.heap.size := (Nat.le_trans Z0 K1120.1)
 obtain ⟨cq1147, kq1147, q1147a, q1147b, q1147c⟩ := isOf hZ e1133 f1146
 obtain ⟨_, _, ⟨T1147, L1147, k1147, n1147⟩, -, X1147, ⟨Lc1147, hQ1147, l1147, y1147, z1147⟩, st1147⟩ := X1133.virtualBackUp hx (x := M34_) (y := M18_) hown (mvT hZ (w140 hw)) (mvT hZ (w141 hw)) (mvT hZ (w142 hw)) (by decide) (mvT hZ (w144 hw)) (mvT hZ (w143 hw)) (backOf (W := 2) (rm17 l Z a0 hw [] ra7 zk T1120.heap n0 Zz1147 f1146 f1145) hZ (w146 hw) (w145 hw) (by decide) (by decide)) q1147a q1147c (g := (mkF m 187 o1 [(.ref ra7), (.int za), (.ref zl)])) rfl (by rw [hml]; rfl) (Steps.refl _) (argsL := []) (rest := [(.int za), (.ref zl)]) (lenOf pd_4 rfl) rfl (Nat.le_of_eq rfl) (hb hby d11_187) (fun _ _ => ⟨rfl, e1133, (by decide : 0 + 0 ≤ _), (by decide : 0 + 0 ≤ _)⟩)
 dsimp only [Pt.U, Pt.locs, Pt.cells, Pt.slots] at X1147 l1147 y1147 z1147 st1147 hQ1147
 subst l1147 y1147 z1147
 obtain ⟨rfl, N1147q, e1147⟩ := hQ1147
 have N1147 := Fr.app N1120 N1147q
 have k1148 := fun t (kk : SF p e below T1147 m 190 o1 [(.int zk), (.int za), (.ref zl)] t) => k1135 t (st1147.trans kk)
 have k1149 := fun t (kk : SF p e below T1147 m 191 o1 [(.int (zk.toInt8.toInt32)), (.int za), (.ref zl)] t) => k1148 t (by
  refine XS.i2b X1147.here hx rfl (hb hby d11_190) rfl ?_
  exact kk)
 have m1150 : zl ≠ zt := Ne.symm zjv
 have m1151 : zl ≠ zg := Ne.symm zev
 have m1152 : zl ≠ zh := Ne.symm zfb
 have m1153 : zl ≠ zp := Ne.symm (own_ne_oa zbx (w61 hw) zeo)
 have m1154 : zl ≠ zb := Ne.symm zdu
 have m1155 : zl ≠ zc := Ne.symm zdx
 have m1156 : zl ≠ zd := Ne.symm (own_ne_oa zbg (w61 hw) zeo)
 have f1157 := (((zeo.keep Kq1043 (ninS m1153 (ninS m1152 (ninS m1151 (ninS m1150 nin0))))).other W1080 zdw).keep Kq1120 (ninS m1156 (ninS m1155 (ninS m1154 nin0))))
 have hV1158 := f1157
 obtain ⟨cl1158, Ar1158, q1158, S1158, Nn1158, H1158, G1158⟩ := hV1158
 have hb1159 : ¬ za < 0 ∧ za < zbo := own_ix hn hlkinds
 have hin1159 : ¬ (za < 0 ∨ cl1158.slots.size ≤ (za).toNatClampNeg) := inb_of S1158 hb1159
 obtain ⟨T1159, h1159, X1159, e1159, W1159, st1159⟩ := stB X1147 hx hZ e1147 Ar1158 (j := za) hin1159 (g := (mkF m 191 o1 [(.int (zk.toInt8.toInt32)), (.int za), (.ref zl)])) rfl rfl (hb hby d11_191)
 have hl1159 : (za).toNatClampNeg < (List.map Value.int zbj).length := by rw [List.length_map, zhe]; exact own_lt_nat hb1159.1 hb1159.2
 have V1159r : Arv Z h1159 zl zcq .byte zbo (List.map Value.int (zbj.set (za).toNatClampNeg (((zk.toInt8.toInt32)).toInt8.toInt32))) (.int 0) := by rw [List.map_set]; exact Arv.set Ar1158 q1158 S1158 Nn1158 H1158 G1158 (fits_nar_byte _) W1159 _ rfl hl1159
 have V1159 : Arv Z h1159 zl zcq .byte zbo (List.map Value.int (odn11_191_L za zk zbj)) (.int 0) := V1159r
 have VL1159 : (odn11_191_L za zk zbj).length = (zbo).toNatClampNeg := (List.length_set).trans zhe
 have K1159 : Keep h0 h1159 [zt, zg, zh, zp, zo, zb, zc, zd, zl, ze, ra0, zf, zn] := K1120.wr W1159 (Or.inl (List.mem_of_getElem? (i := 8) rfl))
 have N1159 := Fr.snoc X1159 N1147 zjj
 have k1160 := fun t (kk : SF p e below T1159 m 192 o1 [] t) => k1149 t (st1159 _ kk)
 have k1161 := fun t (kk : SF p e below T1159 m 193 o1 [(.ref ra0)] t) => k1160 t (by
  refine XS.aloadN X1159.here hx rfl (hb hby d11_192) rfl rfl ?_
  exact kk)
 have m1162 : ra0 ≠ zl := own_ne_oa E_ra0 (w11 hw) zeo
 have t1163 := fun {C n d : String} {v : Value} (F : Fld Z _ ra0 C n d v) => (((F.keep Kq1043 (ninS m1049 (ninS m1048 (ninS m1047 (ninS m1046 nin0))))).other W1080 (Or.inl m1083)).keep Kq1120 (ninS m1125 (ninS m1124 (ninS m1123 nin0)))).other W1159 (Or.inl m1162)
 have f1164 := t1163 zha
 obtain ⟨T1165, X1165, e1165, st1165⟩ := getF X1159 hx hZ hown (host := "") (Or.inl (w48 hw)) Via.refl e1159 f1164 (g := (mkF m 193 o1 [(.ref ra0)])) rfl rfl (hb hby d11_193)
 have k1166 := fun t (kk : SF p e below T1165 m 196 o1 [(.ref ze)] t) => k1161 t (st1165 _ kk)
 have k1167 := fun t (kk : SF p e below T1165 m 198 o1 [(.ref ra7), (.ref ze)] t) => k1166 t (by
  refine XS.aload X1165.here hx rfl (hb hby d11_196) rfl rfl ?_
  exact kk)
 have m1168 : ra7 ≠ zl := Ne.symm zhz
 have f1169 := (f1145.other W1159 (Or.inl m1168))
 have f1170 := (f1146.wr W1159)
 have Zz1171 : n0 ≤ h1159.size := (Nat.le_trans Z0 K1159.1)
 obtain ⟨cq1171, kq1171, q1171a, q1171b, q1171c⟩ := isOf hZ e1165 f1170
 obtain ⟨_, _, ⟨T1171, L1171, k1171, n1171⟩, -, X1171, ⟨Lc1171, hQ1171, l1171, y1171, z1171⟩, st1171⟩ := X1165.virtualBackUp hx (x := M34_) (y := M18_) hown (mvT hZ (w140 hw)) (mvT hZ (w141 hw)) (mvT hZ (w142 hw)) (by decide) (mvT hZ (w144 hw)) (mvT hZ (w143 hw)) (backOf (W := 1) (rm17 l Z a0 hw [] ra7 zk h1159 n0 Zz1171 f1170 f1169) hZ (w146 hw) (w145 hw) (by decide) (by decide)) q1171a q1171c (g := (mkF m 198 o1 [(.ref ra7), (.ref ze)])) rfl (by rw [hml]; rfl) (Steps.refl _) (argsL := []) (rest := [(.ref ze)]) (lenOf pd_4 rfl) rfl (Nat.le_of_eq rfl) (hb hby d11_198) (fun _ _ => ⟨rfl, e1165, (by decide : 0 + 0 ≤ _), (by decide : 0 + 0 ≤ _)⟩)
 dsimp only [Pt.U, Pt.locs, Pt.cells, Pt.slots] at X1171 l1171 y1171 z1171 st1171 hQ1171
 subst l1171 y1171 z1171
 obtain ⟨rfl, N1171q, e1171⟩ := hQ1171
 have N1171 := Fr.app N1159 N1171q
 have k1172 := fun t (kk : SF p e below T1171 m 201 o1 [(.int zk), (.ref ze)] t) => k1167 t (st1171.trans kk)
 have k1173 := fun t (kk : SF p e below T1171 m 202 o1 [(.int zk), (.ref ze), (.int zk), (.ref ze)] t) => k1172 t (by
  jvm_step X1171.here [X1171.here.top, hx, (hb hby d11_201), Value.category]
  exact kk)
 have m1174 : ze ≠ zt := Ne.symm zjk
 have m1175 : ze ≠ zg := Ne.symm zed
 have m1176 : ze ≠ zh := Ne.symm zeg
 have m1177 : ze ≠ zp := Ne.symm (own_ne_oa zbx (w61 hw) zct)
 have m1178 : ze ≠ zb := Ne.symm zdh
 have m1179 : ze ≠ zc := Ne.symm zdl
 have m1180 : ze ≠ zd := Ne.symm (own_ne_oa zbg (w61 hw) zct)
 have f1181 := ((((zct.keep Kq1043 (ninS m1177 (ninS m1176 (ninS m1175 (ninS m1174 nin0))))).other W1080 zcx).keep Kq1120 (ninS m1180 (ninS m1179 (ninS m1178 nin0)))).other W1159 zcy)
 have hV1182 := f1181
 obtain ⟨cl1182, Ar1182, q1182, S1182, Nn1182, H1182, G1182⟩ := hV1182
 have hb1183 : ¬ zk < 0 ∧ zk < (5 : Int32) := ho
 have hin1183 : ¬ (zk < 0 ∨ cl1182.slots.size ≤ (zk).toNatClampNeg) := inb_of S1182 hb1183
 have hat1183 : cl1182.slots[(zk).toNatClampNeg]? = some (.int (odn11_202_at zk zy)) := Has.at H1182 hin1183 (own_getD_int _ _ _)
 have st1183 := X1171.iaload hx (j := zk) (v := (.int (odn11_202_at zk zy))) (by rw [e1171]; exact Ar1182.1) (State.isArrayOf_alike hZ.alike Ar1182.2.1) Ar1182.2.2 hin1183 hat1183 (g := (mkF m 202 o1 [(.int zk), (.ref ze), (.int zk), (.ref ze)])) rfl rfl (hb hby d11_202)
 have k1184 := fun t (kk : SF p e below T1171 m 203 o1 [(.int (odn11_202_at zk zy)), (.int zk), (.ref ze)] t) => k1173 t (st1183 _ kk)
 have k1185 := fun t (kk : SF p e below T1171 m 205 o1 [(.int ((odn11_202_at zk zy) + (1 : Int32))), (.int zk), (.ref ze)] t) => k1184 t (by
  refine XS.iconst X1171.here hx rfl (hb hby d11_203) ?_
  refine XS.iadd X1171.here hx rfl (hb hby d11_204) rfl ?_
  exact kk)
 have hV1186 := f1181
 obtain ⟨cl1186, Ar1186, q1186, S1186, Nn1186, H1186, G1186⟩ := hV1186
 have hb1187 : ¬ zk < 0 ∧ zk < (5 : Int32) := ho
 have hin1187 : ¬ (zk < 0 ∨ cl1186.slots.size ≤ (zk).toNatClampNeg) := inb_of S1186 hb1187
 obtain ⟨T1187, h1187, X1187, e1187, W1187, st1187⟩ := stI X1171 hx hZ e1171 Ar1186 (j := zk) hin1187 (g := (mkF m 205 o1 [(.int ((odn11_202_at zk zy) + (1 : Int32))), (.int zk), (.ref ze)])) rfl rfl (hb hby d11_205)
 have hl1187 : (zk).toNatClampNeg < (List.map Value.int zy).length := by rw [List.length_map, zfg]; exact own_lt_nat hb1187.1 hb1187.2
 have V1187r : Arv Z h1187 ze zbu .int 5 (List.map Value.int (zy.set (zk).toNatClampNeg ((odn11_202_at zk zy) + (1 : Int32)))) (.int 0) := by rw [List.map_set]; exact Arv.set Ar1186 q1186 S1186 Nn1186 H1186 G1186 rfl W1187 _ rfl hl1187
 have V1187 : Arv Z h1187 ze zbu .int 5 (List.map Value.int (odn11_205_L zk zy)) (.int 0) := V1187r
 have VL1187 : (odn11_205_L zk zy).length = ((5 : Int32)).toNatClampNeg := (List.length_set).trans zfg
 have K1187 : Keep h0 h1187 [zt, zg, zh, zp, zo, zb, zc, zd, zl, ze, ra0, zf, zn] := K1159.wr W1187 (Or.inl (List.mem_of_getElem? (i := 9) rfl))
 have N1187 := Fr.snoc X1187 N1171 zia
 have k1188 := fun t (kk : SF p e below T1187 m 206 o1 [] t) => k1185 t (st1187 _ kk)
 have k1189 := fun t (kk : SF p e below T1187 m 208 o1 [.null, (.ref ra0)] t) => k1188 t (by
  refine XS.aloadN X1187.here hx rfl (hb hby d11_206) rfl rfl ?_
  show SF p e below T1187 m 207 o1 [(.ref ra0)] _
  refine XS.aconstNull X1187.here hx rfl (hb hby d11_207) ?_
  exact kk)
 have f1190 := (((((E_ra0.keep Kq1043).wr W1080).keep Kq1120).wr W1159).wr W1187)
 have m1191 : ra0 ≠ ze := own_ne_oa E_ra0 (w11 hw) zct
 have t1192 := fun {C n d : String} {v : Value} (F : Fld Z _ ra0 C n d v) => ((((F.keep Kq1043 (ninS m1049 (ninS m1048 (ninS m1047 (ninS m1046 nin0))))).other W1080 (Or.inl m1083)).keep Kq1120 (ninS m1125 (ninS m1124 (ninS m1123 nin0)))).other W1159 (Or.inl m1162)).other W1187 (Or.inl m1191)
 have f1193 := t1192 zih
 obtain ⟨T1194, h1194, X1194, e1194, W1194, st1194⟩ := putF X1187 hx hZ hown (host := "") (Or.inl (w149 hw)) Via.refl e1187 f1193 f1190 (Or.inl (w150 hw)) (w11 hw) (ty := (.array (.array .int))) (by decide) rfl rfl (g := (mkF m 208 o1 [.null, (.ref ra0)])) rfl rfl (hb hby d11_208)
 have Fw1194 := f1193.same W1194
 have K1194 : Keep h0 h1194 [zt, zg, zh, zp, zo, zb, zc, zd, zl, ze, ra0, zf, zn] := K1187.wr W1194 (Or.inl (List.mem_of_getElem? (i := 10) rfl))
 have N1194 := Fr.snoc X1194 N1187 g_ra0
 have k1195 := fun t (kk : SF p e below T1194 m 211 o1 [] t) => k1189 t (st1194 _ kk)
 have k1196 := fun t (kk : SF p e below T1194 m 212 o1 [(.ref ra0)] t) => k1195 t (by
  refine XS.aloadN X1194.here hx rfl (hb hby d11_211) rfl rfl ?_
  exact kk)
 have f1197 := ((((((zfr.keep Kq1043 (ninS m1049 (ninS m1048 (ninS m1047 (ninS m1046 nin0))))).other W1080 (Or.inl m1083)).keep Kq1120 (ninS m1125 (ninS m1124 (ninS m1123 nin0)))).other W1159 (Or.inl m1162)).other W1187 (Or.inl m1191)).other W1194 (Or.inr (slot_ne (Or.inl (w95 hw)) (Or.inl (w150 hw)) (by decide) (t := (.array .long)) (t' := (.array (.array .int))) (by decide) (by decide))))
 obtain ⟨T1198, X1198, e1198, st1198⟩ := getF X1194 hx hZ hown (host := "") (Or.inl (w94 hw)) Via.refl e1194 f1197 (g := (mkF m 212 o1 [(.ref ra0)])) rfl rfl (hb hby d11_212)
 have k1199 := fun t (kk : SF p e below T1198 m 215 o1 [(.ref zf)] t) => k1196 t (st1198 _ kk)
 have k1200 := fun t (kk : SF p e below T1198 m 216 o1 [(.ref ra0), (.ref zf)] t) => k1199 t (by
  refine XS.aloadN X1198.here hx rfl (hb hby d11_215) rfl rfl ?_
  exact kk)
 have f1201 := (((f1132.other W1159 (Or.inl m1162)).other W1187 (Or.inl m1191)).other W1194 (Or.inr (slot_ne (Or.inl (w138 hw)) (Or.inl (w150 hw)) (by decide) (t := .int) (t' := (.array (.array .int))) (by decide) (by decide))))
 obtain ⟨T1202, X1202, e1202, st1202⟩ := getF X1198 hx hZ hown (host := "") (Or.inl (w137 hw)) Via.refl e1198 f1201 (g := (mkF m 216 o1 [(.ref ra0), (.ref zf)])) rfl rfl (hb hby d11_216)
 have k1203 := fun t (kk : SF p e below T1202 m 219 o1 [(.int za), (.ref zf)] t) => k1200 t (st1202 _ kk)
 have k1204 := fun t (kk : SF p e below T1202 m 221 o1 [(.long q8), (.int za), (.ref zf)] t) => k1203 t (by
  refine XS.lload X1202.here hx rfl (hb hby d11_219) rfl ?_
  exact kk)
 have m1205 : zf ≠ zt := Ne.symm zjl
 have m1206 : zf ≠ zg := Ne.symm zee
 have m1207 : zf ≠ zh := Ne.symm zeh
 have m1208 : zf ≠ zp := Ne.symm (own_ne_oa zbx (w61 hw) zcm)
 have m1209 : zf ≠ zo := Ne.symm zfc
 have m1210 : zf ≠ zb := Ne.symm zdi
 have m1211 : zf ≠ zc := Ne.symm zdm
 have m1212 : zf ≠ zd := Ne.symm (own_ne_oa zbg (w61 hw) zcm)
 have m1213 : zf ≠ zl := Ne.symm zfd
 have m1214 : zf ≠ ze := Ne.symm zei
 have m1215 : zf ≠ ra0 := Ne.symm (own_ne_oa E_ra0 (w11 hw) zcm)
 have f1216 := ((((((zcm.keep Kq1043 (ninS m1208 (ninS m1207 (ninS m1206 (ninS m1205 nin0))))).other W1080 m1209).keep Kq1120 (ninS m1212 (ninS m1211 (ninS m1210 nin0)))).other W1159 m1213).other W1187 m1214).other W1194 m1215)
 have hV1217 := f1216
 obtain ⟨cl1217, Ar1217, q1217, S1217, Nn1217, H1217, G1217⟩ := hV1217
 have hb1218 : ¬ za < 0 ∧ za < zav := own_ix hn hlquantities
 have hin1218 : ¬ (za < 0 ∨ cl1217.slots.size ≤ (za).toNatClampNeg) := inb_of S1217 hb1218
 obtain ⟨T1218, h1218, X1218, e1218, W1218, st1218⟩ := stJ X1202 hx hZ e1202 Ar1217 (j := za) hin1218 (g := (mkF m 221 o1 [(.long q8), (.int za), (.ref zf)])) rfl rfl (hb hby d11_221)
 have hl1218 : (za).toNatClampNeg < (List.map Value.long zas).length := by rw [List.length_map, zey]; exact own_lt_nat hb1218.1 hb1218.2
 have V1218 : Arv Z h1218 zf zbs .long zav (List.map Value.long (zas.set (za).toNatClampNeg q8)) (.long (0 : Int64)) := by rw [List.map_set]; exact Arv.set Ar1217 q1217 S1217 Nn1217 H1217 G1217 rfl W1218 _ rfl hl1218
 have VL1218 : (zas.set (za).toNatClampNeg q8).length = (zav).toNatClampNeg := (List.length_set).trans zey
 have K1218 : Keep h0 h1218 [zt, zg, zh, zp, zo, zb, zc, zd, zl, ze, ra0, zf, zn] := K1194.wr W1218 (Or.inl (List.mem_of_getElem? (i := 11) rfl))
 have N1218 := Fr.snoc X1218 N1194 zib
 have k1219 := fun t (kk : SF p e below T1218 m 222 o1 [] t) => k1204 t (st1218 _ kk)
 have k1220 := fun t (kk : SF p e below T1218 m 223 o1 [(.ref ra0)] t) => k1219 t (by
  refine XS.aloadN X1218.here hx rfl (hb hby d11_222) rfl rfl ?_
  exact kk)
 have m1221 : ra0 ≠ zf := Ne.symm m1215
 have f1222 := (((((((zig.keep Kq1043 (ninS m1049 (ninS m1048 (ninS m1047 (ninS m1046 nin0))))).other W1080 (Or.inl m1083)).keep Kq1120 (ninS m1125 (ninS m1124 (ninS m1123 nin0)))).other W1159 (Or.inl m1162)).other W1187 (Or.inl m1191)).other W1194 (Or.inr (slot_ne (Or.inl (w97 hw)) (Or.inl (w150 hw)) (by decide) (t := (.array .long)) (t' := (.array (.array .int))) (by decide) (by decide)))).other W1218 (Or.inl m1221))
 obtain ⟨T1223, X1223, e1223, st1223⟩ := getF X1218 hx hZ hown (host := "") (Or.inl (w96 hw)) Via.refl e1218 f1222 (g := (mkF m 223 o1 [(.ref ra0)])) rfl rfl (hb hby d11_223)
 have k1224 := fun t (kk : SF p e below T1223 m 226 o1 [(.ref zn)] t) => k1220 t (st1223 _ kk)
 have k1225 := fun t (kk : SF p e below T1223 m 227 o1 [(.ref ra0), (.ref zn)] t) => k1224 t (by
  refine XS.aloadN X1223.here hx rfl (hb hby d11_226) rfl rfl ?_
  exact kk)
 have f1226 := (f1201.other W1218 (Or.inl m1221))
 obtain ⟨T1227, X1227, e1227, st1227⟩ := getF X1223 hx hZ hown (host := "") (Or.inl (w137 hw)) Via.refl e1223 f1226 (g := (mkF m 227 o1 [(.ref ra0), (.ref zn)])) rfl rfl (hb hby d11_227)
 have k1228 := fun t (kk : SF p e below T1227 m 230 o1 [(.int za), (.ref zn)] t) => k1225 t (st1227 _ kk)
 have k1229 := fun t (kk : SF p e below T1227 m 232 o1 [(.long q9), (.int za), (.ref zn)] t) => k1228 t (by
  refine XS.lload X1227.here hx rfl (hb hby d11_230) rfl ?_
  exact kk)
 have m1230 : zn ≠ zt := Ne.symm zjr
 have m1231 : zn ≠ zg := Ne.symm zes
 have m1232 : zn ≠ zh := Ne.symm zew
 have m1233 : zn ≠ zp := Ne.symm (own_ne_oa zbx (w61 hw) zeb)
 have m1234 : zn ≠ zo := Ne.symm zfp
 have m1235 : zn ≠ zb := Ne.symm zds
 have m1236 : zn ≠ zc := Ne.symm zdv
 have m1237 : zn ≠ zd := Ne.symm (own_ne_oa zbg (w61 hw) zeb)
 have m1238 : zn ≠ zl := Ne.symm zfq
 have m1239 : zn ≠ ze := Ne.symm zex
 have m1240 : zn ≠ ra0 := Ne.symm (own_ne_oa E_ra0 (w11 hw) zeb)
 have f1241 := (((((((zeb.keep Kq1043 (ninS m1233 (ninS m1232 (ninS m1231 (ninS m1230 nin0))))).other W1080 m1234).keep Kq1120 (ninS m1237 (ninS m1236 (ninS m1235 nin0)))).other W1159 m1238).other W1187 m1239).other W1194 m1240).other W1218 zcu)
 have hV1242 := f1241
 obtain ⟨cl1242, Ar1242, q1242, S1242, Nn1242, H1242, G1242⟩ := hV1242
 have hb1243 : ¬ za < 0 ∧ za < zbp := own_ix hn hlprices
 have hin1243 : ¬ (za < 0 ∨ cl1242.slots.size ≤ (za).toNatClampNeg) := inb_of S1242 hb1243
 obtain ⟨T1243, h1243, X1243, e1243, W1243, st1243⟩ := stJ X1227 hx hZ e1227 Ar1242 (j := za) hin1243 (g := (mkF m 232 o1 [(.long q9), (.int za), (.ref zn)])) rfl rfl (hb hby d11_232)
 have hl1243 : (za).toNatClampNeg < (List.map Value.long zbt).length := by rw [List.length_map, zgv]; exact own_lt_nat hb1243.1 hb1243.2
 have V1243 : Arv Z h1243 zn zcs .long zbp (List.map Value.long (zbt.set (za).toNatClampNeg q9)) (.long (0 : Int64)) := by rw [List.map_set]; exact Arv.set Ar1242 q1242 S1242 Nn1242 H1242 G1242 rfl W1243 _ rfl hl1243
 have VL1243 : (zbt.set (za).toNatClampNeg q9).length = (zbp).toNatClampNeg := (List.length_set).trans zgv
 have K1243 : Keep h0 h1243 [zt, zg, zh, zp, zo, zb, zc, zd, zl, ze, ra0, zf, zn] := K1218.wr W1243 (Or.inl (List.mem_of_getElem? (i := 12) rfl))
 have N1243 := Fr.snoc X1243 N1218 ziy
 have k1244 := fun t (kk : SF p e below T1243 m 233 o1 [] t) => k1229 t (st1243 _ kk)
 have k1245 := fun t (kk : SF p e below T1243 m 239 o1 [(.int (lcmpW q9 (-1 : Int64)))] t) => k1244 t (by
  refine XS.lload X1243.here hx rfl (hb hby d11_233) rfl ?_
  refine X1243.ldc2Long hx hown (mvT hZ (w139 hw)) (g := (mkF m 235 o1 [(.long q9)])) rfl (hb hby d11_235) _ ?_
  refine XS.lcmp X1243.here hx rfl (hb hby d11_238) rfl ?_
  exact kk)
 have hc239_1246 : q9 = (-1 : Int64) := hp
 have k1247 := fun t (kk : SF p e below T1243 m 300 o1 [(.ref ra0)] t) => k1245 t (by
  refine XS.ifYes X1243.here hx rfl (pc0 := 239) (pc' := 299) rfl (hb hby d11_239) rfl ((if0 _ _).trans (teq ((lw_eq _ _).mpr hc239_1246)).1) (by decide) (by decide) ?_
  refine XS.aloadN X1243.here hx rfl (hb hby d11_299) rfl rfl ?_
  exact kk)
 have m1248 : ra0 ≠ zn := Ne.symm m1240
 have f1249 := ((((((((zic.keep Kq1043 (ninS m1049 (ninS m1048 (ninS m1047 (ninS m1046 nin0))))).other W1080 (Or.inl m1083)).keep Kq1120 (ninS m1125 (ninS m1124 (ninS m1123 nin0)))).other W1159 (Or.inl m1162)).other W1187 (Or.inl m1191)).other W1194 (Or.inr (slot_ne (Or.inl (w152 hw)) (Or.inl (w150 hw)) (by decide) (t := (.array .long)) (t' := (.array (.array .int))) (by decide) (by decide)))).other W1218 (Or.inl m1221)).other W1243 (Or.inl m1248))
 obtain ⟨T1250, X1250, e1250, st1250⟩ := getF X1243 hx hZ hown (host := "") (Or.inl (w151 hw)) Via.refl e1243 f1249 (g := (mkF m 300 o1 [(.ref ra0)])) rfl rfl (hb hby d11_300)
 have k1251 := fun t (kk : SF p e below T1250 m 303 o1 [.null] t) => k1247 t (st1250 _ kk)
 have k1252 := fun t (kk : SF p e below T1250 m 319 o1 [(.ref ra0), (.ref ra0)] t) => k1251 t (by
  show SF p e below T1250 m 303 o1 [.null] _
  refine XS.ifnullYes X1250.here hx rfl (pc0 := 303) (pc' := 317) rfl (hb hby d11_303) rfl (by decide) (by decide) ?_
  show SF p e below T1250 m 317 o1 [] _
  refine XS.aloadN X1250.here hx rfl (hb hby d11_317) rfl rfl ?_
  refine XS.dup X1250.here hx rfl (hb hby d11_318) rfl rfl ?_
  exact kk)
 have f1253 := (f1226.other W1243 (Or.inl m1248))
 obtain ⟨T1254, X1254, e1254, st1254⟩ := getF X1250 hx hZ hown (host := "") (Or.inl (w137 hw)) Via.refl e1250 f1253 (g := (mkF m 319 o1 [(.ref ra0), (.ref ra0)])) rfl rfl (hb hby d11_319)
 have k1255 := fun t (kk : SF p e below T1254 m 322 o1 [(.int za), (.ref ra0)] t) => k1252 t (st1254 _ kk)
 have k1256 := fun t (kk : SF p e below T1254 m 324 o1 [(.int (za + (1 : Int32))), (.ref ra0)] t) => k1255 t (by
  refine XS.iconst X1254.here hx rfl (hb hby d11_322) ?_
  refine XS.iadd X1254.here hx rfl (hb hby d11_323) rfl ?_
  exact kk)
 have f1257 := (((f1190.wr W1194).wr W1218).wr W1243)
 obtain ⟨T1258, h1258, X1258, e1258, W1258, st1258⟩ := putF X1254 hx hZ hown (host := "") (Or.inl (w137 hw)) Via.refl e1254 f1253 f1257 (Or.inl (w138 hw)) (w11 hw) (ty := .int) (by decide) rfl rfl (g := (mkF m 324 o1 [(.int (za + (1 : Int32))), (.ref ra0)])) rfl rfl (hb hby d11_324)
 have Fw1258 := f1253.same W1258
 have K1258 : Keep h0 h1258 [zt, zg, zh, zp, zo, zb, zc, zd, zl, ze, ra0, zf, zn] := K1243.wr W1258 (Or.inl (List.mem_of_getElem? (i := 10) rfl))
 have N1258 := Fr.snoc X1258 N1243 g_ra0
 have k1259 := fun t (kk : SF p e below T1258 m 327 o1 [] t) => k1256 t (st1258 _ kk)
 have k1260 := fun t (kk : SF p e below T1258 m 329 o1 [(.int zr)] t) => k1259 t (by
  refine XS.iload X1258.here hx rfl (hb hby d11_327) rfl ?_
  exact kk)
 obtain ⟨fs, hr, hrun, hended, hW, hsame⟩ := X1258.leave (v := some (.int zr)) (fun h => by rw [Bd.returns] at h; cases h) hlk
 have f1261 := ((((((((Eq1043_0.wr W1080).keep Kq1120).wr W1159).wr W1187).wr W1194).wr W1218).wr W1243).wr W1258)
 have f1262 := ((((((Eq1120_0.wr W1159).wr W1187).wr W1194).wr W1218).wr W1243).wr W1258)
 have f1263 := (f1257.wr W1258)
 have m1264 : zp ≠ zo := Ne.symm m1064
 have m1265 : zp ≠ zb := Ne.symm m1111
 have m1266 : zp ≠ zc := Ne.symm m1107
 have m1267 : zp ≠ zd := Ne.symm m1092
 have m1268 : zp ≠ zl := Ne.symm m1153
 have m1269 : zp ≠ ze := Ne.symm m1177
 have m1270 : zp ≠ ra0 := Ne.symm m1049
 have m1271 : zp ≠ zf := Ne.symm m1208
 have m1272 : zp ≠ zn := Ne.symm m1233
 have t1273 := fun {C n d : String} {v : Value} (F : Fld Z _ zp C n d v) => (((((((F.other W1080 (Or.inl m1264)).keep Kq1120 (ninS m1267 (ninS m1266 (ninS m1265 nin0)))).other W1159 (Or.inl m1268)).other W1187 (Or.inl m1269)).other W1194 (Or.inl m1270)).other W1218 (Or.inl m1271)).other W1243 (Or.inl m1272)).other W1258 (Or.inl m1270)
 have f1274 := t1273 Fq1043_0
 have f1275 := t1273 Fq1043_1
 have f1276 := t1273 Fq1043_2
 have f1277 := t1273 Fq1043_3
 have f1278 := t1273 Fq1043_4
 have f1279 := t1273 Fq1043_5
 have f1280 := t1273 Fq1043_6
 have f1281 := t1273 Fq1043_7
 have f1282 := t1273 Fq1043_8
 have m1283 : zd ≠ zl := Ne.symm m1156
 have m1284 : zd ≠ ze := Ne.symm m1180
 have m1285 : zd ≠ ra0 := Ne.symm m1125
 have m1286 : zd ≠ zf := Ne.symm m1212
 have m1287 : zd ≠ zn := Ne.symm m1237
 have t1288 := fun {C n d : String} {v : Value} (F : Fld Z _ zd C n d v) => (((((F.other W1159 (Or.inl m1283)).other W1187 (Or.inl m1284)).other W1194 (Or.inl m1285)).other W1218 (Or.inl m1286)).other W1243 (Or.inl m1287)).other W1258 (Or.inl m1285)
 have f1289 := t1288 Fq1120_0
 have f1290 := t1288 Fq1120_1
 have f1291 := t1288 Fq1120_2
 have f1292 := t1288 Fq1120_3
 have f1293 := t1288 Fq1120_4
 have f1294 := t1288 Fq1120_5
 have f1295 := t1288 Fn1120_6
 have f1296 := t1288 Fq1120_7
 have f1297 := t1288 Fq1120_8
 have f1298 := (((((((((zho.keep Kq1043 (ninS m1049 (ninS m1048 (ninS m1047 (ninS m1046 nin0))))).other W1080 (Or.inl m1083)).keep Kq1120 (ninS m1125 (ninS m1124 (ninS m1123 nin0)))).other W1159 (Or.inl m1162)).other W1187 (Or.inl m1191)).other W1194 (Or.inr (slot_ne (Or.inr (w44 hw)) (Or.inl (w150 hw)) (by decide) (t := (.object "java/util/List")) (t' := (.array (.array .int))) (by decide) (by decide)))).other W1218 (Or.inl m1221)).other W1243 (Or.inl m1248)).other W1258 (Or.inr (own_sn (y44 hw) (y138 hw) (by decide))))
 have f1299 := (((((f1164.other W1187 (Or.inl m1191)).other W1194 (Or.inr (slot_ne (Or.inr (w49 hw)) (Or.inl (w150 hw)) (by decide) (t := (.array .int)) (t' := (.array (.array .int))) (by decide) (by decide)))).other W1218 (Or.inl m1221)).other W1243 (Or.inl m1248)).other W1258 (Or.inr (own_sn (y49 hw) (y138 hw) (by decide))))
 have f1300 := (((((((((zhb.keep Kq1043 (ninS m1049 (ninS m1048 (ninS m1047 (ninS m1046 nin0))))).other W1080 (Or.inl m1083)).keep Kq1120 (ninS m1125 (ninS m1124 (ninS m1123 nin0)))).other W1159 (Or.inl m1162)).other W1187 (Or.inl m1191)).other W1194 (Or.inr (slot_ne (Or.inl (w52 hw)) (Or.inl (w150 hw)) (by decide) (t := .long) (t' := (.array (.array .int))) (by decide) (by decide)))).other W1218 (Or.inl m1221)).other W1243 (Or.inl m1248)).other W1258 (Or.inr (own_sn (y52 hw) (y138 hw) (by decide))))
 have f1301 := (((((((((zhg.keep Kq1043 (ninS m1049 (ninS m1048 (ninS m1047 (ninS m1046 nin0))))).other W1080 (Or.inl m1083)).keep Kq1120 (ninS m1125 (ninS m1124 (ninS m1123 nin0)))).other W1159 (Or.inl m1162)).other W1187 (Or.inl m1191)).other W1194 (Or.inr (slot_ne (Or.inl (w55 hw)) (Or.inl (w150 hw)) (by decide) (t := .long) (t' := (.array (.array .int))) (by decide) (by decide)))).other W1218 (Or.inl m1221)).other W1243 (Or.inl m1248)).other W1258 (Or.inr (own_sn (y55 hw) (y138 hw) (by decide))))
 have f1302 := (((((((((zgu.keep Kq1043 (ninS m1049 (ninS m1048 (ninS m1047 (ninS m1046 nin0))))).other W1080 (Or.inl m1083)).keep Kq1120 (ninS m1125 (ninS m1124 (ninS m1123 nin0)))).other W1159 (Or.inl m1162)).other W1187 (Or.inl m1191)).other W1194 (Or.inr (slot_ne (Or.inr (w86 hw)) (Or.inl (w150 hw)) (by decide) (t := (.object cBs)) (t' := (.array (.array .int))) (by decide) (by decide)))).other W1218 (Or.inl m1221)).other W1243 (Or.inl m1248)).other W1258 (Or.inr (own_sn (y86 hw) (y138 hw) (by decide))))
 have f1303 := (((((((f1085.keep Kq1120 (ninS m1125 (ninS m1124 (ninS m1123 nin0)))).other W1159 (Or.inl m1162)).other W1187 (Or.inl m1191)).other W1194 (Or.inr (slot_ne (Or.inr (w88 hw)) (Or.inl (w150 hw)) (by decide) (t := (.object cBs)) (t' := (.array (.array .int))) (by decide) (by decide)))).other W1218 (Or.inl m1221)).other W1243 (Or.inl m1248)).other W1258 (Or.inr (own_sn (y88 hw) (y138 hw) (by decide))))
 have f1304 := ((((((((f1058.other W1080 (Or.inl m1083)).keep Kq1120 (ninS m1125 (ninS m1124 (ninS m1123 nin0)))).other W1159 (Or.inl m1162)).other W1187 (Or.inl m1191)).other W1194 (Or.inr (slot_ne (Or.inl (w91 hw)) (Or.inl (w150 hw)) (by decide) (t := (.array .long)) (t' := (.array (.array .int))) (by decide) (by decide)))).other W1218 (Or.inl m1221)).other W1243 (Or.inl m1248)).other W1258 (Or.inr (own_sn (y91 hw) (y138 hw) (by decide))))
 have f1305 := ((((((f1127.other W1159 (Or.inl m1162)).other W1187 (Or.inl m1191)).other W1194 (Or.inr (slot_ne (Or.inl (w93 hw)) (Or.inl (w150 hw)) (by decide) (t := (.array .byte)) (t' := (.array (.array .int))) (by decide) (by decide)))).other W1218 (Or.inl m1221)).other W1243 (Or.inl m1248)).other W1258 (Or.inr (own_sn (y93 hw) (y138 hw) (by decide))))
 have f1306 := (((f1197.other W1218 (Or.inl m1221)).other W1243 (Or.inl m1248)).other W1258 (Or.inr (own_sn (y95 hw) (y138 hw) (by decide))))
 have f1307 := ((f1222.other W1243 (Or.inl m1248)).other W1258 (Or.inr (own_sn (y97 hw) (y138 hw) (by decide))))
 have f1308 := (((Fw1194.other W1218 (Or.inl m1221)).other W1243 (Or.inl m1248)).other W1258 (Or.inr (slot_ne (Or.inl (w150 hw)) (Or.inl (w138 hw)) (by decide) (t := (.array (.array .int))) (t' := .int) (by decide) (by decide))))
 have f1309 := (f1249.other W1258 (Or.inr (own_sn (y152 hw) (y138 hw) (by decide))))
 have f1310 := (((((((((zhh.keep Kq1043 (ninS m1049 (ninS m1048 (ninS m1047 (ninS m1046 nin0))))).other W1080 (Or.inl m1083)).keep Kq1120 (ninS m1125 (ninS m1124 (ninS m1123 nin0)))).other W1159 (Or.inl m1162)).other W1187 (Or.inl m1191)).other W1194 (Or.inr (slot_ne (Or.inl (w180 hw)) (Or.inl (w150 hw)) (by decide) (t := .boolean) (t' := (.array (.array .int))) (by decide) (by decide)))).other W1218 (Or.inl m1221)).other W1243 (Or.inl m1248)).other W1258 (Or.inr (own_sn (y180 hw) (y138 hw) (by decide))))
 have m1311 : zt ≠ zo := Ne.symm m1061
 have m1312 : zt ≠ zb := Ne.symm m1109
 have m1313 : zt ≠ zc := Ne.symm m1104
 have m1314 : zt ≠ zd := Ne.symm m1089
 have m1315 : zt ≠ zl := Ne.symm m1150
 have m1316 : zt ≠ ze := Ne.symm m1174
 have m1317 : zt ≠ ra0 := Ne.symm m1046
 have m1318 : zt ≠ zf := Ne.symm m1205
 have m1319 : zt ≠ zn := Ne.symm m1230
 have f1320 := ((((((((Vq1043_2.other W1080 m1311).keep Kq1120 (ninS m1314 (ninS m1313 (ninS m1312 nin0)))).other W1159 m1315).other W1187 m1316).other W1194 m1317).other W1218 m1318).other W1243 m1319).other W1258 m1317)
 have m1321 : zg ≠ zo := Ne.symm m1062
 have m1322 : zg ≠ zb := Ne.symm m1110
 have m1323 : zg ≠ zc := Ne.symm m1105
 have m1324 : zg ≠ zd := Ne.symm m1090
 have m1325 : zg ≠ zl := Ne.symm m1151
 have m1326 : zg ≠ ze := Ne.symm m1175
 have m1327 : zg ≠ ra0 := Ne.symm m1047
 have m1328 : zg ≠ zf := Ne.symm m1206
 have m1329 : zg ≠ zn := Ne.symm m1231
 have f1330 := ((((((((V1043n1.other W1080 m1321).keep Kq1120 (ninS m1324 (ninS m1323 (ninS m1322 nin0)))).other W1159 m1325).other W1187 m1326).other W1194 m1327).other W1218 m1328).other W1243 m1329).other W1258 m1327)
 have m1331 : zh ≠ zo := Ne.symm m1063
 have m1332 : zh ≠ zb := Ne.symm zbz
 have m1333 : zh ≠ zc := Ne.symm m1106
 have m1334 : zh ≠ zd := Ne.symm m1091
 have m1335 : zh ≠ zl := Ne.symm m1152
 have m1336 : zh ≠ ze := Ne.symm m1176
 have m1337 : zh ≠ ra0 := Ne.symm m1048
 have m1338 : zh ≠ zf := Ne.symm m1207
 have m1339 : zh ≠ zn := Ne.symm m1232
 have f1340 := ((((((((Vq1043_0.other W1080 m1331).keep Kq1120 (ninS m1334 (ninS m1333 (ninS m1332 nin0)))).other W1159 m1335).other W1187 m1336).other W1194 m1337).other W1218 m1338).other W1243 m1339).other W1258 m1337)
 have m1341 : zo ≠ zb := Ne.symm zce
 have m1342 : zo ≠ zc := Ne.symm zch
 have m1343 : zo ≠ zd := Ne.symm m1093
 have m1344 : zo ≠ zl := Ne.symm zdw
 have m1345 : zo ≠ ze := Ne.symm zcx
 have m1346 : zo ≠ ra0 := Ne.symm m1083
 have m1347 : zo ≠ zf := Ne.symm m1209
 have m1348 : zo ≠ zn := Ne.symm m1234
 have f1349 := (((((((V1080.keep Kq1120 (ninS m1343 (ninS m1342 (ninS m1341 nin0)))).other W1159 m1344).other W1187 m1345).other W1194 m1346).other W1218 m1347).other W1243 m1348).other W1258 m1346)
 have m1350 : zb ≠ zl := Ne.symm m1154
 have m1351 : zb ≠ ze := Ne.symm m1178
 have m1352 : zb ≠ ra0 := Ne.symm m1123
 have m1353 : zb ≠ zf := Ne.symm m1210
 have m1354 : zb ≠ zn := Ne.symm m1235
 have f1355 := ((((((V1120n1.other W1159 m1350).other W1187 m1351).other W1194 m1352).other W1218 m1353).other W1243 m1354).other W1258 m1352)
 have m1356 : zc ≠ zl := Ne.symm m1155
 have m1357 : zc ≠ ze := Ne.symm m1179
 have m1358 : zc ≠ ra0 := Ne.symm m1124
 have m1359 : zc ≠ zf := Ne.symm m1211
 have m1360 : zc ≠ zn := Ne.symm m1236
 have f1361 := ((((((V1120n.other W1159 m1356).other W1187 m1357).other W1194 m1358).other W1218 m1359).other W1243 m1360).other W1258 m1358)
 have m1362 : zl ≠ ze := Ne.symm zcy
 have m1363 : zl ≠ ra0 := Ne.symm m1162
 have m1364 : zl ≠ zf := Ne.symm m1213
 have m1365 : zl ≠ zn := Ne.symm m1238
 have f1366 := (((((V1159.other W1187 m1362).other W1194 m1363).other W1218 m1364).other W1243 m1365).other W1258 m1363)
 have m1367 : ze ≠ ra0 := Ne.symm m1191
 have m1368 : ze ≠ zf := Ne.symm m1214
 have m1369 : ze ≠ zn := Ne.symm m1239
 have f1370 := ((((V1187.other W1194 m1367).other W1218 m1368).other W1243 m1369).other W1258 m1367)
 have m1371 : zf ≠ zn := Ne.symm zcu
 have f1372 := ((V1218.other W1243 m1371).other W1258 m1215)
 have f1373 := (V1243.other W1258 m1240)
 refine ⟨_, _, k1260 _ ?_, hrun, hended, _, _, rfl, ?_, ⟨_, rfl⟩, hW, hsame.mono (by decide) (by decide)⟩
 ·show SF p e below T1258 m 329 o1 [(.int zr)] _
  exact retI X1258 hx Bd.returns (hb hby d11_329) hr
 ·show Q11dn Z ra0 ra1 p2 p3 p4 p5 q6 ra7 q8 q9 q10 zp zt k_ra1 L_ra1 zbb zam zad zr zh zbq zaw zaa zg zbf zaq zap zax zgx zhi zbi zbr za zo zdc zbk zbw zd zj zc zbe zaj zs zb zbc zag zaf zaz zbh zbn zbl zbm zl zk zcq zbo zbj ze zbu zy zdp zf zbs zav zas zn zcs zbp zbt zcn zcb zcj zcd h0 n0 _ T1258.heap _
  rw [e1258]
  exact ⟨rfl, N1258, K1258, f1261, f1262, f1263, f1274, f1275, f1276, f1277, f1278, f1279, f1280, f1281, f1282, f1289, f1290, f1291, f1292, f1293, f1294, f1295, f1296, f1297, f1298, f1299, f1300, f1301, f1302, f1303, f1304, f1305, f1306, f1307, Fw1258, f1308, f1309, f1310, f1320, VLq1043_2, f1330, VL1043n1, f1340, VLq1043_0, f1349, VL1080, f1355, VL1120n1, f1361, VL1120n, f1366, VL1159, f1370, VL1187, f1372, VL1218, f1373, VL1243⟩
def ohf11_7_f_hashed (zbi : Int32) : Int32 := (zbi + (1 : Int32))
def ohf11_7_L1 (p2 : Int32) (L_ra1 : List Int32) (zr : Int32) (zaa zap : List Int32) : List Int32 := (v15_112_L p2 zr zaa zap L_ra1)
def ohf11_10_l15 (zr : Int32) : Int32 := ((zr + (1 : Int32)) - (1 : Int32))
def ohf11_173_f_size (zj : Int32) : Int32 := (zj + (1 : Int32))
def ohf11_173_L0 (p4 p5 zj : Int32) (zs : List Int32) : List Int32 := (v15_131_L p4 p5 zj zs)
def ohf11_173_L1 (p4 : Int32) (L_ra1 : List Int32) (zj : Int32) (zs zaf : List Int32) : List Int32 := (v15_112_L p4 zj zs zaf L_ra1)
def ohf11_191_L (za zk : Int32) (zbj : List Int32) : List Int32 := (zbj.set (za).toNatClampNeg (((zk.toInt8.toInt32)).toInt8.toInt32))
def ohf11_202_at (zk : Int32) (zy : List Int32) : Int32 := (zy.getD (zk).toNatClampNeg (0 : Int32))
def ohf11_205_L (zk : Int32) (zy : List Int32) : List Int32 := (zy.set (zk).toNatClampNeg ((ohf11_202_at zk zy) + (1 : Int32)))
def Q11hf (Z : State) (ra0 ra1 : Addr) (p2 p3 : Int32) (p4 p5 : Int32) (q6 : Int64) (ra7 : Addr) (q8 q9 q10 : Int64) (zp zt : Addr) (k_ra1 : ClassId) (L_ra1 : List Int32) (zbb : ClassId) (zam : Int32) (zad : List Int32) (zax zr : Int32) (zh : Addr) (zbq : ClassId) (zaw : Int32) (zaa : List Int32) (zg : Addr) (zbf : ClassId) (zaq : Int32) (zap : List Int32) (zbi : Int32) (zbr : Int64) (za : Int32) (zo : Addr) (zdc : ClassId) (zbk : Int32) (zbw : List Int64) (zd : Addr) (zj : Int32) (zc : Addr) (zbe : ClassId) (zaj : Int32) (zs : List Int32) (zb : Addr) (zbc : ClassId) (zag : Int32) (zaf : List Int32) (zaz : Int32) (zbh zbn : Value) (zbl : Int32) (zbm : Int64) (zl : Addr) (zk : Int32) (zcq : ClassId) (zbo : Int32) (zbj : List Int32) (ze : Addr) (zbu : ClassId) (zy : List Int32) (zdp : Value) (zf : Addr) (zbs : ClassId) (zav : Int32) (zas : List Int64) (zn : Addr) (zcs : ClassId) (zbp : Int32) (zbt : List Int64) (zcn : Value) (zcb zcj : Int64) (zcd : Int32) (h0 : Heap) (n0 : Nat) (v : Option Value) (h : Heap) (L : List Loc) : Prop := (∃ (xs : Addr) (k_xs : ClassId), v = some (.int (ohf11_10_l15 zr)) ∧ Fr n0 L ∧ Keep h0 h [zg, zh, zp, zo, zb, zc, zd, zl, ze, ra0, zf, zn] ∧ Exa Z h zp cBs ∧ Exa Z h zd cBs ∧ Exa Z h ra0 cOr ∧ Fld Z h zp cBs "bytes" "[B" (.ref zg) ∧ Fld Z h zp cBs "ends" "[I" (.ref zh) ∧ Fld Z h zp cBs "byValue" "[I" (.ref zt) ∧ Fld Z h zp cBs "expectedSlots" "I" (.int zax) ∧ Fld Z h zp cBs "crowded" "Ljava/util/Map;" .null ∧ Fld Z h zp cBs "slots" "[J" (.ref xs) ∧ Fld Z h zp cBs "size" "I" (.int (zr + (1 : Int32))) ∧ Fld Z h zp cBs "hashed" "I" (.int (ohf11_7_f_hashed zbi)) ∧ Fld Z h zp cBs "probes" "J" (.long zbr) ∧ Fld Z h zd cBs "bytes" "[B" (.ref zb) ∧ Fld Z h zd cBs "ends" "[I" (.ref zc) ∧ Fld Z h zd cBs "byValue" "[I" .null ∧ Fld Z h zd cBs "expectedSlots" "I" (.int zaz) ∧ Fld Z h zd cBs "crowded" "Ljava/util/Map;" zbh ∧ Fld Z h zd cBs "slots" "[J" zbn ∧ Fld Z h zd cBs "size" "I" (.int (ohf11_173_f_size zj)) ∧ Fld Z h zd cBs "hashed" "I" (.int zbl) ∧ Fld Z h zd cBs "probes" "J" (.long zbm) ∧ Fld Z h ra0 cOr "unpacked" "Ljava/util/List;" zcn ∧ Fld Z h ra0 cOr "kindCounts" "[I" (.ref ze) ∧ Fld Z h ra0 cOr "leastPrice" "J" (.long zcb) ∧ Fld Z h ra0 cOr "mostPrice" "J" (.long zcj) ∧ Fld Z h ra0 cOr "ids" "Lcom/example/gavelbook/gavelbook/ByteStrings;" (.ref zp) ∧ Fld Z h ra0 cOr "memberNames" "Lcom/example/gavelbook/gavelbook/ByteStrings;" (.ref zd) ∧ Fld Z h ra0 cOr "lines" "[J" (.ref zo) ∧ Fld Z h ra0 cOr "kinds" "[B" (.ref zl) ∧ Fld Z h ra0 cOr "quantities" "[J" (.ref zf) ∧ Fld Z h ra0 cOr "prices" "[J" (.ref zn) ∧ Fld Z h ra0 cOr "size" "I" (.int (za + (1 : Int32))) ∧ Fld Z h ra0 cOr "byKind" "[[I" .null ∧ Fld Z h ra0 cOr "amounts" "[J" .null ∧ Fld Z h ra0 cOr "uncounted" "Z" (.int zcd) ∧ Arv Z h zg zbf .byte zaq (List.map Value.int (ohf11_7_L1 p2 L_ra1 zr zaa zap)) (.int 0) ∧ (ohf11_7_L1 p2 L_ra1 zr zaa zap).length = (zaq).toNatClampNeg ∧ Arv Z h zh zbq .int zaw (List.map Value.int (v15_131_L p2 p3 zr zaa)) (.int 0) ∧ (v15_131_L p2 p3 zr zaa).length = (zaw).toNatClampNeg ∧ Arv Z h zo zdc .long zbk (List.map Value.long (zbw.set (za).toNatClampNeg q6)) (.long (0 : Int64)) ∧ (zbw.set (za).toNatClampNeg q6).length = (zbk).toNatClampNeg ∧ Arv Z h zb zbc .byte zag (List.map Value.int (ohf11_173_L1 p4 L_ra1 zj zs zaf)) (.int 0) ∧ (ohf11_173_L1 p4 L_ra1 zj zs zaf).length = (zag).toNatClampNeg ∧ Arv Z h zc zbe .int zaj (List.map Value.int (ohf11_173_L0 p4 p5 zj zs)) (.int 0) ∧ (ohf11_173_L0 p4 p5 zj zs).length = (zaj).toNatClampNeg ∧ Arv Z h zl zcq .byte zbo (List.map Value.int (ohf11_191_L za zk zbj)) (.int 0) ∧ (ohf11_191_L za zk zbj).length = (zbo).toNatClampNeg ∧ Arv Z h ze zbu .int 5 (List.map Value.int (ohf11_205_L zk zy)) (.int 0) ∧ (ohf11_205_L zk zy).length = ((5 : Int32)).toNatClampNeg ∧ Arv Z h zf zbs .long zav (List.map Value.long (zas.set (za).toNatClampNeg q8)) (.long (0 : Int64)) ∧ (zas.set (za).toNatClampNeg q8).length = (zav).toNatClampNeg ∧ Arv Z h zn zcs .long zbp (List.map Value.long (zbt.set (za).toNatClampNeg q9)) (.long (0 : Int64)) ∧ (zbt.set (za).toNatClampNeg q9).length = (zbp).toNatClampNeg ∧ h0.size ≤ xs ∧ Arv Z h xs k_xs .long zax (List.map Value.long (hf12_337_L p2 L_ra1 zax zr)) (.long (0 : Int64)) ∧ (hf12_337_L p2 L_ra1 zax zr).length = (zax).toNatClampNeg)
set_option maxRecDepth 65536 in
set_option maxHeartbeats 40000000 in
theorem rm11hf (l : Launch) (Z : State) (a0 : Array Value) (hw : HW Z a0) (ws : List Jvm.Cond) (ra0 ra1 : Addr) (p2 p3 : Int32) (p4 p5 : Int32) (q6 : Int64) (ra7 : Addr) (q8 q9 q10 : Int64) (zp zt : Addr) (k_ra1 : ClassId) (L_ra1 : List Int32) (zbb : ClassId) (zam : Int32) (zad : List Int32) (zax zr : Int32) (zh : Addr) (zbq : ClassId) (zaw : Int32) (zaa : List Int32) (zg : Addr) (zbf : ClassId) (zaq : Int32) (zap : List Int32) (zbi : Int32) (zbr : Int64) (za : Int32) (zo : Addr) (zdc : ClassId) (zbk : Int32) (zbw : List Int64) (zd : Addr) (zj : Int32) (zc : Addr) (zbe : ClassId) (zaj : Int32) (zs : List Int32) (zb : Addr) (zbc : ClassId) (zag : Int32) (zaf : List Int32) (zaz : Int32) (zbh zbn : Value) (zbl : Int32) (zbm : Int64) (zl : Addr) (zk : Int32) (zcq : ClassId) (zbo : Int32) (zbj : List Int32) (ze : Addr) (zbu : ClassId) (zy : List Int32) (zdp : Value) (zf : Addr) (zbs : ClassId) (zav : Int32) (zas : List Int64) (zn : Addr) (zcs : ClassId) (zbp : Int32) (zbt : List Int64) (zcn : Value) (zcb zcj : Int64) (zcd : Int32) (h0 : Heap) (n0 : Nat) (Z0 : n0 ≤ h0.size) (ihs : ¬ zr < 0 ∧ zr < zaw) (ihE : ¬ (v16_ret zr zaa) < 0 ∧ (v16_ret zr zaa) < (60 : Int32)) (ihbb : ¬ zaq < (64 : Int32)) (ihk : ¬ p2 < 0 ∧ p2 < (3 : Int32)) (iht : p3 = p2 + (1 : Int32)) (ihneg : (v13_ret p2 L_ra1) < (0 : Int32)) (ihv : ¬ zam < (64 : Int32)) (ihxx : ¬ zax < (128 : Int32) ∧ zax < (513 : Int32)) (ihha : zbi = (0 : Int32)) (mhs : ¬ zj < 0 ∧ zj < zaj) (mhE : ¬ (v16_ret zj zs) < 0 ∧ (v16_ret zj zs) < (60 : Int32)) (mhbb : ¬ zag < (64 : Int32)) (mhk : ¬ p4 < 0 ∧ p4 < (3 : Int32)) (mht : p5 = p4 + (1 : Int32)) (hz : zr = za) (hn : ¬ za < 0 ∧ za < (60 : Int32)) (ho : ¬ zk < 0 ∧ zk < (5 : Int32)) (ha : q10 = (-1 : Int64)) (hp : q9 = (-1 : Int64)) (hllines : ¬ zbk < (64 : Int32)) (hlkinds : ¬ zbo < (64 : Int32)) (hlquantities : ¬ zav < (64 : Int32)) (hlprices : ¬ zbp < (64 : Int32)) (zgu : Fld Z h0 ra0 cOr "ids" "Lcom/example/gavelbook/gavelbook/ByteStrings;" (.ref zp)) (zej : Fld Z h0 zp cBs "byValue" "[I" (.ref zt)) (V_ra1 : Arv Z h0 ra1 k_ra1 .byte (3 : Int32) (List.map Value.int L_ra1) (.int 0)) (VL_ra1 : L_ra1.length = ((3 : Int32)).toNatClampNeg) (zdd : Arv Z h0 zt zbb .int zam (List.map Value.int zad) (.int 0)) (zef : zad.length = zam.toNatClampNeg) (zgb : Fld Z h0 zp cBs "expectedSlots" "I" (.int zax)) (zii : Fld Z h0 zp cBs "size" "I" (.int zr)) (zhc : Fld Z h0 zp cBs "ends" "[I" (.ref zh)) (zdf : Arv Z h0 zh zbq .int zaw (List.map Value.int zaa) (.int 0)) (zfz : zaa.length = zaw.toNatClampNeg) (zgr : Fld Z h0 zp cBs "bytes" "[B" (.ref zg)) (zcv : Arv Z h0 zg zbf .byte zaq (List.map Value.int zap) (.int 0)) (zfs : zap.length = zaq.toNatClampNeg) (zhu : Fld Z h0 zp cBs "hashed" "I" (.int zbi)) (zhv : Fld Z h0 zp cBs "probes" "J" (.long zbr)) (zbx : Exa Z h0 zp cBs) (zga : Fld Z h0 zp cBs "crowded" "Ljava/util/Map;" .null) (zgs : Fld Z h0 zp cBs "slots" "[J" .null) (zjw : n0 ≤ zp) (zhk : n0 ≤ zg) (zec : zg ≠ zh) (zhw : n0 ≤ zh) (zcc : Fld Z h0 ra0 cOr "size" "I" (.int za)) (zjp : zg ≠ ra0) (zjs : zh ≠ ra0) (zij : zp ≠ ra0) (zis : Fld Z h0 ra0 cOr "lines" "[J" (.ref zo)) (zen : Arv Z h0 zo zdc .long zbk (List.map Value.long zbw) (.long (0 : Int64))) (zhd : zbw.length = zbk.toNatClampNeg) (zet : zg ≠ zo) (zez : zh ≠ zo) (zjh : n0 ≤ zo) (zgq : Fld Z h0 ra0 cOr "memberNames" "Lcom/example/gavelbook/gavelbook/ByteStrings;" (.ref zd)) (zkc : zo ≠ ra0) (zgf : Fld Z h0 zd cBs "size" "I" (.int zj)) (zhl : zg ≠ zd) (zhp : zh ≠ zd) (zff : zp ≠ zd) (zik : zo ≠ zd) (zgg : Fld Z h0 zd cBs "ends" "[I" (.ref zc)) (zck : Arv Z h0 zc zbe .int zaj (List.map Value.int zs) (.int 0)) (zfl : zs.length = zaj.toNatClampNeg) (zgc : Fld Z h0 zd cBs "bytes" "[B" (.ref zb)) (zcg : Arv Z h0 zb zbc .byte zag (List.map Value.int zaf) (.int 0)) (zfh : zaf.length = zag.toNatClampNeg) (zer : Fld Z h0 zd cBs "expectedSlots" "I" (.int zaz)) (zfm : Fld Z h0 zd cBs "crowded" "Ljava/util/Map;" zbh) (zgd : Fld Z h0 zd cBs "slots" "[J" zbn) (zft : Fld Z h0 zd cBs "hashed" "I" (.int zbl)) (zfu : Fld Z h0 zd cBs "probes" "J" (.long zbm)) (zfn : Fld Z h0 zd cBs "byValue" "[I" .null) (zdg : zg ≠ zc) (zdk : zh ≠ zc) (zch : zc ≠ zo) (zcz : zg ≠ zb) (zbz : zb ≠ zh) (zce : zb ≠ zo) (zgh : zg ≠ ra1) (zgm : zh ≠ ra1) (zhx : zo ≠ ra1) (zbg : Exa Z h0 zd cBs) (zfo : n0 ≤ zb) (zco : zb ≠ zc) (zfv : n0 ≤ zc) (zhm : n0 ≤ zd) (zit : Fld Z h0 ra0 cOr "kinds" "[B" (.ref zl)) (zim : zb ≠ ra0) (zir : zc ≠ ra0) (zgi : zd ≠ ra0) (zji : Fld Z h0 ra7 "java/lang/Enum" "ordinal" "I" (.int zk)) (zgj : zg ≠ ra7) (zgn : zh ≠ ra7) (zin : zp ≠ ra7) (zhy : zo ≠ ra7) (zeu : zb ≠ ra7) (zfa : zc ≠ ra7) (zgk : zd ≠ ra7) (E_ra7 : Exa Z h0 ra7 cKi) (zeo : Arv Z h0 zl zcq .byte zbo (List.map Value.int zbj) (.int 0)) (zhe : zbj.length = zbo.toNatClampNeg) (zev : zg ≠ zl) (zfb : zh ≠ zl) (zdw : zl ≠ zo) (zdu : zb ≠ zl) (zdx : zc ≠ zl) (zjj : n0 ≤ zl) (zha : Fld Z h0 ra0 cOr "kindCounts" "[I" (.ref ze)) (zkd : zl ≠ ra0) (zhz : zl ≠ ra7) (zct : Arv Z h0 ze zbu .int 5 (List.map Value.int zy) (.int 0)) (zfg : zy.length = ((5 : Int32)).toNatClampNeg) (zed : zg ≠ ze) (zeg : zh ≠ ze) (zcx : ze ≠ zo) (zdh : zb ≠ ze) (zdl : zc ≠ ze) (zcy : ze ≠ zl) (zia : n0 ≤ ze) (E_ra0 : Exa Z h0 ra0 cOr) (zih : Fld Z h0 ra0 cOr "byKind" "[[I" zdp) (g_ra0 : n0 ≤ ra0) (zfr : Fld Z h0 ra0 cOr "quantities" "[J" (.ref zf)) (zcm : Arv Z h0 zf zbs .long zav (List.map Value.long zas) (.long (0 : Int64))) (zey : zas.length = zav.toNatClampNeg) (zee : zg ≠ zf) (zeh : zh ≠ zf) (zfc : zo ≠ zf) (zdi : zb ≠ zf) (zdm : zc ≠ zf) (zfd : zl ≠ zf) (zei : ze ≠ zf) (zib : n0 ≤ zf) (zig : Fld Z h0 ra0 cOr "prices" "[J" (.ref zn)) (zeb : Arv Z h0 zn zcs .long zbp (List.map Value.long zbt) (.long (0 : Int64))) (zgv : zbt.length = zbp.toNatClampNeg) (zes : zg ≠ zn) (zew : zh ≠ zn) (zfp : zo ≠ zn) (zds : zb ≠ zn) (zdv : zc ≠ zn) (zfq : zl ≠ zn) (zex : ze ≠ zn) (zcu : zn ≠ zf) (ziy : n0 ≤ zn) (zic : Fld Z h0 ra0 cOr "amounts" "[J" .null) (zho : Fld Z h0 ra0 cOr "unpacked" "Ljava/util/List;" zcn) (zhb : Fld Z h0 ra0 cOr "leastPrice" "J" (.long zcb)) (zhg : Fld Z h0 ra0 cOr "mostPrice" "J" (.long zcj)) (zhh : Fld Z h0 ra0 cOr "uncounted" "Z" (.int zcd)) :
  MetFree l M33_ (head1 (Jvm.Cond.code M33_ prog_25_method_2_code 18 (some .int) :: ws) R15_) (fun a U => a = #[(.ref ra0), (.ref ra1), (.int p2), (.int p3), (.int p4), (.int p5), (.long q6), (.ref ra7), (.long q8), (.long q9), (.long q10)] ∧ Z.Warmed39 U.vm ∧ U.heap = h0) (fun _ _ _ _ _ => True) (fun _ U o U' => ∃ v L, o = .returned v ∧ Q11hf Z ra0 ra1 p2 p3 p4 p5 q6 ra7 q8 q9 q10 zp zt k_ra1 L_ra1 zbb zam zad zax zr zh zbq zaw zaa zg zbf zaq zap zbi zbr za zo zdc zbk zbw zd zj zc zbe zaj zs zb zbc zag zaf zaz zbh zbn zbl zbm zl zk zcq zbo zbj ze zbu zy zdp zf zbs zav zas zn zcs zbp zbt zcn zcb zcj zcd h0 n0 v U'.heap L ∧ FrameEnd U o U' L R15_.cells R15_.slots) := by
 refine MetFree.of_bodySF (plainFor_of_name pn_226) hisR ?_
 intro p e s m args below meth c s₁ Bd hml0 hP hK
 obtain ⟨rfl, hZ, hh⟩ := hP
 have hx := Bd.exec
 have hlk : meth.locks = false := by first | exact BodyLoose.notSynchronized Bd | exact Body.notSynchronized Bd
 have hby := Bd.bytes
 have hml : c.maxLocals = 18 := hml0
 have hown : s.vm.findClass cOr = some m.cls := findClass_of_methodNamed Bd.named
 have hnm := (name_of_methodNamed Bd.named Bd.method).1
 have X0 : Stand p l e R15_ s m #[(.ref ra0), (.ref ra1), (.int p2), (.int p3), (.int p4), (.int p5), (.long q6), (.ref ra7), (.long q8), (.long q9), (.long q10)] below meth c s₁ [] 0 0 := Stand.of_body Bd
 have e0 : s₁.heap = h0 := by rw [← hh, Bd.state]; rfl
 have N0 := Fr.nil n0
 have KC0 := Keep.refl h0 [zg, zh, zp, zo, zb, zc, zd, zl, ze, ra0, zf, zn]
 let o1 : Array Slot := #[rv ra0, rv ra1, iv p2, iv p3, iv p4, iv p5, .val (.long q6), .second, rv ra7, .val (.long q8), .second, .val (.long q9), .second, .val (.long q10), .second, iv (ohf11_10_l15 zr), .unset, .unset]
 let o2 : Array Slot := #[rv ra0, rv ra1, iv p2, iv p3, iv p4, iv p5, .val (.long q6), .second, rv ra7, .val (.long q8), .second, .val (.long q9), .second, .val (.long q10), .second, .unset, .unset, .unset]
 have pre0 : ∀ t, SF p e below s₁ m 0 o2 [] t → Steps p.tables e below (s₁.setTop (entryFrame m #[(.ref ra0), (.ref ra1), (.int p2), (.int p3), (.int p4), (.int p5), (.long q6), (.ref ra7), (.long q8), (.long q9), (.long q10)] 18)) t := fun t k => castTop (ef_rm11dn m ra0 ra1 p2 p3 p4 p5 q6 ra7 q8 q9 q10) k
 have k1374 := fun t (kk : SF p e below s₁ m 1 o2 [(.ref ra0)] t) => pre0 t (by
  refine XS.aloadN X0.here hx rfl (hb hby d11_0) rfl rfl ?_
  exact kk)
 obtain ⟨T1375, X1375, e1375, st1375⟩ := getF X0 hx hZ hown (host := "") (Or.inl (w85 hw)) Via.refl e0 zgu (g := (mkF m 1 o2 [(.ref ra0)])) rfl rfl (hb hby d11_1)
 have k1376 := fun t (kk : SF p e below T1375 m 4 o2 [(.ref zp)] t) => k1374 t (st1375 _ kk)
 have k1377 := fun t (kk : SF p e below T1375 m 7 o2 [(.int p3), (.int p2), (.ref ra1), (.ref zp)] t) => k1376 t (by
  refine XS.aloadN X1375.here hx rfl (hb hby d11_4) rfl rfl ?_
  refine XS.iloadN X1375.here hx rfl (hb hby d11_5) rfl ?_
  refine XS.iloadN X1375.here hx rfl (hb hby d11_6) rfl ?_
  exact kk)
 have Zz1378 : n0 ≤ h0.size := (Nat.le_trans Z0 KC0.1)
 obtain ⟨cq1378, kq1378, q1378a, q1378b, q1378c⟩ := isOf hZ e1375 zbx
 obtain ⟨_, _, ⟨T1378, L1378, k1378, n1378⟩, -, X1378, ⟨Lc1378, hQ1378, l1378, y1378, z1378⟩, st1378⟩ := X1375.virtualBack hx (y := M32_) (z := M32_) hown (mvT hZ (w104 hw)) (mvT hZ (w105 hw)) (notFace_of_selects (args := #[]) (mvT hZ (w107 hw))) (mvT hZ (w107 hw)) (mvT hZ (w106 hw)) (by decide) (backOf (W := 0) (rm12hf l Z a0 hw [] zp ra1 p2 p3 zt k_ra1 L_ra1 zbb zam zad zax zr zh zbq zaw zaa zg zbf zaq zap zbi zbr h0 n0 Zz1378 (ihs : ¬ zr < 0 ∧ zr < zaw) (ihE : ¬ (v16_ret zr zaa) < 0 ∧ (v16_ret zr zaa) < (60 : Int32)) (ihbb : ¬ zaq < (64 : Int32)) (ihk : ¬ p2 < 0 ∧ p2 < (3 : Int32)) (iht : p3 = p2 + (1 : Int32)) (ihneg : (v13_ret p2 L_ra1) < (0 : Int32)) (ihv : ¬ zam < (64 : Int32)) (ihxx : ¬ zax < (128 : Int32) ∧ zax < (513 : Int32)) (ihha : zbi = (0 : Int32)) zej V_ra1 VL_ra1 zdd zef zbx zga zgs zgb zjw zii zhc zdf zfz zgr zcv zfs zhu zhv zhk zec zhw) hZ (w108 hw) (w62 hw) (by decide) (by decide)) q1378a q1378c (g := (mkF m 7 o2 [(.int p3), (.int p2), (.ref ra1), (.ref zp)])) rfl (by rw [hml]; rfl) (Steps.refl _) (argsL := [(.ref ra1), (.int p2), (.int p3)]) (rest := []) (lenOf pd_5 rfl) rfl (Nat.le_of_eq rfl) (hb hby d11_7) (fun _ _ => ⟨rfl, e1375, (by decide : 0 + 1 ≤ _), (by decide : 0 + 512 ≤ _)⟩)
 dsimp only [Pt.U, Pt.locs, Pt.cells, Pt.slots] at X1378 l1378 y1378 z1378 st1378 hQ1378
 subst l1378 y1378 z1378
 obtain ⟨xs_1378, k_xs_1378, rfl, N1378q, Kq1378, Eq1378_0, Fq1378_0, Fq1378_1, Fq1378_2, Fq1378_3, Fq1378_4, Fq1378_5, Fq1378_6, Fq1378_7, Fq1378_8, Vq1378_0, VLq1378_0, Vq1378_1, VLq1378_1, sx_xs_1378, Vx_xs_1378, VLx_xs_1378⟩ := hQ1378
 have ne_ra0_xs_1378 : ra0 ≠ xs_1378 := Nat.ne_of_lt (Nat.lt_of_lt_of_le E_ra0.lt sx_xs_1378)
 have ne_ra1_xs_1378 : ra1 ≠ xs_1378 := Nat.ne_of_lt (Nat.lt_of_lt_of_le V_ra1.lt sx_xs_1378)
 have ne_ra7_xs_1378 : ra7 ≠ xs_1378 := Nat.ne_of_lt (Nat.lt_of_lt_of_le E_ra7.lt sx_xs_1378)
 have ne_r_ids_ra0_xs_1378 : zp ≠ xs_1378 := Nat.ne_of_lt (Nat.lt_of_lt_of_le zej.lt sx_xs_1378)
 have zkq : zt ≠ xs_1378 := Nat.ne_of_lt (Nat.lt_of_lt_of_le zdd.lt sx_xs_1378)
 have zlh : zh ≠ xs_1378 := Nat.ne_of_lt (Nat.lt_of_lt_of_le zdf.lt sx_xs_1378)
 have zkw : zg ≠ xs_1378 := Nat.ne_of_lt (Nat.lt_of_lt_of_le zcv.lt sx_xs_1378)
 have sz_xs_1378 : h0.size ≤ xs_1378 := Nat.le_trans KC0.1 sx_xs_1378
 have g_xs_1378 : n0 ≤ xs_1378 := Nat.le_trans Z0 sz_xs_1378
 have K1378 : Keep h0 T1378.heap [zg, zh, zp, zo, zb, zc, zd, zl, ze, ra0, zf, zn] := KC0.trans Kq1378 (allS (Or.inl (List.mem_of_getElem? (i := 2) rfl)) (allS (Or.inl (List.mem_of_getElem? (i := 1) rfl)) (allS (Or.inl (List.mem_of_getElem? (i := 0) rfl)) all0)))
 have Fn1378_7 : Fld Z T1378.heap zp cBs "hashed" "I" (.int (ohf11_7_f_hashed zbi)) := Fq1378_7
 have V1378n1 : Arv Z T1378.heap zg zbf .byte zaq (List.map Value.int (ohf11_7_L1 p2 L_ra1 zr zaa zap)) (.int 0) := Vq1378_1
 have VL1378n1 : (ohf11_7_L1 p2 L_ra1 zr zaa zap).length = (zaq).toNatClampNeg := VLq1378_1
 have N1378 := Fr.app N0 N1378q
 have k1379 := fun t (kk : SF p e below T1378 m 10 o2 [(.int ((zr + (1 : Int32)) - (1 : Int32)))] t) => k1377 t (st1378.trans kk)
 have k1380 := fun t (kk : SF p e below T1378 m 15 o1 [(.ref ra0), (.int (ohf11_10_l15 zr))] t) => k1379 t (by
  refine XS.istore X1378.here hx rfl (hb hby d11_10) rfl (l' := o1) rfl ?_
  refine XS.iload X1378.here hx rfl (hb hby d11_12) rfl ?_
  refine XS.aloadN X1378.here hx rfl (hb hby d11_14) rfl rfl ?_
  exact kk)
 have m1381 : ra0 ≠ zg := own_ne_oa E_ra0 (w11 hw) zcv
 have m1382 : ra0 ≠ zh := own_ne_oa E_ra0 (w11 hw) zdf
 have m1383 : ra0 ≠ zp := Ne.symm zij
 have f1384 := (zcc.keep Kq1378 (ninS m1383 (ninS m1382 (ninS m1381 nin0))))
 obtain ⟨T1385, X1385, e1385, st1385⟩ := getF X1378 hx hZ hown (host := "") (Or.inl (w137 hw)) Via.refl rfl f1384 (g := (mkF m 15 o1 [(.ref ra0), (.int (ohf11_10_l15 zr))])) rfl rfl (hb hby d11_15)
 have k1386 := fun t (kk : SF p e below T1385 m 18 o1 [(.int za), (.int (ohf11_10_l15 zr))] t) => k1380 t (st1385 _ kk)
 have hc18_1387 : ¬ ((ohf11_10_l15 zr) < za) := own_oi2 hz
 have k1388 := fun t (kk : SF p e below T1385 m 25 o1 [(.ref ra0)] t) => k1386 t (by
  refine XS.icmpYes X1385.here hx rfl (pc0 := 18) (pc' := 24) rfl (hb hby d11_18) rfl (flt hc18_1387).2.1 (by decide) (by decide) ?_
  refine XS.aloadN X1385.here hx rfl (hb hby d11_24) rfl rfl ?_
  exact kk)
 obtain ⟨T1389, X1389, e1389, st1389⟩ := getF X1385 hx hZ hown (host := "") (Or.inl (w137 hw)) Via.refl e1385 f1384 (g := (mkF m 25 o1 [(.ref ra0)])) rfl rfl (hb hby d11_25)
 have k1390 := fun t (kk : SF p e below T1389 m 28 o1 [(.int za)] t) => k1388 t (st1389 _ kk)
 have k1391 := fun t (kk : SF p e below T1389 m 29 o1 [(.ref ra0), (.int za)] t) => k1390 t (by
  show SF p e below T1389 m 28 o1 [(.int za)] _
  refine XS.aloadN X1389.here hx rfl (hb hby d11_28) rfl rfl ?_
  exact kk)
 have f1392 := (zis.keep Kq1378 (ninS m1383 (ninS m1382 (ninS m1381 nin0))))
 obtain ⟨T1393, X1393, e1393, st1393⟩ := getF X1389 hx hZ hown (host := "") (Or.inl (w90 hw)) Via.refl e1389 f1392 (g := (mkF m 29 o1 [(.ref ra0), (.int za)])) rfl rfl (hb hby d11_29)
 have k1394 := fun t (kk : SF p e below T1393 m 32 o1 [(.ref zo), (.int za)] t) => k1391 t (st1393 _ kk)
 have m1395 : zo ≠ zg := Ne.symm zet
 have m1396 : zo ≠ zh := Ne.symm zez
 have m1397 : zo ≠ zp := Ne.symm (own_ne_oa zbx (w61 hw) zen)
 have f1398 := (zen.keep Kq1378 (ninS m1397 (ninS m1396 (ninS m1395 nin0))))
 have hV1399 := f1398
 obtain ⟨cl1399, Ar1399, q1399, S1399, Nn1399, H1399, G1399⟩ := hV1399
 have st1400 := X1393.arraylength hx (by rw [e1393]; exact Ar1399.1) (State.isArrayOf_alike hZ.alike Ar1399.2.1) (g := (mkF m 32 o1 [(.ref zo), (.int za)])) rfl rfl (hb hby d11_32)
 rw [len_of S1399 Nn1399] at st1400
 have k1401 := fun t (kk : SF p e below T1393 m 33 o1 [(.int zbk), (.int za)] t) => k1394 t (st1400 _ kk)
 have hc33_1402 : ¬ (za = zbk) := own_os hn hllines
 have k1403 := fun t (kk : SF p e below T1393 m 122 o1 [(.int (lcmpW q10 (-1 : Int64)))] t) => k1401 t (by
  refine XS.icmpYes X1393.here hx rfl (pc0 := 33) (pc' := 116) rfl (hb hby d11_33) rfl (feq hc33_1402).2 (by decide) (by decide) ?_
  refine XS.lload X1393.here hx rfl (hb hby d11_116) rfl ?_
  refine X1393.ldc2Long hx hown (mvT hZ (w139 hw)) (g := (mkF m 118 o1 [(.long q10)])) rfl (hb hby d11_118) _ ?_
  refine XS.lcmp X1393.here hx rfl (hb hby d11_121) rfl ?_
  exact kk)
 have hc122_1404 : q10 = (-1 : Int64) := ha
 have k1405 := fun t (kk : SF p e below T1393 m 154 o1 [(.ref ra0)] t) => k1403 t (by
  refine XS.ifYes X1393.here hx rfl (pc0 := 122) (pc' := 153) rfl (hb hby d11_122) rfl ((if0 _ _).trans (teq ((lw_eq _ _).mpr hc122_1404)).1) (by decide) (by decide) ?_
  refine XS.aloadN X1393.here hx rfl (hb hby d11_153) rfl rfl ?_
  exact kk)
 obtain ⟨T1406, X1406, e1406, st1406⟩ := getF X1393 hx hZ hown (host := "") (Or.inl (w90 hw)) Via.refl e1393 f1392 (g := (mkF m 154 o1 [(.ref ra0)])) rfl rfl (hb hby d11_154)
 have k1407 := fun t (kk : SF p e below T1406 m 157 o1 [(.ref zo)] t) => k1405 t (st1406 _ kk)
 have k1408 := fun t (kk : SF p e below T1406 m 158 o1 [(.ref ra0), (.ref zo)] t) => k1407 t (by
  refine XS.aloadN X1406.here hx rfl (hb hby d11_157) rfl rfl ?_
  exact kk)
 obtain ⟨T1409, X1409, e1409, st1409⟩ := getF X1406 hx hZ hown (host := "") (Or.inl (w137 hw)) Via.refl e1406 f1384 (g := (mkF m 158 o1 [(.ref ra0), (.ref zo)])) rfl rfl (hb hby d11_158)
 have k1410 := fun t (kk : SF p e below T1409 m 161 o1 [(.int za), (.ref zo)] t) => k1408 t (st1409 _ kk)
 have k1411 := fun t (kk : SF p e below T1409 m 163 o1 [(.long q6), (.int za), (.ref zo)] t) => k1410 t (by
  refine XS.lload X1409.here hx rfl (hb hby d11_161) rfl ?_
  exact kk)
 have hV1412 := f1398
 obtain ⟨cl1412, Ar1412, q1412, S1412, Nn1412, H1412, G1412⟩ := hV1412
 have hb1413 : ¬ za < 0 ∧ za < zbk := own_ix hn hllines
 have hin1413 : ¬ (za < 0 ∨ cl1412.slots.size ≤ (za).toNatClampNeg) := inb_of S1412 hb1413
 obtain ⟨T1413, h1413, X1413, e1413, W1413, st1413⟩ := stJ X1409 hx hZ e1409 Ar1412 (j := za) hin1413 (g := (mkF m 163 o1 [(.long q6), (.int za), (.ref zo)])) rfl rfl (hb hby d11_163)
 have hl1413 : (za).toNatClampNeg < (List.map Value.long zbw).length := by rw [List.length_map, zhd]; exact own_lt_nat hb1413.1 hb1413.2
 have V1413 : Arv Z h1413 zo zdc .long zbk (List.map Value.long (zbw.set (za).toNatClampNeg q6)) (.long (0 : Int64)) := by rw [List.map_set]; exact Arv.set Ar1412 q1412 S1412 Nn1412 H1412 G1412 rfl W1413 _ rfl hl1413
 have VL1413 : (zbw.set (za).toNatClampNeg q6).length = (zbk).toNatClampNeg := (List.length_set).trans zhd
 have K1413 : Keep h0 h1413 [zg, zh, zp, zo, zb, zc, zd, zl, ze, ra0, zf, zn] := K1378.wr W1413 (Or.inl (List.mem_of_getElem? (i := 3) rfl))
 have N1413 := Fr.snoc X1413 N1378 zjh
 have k1414 := fun t (kk : SF p e below T1413 m 164 o1 [] t) => k1411 t (st1413 _ kk)
 have k1415 := fun t (kk : SF p e below T1413 m 165 o1 [(.ref ra0)] t) => k1414 t (by
  refine XS.aloadN X1413.here hx rfl (hb hby d11_164) rfl rfl ?_
  exact kk)
 have m1416 : ra0 ≠ zo := own_ne_oa E_ra0 (w11 hw) zen
 have t1417 := fun {C n d : String} {v : Value} (F : Fld Z _ ra0 C n d v) => (F.keep Kq1378 (ninS m1383 (ninS m1382 (ninS m1381 nin0)))).other W1413 (Or.inl m1416)
 have f1418 := t1417 zgq
 obtain ⟨T1419, X1419, e1419, st1419⟩ := getF X1413 hx hZ hown (host := "") (Or.inl (w87 hw)) Via.refl e1413 f1418 (g := (mkF m 165 o1 [(.ref ra0)])) rfl rfl (hb hby d11_165)
 have k1420 := fun t (kk : SF p e below T1419 m 168 o1 [(.ref zd)] t) => k1415 t (st1419 _ kk)
 have k1421 := fun t (kk : SF p e below T1419 m 173 o1 [(.int p5), (.int p4), (.ref ra1), (.ref zd)] t) => k1420 t (by
  refine XS.aloadN X1419.here hx rfl (hb hby d11_168) rfl rfl ?_
  refine XS.iload X1419.here hx rfl (hb hby d11_169) rfl ?_
  show SF p e below T1419 m 171 o1 [(.int p4), (.ref ra1), (.ref zd)] _
  refine XS.iload X1419.here hx rfl (hb hby d11_171) rfl ?_
  exact kk)
 have m1422 : zd ≠ zg := own_ne_oa zbg (w61 hw) zcv
 have m1423 : zd ≠ zh := own_ne_oa zbg (w61 hw) zdf
 have m1424 : zd ≠ zp := Ne.symm zff
 have m1425 : zd ≠ zo := own_ne_oa zbg (w61 hw) zen
 have t1426 := fun {C n d : String} {v : Value} (F : Fld Z _ zd C n d v) => (F.keep Kq1378 (ninS m1424 (ninS m1423 (ninS m1422 nin0)))).other W1413 (Or.inl m1425)
 have f1427 := t1426 zgf
 have f1428 := t1426 zgg
 have f1429 := t1426 zgc
 have f1430 := t1426 zer
 have f1431 := t1426 zfm
 have f1432 := t1426 zgd
 have f1433 := t1426 zft
 have f1434 := t1426 zfu
 have f1435 := t1426 zfn
 have m1436 : zc ≠ zg := Ne.symm zdg
 have m1437 : zc ≠ zh := Ne.symm zdk
 have m1438 : zc ≠ zp := Ne.symm (own_ne_oa zbx (w61 hw) zck)
 have f1439 := ((zck.keep Kq1378 (ninS m1438 (ninS m1437 (ninS m1436 nin0)))).other W1413 zch)
 have m1440 : zb ≠ zg := Ne.symm zcz
 have m1441 : zb ≠ zp := Ne.symm (own_ne_oa zbx (w61 hw) zcg)
 have f1442 := ((zcg.keep Kq1378 (ninS m1441 (ninS zbz (ninS m1440 nin0)))).other W1413 zce)
 have m1443 : ra1 ≠ zg := Ne.symm zgh
 have m1444 : ra1 ≠ zh := Ne.symm zgm
 have m1445 : ra1 ≠ zp := Ne.symm (own_ne_oa zbx (w61 hw) V_ra1)
 have m1446 : ra1 ≠ zo := Ne.symm zhx
 have f1447 := ((V_ra1.keep Kq1378 (ninS m1445 (ninS m1444 (ninS m1443 nin0)))).other W1413 m1446)
 have f1448 := ((zbg.keep Kq1378).wr W1413)
 have Zz1449 : n0 ≤ h1413.size := (Nat.le_trans Z0 K1413.1)
 obtain ⟨cq1449, kq1449, q1449a, q1449b, q1449c⟩ := isOf hZ e1419 f1448
 obtain ⟨_, _, ⟨T1449, L1449, k1449, n1449⟩, -, X1449, ⟨Lc1449, hQ1449, l1449, y1449, z1449⟩, st1449⟩ := X1419.virtualBack hx (y := M32_) (z := M32_) hown (mvT hZ (w104 hw)) (mvT hZ (w105 hw)) (notFace_of_selects (args := #[]) (mvT hZ (w107 hw))) (mvT hZ (w107 hw)) (mvT hZ (w106 hw)) (by decide) (backOf (W := 0) (rm12m l Z a0 hw [] zd ra1 p4 p5 zj zc zbe zaj zs zb zbc zag zaf k_ra1 L_ra1 zaz zbh zbn zbl zbm h1413 n0 Zz1449 (mhs : ¬ zj < 0 ∧ zj < zaj) (mhE : ¬ (v16_ret zj zs) < 0 ∧ (v16_ret zj zs) < (60 : Int32)) (mhbb : ¬ zag < (64 : Int32)) (mhk : ¬ p4 < 0 ∧ p4 < (3 : Int32)) (mht : p5 = p4 + (1 : Int32)) f1435 f1427 f1428 f1439 zfl f1429 f1442 zfh f1447 VL_ra1 f1430 f1431 f1432 f1433 f1434 f1448 zfo zco zfv zhm) hZ (w108 hw) (w62 hw) (by decide) (by decide)) q1449a q1449c (g := (mkF m 173 o1 [(.int p5), (.int p4), (.ref ra1), (.ref zd)])) rfl (by rw [hml]; rfl) (Steps.refl _) (argsL := [(.ref ra1), (.int p4), (.int p5)]) (rest := []) (lenOf pd_5 rfl) rfl (Nat.le_of_eq rfl) (hb hby d11_173) (fun _ _ => ⟨rfl, e1419, (by decide : 1 + 0 ≤ _), (by decide : 512 + 0 ≤ _)⟩)
 dsimp only [Pt.U, Pt.locs, Pt.cells, Pt.slots] at X1449 l1449 y1449 z1449 st1449 hQ1449
 subst l1449 y1449 z1449
 obtain ⟨rfl, N1449q, Kq1449, Eq1449_0, Fq1449_0, Fq1449_1, Fq1449_2, Fq1449_3, Fq1449_4, Fq1449_5, Fq1449_6, Fq1449_7, Fq1449_8, Vq1449_0, VLq1449_0, Vq1449_1, VLq1449_1⟩ := hQ1449
 have K1449 : Keep h0 T1449.heap [zg, zh, zp, zo, zb, zc, zd, zl, ze, ra0, zf, zn] := K1413.trans Kq1449 (allS (Or.inl (List.mem_of_getElem? (i := 6) rfl)) (allS (Or.inl (List.mem_of_getElem? (i := 5) rfl)) (allS (Or.inl (List.mem_of_getElem? (i := 4) rfl)) all0)))
 have Fn1449_6 : Fld Z T1449.heap zd cBs "size" "I" (.int (ohf11_173_f_size zj)) := Fq1449_6
 have V1449n : Arv Z T1449.heap zc zbe .int zaj (List.map Value.int (ohf11_173_L0 p4 p5 zj zs)) (.int 0) := Vq1449_0
 have VL1449n : (ohf11_173_L0 p4 p5 zj zs).length = (zaj).toNatClampNeg := VLq1449_0
 have V1449n1 : Arv Z T1449.heap zb zbc .byte zag (List.map Value.int (ohf11_173_L1 p4 L_ra1 zj zs zaf)) (.int 0) := Vq1449_1
 have VL1449n1 : (ohf11_173_L1 p4 L_ra1 zj zs zaf).length = (zag).toNatClampNeg := VLq1449_1
 have N1449 := Fr.app N1413 N1449q
 have k1450 := fun t (kk : SF p e below T1449 m 176 o1 [(.int zj)] t) => k1421 t (st1449.trans kk)
 have k1451 := fun t (kk : SF p e below T1449 m 178 o1 [(.ref ra0)] t) => k1450 t (by
  refine XS.pop X1449.here hx rfl (hb hby d11_176) rfl rfl ?_
  refine XS.aloadN X1449.here hx rfl (hb hby d11_177) rfl rfl ?_
  exact kk)
 have m1452 : ra0 ≠ zb := own_ne_oa E_ra0 (w11 hw) zcg
 have m1453 : ra0 ≠ zc := own_ne_oa E_ra0 (w11 hw) zck
 have m1454 : ra0 ≠ zd := Ne.symm zgi
 have t1455 := fun {C n d : String} {v : Value} (F : Fld Z _ ra0 C n d v) => ((F.keep Kq1378 (ninS m1383 (ninS m1382 (ninS m1381 nin0)))).other W1413 (Or.inl m1416)).keep Kq1449 (ninS m1454 (ninS m1453 (ninS m1452 nin0)))
 have f1456 := t1455 zit
 obtain ⟨T1457, X1457, e1457, st1457⟩ := getF X1449 hx hZ hown (host := "") (Or.inl (w92 hw)) Via.refl rfl f1456 (g := (mkF m 178 o1 [(.ref ra0)])) rfl rfl (hb hby d11_178)
 have k1458 := fun t (kk : SF p e below T1457 m 181 o1 [(.ref zl)] t) => k1451 t (st1457 _ kk)
 have k1459 := fun t (kk : SF p e below T1457 m 182 o1 [(.ref ra0), (.ref zl)] t) => k1458 t (by
  refine XS.aloadN X1457.here hx rfl (hb hby d11_181) rfl rfl ?_
  exact kk)
 have t1460 := fun {C n d : String} {v : Value} (F : Fld Z _ ra0 C n d v) => (F.other W1413 (Or.inl m1416)).keep Kq1449 (ninS m1454 (ninS m1453 (ninS m1452 nin0)))
 have f1461 := t1460 f1384
 obtain ⟨T1462, X1462, e1462, st1462⟩ := getF X1457 hx hZ hown (host := "") (Or.inl (w137 hw)) Via.refl e1457 f1461 (g := (mkF m 182 o1 [(.ref ra0), (.ref zl)])) rfl rfl (hb hby d11_182)
 have k1463 := fun t (kk : SF p e below T1462 m 185 o1 [(.int za), (.ref zl)] t) => k1459 t (st1462 _ kk)
 have k1464 := fun t (kk : SF p e below T1462 m 187 o1 [(.ref ra7), (.int za), (.ref zl)] t) => k1463 t (by
  refine XS.aload X1462.here hx rfl (hb hby d11_185) rfl rfl ?_
  exact kk)
 have m1465 : ra7 ≠ zg := Ne.symm zgj
 have m1466 : ra7 ≠ zh := Ne.symm zgn
 have m1467 : ra7 ≠ zp := Ne.symm zin
 have m1468 : ra7 ≠ zo := Ne.symm zhy
 have m1469 : ra7 ≠ zb := Ne.symm zeu
 have m1470 : ra7 ≠ zc := Ne.symm zfa
 have m1471 : ra7 ≠ zd := Ne.symm zgk
 have t1472 := fun {C n d : String} {v : Value} (F : Fld Z _ ra7 C n d v) => ((F.keep Kq1378 (ninS m1467 (ninS m1466 (ninS m1465 nin0)))).other W1413 (Or.inl m1468)).keep Kq1449 (ninS m1471 (ninS m1470 (ninS m1469 nin0)))
 have f1473 := t1472 zji
 have f1474 := (((E_ra7.keep Kq1378).wr W1413).keep Kq1449)
 have Zz1475 : n0 ≤ T1449.heap.size := (Nat.le_trans Z0 K1449.1)
 obtain ⟨cq1475, kq1475, q1475a, q1475b, q1475c⟩ := isOf hZ e1462 f1474
 obtain ⟨_, _, ⟨T1475, L1475, k1475, n1475⟩, -, X1475, ⟨Lc1475, hQ1475, l1475, y1475, z1475⟩, st1475⟩ := X1462.virtualBackUp hx (x := M34_) (y := M18_) hown (mvT hZ (w140 hw)) (mvT hZ (w141 hw)) (mvT hZ (w142 hw)) (by decide) (mvT hZ (w144 hw)) (mvT hZ (w143 hw)) (backOf (W := 2) (rm17 l Z a0 hw [] ra7 zk T1449.heap n0 Zz1475 f1474 f1473) hZ (w146 hw) (w145 hw) (by decide) (by decide)) q1475a q1475c (g := (mkF m 187 o1 [(.ref ra7), (.int za), (.ref zl)])) rfl (by rw [hml]; rfl) (Steps.refl _) (argsL := []) (rest := [(.int za), (.ref zl)]) (lenOf pd_4 rfl) rfl (Nat.le_of_eq rfl) (hb hby d11_187) (fun _ _ => ⟨rfl, e1462, (by decide : 1 + 0 ≤ _), (by decide : 512 + 0 ≤ _)⟩)
 dsimp only [Pt.U, Pt.locs, Pt.cells, Pt.slots] at X1475 l1475 y1475 z1475 st1475 hQ1475
 subst l1475 y1475 z1475
 obtain ⟨rfl, N1475q, e1475⟩ := hQ1475
 have N1475 := Fr.app N1449 N1475q
 have k1476 := fun t (kk : SF p e below T1475 m 190 o1 [(.int zk), (.int za), (.ref zl)] t) => k1464 t (st1475.trans kk)
 have k1477 := fun t (kk : SF p e below T1475 m 191 o1 [(.int (zk.toInt8.toInt32)), (.int za), (.ref zl)] t) => k1476 t (by
  refine XS.i2b X1475.here hx rfl (hb hby d11_190) rfl ?_
  exact kk)
 have m1478 : zl ≠ zg := Ne.symm zev
 have m1479 : zl ≠ zh := Ne.symm zfb
 have m1480 : zl ≠ zp := Ne.symm (own_ne_oa zbx (w61 hw) zeo)
 have m1481 : zl ≠ zb := Ne.symm zdu
 have m1482 : zl ≠ zc := Ne.symm zdx
 have m1483 : zl ≠ zd := Ne.symm (own_ne_oa zbg (w61 hw) zeo)
 have f1484 := (((zeo.keep Kq1378 (ninS m1480 (ninS m1479 (ninS m1478 nin0)))).other W1413 zdw).keep Kq1449 (ninS m1483 (ninS m1482 (ninS m1481 nin0))))
 have hV1485 := f1484
 obtain ⟨cl1485, Ar1485, q1485, S1485, Nn1485, H1485, G1485⟩ := hV1485
 have hb1486 : ¬ za < 0 ∧ za < zbo := own_ix hn hlkinds
 have hin1486 : ¬ (za < 0 ∨ cl1485.slots.size ≤ (za).toNatClampNeg) := inb_of S1485 hb1486
 obtain ⟨T1486, h1486, X1486, e1486, W1486, st1486⟩ := stB X1475 hx hZ e1475 Ar1485 (j := za) hin1486 (g := (mkF m 191 o1 [(.int (zk.toInt8.toInt32)), (.int za), (.ref zl)])) rfl rfl (hb hby d11_191)
 have hl1486 : (za).toNatClampNeg < (List.map Value.int zbj).length := by rw [List.length_map, zhe]; exact own_lt_nat hb1486.1 hb1486.2
 have V1486r : Arv Z h1486 zl zcq .byte zbo (List.map Value.int (zbj.set (za).toNatClampNeg (((zk.toInt8.toInt32)).toInt8.toInt32))) (.int 0) := by rw [List.map_set]; exact Arv.set Ar1485 q1485 S1485 Nn1485 H1485 G1485 (fits_nar_byte _) W1486 _ rfl hl1486
 have V1486 : Arv Z h1486 zl zcq .byte zbo (List.map Value.int (ohf11_191_L za zk zbj)) (.int 0) := V1486r
 have VL1486 : (ohf11_191_L za zk zbj).length = (zbo).toNatClampNeg := (List.length_set).trans zhe
 have K1486 : Keep h0 h1486 [zg, zh, zp, zo, zb, zc, zd, zl, ze, ra0, zf, zn] := K1449.wr W1486 (Or.inl (List.mem_of_getElem? (i := 7) rfl))
 have N1486 := Fr.snoc X1486 N1475 zjj
 have k1487 := fun t (kk : SF p e below T1486 m 192 o1 [] t) => k1477 t (st1486 _ kk)
 have k1488 := fun t (kk : SF p e below T1486 m 193 o1 [(.ref ra0)] t) => k1487 t (by
  refine XS.aloadN X1486.here hx rfl (hb hby d11_192) rfl rfl ?_
  exact kk)
 have m1489 : ra0 ≠ zl := own_ne_oa E_ra0 (w11 hw) zeo
 have t1490 := fun {C n d : String} {v : Value} (F : Fld Z _ ra0 C n d v) => (((F.keep Kq1378 (ninS m1383 (ninS m1382 (ninS m1381 nin0)))).other W1413 (Or.inl m1416)).keep Kq1449 (ninS m1454 (ninS m1453 (ninS m1452 nin0)))).other W1486 (Or.inl m1489)
 have f1491 := t1490 zha
 obtain ⟨T1492, X1492, e1492, st1492⟩ := getF X1486 hx hZ hown (host := "") (Or.inl (w48 hw)) Via.refl e1486 f1491 (g := (mkF m 193 o1 [(.ref ra0)])) rfl rfl (hb hby d11_193)
 have k1493 := fun t (kk : SF p e below T1492 m 196 o1 [(.ref ze)] t) => k1488 t (st1492 _ kk)
 have k1494 := fun t (kk : SF p e below T1492 m 198 o1 [(.ref ra7), (.ref ze)] t) => k1493 t (by
  refine XS.aload X1492.here hx rfl (hb hby d11_196) rfl rfl ?_
  exact kk)
 have m1495 : ra7 ≠ zl := Ne.symm zhz
 have f1496 := (f1473.other W1486 (Or.inl m1495))
 have f1497 := (f1474.wr W1486)
 have Zz1498 : n0 ≤ h1486.size := (Nat.le_trans Z0 K1486.1)
 obtain ⟨cq1498, kq1498, q1498a, q1498b, q1498c⟩ := isOf hZ e1492 f1497
 obtain ⟨_, _, ⟨T1498, L1498, k1498, n1498⟩, -, X1498, ⟨Lc1498, hQ1498, l1498, y1498, z1498⟩, st1498⟩ := X1492.virtualBackUp hx (x := M34_) (y := M18_) hown (mvT hZ (w140 hw)) (mvT hZ (w141 hw)) (mvT hZ (w142 hw)) (by decide) (mvT hZ (w144 hw)) (mvT hZ (w143 hw)) (backOf (W := 1) (rm17 l Z a0 hw [] ra7 zk h1486 n0 Zz1498 f1497 f1496) hZ (w146 hw) (w145 hw) (by decide) (by decide)) q1498a q1498c (g := (mkF m 198 o1 [(.ref ra7), (.ref ze)])) rfl (by rw [hml]; rfl) (Steps.refl _) (argsL := []) (rest := [(.ref ze)]) (lenOf pd_4 rfl) rfl (Nat.le_of_eq rfl) (hb hby d11_198) (fun _ _ => ⟨rfl, e1492, (by decide : 1 + 0 ≤ _), (by decide : 512 + 0 ≤ _)⟩)
 dsimp only [Pt.U, Pt.locs, Pt.cells, Pt.slots] at X1498 l1498 y1498 z1498 st1498 hQ1498
 subst l1498 y1498 z1498
 obtain ⟨rfl, N1498q, e1498⟩ := hQ1498
 have N1498 := Fr.app N1486 N1498q
 have k1499 := fun t (kk : SF p e below T1498 m 201 o1 [(.int zk), (.ref ze)] t) => k1494 t (st1498.trans kk)
 have k1500 := fun t (kk : SF p e below T1498 m 202 o1 [(.int zk), (.ref ze), (.int zk), (.ref ze)] t) => k1499 t (by
  jvm_step X1498.here [X1498.here.top, hx, (hb hby d11_201), Value.category]
  exact kk)
 have m1501 : ze ≠ zg := Ne.symm zed
 have m1502 : ze ≠ zh := Ne.symm zeg
 have m1503 : ze ≠ zp := Ne.symm (own_ne_oa zbx (w61 hw) zct)
 have m1504 : ze ≠ zb := Ne.symm zdh
 have m1505 : ze ≠ zc := Ne.symm zdl
 have m1506 : ze ≠ zd := Ne.symm (own_ne_oa zbg (w61 hw) zct)
 have f1507 := ((((zct.keep Kq1378 (ninS m1503 (ninS m1502 (ninS m1501 nin0)))).other W1413 zcx).keep Kq1449 (ninS m1506 (ninS m1505 (ninS m1504 nin0)))).other W1486 zcy)
 have hV1508 := f1507
 obtain ⟨cl1508, Ar1508, q1508, S1508, Nn1508, H1508, G1508⟩ := hV1508
 have hb1509 : ¬ zk < 0 ∧ zk < (5 : Int32) := ho
 have hin1509 : ¬ (zk < 0 ∨ cl1508.slots.size ≤ (zk).toNatClampNeg) := inb_of S1508 hb1509
 have hat1509 : cl1508.slots[(zk).toNatClampNeg]? = some (.int (ohf11_202_at zk zy)) := Has.at H1508 hin1509 (own_getD_int _ _ _)
 have st1509 := X1498.iaload hx (j := zk) (v := (.int (ohf11_202_at zk zy))) (by rw [e1498]; exact Ar1508.1) (State.isArrayOf_alike hZ.alike Ar1508.2.1) Ar1508.2.2 hin1509 hat1509 (g := (mkF m 202 o1 [(.int zk), (.ref ze), (.int zk), (.ref ze)])) rfl rfl (hb hby d11_202)
 have k1510 := fun t (kk : SF p e below T1498 m 203 o1 [(.int (ohf11_202_at zk zy)), (.int zk), (.ref ze)] t) => k1500 t (st1509 _ kk)
 have k1511 := fun t (kk : SF p e below T1498 m 205 o1 [(.int ((ohf11_202_at zk zy) + (1 : Int32))), (.int zk), (.ref ze)] t) => k1510 t (by
  refine XS.iconst X1498.here hx rfl (hb hby d11_203) ?_
  refine XS.iadd X1498.here hx rfl (hb hby d11_204) rfl ?_
  exact kk)
 have hV1512 := f1507
 obtain ⟨cl1512, Ar1512, q1512, S1512, Nn1512, H1512, G1512⟩ := hV1512
 have hb1513 : ¬ zk < 0 ∧ zk < (5 : Int32) := ho
 have hin1513 : ¬ (zk < 0 ∨ cl1512.slots.size ≤ (zk).toNatClampNeg) := inb_of S1512 hb1513
 obtain ⟨T1513, h1513, X1513, e1513, W1513, st1513⟩ := stI X1498 hx hZ e1498 Ar1512 (j := zk) hin1513 (g := (mkF m 205 o1 [(.int ((ohf11_202_at zk zy) + (1 : Int32))), (.int zk), (.ref ze)])) rfl rfl (hb hby d11_205)
 have hl1513 : (zk).toNatClampNeg < (List.map Value.int zy).length := by rw [List.length_map, zfg]; exact own_lt_nat hb1513.1 hb1513.2
 have V1513r : Arv Z h1513 ze zbu .int 5 (List.map Value.int (zy.set (zk).toNatClampNeg ((ohf11_202_at zk zy) + (1 : Int32)))) (.int 0) := by rw [List.map_set]; exact Arv.set Ar1512 q1512 S1512 Nn1512 H1512 G1512 rfl W1513 _ rfl hl1513
 have V1513 : Arv Z h1513 ze zbu .int 5 (List.map Value.int (ohf11_205_L zk zy)) (.int 0) := V1513r
 have VL1513 : (ohf11_205_L zk zy).length = ((5 : Int32)).toNatClampNeg := (List.length_set).trans zfg
 have K1513 : Keep h0 h1513 [zg, zh, zp, zo, zb, zc, zd, zl, ze, ra0, zf, zn] := K1486.wr W1513 (Or.inl (List.mem_of_getElem? (i := 8) rfl))
 have N1513 := Fr.snoc X1513 N1498 zia
 have k1514 := fun t (kk : SF p e below T1513 m 206 o1 [] t) => k1511 t (st1513 _ kk)
 have k1515 := fun t (kk : SF p e below T1513 m 208 o1 [.null, (.ref ra0)] t) => k1514 t (by
  refine XS.aloadN X1513.here hx rfl (hb hby d11_206) rfl rfl ?_
  show SF p e below T1513 m 207 o1 [(.ref ra0)] _
  refine XS.aconstNull X1513.here hx rfl (hb hby d11_207) ?_
  exact kk)
 have f1516 := (((((E_ra0.keep Kq1378).wr W1413).keep Kq1449).wr W1486).wr W1513)
 have m1517 : ra0 ≠ ze := own_ne_oa E_ra0 (w11 hw) zct
 have t1518 := fun {C n d : String} {v : Value} (F : Fld Z _ ra0 C n d v) => ((((F.keep Kq1378 (ninS m1383 (ninS m1382 (ninS m1381 nin0)))).other W1413 (Or.inl m1416)).keep Kq1449 (ninS m1454 (ninS m1453 (ninS m1452 nin0)))).other W1486 (Or.inl m1489)).other W1513 (Or.inl m1517)
 have f1519 := t1518 zih
 obtain ⟨T1520, h1520, X1520, e1520, W1520, st1520⟩ := putF X1513 hx hZ hown (host := "") (Or.inl (w149 hw)) Via.refl e1513 f1519 f1516 (Or.inl (w150 hw)) (w11 hw) (ty := (.array (.array .int))) (by decide) rfl rfl (g := (mkF m 208 o1 [.null, (.ref ra0)])) rfl rfl (hb hby d11_208)
 have Fw1520 := f1519.same W1520
 have K1520 : Keep h0 h1520 [zg, zh, zp, zo, zb, zc, zd, zl, ze, ra0, zf, zn] := K1513.wr W1520 (Or.inl (List.mem_of_getElem? (i := 9) rfl))
 have N1520 := Fr.snoc X1520 N1513 g_ra0
 have k1521 := fun t (kk : SF p e below T1520 m 211 o1 [] t) => k1515 t (st1520 _ kk)
 have k1522 := fun t (kk : SF p e below T1520 m 212 o1 [(.ref ra0)] t) => k1521 t (by
  refine XS.aloadN X1520.here hx rfl (hb hby d11_211) rfl rfl ?_
  exact kk)
 have f1523 := ((((((zfr.keep Kq1378 (ninS m1383 (ninS m1382 (ninS m1381 nin0)))).other W1413 (Or.inl m1416)).keep Kq1449 (ninS m1454 (ninS m1453 (ninS m1452 nin0)))).other W1486 (Or.inl m1489)).other W1513 (Or.inl m1517)).other W1520 (Or.inr (slot_ne (Or.inl (w95 hw)) (Or.inl (w150 hw)) (by decide) (t := (.array .long)) (t' := (.array (.array .int))) (by decide) (by decide))))
 obtain ⟨T1524, X1524, e1524, st1524⟩ := getF X1520 hx hZ hown (host := "") (Or.inl (w94 hw)) Via.refl e1520 f1523 (g := (mkF m 212 o1 [(.ref ra0)])) rfl rfl (hb hby d11_212)
 have k1525 := fun t (kk : SF p e below T1524 m 215 o1 [(.ref zf)] t) => k1522 t (st1524 _ kk)
 have k1526 := fun t (kk : SF p e below T1524 m 216 o1 [(.ref ra0), (.ref zf)] t) => k1525 t (by
  refine XS.aloadN X1524.here hx rfl (hb hby d11_215) rfl rfl ?_
  exact kk)
 have f1527 := (((f1461.other W1486 (Or.inl m1489)).other W1513 (Or.inl m1517)).other W1520 (Or.inr (slot_ne (Or.inl (w138 hw)) (Or.inl (w150 hw)) (by decide) (t := .int) (t' := (.array (.array .int))) (by decide) (by decide))))
 obtain ⟨T1528, X1528, e1528, st1528⟩ := getF X1524 hx hZ hown (host := "") (Or.inl (w137 hw)) Via.refl e1524 f1527 (g := (mkF m 216 o1 [(.ref ra0), (.ref zf)])) rfl rfl (hb hby d11_216)
 have k1529 := fun t (kk : SF p e below T1528 m 219 o1 [(.int za), (.ref zf)] t) => k1526 t (st1528 _ kk)
 have k1530 := fun t (kk : SF p e below T1528 m 221 o1 [(.long q8), (.int za), (.ref zf)] t) => k1529 t (by
  refine XS.lload X1528.here hx rfl (hb hby d11_219) rfl ?_
  exact kk)
 have m1531 : zf ≠ zg := Ne.symm zee
 have m1532 : zf ≠ zh := Ne.symm zeh
 have m1533 : zf ≠ zp := Ne.symm (own_ne_oa zbx (w61 hw) zcm)
 have m1534 : zf ≠ zo := Ne.symm zfc
 have m1535 : zf ≠ zb := Ne.symm zdi
 have m1536 : zf ≠ zc := Ne.symm zdm
 have m1537 : zf ≠ zd := Ne.symm (own_ne_oa zbg (w61 hw) zcm)
 have m1538 : zf ≠ zl := Ne.symm zfd
 have m1539 : zf ≠ ze := Ne.symm zei
 have m1540 : zf ≠ ra0 := Ne.symm (own_ne_oa E_ra0 (w11 hw) zcm)
 have f1541 := ((((((zcm.keep Kq1378 (ninS m1533 (ninS m1532 (ninS m1531 nin0)))).other W1413 m1534).keep Kq1449 (ninS m1537 (ninS m1536 (ninS m1535 nin0)))).other W1486 m1538).other W1513 m1539).other W1520 m1540)
 have hV1542 := f1541
 obtain ⟨cl1542, Ar1542, q1542, S1542, Nn1542, H1542, G1542⟩ := hV1542
 have hb1543 : ¬ za < 0 ∧ za < zav := own_ix hn hlquantities
 have hin1543 : ¬ (za < 0 ∨ cl1542.slots.size ≤ (za).toNatClampNeg) := inb_of S1542 hb1543
 obtain ⟨T1543, h1543, X1543, e1543, W1543, st1543⟩ := stJ X1528 hx hZ e1528 Ar1542 (j := za) hin1543 (g := (mkF m 221 o1 [(.long q8), (.int za), (.ref zf)])) rfl rfl (hb hby d11_221)
 have hl1543 : (za).toNatClampNeg < (List.map Value.long zas).length := by rw [List.length_map, zey]; exact own_lt_nat hb1543.1 hb1543.2
 have V1543 : Arv Z h1543 zf zbs .long zav (List.map Value.long (zas.set (za).toNatClampNeg q8)) (.long (0 : Int64)) := by rw [List.map_set]; exact Arv.set Ar1542 q1542 S1542 Nn1542 H1542 G1542 rfl W1543 _ rfl hl1543
 have VL1543 : (zas.set (za).toNatClampNeg q8).length = (zav).toNatClampNeg := (List.length_set).trans zey
 have K1543 : Keep h0 h1543 [zg, zh, zp, zo, zb, zc, zd, zl, ze, ra0, zf, zn] := K1520.wr W1543 (Or.inl (List.mem_of_getElem? (i := 10) rfl))
 have N1543 := Fr.snoc X1543 N1520 zib
 have k1544 := fun t (kk : SF p e below T1543 m 222 o1 [] t) => k1530 t (st1543 _ kk)
 have k1545 := fun t (kk : SF p e below T1543 m 223 o1 [(.ref ra0)] t) => k1544 t (by
  refine XS.aloadN X1543.here hx rfl (hb hby d11_222) rfl rfl ?_
  exact kk)
 have m1546 : ra0 ≠ zf := Ne.symm m1540
 have f1547 := (((((((zig.keep Kq1378 (ninS m1383 (ninS m1382 (ninS m1381 nin0)))).other W1413 (Or.inl m1416)).keep Kq1449 (ninS m1454 (ninS m1453 (ninS m1452 nin0)))).other W1486 (Or.inl m1489)).other W1513 (Or.inl m1517)).other W1520 (Or.inr (slot_ne (Or.inl (w97 hw)) (Or.inl (w150 hw)) (by decide) (t := (.array .long)) (t' := (.array (.array .int))) (by decide) (by decide)))).other W1543 (Or.inl m1546))
 obtain ⟨T1548, X1548, e1548, st1548⟩ := getF X1543 hx hZ hown (host := "") (Or.inl (w96 hw)) Via.refl e1543 f1547 (g := (mkF m 223 o1 [(.ref ra0)])) rfl rfl (hb hby d11_223)
 have k1549 := fun t (kk : SF p e below T1548 m 226 o1 [(.ref zn)] t) => k1545 t (st1548 _ kk)
 have k1550 := fun t (kk : SF p e below T1548 m 227 o1 [(.ref ra0), (.ref zn)] t) => k1549 t (by
  refine XS.aloadN X1548.here hx rfl (hb hby d11_226) rfl rfl ?_
  exact kk)
 have f1551 := (f1527.other W1543 (Or.inl m1546))
 obtain ⟨T1552, X1552, e1552, st1552⟩ := getF X1548 hx hZ hown (host := "") (Or.inl (w137 hw)) Via.refl e1548 f1551 (g := (mkF m 227 o1 [(.ref ra0), (.ref zn)])) rfl rfl (hb hby d11_227)
 have k1553 := fun t (kk : SF p e below T1552 m 230 o1 [(.int za), (.ref zn)] t) => k1550 t (st1552 _ kk)
 have k1554 := fun t (kk : SF p e below T1552 m 232 o1 [(.long q9), (.int za), (.ref zn)] t) => k1553 t (by
  refine XS.lload X1552.here hx rfl (hb hby d11_230) rfl ?_
  exact kk)
 have m1555 : zn ≠ zg := Ne.symm zes
 have m1556 : zn ≠ zh := Ne.symm zew
 have m1557 : zn ≠ zp := Ne.symm (own_ne_oa zbx (w61 hw) zeb)
 have m1558 : zn ≠ zo := Ne.symm zfp
 have m1559 : zn ≠ zb := Ne.symm zds
 have m1560 : zn ≠ zc := Ne.symm zdv
 have m1561 : zn ≠ zd := Ne.symm (own_ne_oa zbg (w61 hw) zeb)
 have m1562 : zn ≠ zl := Ne.symm zfq
 have m1563 : zn ≠ ze := Ne.symm zex
 have m1564 : zn ≠ ra0 := Ne.symm (own_ne_oa E_ra0 (w11 hw) zeb)
 have f1565 := (((((((zeb.keep Kq1378 (ninS m1557 (ninS m1556 (ninS m1555 nin0)))).other W1413 m1558).keep Kq1449 (ninS m1561 (ninS m1560 (ninS m1559 nin0)))).other W1486 m1562).other W1513 m1563).other W1520 m1564).other W1543 zcu)
 have hV1566 := f1565
 obtain ⟨cl1566, Ar1566, q1566, S1566, Nn1566, H1566, G1566⟩ := hV1566
 have hb1567 : ¬ za < 0 ∧ za < zbp := own_ix hn hlprices
 have hin1567 : ¬ (za < 0 ∨ cl1566.slots.size ≤ (za).toNatClampNeg) := inb_of S1566 hb1567
 obtain ⟨T1567, h1567, X1567, e1567, W1567, st1567⟩ := stJ X1552 hx hZ e1552 Ar1566 (j := za) hin1567 (g := (mkF m 232 o1 [(.long q9), (.int za), (.ref zn)])) rfl rfl (hb hby d11_232)
 have hl1567 : (za).toNatClampNeg < (List.map Value.long zbt).length := by rw [List.length_map, zgv]; exact own_lt_nat hb1567.1 hb1567.2
 have V1567 : Arv Z h1567 zn zcs .long zbp (List.map Value.long (zbt.set (za).toNatClampNeg q9)) (.long (0 : Int64)) := by rw [List.map_set]; exact Arv.set Ar1566 q1566 S1566 Nn1566 H1566 G1566 rfl W1567 _ rfl hl1567
 have VL1567 : (zbt.set (za).toNatClampNeg q9).length = (zbp).toNatClampNeg := (List.length_set).trans zgv
 have K1567 : Keep h0 h1567 [zg, zh, zp, zo, zb, zc, zd, zl, ze, ra0, zf, zn] := K1543.wr W1567 (Or.inl (List.mem_of_getElem? (i := 11) rfl))
 have N1567 := Fr.snoc X1567 N1543 ziy
 have k1568 := fun t (kk : SF p e below T1567 m 233 o1 [] t) => k1554 t (st1567 _ kk)
 have k1569 := fun t (kk : SF p e below T1567 m 239 o1 [(.int (lcmpW q9 (-1 : Int64)))] t) => k1568 t (by
  refine XS.lload X1567.here hx rfl (hb hby d11_233) rfl ?_
  refine X1567.ldc2Long hx hown (mvT hZ (w139 hw)) (g := (mkF m 235 o1 [(.long q9)])) rfl (hb hby d11_235) _ ?_
  refine XS.lcmp X1567.here hx rfl (hb hby d11_238) rfl ?_
  exact kk)
 have hc239_1570 : q9 = (-1 : Int64) := hp
 have k1571 := fun t (kk : SF p e below T1567 m 300 o1 [(.ref ra0)] t) => k1569 t (by
  refine XS.ifYes X1567.here hx rfl (pc0 := 239) (pc' := 299) rfl (hb hby d11_239) rfl ((if0 _ _).trans (teq ((lw_eq _ _).mpr hc239_1570)).1) (by decide) (by decide) ?_
  refine XS.aloadN X1567.here hx rfl (hb hby d11_299) rfl rfl ?_
  exact kk)
 have m1572 : ra0 ≠ zn := Ne.symm m1564
 have f1573 := ((((((((zic.keep Kq1378 (ninS m1383 (ninS m1382 (ninS m1381 nin0)))).other W1413 (Or.inl m1416)).keep Kq1449 (ninS m1454 (ninS m1453 (ninS m1452 nin0)))).other W1486 (Or.inl m1489)).other W1513 (Or.inl m1517)).other W1520 (Or.inr (slot_ne (Or.inl (w152 hw)) (Or.inl (w150 hw)) (by decide) (t := (.array .long)) (t' := (.array (.array .int))) (by decide) (by decide)))).other W1543 (Or.inl m1546)).other W1567 (Or.inl m1572))
 obtain ⟨T1574, X1574, e1574, st1574⟩ := getF X1567 hx hZ hown (host := "") (Or.inl (w151 hw)) Via.refl e1567 f1573 (g := (mkF m 300 o1 [(.ref ra0)])) rfl rfl (hb hby d11_300)
 have k1575 := fun t (kk : SF p e below T1574 m 303 o1 [.null] t) => k1571 t (st1574 _ kk)
 have k1576 := fun t (kk : SF p e below T1574 m 319 o1 [(.ref ra0), (.ref ra0)] t) => k1575 t (by
  show SF p e below T1574 m 303 o1 [.null] _
  refine XS.ifnullYes X1574.here hx rfl (pc0 := 303) (pc' := 317) rfl (hb hby d11_303) rfl (by decide) (by decide) ?_
  show SF p e below T1574 m 317 o1 [] _
  refine XS.aloadN X1574.here hx rfl (hb hby d11_317) rfl rfl ?_
  refine XS.dup X1574.here hx rfl (hb hby d11_318) rfl rfl ?_
  exact kk)
 have f1577 := (f1551.other W1567 (Or.inl m1572))
 obtain ⟨T1578, X1578, e1578, st1578⟩ := getF X1574 hx hZ hown (host := "") (Or.inl (w137 hw)) Via.refl e1574 f1577 (g := (mkF m 319 o1 [(.ref ra0), (.ref ra0)])) rfl rfl (hb hby d11_319)
 have k1579 := fun t (kk : SF p e below T1578 m 322 o1 [(.int za), (.ref ra0)] t) => k1576 t (st1578 _ kk)
 have k1580 := fun t (kk : SF p e below T1578 m 324 o1 [(.int (za + (1 : Int32))), (.ref ra0)] t) => k1579 t (by
  refine XS.iconst X1578.here hx rfl (hb hby d11_322) ?_
  refine XS.iadd X1578.here hx rfl (hb hby d11_323) rfl ?_
  exact kk)
 have f1581 := (((f1516.wr W1520).wr W1543).wr W1567)
 obtain ⟨T1582, h1582, X1582, e1582, W1582, st1582⟩ := putF X1578 hx hZ hown (host := "") (Or.inl (w137 hw)) Via.refl e1578 f1577 f1581 (Or.inl (w138 hw)) (w11 hw) (ty := .int) (by decide) rfl rfl (g := (mkF m 324 o1 [(.int (za + (1 : Int32))), (.ref ra0)])) rfl rfl (hb hby d11_324)
 have Fw1582 := f1577.same W1582
 have K1582 : Keep h0 h1582 [zg, zh, zp, zo, zb, zc, zd, zl, ze, ra0, zf, zn] := K1567.wr W1582 (Or.inl (List.mem_of_getElem? (i := 9) rfl))
 have N1582 := Fr.snoc X1582 N1567 g_ra0
 have k1583 := fun t (kk : SF p e below T1582 m 327 o1 [] t) => k1580 t (st1582 _ kk)
 have k1584 := fun t (kk : SF p e below T1582 m 329 o1 [(.int (ohf11_10_l15 zr))] t) => k1583 t (by
  refine XS.iload X1582.here hx rfl (hb hby d11_327) rfl ?_
  exact kk)
 obtain ⟨fs, hr, hrun, hended, hW, hsame⟩ := X1582.leave (v := some (.int (ohf11_10_l15 zr))) (fun h => by rw [Bd.returns] at h; cases h) hlk
 have f1585 := ((((((((Eq1378_0.wr W1413).keep Kq1449).wr W1486).wr W1513).wr W1520).wr W1543).wr W1567).wr W1582)
 have f1586 := ((((((Eq1449_0.wr W1486).wr W1513).wr W1520).wr W1543).wr W1567).wr W1582)
 have f1587 := (f1581.wr W1582)
 have m1588 : zp ≠ zo := Ne.symm m1397
 have m1589 : zp ≠ zb := Ne.symm m1441
 have m1590 : zp ≠ zc := Ne.symm m1438
 have m1591 : zp ≠ zd := Ne.symm m1424
 have m1592 : zp ≠ zl := Ne.symm m1480
 have m1593 : zp ≠ ze := Ne.symm m1503
 have m1594 : zp ≠ ra0 := Ne.symm m1383
 have m1595 : zp ≠ zf := Ne.symm m1533
 have m1596 : zp ≠ zn := Ne.symm m1557
 have t1597 := fun {C n d : String} {v : Value} (F : Fld Z _ zp C n d v) => (((((((F.other W1413 (Or.inl m1588)).keep Kq1449 (ninS m1591 (ninS m1590 (ninS m1589 nin0)))).other W1486 (Or.inl m1592)).other W1513 (Or.inl m1593)).other W1520 (Or.inl m1594)).other W1543 (Or.inl m1595)).other W1567 (Or.inl m1596)).other W1582 (Or.inl m1594)
 have f1598 := t1597 Fq1378_0
 have f1599 := t1597 Fq1378_1
 have f1600 := t1597 Fq1378_2
 have f1601 := t1597 Fq1378_3
 have f1602 := t1597 Fq1378_4
 have f1603 := t1597 Fq1378_5
 have f1604 := t1597 Fq1378_6
 have f1605 := t1597 Fn1378_7
 have f1606 := t1597 Fq1378_8
 have m1607 : zd ≠ zl := Ne.symm m1483
 have m1608 : zd ≠ ze := Ne.symm m1506
 have m1609 : zd ≠ ra0 := Ne.symm m1454
 have m1610 : zd ≠ zf := Ne.symm m1537
 have m1611 : zd ≠ zn := Ne.symm m1561
 have t1612 := fun {C n d : String} {v : Value} (F : Fld Z _ zd C n d v) => (((((F.other W1486 (Or.inl m1607)).other W1513 (Or.inl m1608)).other W1520 (Or.inl m1609)).other W1543 (Or.inl m1610)).other W1567 (Or.inl m1611)).other W1582 (Or.inl m1609)
 have f1613 := t1612 Fq1449_0
 have f1614 := t1612 Fq1449_1
 have f1615 := t1612 Fq1449_2
 have f1616 := t1612 Fq1449_3
 have f1617 := t1612 Fq1449_4
 have f1618 := t1612 Fq1449_5
 have f1619 := t1612 Fn1449_6
 have f1620 := t1612 Fq1449_7
 have f1621 := t1612 Fq1449_8
 have f1622 := (((((((((zho.keep Kq1378 (ninS m1383 (ninS m1382 (ninS m1381 nin0)))).other W1413 (Or.inl m1416)).keep Kq1449 (ninS m1454 (ninS m1453 (ninS m1452 nin0)))).other W1486 (Or.inl m1489)).other W1513 (Or.inl m1517)).other W1520 (Or.inr (slot_ne (Or.inr (w44 hw)) (Or.inl (w150 hw)) (by decide) (t := (.object "java/util/List")) (t' := (.array (.array .int))) (by decide) (by decide)))).other W1543 (Or.inl m1546)).other W1567 (Or.inl m1572)).other W1582 (Or.inr (own_sn (y44 hw) (y138 hw) (by decide))))
 have f1623 := (((((f1491.other W1513 (Or.inl m1517)).other W1520 (Or.inr (slot_ne (Or.inr (w49 hw)) (Or.inl (w150 hw)) (by decide) (t := (.array .int)) (t' := (.array (.array .int))) (by decide) (by decide)))).other W1543 (Or.inl m1546)).other W1567 (Or.inl m1572)).other W1582 (Or.inr (own_sn (y49 hw) (y138 hw) (by decide))))
 have f1624 := (((((((((zhb.keep Kq1378 (ninS m1383 (ninS m1382 (ninS m1381 nin0)))).other W1413 (Or.inl m1416)).keep Kq1449 (ninS m1454 (ninS m1453 (ninS m1452 nin0)))).other W1486 (Or.inl m1489)).other W1513 (Or.inl m1517)).other W1520 (Or.inr (slot_ne (Or.inl (w52 hw)) (Or.inl (w150 hw)) (by decide) (t := .long) (t' := (.array (.array .int))) (by decide) (by decide)))).other W1543 (Or.inl m1546)).other W1567 (Or.inl m1572)).other W1582 (Or.inr (own_sn (y52 hw) (y138 hw) (by decide))))
 have f1625 := (((((((((zhg.keep Kq1378 (ninS m1383 (ninS m1382 (ninS m1381 nin0)))).other W1413 (Or.inl m1416)).keep Kq1449 (ninS m1454 (ninS m1453 (ninS m1452 nin0)))).other W1486 (Or.inl m1489)).other W1513 (Or.inl m1517)).other W1520 (Or.inr (slot_ne (Or.inl (w55 hw)) (Or.inl (w150 hw)) (by decide) (t := .long) (t' := (.array (.array .int))) (by decide) (by decide)))).other W1543 (Or.inl m1546)).other W1567 (Or.inl m1572)).other W1582 (Or.inr (own_sn (y55 hw) (y138 hw) (by decide))))
 have f1626 := (((((((((zgu.keep Kq1378 (ninS m1383 (ninS m1382 (ninS m1381 nin0)))).other W1413 (Or.inl m1416)).keep Kq1449 (ninS m1454 (ninS m1453 (ninS m1452 nin0)))).other W1486 (Or.inl m1489)).other W1513 (Or.inl m1517)).other W1520 (Or.inr (slot_ne (Or.inr (w86 hw)) (Or.inl (w150 hw)) (by decide) (t := (.object cBs)) (t' := (.array (.array .int))) (by decide) (by decide)))).other W1543 (Or.inl m1546)).other W1567 (Or.inl m1572)).other W1582 (Or.inr (own_sn (y86 hw) (y138 hw) (by decide))))
 have f1627 := (((((((f1418.keep Kq1449 (ninS m1454 (ninS m1453 (ninS m1452 nin0)))).other W1486 (Or.inl m1489)).other W1513 (Or.inl m1517)).other W1520 (Or.inr (slot_ne (Or.inr (w88 hw)) (Or.inl (w150 hw)) (by decide) (t := (.object cBs)) (t' := (.array (.array .int))) (by decide) (by decide)))).other W1543 (Or.inl m1546)).other W1567 (Or.inl m1572)).other W1582 (Or.inr (own_sn (y88 hw) (y138 hw) (by decide))))
 have f1628 := ((((((((f1392.other W1413 (Or.inl m1416)).keep Kq1449 (ninS m1454 (ninS m1453 (ninS m1452 nin0)))).other W1486 (Or.inl m1489)).other W1513 (Or.inl m1517)).other W1520 (Or.inr (slot_ne (Or.inl (w91 hw)) (Or.inl (w150 hw)) (by decide) (t := (.array .long)) (t' := (.array (.array .int))) (by decide) (by decide)))).other W1543 (Or.inl m1546)).other W1567 (Or.inl m1572)).other W1582 (Or.inr (own_sn (y91 hw) (y138 hw) (by decide))))
 have f1629 := ((((((f1456.other W1486 (Or.inl m1489)).other W1513 (Or.inl m1517)).other W1520 (Or.inr (slot_ne (Or.inl (w93 hw)) (Or.inl (w150 hw)) (by decide) (t := (.array .byte)) (t' := (.array (.array .int))) (by decide) (by decide)))).other W1543 (Or.inl m1546)).other W1567 (Or.inl m1572)).other W1582 (Or.inr (own_sn (y93 hw) (y138 hw) (by decide))))
 have f1630 := (((f1523.other W1543 (Or.inl m1546)).other W1567 (Or.inl m1572)).other W1582 (Or.inr (own_sn (y95 hw) (y138 hw) (by decide))))
 have f1631 := ((f1547.other W1567 (Or.inl m1572)).other W1582 (Or.inr (own_sn (y97 hw) (y138 hw) (by decide))))
 have f1632 := (((Fw1520.other W1543 (Or.inl m1546)).other W1567 (Or.inl m1572)).other W1582 (Or.inr (slot_ne (Or.inl (w150 hw)) (Or.inl (w138 hw)) (by decide) (t := (.array (.array .int))) (t' := .int) (by decide) (by decide))))
 have f1633 := (f1573.other W1582 (Or.inr (own_sn (y152 hw) (y138 hw) (by decide))))
 have f1634 := (((((((((zhh.keep Kq1378 (ninS m1383 (ninS m1382 (ninS m1381 nin0)))).other W1413 (Or.inl m1416)).keep Kq1449 (ninS m1454 (ninS m1453 (ninS m1452 nin0)))).other W1486 (Or.inl m1489)).other W1513 (Or.inl m1517)).other W1520 (Or.inr (slot_ne (Or.inl (w180 hw)) (Or.inl (w150 hw)) (by decide) (t := .boolean) (t' := (.array (.array .int))) (by decide) (by decide)))).other W1543 (Or.inl m1546)).other W1567 (Or.inl m1572)).other W1582 (Or.inr (own_sn (y180 hw) (y138 hw) (by decide))))
 have m1635 : zg ≠ zo := Ne.symm m1395
 have m1636 : zg ≠ zb := Ne.symm m1440
 have m1637 : zg ≠ zc := Ne.symm m1436
 have m1638 : zg ≠ zd := Ne.symm m1422
 have m1639 : zg ≠ zl := Ne.symm m1478
 have m1640 : zg ≠ ze := Ne.symm m1501
 have m1641 : zg ≠ ra0 := Ne.symm m1381
 have m1642 : zg ≠ zf := Ne.symm m1531
 have m1643 : zg ≠ zn := Ne.symm m1555
 have f1644 := ((((((((V1378n1.other W1413 m1635).keep Kq1449 (ninS m1638 (ninS m1637 (ninS m1636 nin0)))).other W1486 m1639).other W1513 m1640).other W1520 m1641).other W1543 m1642).other W1567 m1643).other W1582 m1641)
 have m1645 : zh ≠ zo := Ne.symm m1396
 have m1646 : zh ≠ zb := Ne.symm zbz
 have m1647 : zh ≠ zc := Ne.symm m1437
 have m1648 : zh ≠ zd := Ne.symm m1423
 have m1649 : zh ≠ zl := Ne.symm m1479
 have m1650 : zh ≠ ze := Ne.symm m1502
 have m1651 : zh ≠ ra0 := Ne.symm m1382
 have m1652 : zh ≠ zf := Ne.symm m1532
 have m1653 : zh ≠ zn := Ne.symm m1556
 have f1654 := ((((((((Vq1378_0.other W1413 m1645).keep Kq1449 (ninS m1648 (ninS m1647 (ninS m1646 nin0)))).other W1486 m1649).other W1513 m1650).other W1520 m1651).other W1543 m1652).other W1567 m1653).other W1582 m1651)
 have m1655 : zo ≠ zb := Ne.symm zce
 have m1656 : zo ≠ zc := Ne.symm zch
 have m1657 : zo ≠ zd := Ne.symm m1425
 have m1658 : zo ≠ zl := Ne.symm zdw
 have m1659 : zo ≠ ze := Ne.symm zcx
 have m1660 : zo ≠ ra0 := Ne.symm m1416
 have m1661 : zo ≠ zf := Ne.symm m1534
 have m1662 : zo ≠ zn := Ne.symm m1558
 have f1663 := (((((((V1413.keep Kq1449 (ninS m1657 (ninS m1656 (ninS m1655 nin0)))).other W1486 m1658).other W1513 m1659).other W1520 m1660).other W1543 m1661).other W1567 m1662).other W1582 m1660)
 have m1664 : zb ≠ zl := Ne.symm m1481
 have m1665 : zb ≠ ze := Ne.symm m1504
 have m1666 : zb ≠ ra0 := Ne.symm m1452
 have m1667 : zb ≠ zf := Ne.symm m1535
 have m1668 : zb ≠ zn := Ne.symm m1559
 have f1669 := ((((((V1449n1.other W1486 m1664).other W1513 m1665).other W1520 m1666).other W1543 m1667).other W1567 m1668).other W1582 m1666)
 have m1670 : zc ≠ zl := Ne.symm m1482
 have m1671 : zc ≠ ze := Ne.symm m1505
 have m1672 : zc ≠ ra0 := Ne.symm m1453
 have m1673 : zc ≠ zf := Ne.symm m1536
 have m1674 : zc ≠ zn := Ne.symm m1560
 have f1675 := ((((((V1449n.other W1486 m1670).other W1513 m1671).other W1520 m1672).other W1543 m1673).other W1567 m1674).other W1582 m1672)
 have m1676 : zl ≠ ze := Ne.symm zcy
 have m1677 : zl ≠ ra0 := Ne.symm m1489
 have m1678 : zl ≠ zf := Ne.symm m1538
 have m1679 : zl ≠ zn := Ne.symm m1562
 have f1680 := (((((V1486.other W1513 m1676).other W1520 m1677).other W1543 m1678).other W1567 m1679).other W1582 m1677)
 have m1681 : ze ≠ ra0 := Ne.symm m1517
 have m1682 : ze ≠ zf := Ne.symm m1539
 have m1683 : ze ≠ zn := Ne.symm m1563
 have f1684 := ((((V1513.other W1520 m1681).other W1543 m1682).other W1567 m1683).other W1582 m1681)
 have m1685 : zf ≠ zn := Ne.symm zcu
 have f1686 := ((V1543.other W1567 m1685).other W1582 m1540)
 have f1687 := (V1567.other W1582 m1564)
 have m1688 : xs_1378 ≠ zo := Ne.symm (own_ne_b zen.lt sz_xs_1378)
 have m1689 : xs_1378 ≠ zb := Ne.symm (own_ne_b zcg.lt sz_xs_1378)
 have m1690 : xs_1378 ≠ zc := Ne.symm (own_ne_b zck.lt sz_xs_1378)
 have m1691 : xs_1378 ≠ zd := Ne.symm (own_ne_b zbg.lt sz_xs_1378)
 have m1692 : xs_1378 ≠ zl := Ne.symm (own_ne_b zeo.lt sz_xs_1378)
 have m1693 : xs_1378 ≠ ze := Ne.symm (own_ne_b zct.lt sz_xs_1378)
 have m1694 : xs_1378 ≠ ra0 := Ne.symm ne_ra0_xs_1378
 have m1695 : xs_1378 ≠ zf := Ne.symm (own_ne_b zcm.lt sz_xs_1378)
 have m1696 : xs_1378 ≠ zn := Ne.symm (own_ne_b zeb.lt sz_xs_1378)
 have f1697 := ((((((((Vx_xs_1378.other W1413 m1688).keep Kq1449 (ninS m1691 (ninS m1690 (ninS m1689 nin0)))).other W1486 m1692).other W1513 m1693).other W1520 m1694).other W1543 m1695).other W1567 m1696).other W1582 m1694)
 refine ⟨_, _, k1584 _ ?_, hrun, hended, _, _, rfl, ?_, ⟨_, rfl⟩, hW, hsame.mono (by decide) (by decide)⟩
 ·show SF p e below T1582 m 329 o1 [(.int (ohf11_10_l15 zr))] _
  exact retI X1582 hx Bd.returns (hb hby d11_329) hr
 ·show Q11hf Z ra0 ra1 p2 p3 p4 p5 q6 ra7 q8 q9 q10 zp zt k_ra1 L_ra1 zbb zam zad zax zr zh zbq zaw zaa zg zbf zaq zap zbi zbr za zo zdc zbk zbw zd zj zc zbe zaj zs zb zbc zag zaf zaz zbh zbn zbl zbm zl zk zcq zbo zbj ze zbu zy zdp zf zbs zav zas zn zcs zbp zbt zcn zcb zcj zcd h0 n0 _ T1582.heap _
  rw [e1582]
  exact ⟨xs_1378, k_xs_1378, rfl, N1582, K1582, f1585, f1586, f1587, f1598, f1599, f1600, f1601, f1602, f1603, f1604, f1605, f1606, f1613, f1614, f1615, f1616, f1617, f1618, f1619, f1620, f1621, f1622, f1623, f1624, f1625, f1626, f1627, f1628, f1629, f1630, f1631, Fw1582, f1632, f1633, f1634, f1644, VL1378n1, f1654, VLq1378_0, f1663, VL1413, f1669, VL1449n1, f1675, VL1449n, f1680, VL1486, f1684, VL1513, f1686, VL1543, f1687, VL1567, sz_xs_1378, f1697, VLx_xs_1378⟩
def ohn11_7_f_hashed (zbi : Int32) : Int32 := (zbi + (1 : Int32))
def ohn11_7_f_probes (p2 : Int32) (L_ra1 : List Int32) (zx : Int32) (zah : List Int64) (zbr : Int64) : Int64 := (hn12_f_probes_ra0 p2 L_ra1 zx zah zbr)
def ohn11_7_L1 (p2 : Int32) (L_ra1 : List Int32) (zr : Int32) (zaa zap : List Int32) : List Int32 := (v15_112_L p2 zr zaa zap L_ra1)
def ohn11_7_L2 (p2 : Int32) (L_ra1 : List Int32) (zx : Int32) (zah : List Int64) (zr : Int32) : List Int64 := (hn12_a_r_slots_ra0 p2 L_ra1 zx zah zr)
def ohn11_10_l15 (zr : Int32) : Int32 := ((zr + (1 : Int32)) - (1 : Int32))
def ohn11_173_f_size (zj : Int32) : Int32 := (zj + (1 : Int32))
def ohn11_173_L0 (p4 p5 zj : Int32) (zs : List Int32) : List Int32 := (v15_131_L p4 p5 zj zs)
def ohn11_173_L1 (p4 : Int32) (L_ra1 : List Int32) (zj : Int32) (zs zaf : List Int32) : List Int32 := (v15_112_L p4 zj zs zaf L_ra1)
def ohn11_191_L (za zk : Int32) (zbj : List Int32) : List Int32 := (zbj.set (za).toNatClampNeg (((zk.toInt8.toInt32)).toInt8.toInt32))
def ohn11_202_at (zk : Int32) (zy : List Int32) : Int32 := (zy.getD (zk).toNatClampNeg (0 : Int32))
def ohn11_205_L (zk : Int32) (zy : List Int32) : List Int32 := (zy.set (zk).toNatClampNeg ((ohn11_202_at zk zy) + (1 : Int32)))
def Q11hn (Z : State) (ra0 ra1 : Addr) (p2 p3 : Int32) (p4 p5 : Int32) (q6 : Int64) (ra7 : Addr) (q8 q9 q10 : Int64) (zp zt : Addr) (k_ra1 : ClassId) (L_ra1 : List Int32) (zbb : ClassId) (zam : Int32) (zad : List Int32) (zao : Addr) (zdj : ClassId) (zx : Int32) (zah : List Int64) (zr : Int32) (zh : Addr) (zbq : ClassId) (zaw : Int32) (zaa : List Int32) (zg : Addr) (zbf : ClassId) (zaq : Int32) (zap : List Int32) (zax zbi : Int32) (zbr : Int64) (za : Int32) (zo : Addr) (zdc : ClassId) (zbk : Int32) (zbw : List Int64) (zd : Addr) (zj : Int32) (zc : Addr) (zbe : ClassId) (zaj : Int32) (zs : List Int32) (zb : Addr) (zbc : ClassId) (zag : Int32) (zaf : List Int32) (zaz : Int32) (zbh zbn : Value) (zbl : Int32) (zbm : Int64) (zl : Addr) (zk : Int32) (zcq : ClassId) (zbo : Int32) (zbj : List Int32) (ze : Addr) (zbu : ClassId) (zy : List Int32) (zdp : Value) (zf : Addr) (zbs : ClassId) (zav : Int32) (zas : List Int64) (zn : Addr) (zcs : ClassId) (zbp : Int32) (zbt : List Int64) (zcn : Value) (zcb zcj : Int64) (zcd : Int32) (h0 : Heap) (n0 : Nat) (v : Option Value) (h : Heap) (L : List Loc) : Prop := (v = some (.int (ohn11_10_l15 zr)) ∧ Fr n0 L ∧ Keep h0 h [zao, zg, zh, zp, zo, zb, zc, zd, zl, ze, ra0, zf, zn] ∧ Exa Z h zp cBs ∧ Exa Z h zd cBs ∧ Exa Z h ra0 cOr ∧ Fld Z h zp cBs "bytes" "[B" (.ref zg) ∧ Fld Z h zp cBs "ends" "[I" (.ref zh) ∧ Fld Z h zp cBs "byValue" "[I" (.ref zt) ∧ Fld Z h zp cBs "expectedSlots" "I" (.int zax) ∧ Fld Z h zp cBs "crowded" "Ljava/util/Map;" .null ∧ Fld Z h zp cBs "slots" "[J" (.ref zao) ∧ Fld Z h zp cBs "size" "I" (.int (zr + (1 : Int32))) ∧ Fld Z h zp cBs "hashed" "I" (.int (ohn11_7_f_hashed zbi)) ∧ Fld Z h zp cBs "probes" "J" (.long (ohn11_7_f_probes p2 L_ra1 zx zah zbr)) ∧ Fld Z h zd cBs "bytes" "[B" (.ref zb) ∧ Fld Z h zd cBs "ends" "[I" (.ref zc) ∧ Fld Z h zd cBs "byValue" "[I" .null ∧ Fld Z h zd cBs "expectedSlots" "I" (.int zaz) ∧ Fld Z h zd cBs "crowded" "Ljava/util/Map;" zbh ∧ Fld Z h zd cBs "slots" "[J" zbn ∧ Fld Z h zd cBs "size" "I" (.int (ohn11_173_f_size zj)) ∧ Fld Z h zd cBs "hashed" "I" (.int zbl) ∧ Fld Z h zd cBs "probes" "J" (.long zbm) ∧ Fld Z h ra0 cOr "unpacked" "Ljava/util/List;" zcn ∧ Fld Z h ra0 cOr "kindCounts" "[I" (.ref ze) ∧ Fld Z h ra0 cOr "leastPrice" "J" (.long zcb) ∧ Fld Z h ra0 cOr "mostPrice" "J" (.long zcj) ∧ Fld Z h ra0 cOr "ids" "Lcom/example/gavelbook/gavelbook/ByteStrings;" (.ref zp) ∧ Fld Z h ra0 cOr "memberNames" "Lcom/example/gavelbook/gavelbook/ByteStrings;" (.ref zd) ∧ Fld Z h ra0 cOr "lines" "[J" (.ref zo) ∧ Fld Z h ra0 cOr "kinds" "[B" (.ref zl) ∧ Fld Z h ra0 cOr "quantities" "[J" (.ref zf) ∧ Fld Z h ra0 cOr "prices" "[J" (.ref zn) ∧ Fld Z h ra0 cOr "size" "I" (.int (za + (1 : Int32))) ∧ Fld Z h ra0 cOr "byKind" "[[I" .null ∧ Fld Z h ra0 cOr "amounts" "[J" .null ∧ Fld Z h ra0 cOr "uncounted" "Z" (.int zcd) ∧ Arv Z h zao zdj .long zx (List.map Value.long (ohn11_7_L2 p2 L_ra1 zx zah zr)) (.long (0 : Int64)) ∧ (ohn11_7_L2 p2 L_ra1 zx zah zr).length = (zx).toNatClampNeg ∧ Arv Z h zg zbf .byte zaq (List.map Value.int (ohn11_7_L1 p2 L_ra1 zr zaa zap)) (.int 0) ∧ (ohn11_7_L1 p2 L_ra1 zr zaa zap).length = (zaq).toNatClampNeg ∧ Arv Z h zh zbq .int zaw (List.map Value.int (v15_131_L p2 p3 zr zaa)) (.int 0) ∧ (v15_131_L p2 p3 zr zaa).length = (zaw).toNatClampNeg ∧ Arv Z h zo zdc .long zbk (List.map Value.long (zbw.set (za).toNatClampNeg q6)) (.long (0 : Int64)) ∧ (zbw.set (za).toNatClampNeg q6).length = (zbk).toNatClampNeg ∧ Arv Z h zb zbc .byte zag (List.map Value.int (ohn11_173_L1 p4 L_ra1 zj zs zaf)) (.int 0) ∧ (ohn11_173_L1 p4 L_ra1 zj zs zaf).length = (zag).toNatClampNeg ∧ Arv Z h zc zbe .int zaj (List.map Value.int (ohn11_173_L0 p4 p5 zj zs)) (.int 0) ∧ (ohn11_173_L0 p4 p5 zj zs).length = (zaj).toNatClampNeg ∧ Arv Z h zl zcq .byte zbo (List.map Value.int (ohn11_191_L za zk zbj)) (.int 0) ∧ (ohn11_191_L za zk zbj).length = (zbo).toNatClampNeg ∧ Arv Z h ze zbu .int 5 (List.map Value.int (ohn11_205_L zk zy)) (.int 0) ∧ (ohn11_205_L zk zy).length = ((5 : Int32)).toNatClampNeg ∧ Arv Z h zf zbs .long zav (List.map Value.long (zas.set (za).toNatClampNeg q8)) (.long (0 : Int64)) ∧ (zas.set (za).toNatClampNeg q8).length = (zav).toNatClampNeg ∧ Arv Z h zn zcs .long zbp (List.map Value.long (zbt.set (za).toNatClampNeg q9)) (.long (0 : Int64)) ∧ (zbt.set (za).toNatClampNeg q9).length = (zbp).toNatClampNeg)
set_option maxRecDepth 65536 in
set_option maxHeartbeats 40000000 in
theorem rm11hn (l : Launch) (Z : State) (a0 : Array Value) (hw : HW Z a0) (ws : List Jvm.Cond) (ra0 ra1 : Addr) (p2 p3 : Int32) (p4 p5 : Int32) (q6 : Int64) (ra7 : Addr) (q8 q9 q10 : Int64) (zp zt : Addr) (k_ra1 : ClassId) (L_ra1 : List Int32) (zbb : ClassId) (zam : Int32) (zad : List Int32) (zao : Addr) (zdj : ClassId) (zx : Int32) (zah : List Int64) (zr : Int32) (zh : Addr) (zbq : ClassId) (zaw : Int32) (zaa : List Int32) (zg : Addr) (zbf : ClassId) (zaq : Int32) (zap : List Int32) (zax zbi : Int32) (zbr : Int64) (za : Int32) (zo : Addr) (zdc : ClassId) (zbk : Int32) (zbw : List Int64) (zd : Addr) (zj : Int32) (zc : Addr) (zbe : ClassId) (zaj : Int32) (zs : List Int32) (zb : Addr) (zbc : ClassId) (zag : Int32) (zaf : List Int32) (zaz : Int32) (zbh zbn : Value) (zbl : Int32) (zbm : Int64) (zl : Addr) (zk : Int32) (zcq : ClassId) (zbo : Int32) (zbj : List Int32) (ze : Addr) (zbu : ClassId) (zy : List Int32) (zdp : Value) (zf : Addr) (zbs : ClassId) (zav : Int32) (zas : List Int64) (zn : Addr) (zcs : ClassId) (zbp : Int32) (zbt : List Int64) (zcn : Value) (zcb zcj : Int64) (zcd : Int32) (h0 : Heap) (n0 : Nat) (Z0 : n0 ≤ h0.size) (ihs : ¬ zr < 0 ∧ zr < zaw) (ihE : ¬ (v16_ret zr zaa) < 0 ∧ (v16_ret zr zaa) < (60 : Int32)) (ihbb : ¬ zaq < (64 : Int32)) (ihk : ¬ p2 < 0 ∧ p2 < (3 : Int32)) (iht : p3 = p2 + (1 : Int32)) (ihneg : (v13_ret p2 L_ra1) < (0 : Int32)) (ihv : ¬ zam < (64 : Int32)) (ihxx : ¬ zx < (128 : Int32) ∧ zx < (513 : Int32)) (ihha : zbi = (1 : Int32)) (ihp : zbr = (0 : Int64)) (ihq : ¬ ((hn12_207_at p2 L_ra1 zx zah) = (0 : Int64)) → ¬ (((((hn12_207_at p2 L_ra1 zx zah).toUInt64 >>> ((32 : Int32) &&& 0x3f).toInt64.toUInt64).toInt64).toInt32) = (hn12_174_l5 p2 L_ra1))) (ihr : ¬ ((hn12_207_at p2 L_ra1 zx zah) = (0 : Int64)) → (hn12_305_at p2 L_ra1 zx zah) = (0 : Int64)) (mhs : ¬ zj < 0 ∧ zj < zaj) (mhE : ¬ (v16_ret zj zs) < 0 ∧ (v16_ret zj zs) < (60 : Int32)) (mhbb : ¬ zag < (64 : Int32)) (mhk : ¬ p4 < 0 ∧ p4 < (3 : Int32)) (mht : p5 = p4 + (1 : Int32)) (hz : zr = za) (hn : ¬ za < 0 ∧ za < (60 : Int32)) (ho : ¬ zk < 0 ∧ zk < (5 : Int32)) (ha : q10 = (-1 : Int64)) (hp : q9 = (-1 : Int64)) (hllines : ¬ zbk < (64 : Int32)) (hlkinds : ¬ zbo < (64 : Int32)) (hlquantities : ¬ zav < (64 : Int32)) (hlprices : ¬ zbp < (64 : Int32)) (zgu : Fld Z h0 ra0 cOr "ids" "Lcom/example/gavelbook/gavelbook/ByteStrings;" (.ref zp)) (zej : Fld Z h0 zp cBs "byValue" "[I" (.ref zt)) (V_ra1 : Arv Z h0 ra1 k_ra1 .byte (3 : Int32) (List.map Value.int L_ra1) (.int 0)) (VL_ra1 : L_ra1.length = ((3 : Int32)).toNatClampNeg) (zdd : Arv Z h0 zt zbb .int zam (List.map Value.int zad) (.int 0)) (zef : zad.length = zam.toNatClampNeg) (zgs : Fld Z h0 zp cBs "slots" "[J" (.ref zao)) (zhn : Arv Z h0 zao zdj .long zx (List.map Value.long zah) (.long (0 : Int64))) (zjd : zah.length = zx.toNatClampNeg) (zii : Fld Z h0 zp cBs "size" "I" (.int zr)) (zhc : Fld Z h0 zp cBs "ends" "[I" (.ref zh)) (zdf : Arv Z h0 zh zbq .int zaw (List.map Value.int zaa) (.int 0)) (zfz : zaa.length = zaw.toNatClampNeg) (zgr : Fld Z h0 zp cBs "bytes" "[B" (.ref zg)) (zcv : Arv Z h0 zg zbf .byte zaq (List.map Value.int zap) (.int 0)) (zfs : zap.length = zaq.toNatClampNeg) (zgb : Fld Z h0 zp cBs "expectedSlots" "I" (.int zax)) (zhu : Fld Z h0 zp cBs "hashed" "I" (.int zbi)) (zhv : Fld Z h0 zp cBs "probes" "J" (.long zbr)) (zbx : Exa Z h0 zp cBs) (zga : Fld Z h0 zp cBs "crowded" "Ljava/util/Map;" .null) (zhk : n0 ≤ zg) (zec : zg ≠ zh) (zhw : n0 ≤ zh) (zjw : n0 ≤ zp) (zjo : zh ≠ zao) (zjm : zg ≠ zao) (zkn : n0 ≤ zao) (zcc : Fld Z h0 ra0 cOr "size" "I" (.int za)) (zll : zao ≠ ra0) (zjp : zg ≠ ra0) (zjs : zh ≠ ra0) (zij : zp ≠ ra0) (zis : Fld Z h0 ra0 cOr "lines" "[J" (.ref zo)) (zen : Arv Z h0 zo zdc .long zbk (List.map Value.long zbw) (.long (0 : Int64))) (zhd : zbw.length = zbk.toNatClampNeg) (zio : zo ≠ zao) (zet : zg ≠ zo) (zez : zh ≠ zo) (zjh : n0 ≤ zo) (zgq : Fld Z h0 ra0 cOr "memberNames" "Lcom/example/gavelbook/gavelbook/ByteStrings;" (.ref zd)) (zkc : zo ≠ ra0) (zgf : Fld Z h0 zd cBs "size" "I" (.int zj)) (zko : zd ≠ zao) (zhl : zg ≠ zd) (zhp : zh ≠ zd) (zff : zp ≠ zd) (zik : zo ≠ zd) (zgg : Fld Z h0 zd cBs "ends" "[I" (.ref zc)) (zck : Arv Z h0 zc zbe .int zaj (List.map Value.int zs) (.int 0)) (zfl : zs.length = zaj.toNatClampNeg) (zgc : Fld Z h0 zd cBs "bytes" "[B" (.ref zb)) (zcg : Arv Z h0 zb zbc .byte zag (List.map Value.int zaf) (.int 0)) (zfh : zaf.length = zag.toNatClampNeg) (zer : Fld Z h0 zd cBs "expectedSlots" "I" (.int zaz)) (zfm : Fld Z h0 zd cBs "crowded" "Ljava/util/Map;" zbh) (zgd : Fld Z h0 zd cBs "slots" "[J" zbn) (zft : Fld Z h0 zd cBs "hashed" "I" (.int zbl)) (zfu : Fld Z h0 zd cBs "probes" "J" (.long zbm)) (zfn : Fld Z h0 zd cBs "byValue" "[I" .null) (zgw : zc ≠ zao) (zdg : zg ≠ zc) (zdk : zh ≠ zc) (zch : zc ≠ zo) (zgo : zb ≠ zao) (zcz : zg ≠ zb) (zbz : zb ≠ zh) (zce : zb ≠ zo) (zkg : zao ≠ ra1) (zgh : zg ≠ ra1) (zgm : zh ≠ ra1) (zhx : zo ≠ ra1) (zbg : Exa Z h0 zd cBs) (zfo : n0 ≤ zb) (zco : zb ≠ zc) (zfv : n0 ≤ zc) (zhm : n0 ≤ zd) (zit : Fld Z h0 ra0 cOr "kinds" "[B" (.ref zl)) (zim : zb ≠ ra0) (zir : zc ≠ ra0) (zgi : zd ≠ ra0) (zji : Fld Z h0 ra7 "java/lang/Enum" "ordinal" "I" (.int zk)) (zkh : zao ≠ ra7) (zgj : zg ≠ ra7) (zgn : zh ≠ ra7) (zin : zp ≠ ra7) (zhy : zo ≠ ra7) (zeu : zb ≠ ra7) (zfa : zc ≠ ra7) (zgk : zd ≠ ra7) (E_ra7 : Exa Z h0 ra7 cKi) (zeo : Arv Z h0 zl zcq .byte zbo (List.map Value.int zbj) (.int 0)) (zhe : zbj.length = zbo.toNatClampNeg) (zip : zl ≠ zao) (zev : zg ≠ zl) (zfb : zh ≠ zl) (zdw : zl ≠ zo) (zdu : zb ≠ zl) (zdx : zc ≠ zl) (zjj : n0 ≤ zl) (zha : Fld Z h0 ra0 cOr "kindCounts" "[I" (.ref ze)) (zkd : zl ≠ ra0) (zhz : zl ≠ ra7) (zct : Arv Z h0 ze zbu .int 5 (List.map Value.int zy) (.int 0)) (zfg : zy.length = ((5 : Int32)).toNatClampNeg) (zhq : ze ≠ zao) (zed : zg ≠ ze) (zeg : zh ≠ ze) (zcx : ze ≠ zo) (zdh : zb ≠ ze) (zdl : zc ≠ ze) (zcy : ze ≠ zl) (zia : n0 ≤ ze) (E_ra0 : Exa Z h0 ra0 cOr) (zih : Fld Z h0 ra0 cOr "byKind" "[[I" zdp) (g_ra0 : n0 ≤ ra0) (zfr : Fld Z h0 ra0 cOr "quantities" "[J" (.ref zf)) (zcm : Arv Z h0 zf zbs .long zav (List.map Value.long zas) (.long (0 : Int64))) (zey : zas.length = zav.toNatClampNeg) (zhr : zf ≠ zao) (zee : zg ≠ zf) (zeh : zh ≠ zf) (zfc : zo ≠ zf) (zdi : zb ≠ zf) (zdm : zc ≠ zf) (zfd : zl ≠ zf) (zei : ze ≠ zf) (zib : n0 ≤ zf) (zig : Fld Z h0 ra0 cOr "prices" "[J" (.ref zn)) (zeb : Arv Z h0 zn zcs .long zbp (List.map Value.long zbt) (.long (0 : Int64))) (zgv : zbt.length = zbp.toNatClampNeg) (zie : zn ≠ zao) (zes : zg ≠ zn) (zew : zh ≠ zn) (zfp : zo ≠ zn) (zds : zb ≠ zn) (zdv : zc ≠ zn) (zfq : zl ≠ zn) (zex : ze ≠ zn) (zcu : zn ≠ zf) (ziy : n0 ≤ zn) (zic : Fld Z h0 ra0 cOr "amounts" "[J" .null) (zho : Fld Z h0 ra0 cOr "unpacked" "Ljava/util/List;" zcn) (zhb : Fld Z h0 ra0 cOr "leastPrice" "J" (.long zcb)) (zhg : Fld Z h0 ra0 cOr "mostPrice" "J" (.long zcj)) (zhh : Fld Z h0 ra0 cOr "uncounted" "Z" (.int zcd)) :
  MetFree l M33_ (head1 (Jvm.Cond.code M33_ prog_25_method_2_code 18 (some .int) :: ws) R14_) (fun a U => a = #[(.ref ra0), (.ref ra1), (.int p2), (.int p3), (.int p4), (.int p5), (.long q6), (.ref ra7), (.long q8), (.long q9), (.long q10)] ∧ Z.Warmed39 U.vm ∧ U.heap = h0) (fun _ _ _ _ _ => True) (fun _ U o U' => ∃ v L, o = .returned v ∧ Q11hn Z ra0 ra1 p2 p3 p4 p5 q6 ra7 q8 q9 q10 zp zt k_ra1 L_ra1 zbb zam zad zao zdj zx zah zr zh zbq zaw zaa zg zbf zaq zap zax zbi zbr za zo zdc zbk zbw zd zj zc zbe zaj zs zb zbc zag zaf zaz zbh zbn zbl zbm zl zk zcq zbo zbj ze zbu zy zdp zf zbs zav zas zn zcs zbp zbt zcn zcb zcj zcd h0 n0 v U'.heap L ∧ FrameEnd U o U' L R14_.cells R14_.slots) := by
 refine MetFree.of_bodySF (plainFor_of_name pn_226) hisR ?_
 intro p e s m args below meth c s₁ Bd hml0 hP hK
 obtain ⟨rfl, hZ, hh⟩ := hP
 have hx := Bd.exec
 have hlk : meth.locks = false := by first | exact BodyLoose.notSynchronized Bd | exact Body.notSynchronized Bd
 have hby := Bd.bytes
 have hml : c.maxLocals = 18 := hml0
 have hown : s.vm.findClass cOr = some m.cls := findClass_of_methodNamed Bd.named
 have hnm := (name_of_methodNamed Bd.named Bd.method).1
 have X0 : Stand p l e R14_ s m #[(.ref ra0), (.ref ra1), (.int p2), (.int p3), (.int p4), (.int p5), (.long q6), (.ref ra7), (.long q8), (.long q9), (.long q10)] below meth c s₁ [] 0 0 := Stand.of_body Bd
 have e0 : s₁.heap = h0 := by rw [← hh, Bd.state]; rfl
 have N0 := Fr.nil n0
 have KC0 := Keep.refl h0 [zao, zg, zh, zp, zo, zb, zc, zd, zl, ze, ra0, zf, zn]
 let o1 : Array Slot := #[rv ra0, rv ra1, iv p2, iv p3, iv p4, iv p5, .val (.long q6), .second, rv ra7, .val (.long q8), .second, .val (.long q9), .second, .val (.long q10), .second, iv (ohn11_10_l15 zr), .unset, .unset]
 let o2 : Array Slot := #[rv ra0, rv ra1, iv p2, iv p3, iv p4, iv p5, .val (.long q6), .second, rv ra7, .val (.long q8), .second, .val (.long q9), .second, .val (.long q10), .second, .unset, .unset, .unset]
 have pre0 : ∀ t, SF p e below s₁ m 0 o2 [] t → Steps p.tables e below (s₁.setTop (entryFrame m #[(.ref ra0), (.ref ra1), (.int p2), (.int p3), (.int p4), (.int p5), (.long q6), (.ref ra7), (.long q8), (.long q9), (.long q10)] 18)) t := fun t k => castTop (ef_rm11dn m ra0 ra1 p2 p3 p4 p5 q6 ra7 q8 q9 q10) k
 have k1698 := fun t (kk : SF p e below s₁ m 1 o2 [(.ref ra0)] t) => pre0 t (by
  refine XS.aloadN X0.here hx rfl (hb hby d11_0) rfl rfl ?_
  exact kk)
 obtain ⟨T1699, X1699, e1699, st1699⟩ := getF X0 hx hZ hown (host := "") (Or.inl (w85 hw)) Via.refl e0 zgu (g := (mkF m 1 o2 [(.ref ra0)])) rfl rfl (hb hby d11_1)
 have k1700 := fun t (kk : SF p e below T1699 m 4 o2 [(.ref zp)] t) => k1698 t (st1699 _ kk)
 have k1701 := fun t (kk : SF p e below T1699 m 7 o2 [(.int p3), (.int p2), (.ref ra1), (.ref zp)] t) => k1700 t (by
  refine XS.aloadN X1699.here hx rfl (hb hby d11_4) rfl rfl ?_
  refine XS.iloadN X1699.here hx rfl (hb hby d11_5) rfl ?_
  refine XS.iloadN X1699.here hx rfl (hb hby d11_6) rfl ?_
  exact kk)
 have Zz1702 : n0 ≤ h0.size := (Nat.le_trans Z0 KC0.1)
 obtain ⟨cq1702, kq1702, q1702a, q1702b, q1702c⟩ := isOf hZ e1699 zbx
 obtain ⟨_, _, ⟨T1702, L1702, k1702, n1702⟩, -, X1702, ⟨Lc1702, hQ1702, l1702, y1702, z1702⟩, st1702⟩ := X1699.virtualBack hx (y := M32_) (z := M32_) hown (mvT hZ (w104 hw)) (mvT hZ (w105 hw)) (notFace_of_selects (args := #[]) (mvT hZ (w107 hw))) (mvT hZ (w107 hw)) (mvT hZ (w106 hw)) (by decide) (backOf (W := 0) (rm12hn l Z a0 hw [] zp ra1 p2 p3 zt k_ra1 L_ra1 zbb zam zad zao zdj zx zah zr zh zbq zaw zaa zg zbf zaq zap zax zbi zbr h0 n0 Zz1702 (ihs : ¬ zr < 0 ∧ zr < zaw) (ihE : ¬ (v16_ret zr zaa) < 0 ∧ (v16_ret zr zaa) < (60 : Int32)) (ihbb : ¬ zaq < (64 : Int32)) (ihk : ¬ p2 < 0 ∧ p2 < (3 : Int32)) (iht : p3 = p2 + (1 : Int32)) (ihneg : (v13_ret p2 L_ra1) < (0 : Int32)) (ihv : ¬ zam < (64 : Int32)) (ihxx : ¬ zx < (128 : Int32) ∧ zx < (513 : Int32)) (ihha : zbi = (1 : Int32)) (ihp : zbr = (0 : Int64)) (ihq : ¬ ((hn12_207_at p2 L_ra1 zx zah) = (0 : Int64)) → ¬ (((((hn12_207_at p2 L_ra1 zx zah).toUInt64 >>> ((32 : Int32) &&& 0x3f).toInt64.toUInt64).toInt64).toInt32) = (hn12_174_l5 p2 L_ra1))) (ihr : ¬ ((hn12_207_at p2 L_ra1 zx zah) = (0 : Int64)) → (hn12_305_at p2 L_ra1 zx zah) = (0 : Int64)) zej V_ra1 VL_ra1 zdd zef zbx zga zgs zhn zjd zii zhc zdf zfz zgr zcv zfs zgb zhu zhv zhk zec zhw zjw zjo zjm zkn) hZ (w108 hw) (w62 hw) (by decide) (by decide)) q1702a q1702c (g := (mkF m 7 o2 [(.int p3), (.int p2), (.ref ra1), (.ref zp)])) rfl (by rw [hml]; rfl) (Steps.refl _) (argsL := [(.ref ra1), (.int p2), (.int p3)]) (rest := []) (lenOf pd_5 rfl) rfl (Nat.le_of_eq rfl) (hb hby d11_7) (fun _ _ => ⟨rfl, e1699, (by decide : 0 + 0 ≤ _), (by decide : 0 + 0 ≤ _)⟩)
 dsimp only [Pt.U, Pt.locs, Pt.cells, Pt.slots] at X1702 l1702 y1702 z1702 st1702 hQ1702
 subst l1702 y1702 z1702
 obtain ⟨rfl, N1702q, Kq1702, Eq1702_0, Fq1702_0, Fq1702_1, Fq1702_2, Fq1702_3, Fq1702_4, Fq1702_5, Fq1702_6, Fq1702_7, Fq1702_8, Vq1702_0, VLq1702_0, Vq1702_1, VLq1702_1, Vq1702_2, VLq1702_2⟩ := hQ1702
 have K1702 : Keep h0 T1702.heap [zao, zg, zh, zp, zo, zb, zc, zd, zl, ze, ra0, zf, zn] := KC0.trans Kq1702 (allS (Or.inl (List.mem_of_getElem? (i := 3) rfl)) (allS (Or.inl (List.mem_of_getElem? (i := 2) rfl)) (allS (Or.inl (List.mem_of_getElem? (i := 1) rfl)) (allS (Or.inl (List.mem_of_getElem? (i := 0) rfl)) all0))))
 have Fn1702_7 : Fld Z T1702.heap zp cBs "hashed" "I" (.int (ohn11_7_f_hashed zbi)) := Fq1702_7
 have Fn1702_8 : Fld Z T1702.heap zp cBs "probes" "J" (.long (ohn11_7_f_probes p2 L_ra1 zx zah zbr)) := Fq1702_8
 have V1702n1 : Arv Z T1702.heap zg zbf .byte zaq (List.map Value.int (ohn11_7_L1 p2 L_ra1 zr zaa zap)) (.int 0) := Vq1702_1
 have VL1702n1 : (ohn11_7_L1 p2 L_ra1 zr zaa zap).length = (zaq).toNatClampNeg := VLq1702_1
 have V1702n2 : Arv Z T1702.heap zao zdj .long zx (List.map Value.long (ohn11_7_L2 p2 L_ra1 zx zah zr)) (.long (0 : Int64)) := Vq1702_2
 have VL1702n2 : (ohn11_7_L2 p2 L_ra1 zx zah zr).length = (zx).toNatClampNeg := VLq1702_2
 have N1702 := Fr.app N0 N1702q
 have k1703 := fun t (kk : SF p e below T1702 m 10 o2 [(.int ((zr + (1 : Int32)) - (1 : Int32)))] t) => k1701 t (st1702.trans kk)
 have k1704 := fun t (kk : SF p e below T1702 m 15 o1 [(.ref ra0), (.int (ohn11_10_l15 zr))] t) => k1703 t (by
  refine XS.istore X1702.here hx rfl (hb hby d11_10) rfl (l' := o1) rfl ?_
  refine XS.iload X1702.here hx rfl (hb hby d11_12) rfl ?_
  refine XS.aloadN X1702.here hx rfl (hb hby d11_14) rfl rfl ?_
  exact kk)
 have m1705 : ra0 ≠ zao := own_ne_oa E_ra0 (w11 hw) zhn
 have m1706 : ra0 ≠ zg := own_ne_oa E_ra0 (w11 hw) zcv
 have m1707 : ra0 ≠ zh := own_ne_oa E_ra0 (w11 hw) zdf
 have m1708 : ra0 ≠ zp := Ne.symm zij
 have f1709 := (zcc.keep Kq1702 (ninS m1708 (ninS m1707 (ninS m1706 (ninS m1705 nin0)))))
 obtain ⟨T1710, X1710, e1710, st1710⟩ := getF X1702 hx hZ hown (host := "") (Or.inl (w137 hw)) Via.refl rfl f1709 (g := (mkF m 15 o1 [(.ref ra0), (.int (ohn11_10_l15 zr))])) rfl rfl (hb hby d11_15)
 have k1711 := fun t (kk : SF p e below T1710 m 18 o1 [(.int za), (.int (ohn11_10_l15 zr))] t) => k1704 t (st1710 _ kk)
 have hc18_1712 : ¬ ((ohn11_10_l15 zr) < za) := own_oi2 hz
 have k1713 := fun t (kk : SF p e below T1710 m 25 o1 [(.ref ra0)] t) => k1711 t (by
  refine XS.icmpYes X1710.here hx rfl (pc0 := 18) (pc' := 24) rfl (hb hby d11_18) rfl (flt hc18_1712).2.1 (by decide) (by decide) ?_
  refine XS.aloadN X1710.here hx rfl (hb hby d11_24) rfl rfl ?_
  exact kk)
 obtain ⟨T1714, X1714, e1714, st1714⟩ := getF X1710 hx hZ hown (host := "") (Or.inl (w137 hw)) Via.refl e1710 f1709 (g := (mkF m 25 o1 [(.ref ra0)])) rfl rfl (hb hby d11_25)
 have k1715 := fun t (kk : SF p e below T1714 m 28 o1 [(.int za)] t) => k1713 t (st1714 _ kk)
 have k1716 := fun t (kk : SF p e below T1714 m 29 o1 [(.ref ra0), (.int za)] t) => k1715 t (by
  show SF p e below T1714 m 28 o1 [(.int za)] _
  refine XS.aloadN X1714.here hx rfl (hb hby d11_28) rfl rfl ?_
  exact kk)
 have f1717 := (zis.keep Kq1702 (ninS m1708 (ninS m1707 (ninS m1706 (ninS m1705 nin0)))))
 obtain ⟨T1718, X1718, e1718, st1718⟩ := getF X1714 hx hZ hown (host := "") (Or.inl (w90 hw)) Via.refl e1714 f1717 (g := (mkF m 29 o1 [(.ref ra0), (.int za)])) rfl rfl (hb hby d11_29)
 have k1719 := fun t (kk : SF p e below T1718 m 32 o1 [(.ref zo), (.int za)] t) => k1716 t (st1718 _ kk)
 have m1720 : zo ≠ zg := Ne.symm zet
 have m1721 : zo ≠ zh := Ne.symm zez
 have m1722 : zo ≠ zp := Ne.symm (own_ne_oa zbx (w61 hw) zen)
 have f1723 := (zen.keep Kq1702 (ninS m1722 (ninS m1721 (ninS m1720 (ninS zio nin0)))))
 have hV1724 := f1723
 obtain ⟨cl1724, Ar1724, q1724, S1724, Nn1724, H1724, G1724⟩ := hV1724
 have st1725 := X1718.arraylength hx (by rw [e1718]; exact Ar1724.1) (State.isArrayOf_alike hZ.alike Ar1724.2.1) (g := (mkF m 32 o1 [(.ref zo), (.int za)])) rfl rfl (hb hby d11_32)
 rw [len_of S1724 Nn1724] at st1725
 have k1726 := fun t (kk : SF p e below T1718 m 33 o1 [(.int zbk), (.int za)] t) => k1719 t (st1725 _ kk)
 have hc33_1727 : ¬ (za = zbk) := own_os hn hllines
 have k1728 := fun t (kk : SF p e below T1718 m 122 o1 [(.int (lcmpW q10 (-1 : Int64)))] t) => k1726 t (by
  refine XS.icmpYes X1718.here hx rfl (pc0 := 33) (pc' := 116) rfl (hb hby d11_33) rfl (feq hc33_1727).2 (by decide) (by decide) ?_
  refine XS.lload X1718.here hx rfl (hb hby d11_116) rfl ?_
  refine X1718.ldc2Long hx hown (mvT hZ (w139 hw)) (g := (mkF m 118 o1 [(.long q10)])) rfl (hb hby d11_118) _ ?_
  refine XS.lcmp X1718.here hx rfl (hb hby d11_121) rfl ?_
  exact kk)
 have hc122_1729 : q10 = (-1 : Int64) := ha
 have k1730 := fun t (kk : SF p e below T1718 m 154 o1 [(.ref ra0)] t) => k1728 t (by
  refine XS.ifYes X1718.here hx rfl (pc0 := 122) (pc' := 153) rfl (hb hby d11_122) rfl ((if0 _ _).trans (teq ((lw_eq _ _).mpr hc122_1729)).1) (by decide) (by decide) ?_
  refine XS.aloadN X1718.here hx rfl (hb hby d11_153) rfl rfl ?_
  exact kk)
 obtain ⟨T1731, X1731, e1731, st1731⟩ := getF X1718 hx hZ hown (host := "") (Or.inl (w90 hw)) Via.refl e1718 f1717 (g := (mkF m 154 o1 [(.ref ra0)])) rfl rfl (hb hby d11_154)
 have k1732 := fun t (kk : SF p e below T1731 m 157 o1 [(.ref zo)] t) => k1730 t (st1731 _ kk)
 have k1733 := fun t (kk : SF p e below T1731 m 158 o1 [(.ref ra0), (.ref zo)] t) => k1732 t (by
  refine XS.aloadN X1731.here hx rfl (hb hby d11_157) rfl rfl ?_
  exact kk)
 obtain ⟨T1734, X1734, e1734, st1734⟩ := getF X1731 hx hZ hown (host := "") (Or.inl (w137 hw)) Via.refl e1731 f1709 (g := (mkF m 158 o1 [(.ref ra0), (.ref zo)])) rfl rfl (hb hby d11_158)
 have k1735 := fun t (kk : SF p e below T1734 m 161 o1 [(.int za), (.ref zo)] t) => k1733 t (st1734 _ kk)
 have k1736 := fun t (kk : SF p e below T1734 m 163 o1 [(.long q6), (.int za), (.ref zo)] t) => k1735 t (by
  refine XS.lload X1734.here hx rfl (hb hby d11_161) rfl ?_
  exact kk)
 have hV1737 := f1723
 obtain ⟨cl1737, Ar1737, q1737, S1737, Nn1737, H1737, G1737⟩ := hV1737
 have hb1738 : ¬ za < 0 ∧ za < zbk := own_ix hn hllines
 have hin1738 : ¬ (za < 0 ∨ cl1737.slots.size ≤ (za).toNatClampNeg) := inb_of S1737 hb1738
 obtain ⟨T1738, h1738, X1738, e1738, W1738, st1738⟩ := stJ X1734 hx hZ e1734 Ar1737 (j := za) hin1738 (g := (mkF m 163 o1 [(.long q6), (.int za), (.ref zo)])) rfl rfl (hb hby d11_163)
 have hl1738 : (za).toNatClampNeg < (List.map Value.long zbw).length := by rw [List.length_map, zhd]; exact own_lt_nat hb1738.1 hb1738.2
 have V1738 : Arv Z h1738 zo zdc .long zbk (List.map Value.long (zbw.set (za).toNatClampNeg q6)) (.long (0 : Int64)) := by rw [List.map_set]; exact Arv.set Ar1737 q1737 S1737 Nn1737 H1737 G1737 rfl W1738 _ rfl hl1738
 have VL1738 : (zbw.set (za).toNatClampNeg q6).length = (zbk).toNatClampNeg := (List.length_set).trans zhd
 have K1738 : Keep h0 h1738 [zao, zg, zh, zp, zo, zb, zc, zd, zl, ze, ra0, zf, zn] := K1702.wr W1738 (Or.inl (List.mem_of_getElem? (i := 4) rfl))
 have N1738 := Fr.snoc X1738 N1702 zjh
 have k1739 := fun t (kk : SF p e below T1738 m 164 o1 [] t) => k1736 t (st1738 _ kk)
 have k1740 := fun t (kk : SF p e below T1738 m 165 o1 [(.ref ra0)] t) => k1739 t (by
  refine XS.aloadN X1738.here hx rfl (hb hby d11_164) rfl rfl ?_
  exact kk)
 have m1741 : ra0 ≠ zo := own_ne_oa E_ra0 (w11 hw) zen
 have t1742 := fun {C n d : String} {v : Value} (F : Fld Z _ ra0 C n d v) => (F.keep Kq1702 (ninS m1708 (ninS m1707 (ninS m1706 (ninS m1705 nin0))))).other W1738 (Or.inl m1741)
 have f1743 := t1742 zgq
 obtain ⟨T1744, X1744, e1744, st1744⟩ := getF X1738 hx hZ hown (host := "") (Or.inl (w87 hw)) Via.refl e1738 f1743 (g := (mkF m 165 o1 [(.ref ra0)])) rfl rfl (hb hby d11_165)
 have k1745 := fun t (kk : SF p e below T1744 m 168 o1 [(.ref zd)] t) => k1740 t (st1744 _ kk)
 have k1746 := fun t (kk : SF p e below T1744 m 173 o1 [(.int p5), (.int p4), (.ref ra1), (.ref zd)] t) => k1745 t (by
  refine XS.aloadN X1744.here hx rfl (hb hby d11_168) rfl rfl ?_
  refine XS.iload X1744.here hx rfl (hb hby d11_169) rfl ?_
  show SF p e below T1744 m 171 o1 [(.int p4), (.ref ra1), (.ref zd)] _
  refine XS.iload X1744.here hx rfl (hb hby d11_171) rfl ?_
  exact kk)
 have m1747 : zd ≠ zao := own_ne_oa zbg (w61 hw) zhn
 have m1748 : zd ≠ zg := own_ne_oa zbg (w61 hw) zcv
 have m1749 : zd ≠ zh := own_ne_oa zbg (w61 hw) zdf
 have m1750 : zd ≠ zp := Ne.symm zff
 have m1751 : zd ≠ zo := own_ne_oa zbg (w61 hw) zen
 have t1752 := fun {C n d : String} {v : Value} (F : Fld Z _ zd C n d v) => (F.keep Kq1702 (ninS m1750 (ninS m1749 (ninS m1748 (ninS m1747 nin0))))).other W1738 (Or.inl m1751)
 have f1753 := t1752 zgf
 have f1754 := t1752 zgg
 have f1755 := t1752 zgc
 have f1756 := t1752 zer
 have f1757 := t1752 zfm
 have f1758 := t1752 zgd
 have f1759 := t1752 zft
 have f1760 := t1752 zfu
 have f1761 := t1752 zfn
 have m1762 : zc ≠ zg := Ne.symm zdg
 have m1763 : zc ≠ zh := Ne.symm zdk
 have m1764 : zc ≠ zp := Ne.symm (own_ne_oa zbx (w61 hw) zck)
 have f1765 := ((zck.keep Kq1702 (ninS m1764 (ninS m1763 (ninS m1762 (ninS zgw nin0))))).other W1738 zch)
 have m1766 : zb ≠ zg := Ne.symm zcz
 have m1767 : zb ≠ zp := Ne.symm (own_ne_oa zbx (w61 hw) zcg)
 have f1768 := ((zcg.keep Kq1702 (ninS m1767 (ninS zbz (ninS m1766 (ninS zgo nin0))))).other W1738 zce)
 have m1769 : ra1 ≠ zao := Ne.symm zkg
 have m1770 : ra1 ≠ zg := Ne.symm zgh
 have m1771 : ra1 ≠ zh := Ne.symm zgm
 have m1772 : ra1 ≠ zp := Ne.symm (own_ne_oa zbx (w61 hw) V_ra1)
 have m1773 : ra1 ≠ zo := Ne.symm zhx
 have f1774 := ((V_ra1.keep Kq1702 (ninS m1772 (ninS m1771 (ninS m1770 (ninS m1769 nin0))))).other W1738 m1773)
 have f1775 := ((zbg.keep Kq1702).wr W1738)
 have Zz1776 : n0 ≤ h1738.size := (Nat.le_trans Z0 K1738.1)
 obtain ⟨cq1776, kq1776, q1776a, q1776b, q1776c⟩ := isOf hZ e1744 f1775
 obtain ⟨_, _, ⟨T1776, L1776, k1776, n1776⟩, -, X1776, ⟨Lc1776, hQ1776, l1776, y1776, z1776⟩, st1776⟩ := X1744.virtualBack hx (y := M32_) (z := M32_) hown (mvT hZ (w104 hw)) (mvT hZ (w105 hw)) (notFace_of_selects (args := #[]) (mvT hZ (w107 hw))) (mvT hZ (w107 hw)) (mvT hZ (w106 hw)) (by decide) (backOf (W := 0) (rm12m l Z a0 hw [] zd ra1 p4 p5 zj zc zbe zaj zs zb zbc zag zaf k_ra1 L_ra1 zaz zbh zbn zbl zbm h1738 n0 Zz1776 (mhs : ¬ zj < 0 ∧ zj < zaj) (mhE : ¬ (v16_ret zj zs) < 0 ∧ (v16_ret zj zs) < (60 : Int32)) (mhbb : ¬ zag < (64 : Int32)) (mhk : ¬ p4 < 0 ∧ p4 < (3 : Int32)) (mht : p5 = p4 + (1 : Int32)) f1761 f1753 f1754 f1765 zfl f1755 f1768 zfh f1774 VL_ra1 f1756 f1757 f1758 f1759 f1760 f1775 zfo zco zfv zhm) hZ (w108 hw) (w62 hw) (by decide) (by decide)) q1776a q1776c (g := (mkF m 173 o1 [(.int p5), (.int p4), (.ref ra1), (.ref zd)])) rfl (by rw [hml]; rfl) (Steps.refl _) (argsL := [(.ref ra1), (.int p4), (.int p5)]) (rest := []) (lenOf pd_5 rfl) rfl (Nat.le_of_eq rfl) (hb hby d11_173) (fun _ _ => ⟨rfl, e1744, (by decide : 0 + 0 ≤ _), (by decide : 0 + 0 ≤ _)⟩)
 dsimp only [Pt.U, Pt.locs, Pt.cells, Pt.slots] at X1776 l1776 y1776 z1776 st1776 hQ1776
 subst l1776 y1776 z1776
 obtain ⟨rfl, N1776q, Kq1776, Eq1776_0, Fq1776_0, Fq1776_1, Fq1776_2, Fq1776_3, Fq1776_4, Fq1776_5, Fq1776_6, Fq1776_7, Fq1776_8, Vq1776_0, VLq1776_0, Vq1776_1, VLq1776_1⟩ := hQ1776
 have K1776 : Keep h0 T1776.heap [zao, zg, zh, zp, zo, zb, zc, zd, zl, ze, ra0, zf, zn] := K1738.trans Kq1776 (allS (Or.inl (List.mem_of_getElem? (i := 7) rfl)) (allS (Or.inl (List.mem_of_getElem? (i := 6) rfl)) (allS (Or.inl (List.mem_of_getElem? (i := 5) rfl)) all0)))
 have Fn1776_6 : Fld Z T1776.heap zd cBs "size" "I" (.int (ohn11_173_f_size zj)) := Fq1776_6
 have V1776n : Arv Z T1776.heap zc zbe .int zaj (List.map Value.int (ohn11_173_L0 p4 p5 zj zs)) (.int 0) := Vq1776_0
 have VL1776n : (ohn11_173_L0 p4 p5 zj zs).length = (zaj).toNatClampNeg := VLq1776_0
 have V1776n1 : Arv Z T1776.heap zb zbc .byte zag (List.map Value.int (ohn11_173_L1 p4 L_ra1 zj zs zaf)) (.int 0) := Vq1776_1
 have VL1776n1 : (ohn11_173_L1 p4 L_ra1 zj zs zaf).length = (zag).toNatClampNeg := VLq1776_1
 have N1776 := Fr.app N1738 N1776q
 have k1777 := fun t (kk : SF p e below T1776 m 176 o1 [(.int zj)] t) => k1746 t (st1776.trans kk)
 have k1778 := fun t (kk : SF p e below T1776 m 178 o1 [(.ref ra0)] t) => k1777 t (by
  refine XS.pop X1776.here hx rfl (hb hby d11_176) rfl rfl ?_
  refine XS.aloadN X1776.here hx rfl (hb hby d11_177) rfl rfl ?_
  exact kk)
 have m1779 : ra0 ≠ zb := own_ne_oa E_ra0 (w11 hw) zcg
 have m1780 : ra0 ≠ zc := own_ne_oa E_ra0 (w11 hw) zck
 have m1781 : ra0 ≠ zd := Ne.symm zgi
 have t1782 := fun {C n d : String} {v : Value} (F : Fld Z _ ra0 C n d v) => ((F.keep Kq1702 (ninS m1708 (ninS m1707 (ninS m1706 (ninS m1705 nin0))))).other W1738 (Or.inl m1741)).keep Kq1776 (ninS m1781 (ninS m1780 (ninS m1779 nin0)))
 have f1783 := t1782 zit
 obtain ⟨T1784, X1784, e1784, st1784⟩ := getF X1776 hx hZ hown (host := "") (Or.inl (w92 hw)) Via.refl rfl f1783 (g := (mkF m 178 o1 [(.ref ra0)])) rfl rfl (hb hby d11_178)
 have k1785 := fun t (kk : SF p e below T1784 m 181 o1 [(.ref zl)] t) => k1778 t (st1784 _ kk)
 have k1786 := fun t (kk : SF p e below T1784 m 182 o1 [(.ref ra0), (.ref zl)] t) => k1785 t (by
  refine XS.aloadN X1784.here hx rfl (hb hby d11_181) rfl rfl ?_
  exact kk)
 have t1787 := fun {C n d : String} {v : Value} (F : Fld Z _ ra0 C n d v) => (F.other W1738 (Or.inl m1741)).keep Kq1776 (ninS m1781 (ninS m1780 (ninS m1779 nin0)))
 have f1788 := t1787 f1709
 obtain ⟨T1789, X1789, e1789, st1789⟩ := getF X1784 hx hZ hown (host := "") (Or.inl (w137 hw)) Via.refl e1784 f1788 (g := (mkF m 182 o1 [(.ref ra0), (.ref zl)])) rfl rfl (hb hby d11_182)
 have k1790 := fun t (kk : SF p e below T1789 m 185 o1 [(.int za), (.ref zl)] t) => k1786 t (st1789 _ kk)
 have k1791 := fun t (kk : SF p e below T1789 m 187 o1 [(.ref ra7), (.int za), (.ref zl)] t) => k1790 t (by
  refine XS.aload X1789.here hx rfl (hb hby d11_185) rfl rfl ?_
  exact kk)
 have m1792 : ra7 ≠ zao := Ne.symm zkh
 have m1793 : ra7 ≠ zg := Ne.symm zgj
 have m1794 : ra7 ≠ zh := Ne.symm zgn
 have m1795 : ra7 ≠ zp := Ne.symm zin
 have m1796 : ra7 ≠ zo := Ne.symm zhy
 have m1797 : ra7 ≠ zb := Ne.symm zeu
 have m1798 : ra7 ≠ zc := Ne.symm zfa
 have m1799 : ra7 ≠ zd := Ne.symm zgk
 have t1800 := fun {C n d : String} {v : Value} (F : Fld Z _ ra7 C n d v) => ((F.keep Kq1702 (ninS m1795 (ninS m1794 (ninS m1793 (ninS m1792 nin0))))).other W1738 (Or.inl m1796)).keep Kq1776 (ninS m1799 (ninS m1798 (ninS m1797 nin0)))
 have f1801 := t1800 zji
 have f1802 := (((E_ra7.keep Kq1702).wr W1738).keep Kq1776)
 have Zz1803 : n0 ≤ T1776.heap.size := (Nat.le_trans Z0 K1776.1)
 obtain ⟨cq1803, kq1803, q1803a, q1803b, q1803c⟩ := isOf hZ e1789 f1802
 obtain ⟨_, _, ⟨T1803, L1803, k1803, n1803⟩, -, X1803, ⟨Lc1803, hQ1803, l1803, y1803, z1803⟩, st1803⟩ := X1789.virtualBackUp hx (x := M34_) (y := M18_) hown (mvT hZ (w140 hw)) (mvT hZ (w141 hw)) (mvT hZ (w142 hw)) (by decide) (mvT hZ (w144 hw)) (mvT hZ (w143 hw)) (backOf (W := 2) (rm17 l Z a0 hw [] ra7 zk T1776.heap n0 Zz1803 f1802 f1801) hZ (w146 hw) (w145 hw) (by decide) (by decide)) q1803a q1803c (g := (mkF m 187 o1 [(.ref ra7), (.int za), (.ref zl)])) rfl (by rw [hml]; rfl) (Steps.refl _) (argsL := []) (rest := [(.int za), (.ref zl)]) (lenOf pd_4 rfl) rfl (Nat.le_of_eq rfl) (hb hby d11_187) (fun _ _ => ⟨rfl, e1789, (by decide : 0 + 0 ≤ _), (by decide : 0 + 0 ≤ _)⟩)
 dsimp only [Pt.U, Pt.locs, Pt.cells, Pt.slots] at X1803 l1803 y1803 z1803 st1803 hQ1803
 subst l1803 y1803 z1803
 obtain ⟨rfl, N1803q, e1803⟩ := hQ1803
 have N1803 := Fr.app N1776 N1803q
 have k1804 := fun t (kk : SF p e below T1803 m 190 o1 [(.int zk), (.int za), (.ref zl)] t) => k1791 t (st1803.trans kk)
 have k1805 := fun t (kk : SF p e below T1803 m 191 o1 [(.int (zk.toInt8.toInt32)), (.int za), (.ref zl)] t) => k1804 t (by
  refine XS.i2b X1803.here hx rfl (hb hby d11_190) rfl ?_
  exact kk)
 have m1806 : zl ≠ zg := Ne.symm zev
 have m1807 : zl ≠ zh := Ne.symm zfb
 have m1808 : zl ≠ zp := Ne.symm (own_ne_oa zbx (w61 hw) zeo)
 have m1809 : zl ≠ zb := Ne.symm zdu
 have m1810 : zl ≠ zc := Ne.symm zdx
 have m1811 : zl ≠ zd := Ne.symm (own_ne_oa zbg (w61 hw) zeo)
 have f1812 := (((zeo.keep Kq1702 (ninS m1808 (ninS m1807 (ninS m1806 (ninS zip nin0))))).other W1738 zdw).keep Kq1776 (ninS m1811 (ninS m1810 (ninS m1809 nin0))))
 have hV1813 := f1812
 obtain ⟨cl1813, Ar1813, q1813, S1813, Nn1813, H1813, G1813⟩ := hV1813
 have hb1814 : ¬ za < 0 ∧ za < zbo := own_ix hn hlkinds
 have hin1814 : ¬ (za < 0 ∨ cl1813.slots.size ≤ (za).toNatClampNeg) := inb_of S1813 hb1814
 obtain ⟨T1814, h1814, X1814, e1814, W1814, st1814⟩ := stB X1803 hx hZ e1803 Ar1813 (j := za) hin1814 (g := (mkF m 191 o1 [(.int (zk.toInt8.toInt32)), (.int za), (.ref zl)])) rfl rfl (hb hby d11_191)
 have hl1814 : (za).toNatClampNeg < (List.map Value.int zbj).length := by rw [List.length_map, zhe]; exact own_lt_nat hb1814.1 hb1814.2
 have V1814r : Arv Z h1814 zl zcq .byte zbo (List.map Value.int (zbj.set (za).toNatClampNeg (((zk.toInt8.toInt32)).toInt8.toInt32))) (.int 0) := by rw [List.map_set]; exact Arv.set Ar1813 q1813 S1813 Nn1813 H1813 G1813 (fits_nar_byte _) W1814 _ rfl hl1814
 have V1814 : Arv Z h1814 zl zcq .byte zbo (List.map Value.int (ohn11_191_L za zk zbj)) (.int 0) := V1814r
 have VL1814 : (ohn11_191_L za zk zbj).length = (zbo).toNatClampNeg := (List.length_set).trans zhe
 have K1814 : Keep h0 h1814 [zao, zg, zh, zp, zo, zb, zc, zd, zl, ze, ra0, zf, zn] := K1776.wr W1814 (Or.inl (List.mem_of_getElem? (i := 8) rfl))
 have N1814 := Fr.snoc X1814 N1803 zjj
 have k1815 := fun t (kk : SF p e below T1814 m 192 o1 [] t) => k1805 t (st1814 _ kk)
 have k1816 := fun t (kk : SF p e below T1814 m 193 o1 [(.ref ra0)] t) => k1815 t (by
  refine XS.aloadN X1814.here hx rfl (hb hby d11_192) rfl rfl ?_
  exact kk)
 have m1817 : ra0 ≠ zl := own_ne_oa E_ra0 (w11 hw) zeo
 have t1818 := fun {C n d : String} {v : Value} (F : Fld Z _ ra0 C n d v) => (((F.keep Kq1702 (ninS m1708 (ninS m1707 (ninS m1706 (ninS m1705 nin0))))).other W1738 (Or.inl m1741)).keep Kq1776 (ninS m1781 (ninS m1780 (ninS m1779 nin0)))).other W1814 (Or.inl m1817)
 have f1819 := t1818 zha
 obtain ⟨T1820, X1820, e1820, st1820⟩ := getF X1814 hx hZ hown (host := "") (Or.inl (w48 hw)) Via.refl e1814 f1819 (g := (mkF m 193 o1 [(.ref ra0)])) rfl rfl (hb hby d11_193)
 have k1821 := fun t (kk : SF p e below T1820 m 196 o1 [(.ref ze)] t) => k1816 t (st1820 _ kk)
 have k1822 := fun t (kk : SF p e below T1820 m 198 o1 [(.ref ra7), (.ref ze)] t) => k1821 t (by
  refine XS.aload X1820.here hx rfl (hb hby d11_196) rfl rfl ?_
  exact kk)
 have m1823 : ra7 ≠ zl := Ne.symm zhz
 have f1824 := (f1801.other W1814 (Or.inl m1823))
 have f1825 := (f1802.wr W1814)
 have Zz1826 : n0 ≤ h1814.size := (Nat.le_trans Z0 K1814.1)
 obtain ⟨cq1826, kq1826, q1826a, q1826b, q1826c⟩ := isOf hZ e1820 f1825
 obtain ⟨_, _, ⟨T1826, L1826, k1826, n1826⟩, -, X1826, ⟨Lc1826, hQ1826, l1826, y1826, z1826⟩, st1826⟩ := X1820.virtualBackUp hx (x := M34_) (y := M18_) hown (mvT hZ (w140 hw)) (mvT hZ (w141 hw)) (mvT hZ (w142 hw)) (by decide) (mvT hZ (w144 hw)) (mvT hZ (w143 hw)) (backOf (W := 1) (rm17 l Z a0 hw [] ra7 zk h1814 n0 Zz1826 f1825 f1824) hZ (w146 hw) (w145 hw) (by decide) (by decide)) q1826a q1826c (g := (mkF m 198 o1 [(.ref ra7), (.ref ze)])) rfl (by rw [hml]; rfl) (Steps.refl _) (argsL := []) (rest := [(.ref ze)]) (lenOf pd_4 rfl) rfl (Nat.le_of_eq rfl) (hb hby d11_198) (fun _ _ => ⟨rfl, e1820, (by decide : 0 + 0 ≤ _), (by decide : 0 + 0 ≤ _)⟩)
 dsimp only [Pt.U, Pt.locs, Pt.cells, Pt.slots] at X1826 l1826 y1826 z1826 st1826 hQ1826
 subst l1826 y1826 z1826
 obtain ⟨rfl, N1826q, e1826⟩ := hQ1826
 have N1826 := Fr.app N1814 N1826q
 have k1827 := fun t (kk : SF p e below T1826 m 201 o1 [(.int zk), (.ref ze)] t) => k1822 t (st1826.trans kk)
 have k1828 := fun t (kk : SF p e below T1826 m 202 o1 [(.int zk), (.ref ze), (.int zk), (.ref ze)] t) => k1827 t (by
  jvm_step X1826.here [X1826.here.top, hx, (hb hby d11_201), Value.category]
  exact kk)
 have m1829 : ze ≠ zg := Ne.symm zed
 have m1830 : ze ≠ zh := Ne.symm zeg
 have m1831 : ze ≠ zp := Ne.symm (own_ne_oa zbx (w61 hw) zct)
 have m1832 : ze ≠ zb := Ne.symm zdh
 have m1833 : ze ≠ zc := Ne.symm zdl
 have m1834 : ze ≠ zd := Ne.symm (own_ne_oa zbg (w61 hw) zct)
 have f1835 := ((((zct.keep Kq1702 (ninS m1831 (ninS m1830 (ninS m1829 (ninS zhq nin0))))).other W1738 zcx).keep Kq1776 (ninS m1834 (ninS m1833 (ninS m1832 nin0)))).other W1814 zcy)
 have hV1836 := f1835
 obtain ⟨cl1836, Ar1836, q1836, S1836, Nn1836, H1836, G1836⟩ := hV1836
 have hb1837 : ¬ zk < 0 ∧ zk < (5 : Int32) := ho
 have hin1837 : ¬ (zk < 0 ∨ cl1836.slots.size ≤ (zk).toNatClampNeg) := inb_of S1836 hb1837
 have hat1837 : cl1836.slots[(zk).toNatClampNeg]? = some (.int (ohn11_202_at zk zy)) := Has.at H1836 hin1837 (own_getD_int _ _ _)
 have st1837 := X1826.iaload hx (j := zk) (v := (.int (ohn11_202_at zk zy))) (by rw [e1826]; exact Ar1836.1) (State.isArrayOf_alike hZ.alike Ar1836.2.1) Ar1836.2.2 hin1837 hat1837 (g := (mkF m 202 o1 [(.int zk), (.ref ze), (.int zk), (.ref ze)])) rfl rfl (hb hby d11_202)
 have k1838 := fun t (kk : SF p e below T1826 m 203 o1 [(.int (ohn11_202_at zk zy)), (.int zk), (.ref ze)] t) => k1828 t (st1837 _ kk)
 have k1839 := fun t (kk : SF p e below T1826 m 205 o1 [(.int ((ohn11_202_at zk zy) + (1 : Int32))), (.int zk), (.ref ze)] t) => k1838 t (by
  refine XS.iconst X1826.here hx rfl (hb hby d11_203) ?_
  refine XS.iadd X1826.here hx rfl (hb hby d11_204) rfl ?_
  exact kk)
 have hV1840 := f1835
 obtain ⟨cl1840, Ar1840, q1840, S1840, Nn1840, H1840, G1840⟩ := hV1840
 have hb1841 : ¬ zk < 0 ∧ zk < (5 : Int32) := ho
 have hin1841 : ¬ (zk < 0 ∨ cl1840.slots.size ≤ (zk).toNatClampNeg) := inb_of S1840 hb1841
 obtain ⟨T1841, h1841, X1841, e1841, W1841, st1841⟩ := stI X1826 hx hZ e1826 Ar1840 (j := zk) hin1841 (g := (mkF m 205 o1 [(.int ((ohn11_202_at zk zy) + (1 : Int32))), (.int zk), (.ref ze)])) rfl rfl (hb hby d11_205)
 have hl1841 : (zk).toNatClampNeg < (List.map Value.int zy).length := by rw [List.length_map, zfg]; exact own_lt_nat hb1841.1 hb1841.2
 have V1841r : Arv Z h1841 ze zbu .int 5 (List.map Value.int (zy.set (zk).toNatClampNeg ((ohn11_202_at zk zy) + (1 : Int32)))) (.int 0) := by rw [List.map_set]; exact Arv.set Ar1840 q1840 S1840 Nn1840 H1840 G1840 rfl W1841 _ rfl hl1841
 have V1841 : Arv Z h1841 ze zbu .int 5 (List.map Value.int (ohn11_205_L zk zy)) (.int 0) := V1841r
 have VL1841 : (ohn11_205_L zk zy).length = ((5 : Int32)).toNatClampNeg := (List.length_set).trans zfg
 have K1841 : Keep h0 h1841 [zao, zg, zh, zp, zo, zb, zc, zd, zl, ze, ra0, zf, zn] := K1814.wr W1841 (Or.inl (List.mem_of_getElem? (i := 9) rfl))
 have N1841 := Fr.snoc X1841 N1826 zia
 have k1842 := fun t (kk : SF p e below T1841 m 206 o1 [] t) => k1839 t (st1841 _ kk)
 have k1843 := fun t (kk : SF p e below T1841 m 208 o1 [.null, (.ref ra0)] t) => k1842 t (by
  refine XS.aloadN X1841.here hx rfl (hb hby d11_206) rfl rfl ?_
  show SF p e below T1841 m 207 o1 [(.ref ra0)] _
  refine XS.aconstNull X1841.here hx rfl (hb hby d11_207) ?_
  exact kk)
 have f1844 := (((((E_ra0.keep Kq1702).wr W1738).keep Kq1776).wr W1814).wr W1841)
 have m1845 : ra0 ≠ ze := own_ne_oa E_ra0 (w11 hw) zct
 have t1846 := fun {C n d : String} {v : Value} (F : Fld Z _ ra0 C n d v) => ((((F.keep Kq1702 (ninS m1708 (ninS m1707 (ninS m1706 (ninS m1705 nin0))))).other W1738 (Or.inl m1741)).keep Kq1776 (ninS m1781 (ninS m1780 (ninS m1779 nin0)))).other W1814 (Or.inl m1817)).other W1841 (Or.inl m1845)
 have f1847 := t1846 zih
 obtain ⟨T1848, h1848, X1848, e1848, W1848, st1848⟩ := putF X1841 hx hZ hown (host := "") (Or.inl (w149 hw)) Via.refl e1841 f1847 f1844 (Or.inl (w150 hw)) (w11 hw) (ty := (.array (.array .int))) (by decide) rfl rfl (g := (mkF m 208 o1 [.null, (.ref ra0)])) rfl rfl (hb hby d11_208)
 have Fw1848 := f1847.same W1848
 have K1848 : Keep h0 h1848 [zao, zg, zh, zp, zo, zb, zc, zd, zl, ze, ra0, zf, zn] := K1841.wr W1848 (Or.inl (List.mem_of_getElem? (i := 10) rfl))
 have N1848 := Fr.snoc X1848 N1841 g_ra0
 have k1849 := fun t (kk : SF p e below T1848 m 211 o1 [] t) => k1843 t (st1848 _ kk)
 have k1850 := fun t (kk : SF p e below T1848 m 212 o1 [(.ref ra0)] t) => k1849 t (by
  refine XS.aloadN X1848.here hx rfl (hb hby d11_211) rfl rfl ?_
  exact kk)
 have f1851 := ((((((zfr.keep Kq1702 (ninS m1708 (ninS m1707 (ninS m1706 (ninS m1705 nin0))))).other W1738 (Or.inl m1741)).keep Kq1776 (ninS m1781 (ninS m1780 (ninS m1779 nin0)))).other W1814 (Or.inl m1817)).other W1841 (Or.inl m1845)).other W1848 (Or.inr (slot_ne (Or.inl (w95 hw)) (Or.inl (w150 hw)) (by decide) (t := (.array .long)) (t' := (.array (.array .int))) (by decide) (by decide))))
 obtain ⟨T1852, X1852, e1852, st1852⟩ := getF X1848 hx hZ hown (host := "") (Or.inl (w94 hw)) Via.refl e1848 f1851 (g := (mkF m 212 o1 [(.ref ra0)])) rfl rfl (hb hby d11_212)
 have k1853 := fun t (kk : SF p e below T1852 m 215 o1 [(.ref zf)] t) => k1850 t (st1852 _ kk)
 have k1854 := fun t (kk : SF p e below T1852 m 216 o1 [(.ref ra0), (.ref zf)] t) => k1853 t (by
  refine XS.aloadN X1852.here hx rfl (hb hby d11_215) rfl rfl ?_
  exact kk)
 have f1855 := (((f1788.other W1814 (Or.inl m1817)).other W1841 (Or.inl m1845)).other W1848 (Or.inr (slot_ne (Or.inl (w138 hw)) (Or.inl (w150 hw)) (by decide) (t := .int) (t' := (.array (.array .int))) (by decide) (by decide))))
 obtain ⟨T1856, X1856, e1856, st1856⟩ := getF X1852 hx hZ hown (host := "") (Or.inl (w137 hw)) Via.refl e1852 f1855 (g := (mkF m 216 o1 [(.ref ra0), (.ref zf)])) rfl rfl (hb hby d11_216)
 have k1857 := fun t (kk : SF p e below T1856 m 219 o1 [(.int za), (.ref zf)] t) => k1854 t (st1856 _ kk)
 have k1858 := fun t (kk : SF p e below T1856 m 221 o1 [(.long q8), (.int za), (.ref zf)] t) => k1857 t (by
  refine XS.lload X1856.here hx rfl (hb hby d11_219) rfl ?_
  exact kk)
 have m1859 : zf ≠ zg := Ne.symm zee
 have m1860 : zf ≠ zh := Ne.symm zeh
 have m1861 : zf ≠ zp := Ne.symm (own_ne_oa zbx (w61 hw) zcm)
 have m1862 : zf ≠ zo := Ne.symm zfc
 have m1863 : zf ≠ zb := Ne.symm zdi
 have m1864 : zf ≠ zc := Ne.symm zdm
 have m1865 : zf ≠ zd := Ne.symm (own_ne_oa zbg (w61 hw) zcm)
 have m1866 : zf ≠ zl := Ne.symm zfd
 have m1867 : zf ≠ ze := Ne.symm zei
 have m1868 : zf ≠ ra0 := Ne.symm (own_ne_oa E_ra0 (w11 hw) zcm)
 have f1869 := ((((((zcm.keep Kq1702 (ninS m1861 (ninS m1860 (ninS m1859 (ninS zhr nin0))))).other W1738 m1862).keep Kq1776 (ninS m1865 (ninS m1864 (ninS m1863 nin0)))).other W1814 m1866).other W1841 m1867).other W1848 m1868)
 have hV1870 := f1869
 obtain ⟨cl1870, Ar1870, q1870, S1870, Nn1870, H1870, G1870⟩ := hV1870
 have hb1871 : ¬ za < 0 ∧ za < zav := own_ix hn hlquantities
 have hin1871 : ¬ (za < 0 ∨ cl1870.slots.size ≤ (za).toNatClampNeg) := inb_of S1870 hb1871
 obtain ⟨T1871, h1871, X1871, e1871, W1871, st1871⟩ := stJ X1856 hx hZ e1856 Ar1870 (j := za) hin1871 (g := (mkF m 221 o1 [(.long q8), (.int za), (.ref zf)])) rfl rfl (hb hby d11_221)
 have hl1871 : (za).toNatClampNeg < (List.map Value.long zas).length := by rw [List.length_map, zey]; exact own_lt_nat hb1871.1 hb1871.2
 have V1871 : Arv Z h1871 zf zbs .long zav (List.map Value.long (zas.set (za).toNatClampNeg q8)) (.long (0 : Int64)) := by rw [List.map_set]; exact Arv.set Ar1870 q1870 S1870 Nn1870 H1870 G1870 rfl W1871 _ rfl hl1871
 have VL1871 : (zas.set (za).toNatClampNeg q8).length = (zav).toNatClampNeg := (List.length_set).trans zey
 have K1871 : Keep h0 h1871 [zao, zg, zh, zp, zo, zb, zc, zd, zl, ze, ra0, zf, zn] := K1848.wr W1871 (Or.inl (List.mem_of_getElem? (i := 11) rfl))
 have N1871 := Fr.snoc X1871 N1848 zib
 have k1872 := fun t (kk : SF p e below T1871 m 222 o1 [] t) => k1858 t (st1871 _ kk)
 have k1873 := fun t (kk : SF p e below T1871 m 223 o1 [(.ref ra0)] t) => k1872 t (by
  refine XS.aloadN X1871.here hx rfl (hb hby d11_222) rfl rfl ?_
  exact kk)
 have m1874 : ra0 ≠ zf := Ne.symm m1868
 have f1875 := (((((((zig.keep Kq1702 (ninS m1708 (ninS m1707 (ninS m1706 (ninS m1705 nin0))))).other W1738 (Or.inl m1741)).keep Kq1776 (ninS m1781 (ninS m1780 (ninS m1779 nin0)))).other W1814 (Or.inl m1817)).other W1841 (Or.inl m1845)).other W1848 (Or.inr (slot_ne (Or.inl (w97 hw)) (Or.inl (w150 hw)) (by decide) (t := (.array .long)) (t' := (.array (.array .int))) (by decide) (by decide)))).other W1871 (Or.inl m1874))
 obtain ⟨T1876, X1876, e1876, st1876⟩ := getF X1871 hx hZ hown (host := "") (Or.inl (w96 hw)) Via.refl e1871 f1875 (g := (mkF m 223 o1 [(.ref ra0)])) rfl rfl (hb hby d11_223)
 have k1877 := fun t (kk : SF p e below T1876 m 226 o1 [(.ref zn)] t) => k1873 t (st1876 _ kk)
 have k1878 := fun t (kk : SF p e below T1876 m 227 o1 [(.ref ra0), (.ref zn)] t) => k1877 t (by
  refine XS.aloadN X1876.here hx rfl (hb hby d11_226) rfl rfl ?_
  exact kk)
 have f1879 := (f1855.other W1871 (Or.inl m1874))
 obtain ⟨T1880, X1880, e1880, st1880⟩ := getF X1876 hx hZ hown (host := "") (Or.inl (w137 hw)) Via.refl e1876 f1879 (g := (mkF m 227 o1 [(.ref ra0), (.ref zn)])) rfl rfl (hb hby d11_227)
 have k1881 := fun t (kk : SF p e below T1880 m 230 o1 [(.int za), (.ref zn)] t) => k1878 t (st1880 _ kk)
 have k1882 := fun t (kk : SF p e below T1880 m 232 o1 [(.long q9), (.int za), (.ref zn)] t) => k1881 t (by
  refine XS.lload X1880.here hx rfl (hb hby d11_230) rfl ?_
  exact kk)
 have m1883 : zn ≠ zg := Ne.symm zes
 have m1884 : zn ≠ zh := Ne.symm zew
 have m1885 : zn ≠ zp := Ne.symm (own_ne_oa zbx (w61 hw) zeb)
 have m1886 : zn ≠ zo := Ne.symm zfp
 have m1887 : zn ≠ zb := Ne.symm zds
 have m1888 : zn ≠ zc := Ne.symm zdv
 have m1889 : zn ≠ zd := Ne.symm (own_ne_oa zbg (w61 hw) zeb)
 have m1890 : zn ≠ zl := Ne.symm zfq
 have m1891 : zn ≠ ze := Ne.symm zex
 have m1892 : zn ≠ ra0 := Ne.symm (own_ne_oa E_ra0 (w11 hw) zeb)
 have f1893 := (((((((zeb.keep Kq1702 (ninS m1885 (ninS m1884 (ninS m1883 (ninS zie nin0))))).other W1738 m1886).keep Kq1776 (ninS m1889 (ninS m1888 (ninS m1887 nin0)))).other W1814 m1890).other W1841 m1891).other W1848 m1892).other W1871 zcu)
 have hV1894 := f1893
 obtain ⟨cl1894, Ar1894, q1894, S1894, Nn1894, H1894, G1894⟩ := hV1894
 have hb1895 : ¬ za < 0 ∧ za < zbp := own_ix hn hlprices
 have hin1895 : ¬ (za < 0 ∨ cl1894.slots.size ≤ (za).toNatClampNeg) := inb_of S1894 hb1895
 obtain ⟨T1895, h1895, X1895, e1895, W1895, st1895⟩ := stJ X1880 hx hZ e1880 Ar1894 (j := za) hin1895 (g := (mkF m 232 o1 [(.long q9), (.int za), (.ref zn)])) rfl rfl (hb hby d11_232)
 have hl1895 : (za).toNatClampNeg < (List.map Value.long zbt).length := by rw [List.length_map, zgv]; exact own_lt_nat hb1895.1 hb1895.2
 have V1895 : Arv Z h1895 zn zcs .long zbp (List.map Value.long (zbt.set (za).toNatClampNeg q9)) (.long (0 : Int64)) := by rw [List.map_set]; exact Arv.set Ar1894 q1894 S1894 Nn1894 H1894 G1894 rfl W1895 _ rfl hl1895
 have VL1895 : (zbt.set (za).toNatClampNeg q9).length = (zbp).toNatClampNeg := (List.length_set).trans zgv
 have K1895 : Keep h0 h1895 [zao, zg, zh, zp, zo, zb, zc, zd, zl, ze, ra0, zf, zn] := K1871.wr W1895 (Or.inl (List.mem_of_getElem? (i := 12) rfl))
 have N1895 := Fr.snoc X1895 N1871 ziy
 have k1896 := fun t (kk : SF p e below T1895 m 233 o1 [] t) => k1882 t (st1895 _ kk)
 have k1897 := fun t (kk : SF p e below T1895 m 239 o1 [(.int (lcmpW q9 (-1 : Int64)))] t) => k1896 t (by
  refine XS.lload X1895.here hx rfl (hb hby d11_233) rfl ?_
  refine X1895.ldc2Long hx hown (mvT hZ (w139 hw)) (g := (mkF m 235 o1 [(.long q9)])) rfl (hb hby d11_235) _ ?_
  refine XS.lcmp X1895.here hx rfl (hb hby d11_238) rfl ?_
  exact kk)
 have hc239_1898 : q9 = (-1 : Int64) := hp
 have k1899 := fun t (kk : SF p e below T1895 m 300 o1 [(.ref ra0)] t) => k1897 t (by
  refine XS.ifYes X1895.here hx rfl (pc0 := 239) (pc' := 299) rfl (hb hby d11_239) rfl ((if0 _ _).trans (teq ((lw_eq _ _).mpr hc239_1898)).1) (by decide) (by decide) ?_
  refine XS.aloadN X1895.here hx rfl (hb hby d11_299) rfl rfl ?_
  exact kk)
 have m1900 : ra0 ≠ zn := Ne.symm m1892
 have f1901 := ((((((((zic.keep Kq1702 (ninS m1708 (ninS m1707 (ninS m1706 (ninS m1705 nin0))))).other W1738 (Or.inl m1741)).keep Kq1776 (ninS m1781 (ninS m1780 (ninS m1779 nin0)))).other W1814 (Or.inl m1817)).other W1841 (Or.inl m1845)).other W1848 (Or.inr (slot_ne (Or.inl (w152 hw)) (Or.inl (w150 hw)) (by decide) (t := (.array .long)) (t' := (.array (.array .int))) (by decide) (by decide)))).other W1871 (Or.inl m1874)).other W1895 (Or.inl m1900))
 obtain ⟨T1902, X1902, e1902, st1902⟩ := getF X1895 hx hZ hown (host := "") (Or.inl (w151 hw)) Via.refl e1895 f1901 (g := (mkF m 300 o1 [(.ref ra0)])) rfl rfl (hb hby d11_300)
 have k1903 := fun t (kk : SF p e below T1902 m 303 o1 [.null] t) => k1899 t (st1902 _ kk)
 have k1904 := fun t (kk : SF p e below T1902 m 319 o1 [(.ref ra0), (.ref ra0)] t) => k1903 t (by
  show SF p e below T1902 m 303 o1 [.null] _
  refine XS.ifnullYes X1902.here hx rfl (pc0 := 303) (pc' := 317) rfl (hb hby d11_303) rfl (by decide) (by decide) ?_
  show SF p e below T1902 m 317 o1 [] _
  refine XS.aloadN X1902.here hx rfl (hb hby d11_317) rfl rfl ?_
  refine XS.dup X1902.here hx rfl (hb hby d11_318) rfl rfl ?_
  exact kk)
 have f1905 := (f1879.other W1895 (Or.inl m1900))
 obtain ⟨T1906, X1906, e1906, st1906⟩ := getF X1902 hx hZ hown (host := "") (Or.inl (w137 hw)) Via.refl e1902 f1905 (g := (mkF m 319 o1 [(.ref ra0), (.ref ra0)])) rfl rfl (hb hby d11_319)
 have k1907 := fun t (kk : SF p e below T1906 m 322 o1 [(.int za), (.ref ra0)] t) => k1904 t (st1906 _ kk)
 have k1908 := fun t (kk : SF p e below T1906 m 324 o1 [(.int (za + (1 : Int32))), (.ref ra0)] t) => k1907 t (by
  refine XS.iconst X1906.here hx rfl (hb hby d11_322) ?_
  refine XS.iadd X1906.here hx rfl (hb hby d11_323) rfl ?_
  exact kk)
 have f1909 := (((f1844.wr W1848).wr W1871).wr W1895)
 obtain ⟨T1910, h1910, X1910, e1910, W1910, st1910⟩ := putF X1906 hx hZ hown (host := "") (Or.inl (w137 hw)) Via.refl e1906 f1905 f1909 (Or.inl (w138 hw)) (w11 hw) (ty := .int) (by decide) rfl rfl (g := (mkF m 324 o1 [(.int (za + (1 : Int32))), (.ref ra0)])) rfl rfl (hb hby d11_324)
 have Fw1910 := f1905.same W1910
 have K1910 : Keep h0 h1910 [zao, zg, zh, zp, zo, zb, zc, zd, zl, ze, ra0, zf, zn] := K1895.wr W1910 (Or.inl (List.mem_of_getElem? (i := 10) rfl))
 have N1910 := Fr.snoc X1910 N1895 g_ra0
 have k1911 := fun t (kk : SF p e below T1910 m 327 o1 [] t) => k1908 t (st1910 _ kk)
 have k1912 := fun t (kk : SF p e below T1910 m 329 o1 [(.int (ohn11_10_l15 zr))] t) => k1911 t (by
  refine XS.iload X1910.here hx rfl (hb hby d11_327) rfl ?_
  exact kk)
 obtain ⟨fs, hr, hrun, hended, hW, hsame⟩ := X1910.leave (v := some (.int (ohn11_10_l15 zr))) (fun h => by rw [Bd.returns] at h; cases h) hlk
 have f1913 := ((((((((Eq1702_0.wr W1738).keep Kq1776).wr W1814).wr W1841).wr W1848).wr W1871).wr W1895).wr W1910)
 have f1914 := ((((((Eq1776_0.wr W1814).wr W1841).wr W1848).wr W1871).wr W1895).wr W1910)
 have f1915 := (f1909.wr W1910)
 have m1916 : zp ≠ zo := Ne.symm m1722
 have m1917 : zp ≠ zb := Ne.symm m1767
 have m1918 : zp ≠ zc := Ne.symm m1764
 have m1919 : zp ≠ zd := Ne.symm m1750
 have m1920 : zp ≠ zl := Ne.symm m1808
 have m1921 : zp ≠ ze := Ne.symm m1831
 have m1922 : zp ≠ ra0 := Ne.symm m1708
 have m1923 : zp ≠ zf := Ne.symm m1861
 have m1924 : zp ≠ zn := Ne.symm m1885
 have t1925 := fun {C n d : String} {v : Value} (F : Fld Z _ zp C n d v) => (((((((F.other W1738 (Or.inl m1916)).keep Kq1776 (ninS m1919 (ninS m1918 (ninS m1917 nin0)))).other W1814 (Or.inl m1920)).other W1841 (Or.inl m1921)).other W1848 (Or.inl m1922)).other W1871 (Or.inl m1923)).other W1895 (Or.inl m1924)).other W1910 (Or.inl m1922)
 have f1926 := t1925 Fq1702_0
 have f1927 := t1925 Fq1702_1
 have f1928 := t1925 Fq1702_2
 have f1929 := t1925 Fq1702_3
 have f1930 := t1925 Fq1702_4
 have f1931 := t1925 Fq1702_5
 have f1932 := t1925 Fq1702_6
 have f1933 := t1925 Fn1702_7
 have f1934 := t1925 Fn1702_8
 have m1935 : zd ≠ zl := Ne.symm m1811
 have m1936 : zd ≠ ze := Ne.symm m1834
 have m1937 : zd ≠ ra0 := Ne.symm m1781
 have m1938 : zd ≠ zf := Ne.symm m1865
 have m1939 : zd ≠ zn := Ne.symm m1889
 have t1940 := fun {C n d : String} {v : Value} (F : Fld Z _ zd C n d v) => (((((F.other W1814 (Or.inl m1935)).other W1841 (Or.inl m1936)).other W1848 (Or.inl m1937)).other W1871 (Or.inl m1938)).other W1895 (Or.inl m1939)).other W1910 (Or.inl m1937)
 have f1941 := t1940 Fq1776_0
 have f1942 := t1940 Fq1776_1
 have f1943 := t1940 Fq1776_2
 have f1944 := t1940 Fq1776_3
 have f1945 := t1940 Fq1776_4
 have f1946 := t1940 Fq1776_5
 have f1947 := t1940 Fn1776_6
 have f1948 := t1940 Fq1776_7
 have f1949 := t1940 Fq1776_8
 have f1950 := (((((((((zho.keep Kq1702 (ninS m1708 (ninS m1707 (ninS m1706 (ninS m1705 nin0))))).other W1738 (Or.inl m1741)).keep Kq1776 (ninS m1781 (ninS m1780 (ninS m1779 nin0)))).other W1814 (Or.inl m1817)).other W1841 (Or.inl m1845)).other W1848 (Or.inr (slot_ne (Or.inr (w44 hw)) (Or.inl (w150 hw)) (by decide) (t := (.object "java/util/List")) (t' := (.array (.array .int))) (by decide) (by decide)))).other W1871 (Or.inl m1874)).other W1895 (Or.inl m1900)).other W1910 (Or.inr (own_sn (y44 hw) (y138 hw) (by decide))))
 have f1951 := (((((f1819.other W1841 (Or.inl m1845)).other W1848 (Or.inr (slot_ne (Or.inr (w49 hw)) (Or.inl (w150 hw)) (by decide) (t := (.array .int)) (t' := (.array (.array .int))) (by decide) (by decide)))).other W1871 (Or.inl m1874)).other W1895 (Or.inl m1900)).other W1910 (Or.inr (own_sn (y49 hw) (y138 hw) (by decide))))
 have f1952 := (((((((((zhb.keep Kq1702 (ninS m1708 (ninS m1707 (ninS m1706 (ninS m1705 nin0))))).other W1738 (Or.inl m1741)).keep Kq1776 (ninS m1781 (ninS m1780 (ninS m1779 nin0)))).other W1814 (Or.inl m1817)).other W1841 (Or.inl m1845)).other W1848 (Or.inr (slot_ne (Or.inl (w52 hw)) (Or.inl (w150 hw)) (by decide) (t := .long) (t' := (.array (.array .int))) (by decide) (by decide)))).other W1871 (Or.inl m1874)).other W1895 (Or.inl m1900)).other W1910 (Or.inr (own_sn (y52 hw) (y138 hw) (by decide))))
 have f1953 := (((((((((zhg.keep Kq1702 (ninS m1708 (ninS m1707 (ninS m1706 (ninS m1705 nin0))))).other W1738 (Or.inl m1741)).keep Kq1776 (ninS m1781 (ninS m1780 (ninS m1779 nin0)))).other W1814 (Or.inl m1817)).other W1841 (Or.inl m1845)).other W1848 (Or.inr (slot_ne (Or.inl (w55 hw)) (Or.inl (w150 hw)) (by decide) (t := .long) (t' := (.array (.array .int))) (by decide) (by decide)))).other W1871 (Or.inl m1874)).other W1895 (Or.inl m1900)).other W1910 (Or.inr (own_sn (y55 hw) (y138 hw) (by decide))))
 have f1954 := (((((((((zgu.keep Kq1702 (ninS m1708 (ninS m1707 (ninS m1706 (ninS m1705 nin0))))).other W1738 (Or.inl m1741)).keep Kq1776 (ninS m1781 (ninS m1780 (ninS m1779 nin0)))).other W1814 (Or.inl m1817)).other W1841 (Or.inl m1845)).other W1848 (Or.inr (slot_ne (Or.inr (w86 hw)) (Or.inl (w150 hw)) (by decide) (t := (.object cBs)) (t' := (.array (.array .int))) (by decide) (by decide)))).other W1871 (Or.inl m1874)).other W1895 (Or.inl m1900)).other W1910 (Or.inr (own_sn (y86 hw) (y138 hw) (by decide))))
 have f1955 := (((((((f1743.keep Kq1776 (ninS m1781 (ninS m1780 (ninS m1779 nin0)))).other W1814 (Or.inl m1817)).other W1841 (Or.inl m1845)).other W1848 (Or.inr (slot_ne (Or.inr (w88 hw)) (Or.inl (w150 hw)) (by decide) (t := (.object cBs)) (t' := (.array (.array .int))) (by decide) (by decide)))).other W1871 (Or.inl m1874)).other W1895 (Or.inl m1900)).other W1910 (Or.inr (own_sn (y88 hw) (y138 hw) (by decide))))
 have f1956 := ((((((((f1717.other W1738 (Or.inl m1741)).keep Kq1776 (ninS m1781 (ninS m1780 (ninS m1779 nin0)))).other W1814 (Or.inl m1817)).other W1841 (Or.inl m1845)).other W1848 (Or.inr (slot_ne (Or.inl (w91 hw)) (Or.inl (w150 hw)) (by decide) (t := (.array .long)) (t' := (.array (.array .int))) (by decide) (by decide)))).other W1871 (Or.inl m1874)).other W1895 (Or.inl m1900)).other W1910 (Or.inr (own_sn (y91 hw) (y138 hw) (by decide))))
 have f1957 := ((((((f1783.other W1814 (Or.inl m1817)).other W1841 (Or.inl m1845)).other W1848 (Or.inr (slot_ne (Or.inl (w93 hw)) (Or.inl (w150 hw)) (by decide) (t := (.array .byte)) (t' := (.array (.array .int))) (by decide) (by decide)))).other W1871 (Or.inl m1874)).other W1895 (Or.inl m1900)).other W1910 (Or.inr (own_sn (y93 hw) (y138 hw) (by decide))))
 have f1958 := (((f1851.other W1871 (Or.inl m1874)).other W1895 (Or.inl m1900)).other W1910 (Or.inr (own_sn (y95 hw) (y138 hw) (by decide))))
 have f1959 := ((f1875.other W1895 (Or.inl m1900)).other W1910 (Or.inr (own_sn (y97 hw) (y138 hw) (by decide))))
 have f1960 := (((Fw1848.other W1871 (Or.inl m1874)).other W1895 (Or.inl m1900)).other W1910 (Or.inr (slot_ne (Or.inl (w150 hw)) (Or.inl (w138 hw)) (by decide) (t := (.array (.array .int))) (t' := .int) (by decide) (by decide))))
 have f1961 := (f1901.other W1910 (Or.inr (own_sn (y152 hw) (y138 hw) (by decide))))
 have f1962 := (((((((((zhh.keep Kq1702 (ninS m1708 (ninS m1707 (ninS m1706 (ninS m1705 nin0))))).other W1738 (Or.inl m1741)).keep Kq1776 (ninS m1781 (ninS m1780 (ninS m1779 nin0)))).other W1814 (Or.inl m1817)).other W1841 (Or.inl m1845)).other W1848 (Or.inr (slot_ne (Or.inl (w180 hw)) (Or.inl (w150 hw)) (by decide) (t := .boolean) (t' := (.array (.array .int))) (by decide) (by decide)))).other W1871 (Or.inl m1874)).other W1895 (Or.inl m1900)).other W1910 (Or.inr (own_sn (y180 hw) (y138 hw) (by decide))))
 have m1963 : zao ≠ zo := Ne.symm zio
 have m1964 : zao ≠ zb := Ne.symm zgo
 have m1965 : zao ≠ zc := Ne.symm zgw
 have m1966 : zao ≠ zd := Ne.symm m1747
 have m1967 : zao ≠ zl := Ne.symm zip
 have m1968 : zao ≠ ze := Ne.symm zhq
 have m1969 : zao ≠ ra0 := Ne.symm m1705
 have m1970 : zao ≠ zf := Ne.symm zhr
 have m1971 : zao ≠ zn := Ne.symm zie
 have f1972 := ((((((((V1702n2.other W1738 m1963).keep Kq1776 (ninS m1966 (ninS m1965 (ninS m1964 nin0)))).other W1814 m1967).other W1841 m1968).other W1848 m1969).other W1871 m1970).other W1895 m1971).other W1910 m1969)
 have m1973 : zg ≠ zo := Ne.symm m1720
 have m1974 : zg ≠ zb := Ne.symm m1766
 have m1975 : zg ≠ zc := Ne.symm m1762
 have m1976 : zg ≠ zd := Ne.symm m1748
 have m1977 : zg ≠ zl := Ne.symm m1806
 have m1978 : zg ≠ ze := Ne.symm m1829
 have m1979 : zg ≠ ra0 := Ne.symm m1706
 have m1980 : zg ≠ zf := Ne.symm m1859
 have m1981 : zg ≠ zn := Ne.symm m1883
 have f1982 := ((((((((V1702n1.other W1738 m1973).keep Kq1776 (ninS m1976 (ninS m1975 (ninS m1974 nin0)))).other W1814 m1977).other W1841 m1978).other W1848 m1979).other W1871 m1980).other W1895 m1981).other W1910 m1979)
 have m1983 : zh ≠ zo := Ne.symm m1721
 have m1984 : zh ≠ zb := Ne.symm zbz
 have m1985 : zh ≠ zc := Ne.symm m1763
 have m1986 : zh ≠ zd := Ne.symm m1749
 have m1987 : zh ≠ zl := Ne.symm m1807
 have m1988 : zh ≠ ze := Ne.symm m1830
 have m1989 : zh ≠ ra0 := Ne.symm m1707
 have m1990 : zh ≠ zf := Ne.symm m1860
 have m1991 : zh ≠ zn := Ne.symm m1884
 have f1992 := ((((((((Vq1702_0.other W1738 m1983).keep Kq1776 (ninS m1986 (ninS m1985 (ninS m1984 nin0)))).other W1814 m1987).other W1841 m1988).other W1848 m1989).other W1871 m1990).other W1895 m1991).other W1910 m1989)
 have m1993 : zo ≠ zb := Ne.symm zce
 have m1994 : zo ≠ zc := Ne.symm zch
 have m1995 : zo ≠ zd := Ne.symm m1751
 have m1996 : zo ≠ zl := Ne.symm zdw
 have m1997 : zo ≠ ze := Ne.symm zcx
 have m1998 : zo ≠ ra0 := Ne.symm m1741
 have m1999 : zo ≠ zf := Ne.symm m1862
 have m2000 : zo ≠ zn := Ne.symm m1886
 have f2001 := (((((((V1738.keep Kq1776 (ninS m1995 (ninS m1994 (ninS m1993 nin0)))).other W1814 m1996).other W1841 m1997).other W1848 m1998).other W1871 m1999).other W1895 m2000).other W1910 m1998)
 have m2002 : zb ≠ zl := Ne.symm m1809
 have m2003 : zb ≠ ze := Ne.symm m1832
 have m2004 : zb ≠ ra0 := Ne.symm m1779
 have m2005 : zb ≠ zf := Ne.symm m1863
 have m2006 : zb ≠ zn := Ne.symm m1887
 have f2007 := ((((((V1776n1.other W1814 m2002).other W1841 m2003).other W1848 m2004).other W1871 m2005).other W1895 m2006).other W1910 m2004)
 have m2008 : zc ≠ zl := Ne.symm m1810
 have m2009 : zc ≠ ze := Ne.symm m1833
 have m2010 : zc ≠ ra0 := Ne.symm m1780
 have m2011 : zc ≠ zf := Ne.symm m1864
 have m2012 : zc ≠ zn := Ne.symm m1888
 have f2013 := ((((((V1776n.other W1814 m2008).other W1841 m2009).other W1848 m2010).other W1871 m2011).other W1895 m2012).other W1910 m2010)
 have m2014 : zl ≠ ze := Ne.symm zcy
 have m2015 : zl ≠ ra0 := Ne.symm m1817
 have m2016 : zl ≠ zf := Ne.symm m1866
 have m2017 : zl ≠ zn := Ne.symm m1890
 have f2018 := (((((V1814.other W1841 m2014).other W1848 m2015).other W1871 m2016).other W1895 m2017).other W1910 m2015)
 have m2019 : ze ≠ ra0 := Ne.symm m1845
 have m2020 : ze ≠ zf := Ne.symm m1867
 have m2021 : ze ≠ zn := Ne.symm m1891
 have f2022 := ((((V1841.other W1848 m2019).other W1871 m2020).other W1895 m2021).other W1910 m2019)
 have m2023 : zf ≠ zn := Ne.symm zcu
 have f2024 := ((V1871.other W1895 m2023).other W1910 m1868)
 have f2025 := (V1895.other W1910 m1892)
 refine ⟨_, _, k1912 _ ?_, hrun, hended, _, _, rfl, ?_, ⟨_, rfl⟩, hW, hsame.mono (by decide) (by decide)⟩
 ·show SF p e below T1910 m 329 o1 [(.int (ohn11_10_l15 zr))] _
  exact retI X1910 hx Bd.returns (hb hby d11_329) hr
 ·show Q11hn Z ra0 ra1 p2 p3 p4 p5 q6 ra7 q8 q9 q10 zp zt k_ra1 L_ra1 zbb zam zad zao zdj zx zah zr zh zbq zaw zaa zg zbf zaq zap zax zbi zbr za zo zdc zbk zbw zd zj zc zbe zaj zs zb zbc zag zaf zaz zbh zbn zbl zbm zl zk zcq zbo zbj ze zbu zy zdp zf zbs zav zas zn zcs zbp zbt zcn zcb zcj zcd h0 n0 _ T1910.heap _
  rw [e1910]
  exact ⟨rfl, N1910, K1910, f1913, f1914, f1915, f1926, f1927, f1928, f1929, f1930, f1931, f1932, f1933, f1934, f1941, f1942, f1943, f1944, f1945, f1946, f1947, f1948, f1949, f1950, f1951, f1952, f1953, f1954, f1955, f1956, f1957, f1958, f1959, Fw1910, f1960, f1961, f1962, f1972, VL1702n2, f1982, VL1702n1, f1992, VLq1702_0, f2001, VL1738, f2007, VL1776n1, f2013, VL1776n, f2018, VL1814, f2022, VL1841, f2024, VL1871, f2025, VL1895⟩
theorem d11_21 : decode C17_ 21 = .ok (.iload 15, 2) := by decide +kernel
theorem d11_23 : decode C17_ 23 = .ok (.ireturn, 1) := by decide +kernel
def odo11_10_l15 (p2 : Int32) (L_ra1 zad : List Int32) : Int32 := ((do12_35_at p2 L_ra1 zad) - (1 : Int32))
def Q11do (Z : State) (ra0 ra1 : Addr) (p2 p3 : Int32) (p4 p5 : Int32) (q6 : Int64) (ra7 : Addr) (q8 q9 q10 : Int64) (zp zt : Addr) (k_ra1 : ClassId) (L_ra1 : List Int32) (zbb : ClassId) (zam : Int32) (zad : List Int32) (za : Int32) (h0 : Heap) (n0 : Nat) (v : Option Value) (h : Heap) (L : List Loc) : Prop := (v = some (.int (odo11_10_l15 p2 L_ra1 zad)) ∧ Fr n0 L ∧ h = h0)
set_option maxRecDepth 65536 in
set_option maxHeartbeats 40000000 in
theorem rm11do (l : Launch) (Z : State) (a0 : Array Value) (hw : HW Z a0) (ws : List Jvm.Cond) (ra0 ra1 : Addr) (p2 p3 : Int32) (p4 p5 : Int32) (q6 : Int64) (ra7 : Addr) (q8 q9 q10 : Int64) (zp zt : Addr) (k_ra1 : ClassId) (L_ra1 : List Int32) (zbb : ClassId) (zam : Int32) (zad : List Int32) (za : Int32) (h0 : Heap) (n0 : Nat) (Z0 : n0 ≤ h0.size) (ihk : ¬ p2 < 0 ∧ p2 < (3 : Int32)) (iht : p3 = p2 + (1 : Int32)) (ihv : ¬ zam < (64 : Int32)) (ihd : ¬ ((v13_ret p2 L_ra1) < (0 : Int32))) (ih9 : (v13_ret p2 L_ra1) < (10 : Int32)) (ihz : ¬ ((zad.getD ((v13_ret p2 L_ra1)).toNatClampNeg (0 : Int32)) = (0 : Int32))) (hlt : ((do12_35_at p2 L_ra1 zad) - (1 : Int32)) < za) (zgu : Fld Z h0 ra0 cOr "ids" "Lcom/example/gavelbook/gavelbook/ByteStrings;" (.ref zp)) (zej : Fld Z h0 zp cBs "byValue" "[I" (.ref zt)) (V_ra1 : Arv Z h0 ra1 k_ra1 .byte (3 : Int32) (List.map Value.int L_ra1) (.int 0)) (VL_ra1 : L_ra1.length = ((3 : Int32)).toNatClampNeg) (zdd : Arv Z h0 zt zbb .int zam (List.map Value.int zad) (.int 0)) (zef : zad.length = zam.toNatClampNeg) (zbx : Exa Z h0 zp cBs) (zcc : Fld Z h0 ra0 cOr "size" "I" (.int za)) :
  MetFree l M33_ (head1 (Jvm.Cond.code M33_ prog_25_method_2_code 18 (some .int) :: ws) R16_) (fun a U => a = #[(.ref ra0), (.ref ra1), (.int p2), (.int p3), (.int p4), (.int p5), (.long q6), (.ref ra7), (.long q8), (.long q9), (.long q10)] ∧ Z.Warmed39 U.vm ∧ U.heap = h0) (fun _ _ _ _ _ => True) (fun _ U o U' => ∃ v L, o = .returned v ∧ Q11do Z ra0 ra1 p2 p3 p4 p5 q6 ra7 q8 q9 q10 zp zt k_ra1 L_ra1 zbb zam zad za h0 n0 v U'.heap L ∧ FrameEnd U o U' L R16_.cells R16_.slots) := by
 refine MetFree.of_bodySF (plainFor_of_name pn_226) hisR ?_
 intro p e s m args below meth c s₁ Bd hml0 hP hK
 obtain ⟨rfl, hZ, hh⟩ := hP
 have hx := Bd.exec
 have hlk : meth.locks = false := by first | exact BodyLoose.notSynchronized Bd | exact Body.notSynchronized Bd
 have hby := Bd.bytes
 have hml : c.maxLocals = 18 := hml0
 have hown : s.vm.findClass cOr = some m.cls := findClass_of_methodNamed Bd.named
 have hnm := (name_of_methodNamed Bd.named Bd.method).1
 have X0 : Stand p l e R16_ s m #[(.ref ra0), (.ref ra1), (.int p2), (.int p3), (.int p4), (.int p5), (.long q6), (.ref ra7), (.long q8), (.long q9), (.long q10)] below meth c s₁ [] 0 0 := Stand.of_body Bd
 have e0 : s₁.heap = h0 := by rw [← hh, Bd.state]; rfl
 have N0 := Fr.nil n0
 have KC0 := Keep.refl h0 ([] : List Addr)
 let o1 : Array Slot := #[rv ra0, rv ra1, iv p2, iv p3, iv p4, iv p5, .val (.long q6), .second, rv ra7, .val (.long q8), .second, .val (.long q9), .second, .val (.long q10), .second, .unset, .unset, .unset]
 let o2 : Array Slot := #[rv ra0, rv ra1, iv p2, iv p3, iv p4, iv p5, .val (.long q6), .second, rv ra7, .val (.long q8), .second, .val (.long q9), .second, .val (.long q10), .second, iv (odo11_10_l15 p2 L_ra1 zad), .unset, .unset]
 have pre0 : ∀ t, SF p e below s₁ m 0 o1 [] t → Steps p.tables e below (s₁.setTop (entryFrame m #[(.ref ra0), (.ref ra1), (.int p2), (.int p3), (.int p4), (.int p5), (.long q6), (.ref ra7), (.long q8), (.long q9), (.long q10)] 18)) t := fun t k => castTop (ef_rm11dn m ra0 ra1 p2 p3 p4 p5 q6 ra7 q8 q9 q10) k
 have k2026 := fun t (kk : SF p e below s₁ m 1 o1 [(.ref ra0)] t) => pre0 t (by
  refine XS.aloadN X0.here hx rfl (hb hby d11_0) rfl rfl ?_
  exact kk)
 obtain ⟨T2027, X2027, e2027, st2027⟩ := getF X0 hx hZ hown (host := "") (Or.inl (w85 hw)) Via.refl e0 zgu (g := (mkF m 1 o1 [(.ref ra0)])) rfl rfl (hb hby d11_1)
 have k2028 := fun t (kk : SF p e below T2027 m 4 o1 [(.ref zp)] t) => k2026 t (st2027 _ kk)
 have k2029 := fun t (kk : SF p e below T2027 m 7 o1 [(.int p3), (.int p2), (.ref ra1), (.ref zp)] t) => k2028 t (by
  refine XS.aloadN X2027.here hx rfl (hb hby d11_4) rfl rfl ?_
  show SF p e below T2027 m 5 o1 [(.ref ra1), (.ref zp)] _
  refine XS.iloadN X2027.here hx rfl (hb hby d11_5) rfl ?_
  refine XS.iloadN X2027.here hx rfl (hb hby d11_6) rfl ?_
  exact kk)
 have Zz2030 : n0 ≤ h0.size := (Nat.le_trans Z0 KC0.1)
 obtain ⟨cq2030, kq2030, q2030a, q2030b, q2030c⟩ := isOf hZ e2027 zbx
 obtain ⟨_, _, ⟨T2030, L2030, k2030, n2030⟩, -, X2030, ⟨Lc2030, hQ2030, l2030, y2030, z2030⟩, st2030⟩ := X2027.virtualBack hx (y := M32_) (z := M32_) hown (mvT hZ (w104 hw)) (mvT hZ (w105 hw)) (notFace_of_selects (args := #[]) (mvT hZ (w107 hw))) (mvT hZ (w107 hw)) (mvT hZ (w106 hw)) (by decide) (backOf (W := 0) (rm12do l Z a0 hw [] zp ra1 p2 p3 zt k_ra1 L_ra1 zbb zam zad h0 n0 Zz2030 (ihk : ¬ p2 < 0 ∧ p2 < (3 : Int32)) (iht : p3 = p2 + (1 : Int32)) (ihv : ¬ zam < (64 : Int32)) (ihd : ¬ ((v13_ret p2 L_ra1) < (0 : Int32))) (ih9 : (v13_ret p2 L_ra1) < (10 : Int32)) (ihz : ¬ ((zad.getD ((v13_ret p2 L_ra1)).toNatClampNeg (0 : Int32)) = (0 : Int32))) zej V_ra1 VL_ra1 zdd zef zbx) hZ (w108 hw) (w62 hw) (by decide) (by decide)) q2030a q2030c (g := (mkF m 7 o1 [(.int p3), (.int p2), (.ref ra1), (.ref zp)])) rfl (by rw [hml]; rfl) (Steps.refl _) (argsL := [(.ref ra1), (.int p2), (.int p3)]) (rest := []) (lenOf pd_5 rfl) rfl (Nat.le_of_eq rfl) (hb hby d11_7) (fun _ _ => ⟨rfl, e2027, (by decide : 0 + 0 ≤ _), (by decide : 0 + 0 ≤ _)⟩)
 dsimp only [Pt.U, Pt.locs, Pt.cells, Pt.slots] at X2030 l2030 y2030 z2030 st2030 hQ2030
 subst l2030 y2030 z2030
 obtain ⟨rfl, N2030q, e2030⟩ := hQ2030
 have N2030 := Fr.app N0 N2030q
 have k2031 := fun t (kk : SF p e below T2030 m 10 o1 [(.int ((do12_35_at p2 L_ra1 zad) - (1 : Int32)))] t) => k2029 t (st2030.trans kk)
 have k2032 := fun t (kk : SF p e below T2030 m 15 o2 [(.ref ra0), (.int (odo11_10_l15 p2 L_ra1 zad))] t) => k2031 t (by
  refine XS.istore X2030.here hx rfl (hb hby d11_10) rfl (l' := o2) rfl ?_
  refine XS.iload X2030.here hx rfl (hb hby d11_12) rfl ?_
  refine XS.aloadN X2030.here hx rfl (hb hby d11_14) rfl rfl ?_
  exact kk)
 obtain ⟨T2033, X2033, e2033, st2033⟩ := getF X2030 hx hZ hown (host := "") (Or.inl (w137 hw)) Via.refl e2030 zcc (g := (mkF m 15 o2 [(.ref ra0), (.int (odo11_10_l15 p2 L_ra1 zad))])) rfl rfl (hb hby d11_15)
 have k2034 := fun t (kk : SF p e below T2033 m 18 o2 [(.int za), (.int (odo11_10_l15 p2 L_ra1 zad))] t) => k2032 t (st2033 _ kk)
 have hc18_2035 : (odo11_10_l15 p2 L_ra1 zad) < za := hlt
 have k2036 := fun t (kk : SF p e below T2033 m 23 o2 [(.int (odo11_10_l15 p2 L_ra1 zad))] t) => k2034 t (by
  refine XS.icmpNo X2033.here hx rfl (hb hby d11_18) rfl (tlt hc18_2035).2.1 ?_
  refine XS.iload X2033.here hx rfl (hb hby d11_21) rfl ?_
  exact kk)
 obtain ⟨fs, hr, hrun, hended, hW, hsame⟩ := X2033.leave (v := some (.int (odo11_10_l15 p2 L_ra1 zad))) (fun h => by rw [Bd.returns] at h; cases h) hlk
 refine ⟨_, _, k2036 _ ?_, hrun, hended, _, _, rfl, ?_, ⟨_, rfl⟩, hW, hsame.mono (by decide) (by decide)⟩
 ·show SF p e below T2033 m 23 o2 [(.int (odo11_10_l15 p2 L_ra1 zad))] _
  exact retI X2033 hx Bd.returns (hb hby d11_23) hr
 ·show Q11do Z ra0 ra1 p2 p3 p4 p5 q6 ra7 q8 q9 q10 zp zt k_ra1 L_ra1 zbb zam zad za h0 n0 _ T2033.heap _
  rw [e2033]
  exact ⟨rfl, N2030, rfl⟩
def ohk11_10_l15 (p2 : Int32) (L_ra1 : List Int32) (zx : Int32) (zah : List Int64) : Int32 := (hk12_222_l10 p2 L_ra1 zx zah)
def ohk11_ret (p2 : Int32) (L_ra1 : List Int32) (zx : Int32) (zah : List Int64) : Int32 := (ohk11_10_l15 p2 L_ra1 zx zah)
def Q11hk (Z : State) (ra0 ra1 : Addr) (p2 p3 : Int32) (p4 p5 : Int32) (q6 : Int64) (ra7 : Addr) (q8 q9 q10 : Int64) (zp zt : Addr) (k_ra1 : ClassId) (L_ra1 : List Int32) (zbb : ClassId) (zam : Int32) (zad : List Int32) (zao : Addr) (zdj : ClassId) (zx : Int32) (zah : List Int64) (zh : Addr) (zbq : ClassId) (zaw : Int32) (zaa : List Int32) (zg : Addr) (zbf : ClassId) (zaq : Int32) (zap : List Int32) (za : Int32) (h0 : Heap) (n0 : Nat) (v : Option Value) (h : Heap) (L : List Loc) : Prop := (v = some (.int (ohk11_ret p2 L_ra1 zx zah)) ∧ Fr n0 L ∧ h = h0)
set_option maxRecDepth 65536 in
set_option maxHeartbeats 40000000 in
theorem rm11hk (l : Launch) (Z : State) (a0 : Array Value) (hw : HW Z a0) (ws : List Jvm.Cond) (ra0 ra1 : Addr) (p2 p3 : Int32) (p4 p5 : Int32) (q6 : Int64) (ra7 : Addr) (q8 q9 q10 : Int64) (zp zt : Addr) (k_ra1 : ClassId) (L_ra1 : List Int32) (zbb : ClassId) (zam : Int32) (zad : List Int32) (zao : Addr) (zdj : ClassId) (zx : Int32) (zah : List Int64) (zh : Addr) (zbq : ClassId) (zaw : Int32) (zaa : List Int32) (zg : Addr) (zbf : ClassId) (zaq : Int32) (zap : List Int32) (za : Int32) (h0 : Heap) (n0 : Nat) (Z0 : n0 ≤ h0.size) (ihk : ¬ p2 < 0 ∧ p2 < (3 : Int32)) (iht : p3 = p2 + (1 : Int32)) (ihneg : (v13_ret p2 L_ra1) < (0 : Int32)) (ihv : ¬ zam < (64 : Int32)) (ihxx : ¬ zx < (128 : Int32) ∧ zx < (513 : Int32)) (ihz : ¬ ((hk12_207_at p2 L_ra1 zx zah) = (0 : Int64))) (ihq : (((((hk12_207_at p2 L_ra1 zx zah).toUInt64 >>> ((32 : Int32) &&& 0x3f).toInt64.toUInt64).toInt64).toInt32) = (hk12_174_l5 p2 L_ra1))) (ih0n : (hk12_222_l10 p2 L_ra1 zx zah) = (0 : Int32)) (ihn : ¬ zaw < (64 : Int32)) (ihbb : ¬ zaq < (64 : Int32)) (ihl : (zaa.getD 0 (0 : Int32)) = (1 : Int32)) (ihy : (zap.getD 0 (0 : Int32)) = (L_ra1.getD (p2).toNatClampNeg (0 : Int32))) (hlt : (hk12_222_l10 p2 L_ra1 zx zah) < za) (zgu : Fld Z h0 ra0 cOr "ids" "Lcom/example/gavelbook/gavelbook/ByteStrings;" (.ref zp)) (zej : Fld Z h0 zp cBs "byValue" "[I" (.ref zt)) (V_ra1 : Arv Z h0 ra1 k_ra1 .byte (3 : Int32) (List.map Value.int L_ra1) (.int 0)) (VL_ra1 : L_ra1.length = ((3 : Int32)).toNatClampNeg) (zdd : Arv Z h0 zt zbb .int zam (List.map Value.int zad) (.int 0)) (zef : zad.length = zam.toNatClampNeg) (zgs : Fld Z h0 zp cBs "slots" "[J" (.ref zao)) (zhn : Arv Z h0 zao zdj .long zx (List.map Value.long zah) (.long (0 : Int64))) (zjd : zah.length = zx.toNatClampNeg) (zhc : Fld Z h0 zp cBs "ends" "[I" (.ref zh)) (zdf : Arv Z h0 zh zbq .int zaw (List.map Value.int zaa) (.int 0)) (zfz : zaa.length = zaw.toNatClampNeg) (zgr : Fld Z h0 zp cBs "bytes" "[B" (.ref zg)) (zcv : Arv Z h0 zg zbf .byte zaq (List.map Value.int zap) (.int 0)) (zfs : zap.length = zaq.toNatClampNeg) (zbx : Exa Z h0 zp cBs) (zga : Fld Z h0 zp cBs "crowded" "Ljava/util/Map;" .null) (zcc : Fld Z h0 ra0 cOr "size" "I" (.int za)) :
  MetFree l M33_ (head1 (Jvm.Cond.code M33_ prog_25_method_2_code 18 (some .int) :: ws) R17_) (fun a U => a = #[(.ref ra0), (.ref ra1), (.int p2), (.int p3), (.int p4), (.int p5), (.long q6), (.ref ra7), (.long q8), (.long q9), (.long q10)] ∧ Z.Warmed39 U.vm ∧ U.heap = h0) (fun _ _ _ _ _ => True) (fun _ U o U' => ∃ v L, o = .returned v ∧ Q11hk Z ra0 ra1 p2 p3 p4 p5 q6 ra7 q8 q9 q10 zp zt k_ra1 L_ra1 zbb zam zad zao zdj zx zah zh zbq zaw zaa zg zbf zaq zap za h0 n0 v U'.heap L ∧ FrameEnd U o U' L R17_.cells R17_.slots) := by
 refine MetFree.of_bodySF (plainFor_of_name pn_226) hisR ?_
 intro p e s m args below meth c s₁ Bd hml0 hP hK
 obtain ⟨rfl, hZ, hh⟩ := hP
 have hx := Bd.exec
 have hlk : meth.locks = false := by first | exact BodyLoose.notSynchronized Bd | exact Body.notSynchronized Bd
 have hby := Bd.bytes
 have hml : c.maxLocals = 18 := hml0
 have hown : s.vm.findClass cOr = some m.cls := findClass_of_methodNamed Bd.named
 have hnm := (name_of_methodNamed Bd.named Bd.method).1
 have X0 : Stand p l e R17_ s m #[(.ref ra0), (.ref ra1), (.int p2), (.int p3), (.int p4), (.int p5), (.long q6), (.ref ra7), (.long q8), (.long q9), (.long q10)] below meth c s₁ [] 0 0 := Stand.of_body Bd
 have e0 : s₁.heap = h0 := by rw [← hh, Bd.state]; rfl
 have N0 := Fr.nil n0
 have KC0 := Keep.refl h0 ([] : List Addr)
 let o1 : Array Slot := #[rv ra0, rv ra1, iv p2, iv p3, iv p4, iv p5, .val (.long q6), .second, rv ra7, .val (.long q8), .second, .val (.long q9), .second, .val (.long q10), .second, .unset, .unset, .unset]
 let o2 : Array Slot := #[rv ra0, rv ra1, iv p2, iv p3, iv p4, iv p5, .val (.long q6), .second, rv ra7, .val (.long q8), .second, .val (.long q9), .second, .val (.long q10), .second, iv (ohk11_10_l15 p2 L_ra1 zx zah), .unset, .unset]
 have pre0 : ∀ t, SF p e below s₁ m 0 o1 [] t → Steps p.tables e below (s₁.setTop (entryFrame m #[(.ref ra0), (.ref ra1), (.int p2), (.int p3), (.int p4), (.int p5), (.long q6), (.ref ra7), (.long q8), (.long q9), (.long q10)] 18)) t := fun t k => castTop (ef_rm11dn m ra0 ra1 p2 p3 p4 p5 q6 ra7 q8 q9 q10) k
 have k2037 := fun t (kk : SF p e below s₁ m 1 o1 [(.ref ra0)] t) => pre0 t (by
  refine XS.aloadN X0.here hx rfl (hb hby d11_0) rfl rfl ?_
  exact kk)
 obtain ⟨T2038, X2038, e2038, st2038⟩ := getF X0 hx hZ hown (host := "") (Or.inl (w85 hw)) Via.refl e0 zgu (g := (mkF m 1 o1 [(.ref ra0)])) rfl rfl (hb hby d11_1)
 have k2039 := fun t (kk : SF p e below T2038 m 4 o1 [(.ref zp)] t) => k2037 t (st2038 _ kk)
 have k2040 := fun t (kk : SF p e below T2038 m 7 o1 [(.int p3), (.int p2), (.ref ra1), (.ref zp)] t) => k2039 t (by
  refine XS.aloadN X2038.here hx rfl (hb hby d11_4) rfl rfl ?_
  show SF p e below T2038 m 5 o1 [(.ref ra1), (.ref zp)] _
  refine XS.iloadN X2038.here hx rfl (hb hby d11_5) rfl ?_
  refine XS.iloadN X2038.here hx rfl (hb hby d11_6) rfl ?_
  exact kk)
 have Zz2041 : n0 ≤ h0.size := (Nat.le_trans Z0 KC0.1)
 obtain ⟨cq2041, kq2041, q2041a, q2041b, q2041c⟩ := isOf hZ e2038 zbx
 obtain ⟨_, _, ⟨T2041, L2041, k2041, n2041⟩, -, X2041, ⟨Lc2041, hQ2041, l2041, y2041, z2041⟩, st2041⟩ := X2038.virtualBack hx (y := M32_) (z := M32_) hown (mvT hZ (w104 hw)) (mvT hZ (w105 hw)) (notFace_of_selects (args := #[]) (mvT hZ (w107 hw))) (mvT hZ (w107 hw)) (mvT hZ (w106 hw)) (by decide) (backOf (W := 0) (rm12hk l Z a0 hw [] zp ra1 p2 p3 zt k_ra1 L_ra1 zbb zam zad zao zdj zx zah zh zbq zaw zaa zg zbf zaq zap h0 n0 Zz2041 (ihk : ¬ p2 < 0 ∧ p2 < (3 : Int32)) (iht : p3 = p2 + (1 : Int32)) (ihneg : (v13_ret p2 L_ra1) < (0 : Int32)) (ihv : ¬ zam < (64 : Int32)) (ihxx : ¬ zx < (128 : Int32) ∧ zx < (513 : Int32)) (ihz : ¬ ((hk12_207_at p2 L_ra1 zx zah) = (0 : Int64))) (ihq : (((((hk12_207_at p2 L_ra1 zx zah).toUInt64 >>> ((32 : Int32) &&& 0x3f).toInt64.toUInt64).toInt64).toInt32) = (hk12_174_l5 p2 L_ra1))) (ih0n : (hk12_222_l10 p2 L_ra1 zx zah) = (0 : Int32)) (ihn : ¬ zaw < (64 : Int32)) (ihbb : ¬ zaq < (64 : Int32)) (ihl : (zaa.getD 0 (0 : Int32)) = (1 : Int32)) (ihy : (zap.getD 0 (0 : Int32)) = (L_ra1.getD (p2).toNatClampNeg (0 : Int32))) zej V_ra1 VL_ra1 zdd zef zbx zga zgs zhn zjd zhc zdf zfz zgr zcv zfs) hZ (w108 hw) (w62 hw) (by decide) (by decide)) q2041a q2041c (g := (mkF m 7 o1 [(.int p3), (.int p2), (.ref ra1), (.ref zp)])) rfl (by rw [hml]; rfl) (Steps.refl _) (argsL := [(.ref ra1), (.int p2), (.int p3)]) (rest := []) (lenOf pd_5 rfl) rfl (Nat.le_of_eq rfl) (hb hby d11_7) (fun _ _ => ⟨rfl, e2038, (by decide : 0 + 0 ≤ _), (by decide : 0 + 0 ≤ _)⟩)
 dsimp only [Pt.U, Pt.locs, Pt.cells, Pt.slots] at X2041 l2041 y2041 z2041 st2041 hQ2041
 subst l2041 y2041 z2041
 obtain ⟨rfl, N2041q, e2041⟩ := hQ2041
 have N2041 := Fr.app N0 N2041q
 have k2042 := fun t (kk : SF p e below T2041 m 10 o1 [(.int (hk12_222_l10 p2 L_ra1 zx zah))] t) => k2040 t (st2041.trans kk)
 have k2043 := fun t (kk : SF p e below T2041 m 15 o2 [(.ref ra0), (.int (ohk11_10_l15 p2 L_ra1 zx zah))] t) => k2042 t (by
  refine XS.istore X2041.here hx rfl (hb hby d11_10) rfl (l' := o2) rfl ?_
  refine XS.iload X2041.here hx rfl (hb hby d11_12) rfl ?_
  refine XS.aloadN X2041.here hx rfl (hb hby d11_14) rfl rfl ?_
  exact kk)
 obtain ⟨T2044, X2044, e2044, st2044⟩ := getF X2041 hx hZ hown (host := "") (Or.inl (w137 hw)) Via.refl e2041 zcc (g := (mkF m 15 o2 [(.ref ra0), (.int (ohk11_10_l15 p2 L_ra1 zx zah))])) rfl rfl (hb hby d11_15)
 have k2045 := fun t (kk : SF p e below T2044 m 18 o2 [(.int za), (.int (ohk11_10_l15 p2 L_ra1 zx zah))] t) => k2043 t (st2044 _ kk)
 have hc18_2046 : (ohk11_10_l15 p2 L_ra1 zx zah) < za := hlt
 have k2047 := fun t (kk : SF p e below T2044 m 23 o2 [(.int (ohk11_10_l15 p2 L_ra1 zx zah))] t) => k2045 t (by
  refine XS.icmpNo X2044.here hx rfl (hb hby d11_18) rfl (tlt hc18_2046).2.1 ?_
  refine XS.iload X2044.here hx rfl (hb hby d11_21) rfl ?_
  exact kk)
 obtain ⟨fs, hr, hrun, hended, hW, hsame⟩ := X2044.leave (v := some (.int (ohk11_10_l15 p2 L_ra1 zx zah))) (fun h => by rw [Bd.returns] at h; cases h) hlk
 have hv : (ohk11_ret p2 L_ra1 zx zah) = (ohk11_10_l15 p2 L_ra1 zx zah) := rfl
 refine ⟨_, _, k2047 _ ?_, hrun, hended, _, _, rfl, ?_, ⟨_, rfl⟩, hW, hsame.mono (by decide) (by decide)⟩
 ·show SF p e below T2044 m 23 o2 [(.int (ohk11_10_l15 p2 L_ra1 zx zah))] _
  exact retI X2044 hx Bd.returns (hb hby d11_23) hr
 ·show Q11hk Z ra0 ra1 p2 p3 p4 p5 q6 ra7 q8 q9 q10 zp zt k_ra1 L_ra1 zbb zam zad zao zdj zx zah zh zbq zaw zaa zg zbf zaq zap za h0 n0 _ T2044.heap _
  rw [e2044]
  exact ⟨(congrArg (fun z => some (Value.int z)) hv).symm, N2041, rfl⟩
theorem d20_0 : decode C18_ 0 = .ok (.aload_n 0, 1) := by decide +kernel
theorem d20_1 : decode C18_ 1 = .ok (.getfield 73, 3) := by decide +kernel
theorem d20_4 : decode C18_ 4 = .ok (.ireturn, 1) := by decide +kernel
theorem ef_rm20 (m : MethodId) (ra0 : Addr) : entryFrame m #[(.ref ra0)] 1 = mkF m 0 #[rv ra0] [] := by first | (simp [entryFrame, mkF, argsToLocals, Value.category]; done) | rfl
def Q20 (Z : State) (ra0 : Addr) (za : Int32) (h0 : Heap) (n0 : Nat) (v : Option Value) (h : Heap) (L : List Loc) : Prop := (v = some (.int za) ∧ Fr n0 L ∧ h = h0)
set_option maxRecDepth 65536 in
set_option maxHeartbeats 40000000 in
theorem rm20 (l : Launch) (Z : State) (a0 : Array Value) (hw : HW Z a0) (ws : List Jvm.Cond) (ra0 : Addr) (za : Int32) (h0 : Heap) (n0 : Nat) (Z0 : n0 ≤ h0.size) (zcc : Fld Z h0 ra0 cOr "size" "I" (.int za)) :
  MetFree l M35_ (head1 (Jvm.Cond.code M35_ prog_25_method_3_code 1 (some .int) :: ws) R0_) (fun a U => a = #[(.ref ra0)] ∧ Z.Warmed39 U.vm ∧ U.heap = h0) (fun _ _ _ _ _ => True) (fun _ U o U' => ∃ v L, o = .returned v ∧ Q20 Z ra0 za h0 n0 v U'.heap L ∧ FrameEnd U o U' L R0_.cells R0_.slots) := by
 refine MetFree.of_bodySF (plainFor_of_name pn_226) hisR ?_
 intro p e s m args below meth c s₁ Bd hml0 hP hK
 obtain ⟨rfl, hZ, hh⟩ := hP
 have hx := Bd.exec
 have hlk : meth.locks = false := by first | exact BodyLoose.notSynchronized Bd | exact Body.notSynchronized Bd
 have hby := Bd.bytes
 have hml : c.maxLocals = 1 := hml0
 have hown : s.vm.findClass cOr = some m.cls := findClass_of_methodNamed Bd.named
 have hnm := (name_of_methodNamed Bd.named Bd.method).1
 have X0 : Stand p l e R0_ s m #[(.ref ra0)] below meth c s₁ [] 0 0 := Stand.of_body Bd
 have e0 : s₁.heap = h0 := by rw [← hh, Bd.state]; rfl
 have N0 := Fr.nil n0
 have KC0 := Keep.refl h0 ([] : List Addr)
 have pre0 : ∀ t, SF p e below s₁ m 0 #[rv ra0] [] t → Steps p.tables e below (s₁.setTop (entryFrame m #[(.ref ra0)] 1)) t := fun t k => castTop (ef_rm20 m ra0) k
 have k2048 := fun t (kk : SF p e below s₁ m 1 #[rv ra0] [(.ref ra0)] t) => pre0 t (by
  refine XS.aloadN X0.here hx rfl (hb hby d20_0) rfl rfl ?_
  exact kk)
 obtain ⟨T2049, X2049, e2049, st2049⟩ := getF X0 hx hZ hown (host := "") (Or.inl (w137 hw)) Via.refl e0 zcc (g := (mkF m 1 #[rv ra0] [(.ref ra0)])) rfl rfl (hb hby d20_1)
 have k2050 := fun t (kk : SF p e below T2049 m 4 #[rv ra0] [(.int za)] t) => k2048 t (st2049 _ kk)
 obtain ⟨fs, hr, hrun, hended, hW, hsame⟩ := X2049.leave (v := some (.int za)) (fun h => by rw [Bd.returns] at h; cases h) hlk
 refine ⟨_, _, k2050 _ ?_, hrun, hended, _, _, rfl, ?_, ⟨_, rfl⟩, hW, hsame.mono (by decide) (by decide)⟩
 ·show SF p e below T2049 m 4 #[rv ra0] [(.int za)] _
  exact retI X2049 hx Bd.returns (hb hby d20_4) hr
 ·show Q20 Z ra0 za h0 n0 _ T2049.heap _
  rw [e2049]
  exact ⟨rfl, N0, rfl⟩
theorem d21_0 : decode C19_ 0 = .ok (.aload_n 0, 1) := by decide +kernel
theorem d21_1 : decode C19_ 1 = .ok (.getfield 63, 3) := by decide +kernel
theorem d21_4 : decode C19_ 4 = .ok (.iload_n 1, 1) := by decide +kernel
theorem d21_5 : decode C19_ 5 = .ok (.laload, 1) := by decide +kernel
theorem d21_6 : decode C19_ 6 = .ok (.lreturn, 1) := by decide +kernel
def v21_5_at (p1 : Int32) (zas : List Int64) : Int64 := (zas.getD (p1).toNatClampNeg (0 : Int64))
theorem ef_rm21 (m : MethodId) (ra0 : Addr) (p1 : Int32) : entryFrame m #[(.ref ra0), (.int p1)] 2 = mkF m 0 #[rv ra0, iv p1] [] := by first | (simp [entryFrame, mkF, argsToLocals, Value.category]; done) | rfl
def Q21 (Z : State) (ra0 : Addr) (p1 : Int32) (zf : Addr) (zbs : ClassId) (zav : Int32) (zas : List Int64) (h0 : Heap) (n0 : Nat) (v : Option Value) (h : Heap) (L : List Loc) : Prop := (v = some (.long (v21_5_at p1 zas)) ∧ Fr n0 L ∧ h = h0)
set_option maxRecDepth 65536 in
set_option maxHeartbeats 40000000 in
theorem rm21 (l : Launch) (Z : State) (a0 : Array Value) (hw : HW Z a0) (ws : List Jvm.Cond) (ra0 : Addr) (p1 : Int32) (zf : Addr) (zbs : ClassId) (zav : Int32) (zas : List Int64) (h0 : Heap) (n0 : Nat) (Z0 : n0 ≤ h0.size) (hi : ¬ p1 < 0 ∧ p1 < zav) (zfr : Fld Z h0 ra0 cOr "quantities" "[J" (.ref zf)) (zcm : Arv Z h0 zf zbs .long zav (List.map Value.long zas) (.long (0 : Int64))) (zey : zas.length = zav.toNatClampNeg) :
  MetFree l M36_ (head1 (Jvm.Cond.code M36_ prog_25_method_10_code 2 (some .long) :: ws) R0_) (fun a U => a = #[(.ref ra0), (.int p1)] ∧ Z.Warmed39 U.vm ∧ U.heap = h0) (fun _ _ _ _ _ => True) (fun _ U o U' => ∃ v L, o = .returned v ∧ Q21 Z ra0 p1 zf zbs zav zas h0 n0 v U'.heap L ∧ FrameEnd U o U' L R0_.cells R0_.slots) := by
 refine MetFree.of_bodySF (plainFor_of_name pn_226) hisR ?_
 intro p e s m args below meth c s₁ Bd hml0 hP hK
 obtain ⟨rfl, hZ, hh⟩ := hP
 have hx := Bd.exec
 have hlk : meth.locks = false := by first | exact BodyLoose.notSynchronized Bd | exact Body.notSynchronized Bd
 have hby := Bd.bytes
 have hml : c.maxLocals = 2 := hml0
 have hown : s.vm.findClass cOr = some m.cls := findClass_of_methodNamed Bd.named
 have hnm := (name_of_methodNamed Bd.named Bd.method).1
 have X0 : Stand p l e R0_ s m #[(.ref ra0), (.int p1)] below meth c s₁ [] 0 0 := Stand.of_body Bd
 have e0 : s₁.heap = h0 := by rw [← hh, Bd.state]; rfl
 have N0 := Fr.nil n0
 have KC0 := Keep.refl h0 ([] : List Addr)
 have pre0 : ∀ t, SF p e below s₁ m 0 #[rv ra0, iv p1] [] t → Steps p.tables e below (s₁.setTop (entryFrame m #[(.ref ra0), (.int p1)] 2)) t := fun t k => castTop (ef_rm21 m ra0 p1) k
 have k2051 := fun t (kk : SF p e below s₁ m 1 #[rv ra0, iv p1] [(.ref ra0)] t) => pre0 t (by
  refine XS.aloadN X0.here hx rfl (hb hby d21_0) rfl rfl ?_
  exact kk)
 obtain ⟨T2052, X2052, e2052, st2052⟩ := getF X0 hx hZ hown (host := "") (Or.inl (w94 hw)) Via.refl e0 zfr (g := (mkF m 1 #[rv ra0, iv p1] [(.ref ra0)])) rfl rfl (hb hby d21_1)
 have k2053 := fun t (kk : SF p e below T2052 m 4 #[rv ra0, iv p1] [(.ref zf)] t) => k2051 t (st2052 _ kk)
 have k2054 := fun t (kk : SF p e below T2052 m 5 #[rv ra0, iv p1] [(.int p1), (.ref zf)] t) => k2053 t (by
  refine XS.iloadN X2052.here hx rfl (hb hby d21_4) rfl ?_
  exact kk)
 have hV2055 := zcm
 obtain ⟨cl2055, Ar2055, q2055, S2055, Nn2055, H2055, G2055⟩ := hV2055
 have hb2056 : ¬ p1 < 0 ∧ p1 < zav := hi
 have hin2056 : ¬ (p1 < 0 ∨ cl2055.slots.size ≤ (p1).toNatClampNeg) := inb_of S2055 hb2056
 have hat2056 : cl2055.slots[(p1).toNatClampNeg]? = some (.long (v21_5_at p1 zas)) := Has.at H2055 hin2056 (own_getD_long _ _ _)
 have st2056 := X2052.laload hx (j := p1) (v := (.long (v21_5_at p1 zas))) (by rw [e2052]; exact Ar2055.1) (State.isArrayOf_alike hZ.alike Ar2055.2.1) Ar2055.2.2 hin2056 hat2056 (g := (mkF m 5 #[rv ra0, iv p1] [(.int p1), (.ref zf)])) rfl rfl (hb hby d21_5)
 have k2057 := fun t (kk : SF p e below T2052 m 6 #[rv ra0, iv p1] [(.long (v21_5_at p1 zas))] t) => k2054 t (st2056 _ kk)
 obtain ⟨fs, hr, hrun, hended, hW, hsame⟩ := X2052.leave (v := some (.long (v21_5_at p1 zas))) (fun h => by rw [Bd.returns] at h; cases h) hlk
 refine ⟨_, _, k2057 _ ?_, hrun, hended, _, _, rfl, ?_, ⟨_, rfl⟩, hW, hsame.mono (by decide) (by decide)⟩
 ·show SF p e below T2052 m 6 #[rv ra0, iv p1] [(.long (v21_5_at p1 zas))] _
  exact retOut X2052 hx (t := .long) Bd.returns rfl (Or.inr (Or.inl ⟨rfl, rfl, _, rfl⟩)) (hb hby d21_6) hr
 ·show Q21 Z ra0 p1 zf zbs zav zas h0 n0 _ T2052.heap _
  rw [e2052]
  exact ⟨rfl, N0, rfl⟩
theorem pd_7 : parseMethodDescriptor "(I)Lcom/example/gavelbook/gavelbook/Orders$Kind;" = some ⟨[.int], some (.object cKi)⟩ := by decide +kernel
theorem pd_8 : parseMethodDescriptor "(I)V" = some ⟨[.int], none⟩ := by decide +kernel
theorem pd_9 : parseMethodDescriptor "([BIIIIJLcom/example/gavelbook/gavelbook/Orders$Kind;JJJ)I" = some ⟨[(.array .byte), .int, .int, .int, .int, .long, (.object cKi), .long, .long, .long], some .int⟩ := by decide +kernel
theorem pd_10 : parseMethodDescriptor "(I)J" = some ⟨[.int], some .long⟩ := by decide +kernel
def v0_7_l9 (p3 : Int32) : Int32 := ((p3 &&& (255 : Int32)).toInt8.toInt32)
def v0_16_s0 (p3 : Int32) : Int32 := if (((p3.toUInt32 >>> ((16 : Int32) &&& 31).toUInt32).toInt32) &&& (1 : Int32)) = (0 : Int32) then ((((p3.toUInt32 >>> ((8 : Int32) &&& 31).toUInt32).toInt32) &&& (255 : Int32)).toInt8.toInt32) else (v0_7_l9 p3)
def v0_46_l11 (p3 : Int32) : Int32 := ((((p3.toUInt32 >>> ((24 : Int32) &&& 31).toUInt32).toInt32) &&& (255 : Int32)).toInt8.toInt32)
def v0_55_e (p3 : Int32) : Int32 := (((v0_7_l9 p3)).toInt8.toInt32)
def v0_60_e (p3 : Int32) : Int32 := (((v0_16_s0 p3)).toInt8.toInt32)
def v0_65_e (p3 : Int32) : Int32 := (((v0_46_l11 p3)).toInt8.toInt32)
abbrev es (p5 : Int32) : Int32 := v2_55_f_expectedSlots (p5 &&& (255 : Int32))
abbrev cp (p5 : Int32) : Int32 := v7_2_s0 (64 : Int32) (p5 &&& (255 : Int32))
abbrev tx (p3 : Int32) : List Int32 := [(v0_55_e p3), (v0_60_e p3), (v0_65_e p3)]
def v0_136_f_expectedSlots (p5 : Int32) : Int32 := (es p5)
def v0_136_f_expectedSlots_1 (p5 : Int32) : Int32 := (v2_69_f_expectedSlots (p5 &&& (255 : Int32)))
def v0_136_L0 (p3 p5 : Int32) : List Int32 := (ohf11_7_L1 (0 : Int32) (tx p3) (0 : Int32) (List.replicate ((cp p5)).toNatClampNeg (0 : Int32)) (List.replicate (((8 : Int32) * (cp p5))).toNatClampNeg (0 : Int32)))
def v0_136_L1 (p5 : Int32) : List Int32 := (v15_131_L (0 : Int32) (1 : Int32) (0 : Int32) (List.replicate ((cp p5)).toNatClampNeg (0 : Int32)))
def v0_136_L2 (p5 : Int32) : List Int64 := ((List.replicate ((cp p5)).toNatClampNeg (0 : Int64)).set ((0 : Int32)).toNatClampNeg (1 : Int64))
def v0_136_L3 (p3 p5 : Int32) : List Int32 := (ohf11_173_L1 (2 : Int32) (tx p3) (0 : Int32) (List.replicate ((cp p5)).toNatClampNeg (0 : Int32)) (List.replicate (((4 : Int32) * (cp p5))).toNatClampNeg (0 : Int32)))
def v0_136_L4 (p5 : Int32) : List Int32 := (ohf11_173_L0 (2 : Int32) (3 : Int32) (0 : Int32) (List.replicate ((cp p5)).toNatClampNeg (0 : Int32)))
def v0_136_L5 (p4 p5 : Int32) : List Int32 := (ohf11_191_L (0 : Int32) (v1_r_ordinal (p4 &&& (7 : Int32))) (List.replicate ((cp p5)).toNatClampNeg (0 : Int32)))
def v0_136_L6 (p4 : Int32) : List Int32 := (ohf11_205_L (v1_r_ordinal (p4 &&& (7 : Int32))) ([(0 : Int32), (0 : Int32), (0 : Int32), (0 : Int32), (0 : Int32)] : List Int32))
def v0_136_L7 (q0 : Int64) (p5 : Int32) : List Int64 := ((List.replicate ((cp p5)).toNatClampNeg (0 : Int64)).set ((0 : Int32)).toNatClampNeg q0)
def v0_136_L8 (p5 : Int32) : List Int64 := ((List.replicate ((cp p5)).toNatClampNeg (0 : Int64)).set ((0 : Int32)).toNatClampNeg (-1 : Int64))
def v0_164_l18 (p3 p5 : Int32) : Int32 := (ohk11_ret (1 : Int32) (tx p3) (es p5) (hf12_337_L (0 : Int32) (tx p3) (es p5) (0 : Int32)))
def v0_190_l19 (p3 p5 : Int32) : Int32 := (ohk11_ret (0 : Int32) (tx p3) (es p5) (hf12_337_L (0 : Int32) (tx p3) (es p5) (0 : Int32)))
def v0_196_s0 (p3 : Int32) : Int32 := if (v0_7_l9 p3) = (v0_16_s0 p3) then (1 : Int32) else (0 : Int32)
def v0_222_s0 (p3 : Int32) : Int32 := if (v0_196_s0 p3) = (0 : Int32) then (1 : Int32) else (0 : Int32)
def v0_242_s0 (p3 : Int32) : Int32 := if (v0_196_s0 p3) = (0 : Int32) then (2 : Int32) else (1 : Int32)
def v0_161_f_size  : Int32 := (((0 : Int32) + (1 : Int32)) + (1 : Int32))
def v0_161_f_hashed  : Int32 := (ohn11_7_f_hashed (ohf11_7_f_hashed (0 : Int32)))
def v0_161_f_probes (p3 p5 : Int32) : Int64 := (ohn11_7_f_probes (1 : Int32) (tx p3) (es p5) (hf12_337_L (0 : Int32) (tx p3) (es p5) (0 : Int32)) (0 : Int64))
def v0_161_f_size_1  : Int32 := (ohn11_173_f_size (ohf11_173_f_size (0 : Int32)))
def v0_161_L0 (p3 p5 : Int32) : List Int64 := (ohn11_7_L2 (1 : Int32) (tx p3) (es p5) (hf12_337_L (0 : Int32) (tx p3) (es p5) (0 : Int32)) ((0 : Int32) + (1 : Int32)))
def v0_161_L1 (p3 p5 : Int32) : List Int32 := (ohn11_7_L1 (1 : Int32) (tx p3) ((0 : Int32) + (1 : Int32)) (v0_136_L1 p5) (v0_136_L0 p3 p5))
def v0_161_L2 (p5 : Int32) : List Int32 := (v15_131_L (1 : Int32) (2 : Int32) ((0 : Int32) + (1 : Int32)) (v0_136_L1 p5))
def v0_161_L3 (p5 : Int32) : List Int64 := ((v0_136_L2 p5).set (((0 : Int32) + (1 : Int32))).toNatClampNeg (2 : Int64))
def v0_161_L4 (p3 p5 : Int32) : List Int32 := (ohn11_173_L1 (2 : Int32) (tx p3) (ohf11_173_f_size (0 : Int32)) (v0_136_L4 p5) (v0_136_L3 p3 p5))
def v0_161_L5 (p5 : Int32) : List Int32 := (ohn11_173_L0 (2 : Int32) (3 : Int32) (ohf11_173_f_size (0 : Int32)) (v0_136_L4 p5))
def v0_161_L6 (p4 p5 : Int32) : List Int32 := (ohn11_191_L ((0 : Int32) + (1 : Int32)) (v1_r_ordinal (((p4.toUInt32 >>> ((3 : Int32) &&& 31).toUInt32).toInt32) &&& (7 : Int32))) (v0_136_L5 p4 p5))
def v0_161_L7 (p4 : Int32) : List Int32 := (ohn11_205_L (v1_r_ordinal (((p4.toUInt32 >>> ((3 : Int32) &&& 31).toUInt32).toInt32) &&& (7 : Int32))) (v0_136_L6 p4))
def v0_161_L8 (q0 q1 : Int64) (p5 : Int32) : List Int64 := ((v0_136_L7 q0 p5).set (((0 : Int32) + (1 : Int32))).toNatClampNeg q1)
def v0_161_L9 (p5 : Int32) : List Int64 := ((v0_136_L8 p5).set (((0 : Int32) + (1 : Int32))).toNatClampNeg (-1 : Int64))
def v0_164_l18_1  : Int32 := (ohn11_10_l15 ((0 : Int32) + (1 : Int32)))
def v0_190_l19_1 (p3 p5 : Int32) : Int32 := (ohk11_ret (0 : Int32) (tx p3) (es p5) (v0_161_L0 p3 p5))
def v0_161_f_size_2  : Int32 := (odn11_173_f_size (ohf11_173_f_size (0 : Int32)))
def v0_161_L0_1 (p3 p5 : Int32) : List Int32 := (dn12_67_L (1 : Int32) (tx p3) (List.replicate (((2 : Int32) * (cp p5))).toNatClampNeg (0 : Int32)) ((0 : Int32) + (1 : Int32)))
def v0_161_L1_1 (p3 p5 : Int32) : List Int32 := (odn11_7_L1 (1 : Int32) (tx p3) ((0 : Int32) + (1 : Int32)) (v0_136_L1 p5) (v0_136_L0 p3 p5))
def v0_161_L4_1 (p3 p5 : Int32) : List Int32 := (odn11_173_L1 (2 : Int32) (tx p3) (ohf11_173_f_size (0 : Int32)) (v0_136_L4 p5) (v0_136_L3 p3 p5))
def v0_161_L5_1 (p5 : Int32) : List Int32 := (odn11_173_L0 (2 : Int32) (3 : Int32) (ohf11_173_f_size (0 : Int32)) (v0_136_L4 p5))
def v0_161_L6_1 (p4 p5 : Int32) : List Int32 := (odn11_191_L ((0 : Int32) + (1 : Int32)) (v1_r_ordinal (((p4.toUInt32 >>> ((3 : Int32) &&& 31).toUInt32).toInt32) &&& (7 : Int32))) (v0_136_L5 p4 p5))
def v0_161_L7_1 (p4 : Int32) : List Int32 := (odn11_205_L (v1_r_ordinal (((p4.toUInt32 >>> ((3 : Int32) &&& 31).toUInt32).toInt32) &&& (7 : Int32))) (v0_136_L6 p4))
def v0_136_L0_1 (p3 p5 : Int32) : List Int32 := (dn12_67_L (0 : Int32) (tx p3) (List.replicate (((2 : Int32) * (cp p5))).toNatClampNeg (0 : Int32)) (0 : Int32))
def v0_136_L1_1 (p3 p5 : Int32) : List Int32 := (odn11_7_L1 (0 : Int32) (tx p3) (0 : Int32) (List.replicate ((cp p5)).toNatClampNeg (0 : Int32)) (List.replicate (((8 : Int32) * (cp p5))).toNatClampNeg (0 : Int32)))
def v0_136_L2_1 (p5 : Int32) : List Int32 := (v15_131_L (0 : Int32) (1 : Int32) (0 : Int32) (List.replicate ((cp p5)).toNatClampNeg (0 : Int32)))
def v0_136_L3_1 (p5 : Int32) : List Int64 := ((List.replicate ((cp p5)).toNatClampNeg (0 : Int64)).set ((0 : Int32)).toNatClampNeg (1 : Int64))
def v0_136_L4_1 (p3 p5 : Int32) : List Int32 := (odn11_173_L1 (2 : Int32) (tx p3) (0 : Int32) (List.replicate ((cp p5)).toNatClampNeg (0 : Int32)) (List.replicate (((4 : Int32) * (cp p5))).toNatClampNeg (0 : Int32)))
def v0_136_L5_1 (p5 : Int32) : List Int32 := (odn11_173_L0 (2 : Int32) (3 : Int32) (0 : Int32) (List.replicate ((cp p5)).toNatClampNeg (0 : Int32)))
def v0_136_L6_1 (p4 p5 : Int32) : List Int32 := (odn11_191_L (0 : Int32) (v1_r_ordinal (p4 &&& (7 : Int32))) (List.replicate ((cp p5)).toNatClampNeg (0 : Int32)))
def v0_136_L7_1 (p4 : Int32) : List Int32 := (odn11_205_L (v1_r_ordinal (p4 &&& (7 : Int32))) ([(0 : Int32), (0 : Int32), (0 : Int32), (0 : Int32), (0 : Int32)] : List Int32))
def v0_136_L8_1 (q0 : Int64) (p5 : Int32) : List Int64 := ((List.replicate ((cp p5)).toNatClampNeg (0 : Int64)).set ((0 : Int32)).toNatClampNeg q0)
def v0_136_L9 (p5 : Int32) : List Int64 := ((List.replicate ((cp p5)).toNatClampNeg (0 : Int64)).set ((0 : Int32)).toNatClampNeg (-1 : Int64))
def v0_161_f_size_3  : Int32 := (ohf11_173_f_size (odn11_173_f_size (0 : Int32)))
def v0_161_L0_2 (p3 p5 : Int32) : List Int32 := (ohf11_7_L1 (1 : Int32) (tx p3) ((0 : Int32) + (1 : Int32)) (v0_136_L2_1 p5) (v0_136_L1_1 p3 p5))
def v0_161_L1_2 (p5 : Int32) : List Int32 := (v15_131_L (1 : Int32) (2 : Int32) ((0 : Int32) + (1 : Int32)) (v0_136_L2_1 p5))
def v0_161_L2_1 (p5 : Int32) : List Int64 := ((v0_136_L3_1 p5).set (((0 : Int32) + (1 : Int32))).toNatClampNeg (2 : Int64))
def v0_161_L3_1 (p3 p5 : Int32) : List Int32 := (ohf11_173_L1 (2 : Int32) (tx p3) (odn11_173_f_size (0 : Int32)) (v0_136_L5_1 p5) (v0_136_L4_1 p3 p5))
def v0_161_L4_2 (p5 : Int32) : List Int32 := (ohf11_173_L0 (2 : Int32) (3 : Int32) (odn11_173_f_size (0 : Int32)) (v0_136_L5_1 p5))
def v0_161_L5_2 (p4 p5 : Int32) : List Int32 := (ohf11_191_L ((0 : Int32) + (1 : Int32)) (v1_r_ordinal (((p4.toUInt32 >>> ((3 : Int32) &&& 31).toUInt32).toInt32) &&& (7 : Int32))) (v0_136_L6_1 p4 p5))
def v0_161_L6_2 (p4 : Int32) : List Int32 := (ohf11_205_L (v1_r_ordinal (((p4.toUInt32 >>> ((3 : Int32) &&& 31).toUInt32).toInt32) &&& (7 : Int32))) (v0_136_L7_1 p4))
def v0_161_L7_2 (q0 q1 : Int64) (p5 : Int32) : List Int64 := ((v0_136_L8_1 q0 p5).set (((0 : Int32) + (1 : Int32))).toNatClampNeg q1)
def v0_161_L8_1 (p5 : Int32) : List Int64 := ((v0_136_L9 p5).set (((0 : Int32) + (1 : Int32))).toNatClampNeg (-1 : Int64))
def v0_164_l18_2  : Int32 := (ohf11_10_l15 ((0 : Int32) + (1 : Int32)))
def v0_190_l19_2 (p3 p5 : Int32) : Int32 := (odo11_10_l15 (0 : Int32) (tx p3) (v0_136_L0_1 p3 p5))
def v0_164_l18_3 (p3 p5 : Int32) : Int32 := (odo11_10_l15 (1 : Int32) (tx p3) (v0_136_L0_1 p3 p5))
def v0_161_f_size_4  : Int32 := (odn11_173_f_size (odn11_173_f_size (0 : Int32)))
def v0_161_L0_3 (p3 p5 : Int32) : List Int32 := (dn12_67_L (1 : Int32) (tx p3) (v0_136_L0_1 p3 p5) ((0 : Int32) + (1 : Int32)))
def v0_161_L1_3 (p3 p5 : Int32) : List Int32 := (odn11_7_L1 (1 : Int32) (tx p3) ((0 : Int32) + (1 : Int32)) (v0_136_L2_1 p5) (v0_136_L1_1 p3 p5))
def v0_161_L2_2 (p5 : Int32) : List Int32 := (v15_131_L (1 : Int32) (2 : Int32) ((0 : Int32) + (1 : Int32)) (v0_136_L2_1 p5))
def v0_161_L3_2 (p5 : Int32) : List Int64 := ((v0_136_L3_1 p5).set (((0 : Int32) + (1 : Int32))).toNatClampNeg (2 : Int64))
def v0_161_L4_3 (p3 p5 : Int32) : List Int32 := (odn11_173_L1 (2 : Int32) (tx p3) (odn11_173_f_size (0 : Int32)) (v0_136_L5_1 p5) (v0_136_L4_1 p3 p5))
def v0_161_L5_3 (p5 : Int32) : List Int32 := (odn11_173_L0 (2 : Int32) (3 : Int32) (odn11_173_f_size (0 : Int32)) (v0_136_L5_1 p5))
def v0_161_L6_3 (p4 p5 : Int32) : List Int32 := (odn11_191_L ((0 : Int32) + (1 : Int32)) (v1_r_ordinal (((p4.toUInt32 >>> ((3 : Int32) &&& 31).toUInt32).toInt32) &&& (7 : Int32))) (v0_136_L6_1 p4 p5))
def v0_161_L7_3 (p4 : Int32) : List Int32 := (odn11_205_L (v1_r_ordinal (((p4.toUInt32 >>> ((3 : Int32) &&& 31).toUInt32).toInt32) &&& (7 : Int32))) (v0_136_L7_1 p4))
def v0_161_L8_2 (q0 q1 : Int64) (p5 : Int32) : List Int64 := ((v0_136_L8_1 q0 p5).set (((0 : Int32) + (1 : Int32))).toNatClampNeg q1)
def v0_161_L9_1 (p5 : Int32) : List Int64 := ((v0_136_L9 p5).set (((0 : Int32) + (1 : Int32))).toNatClampNeg (-1 : Int64))
def v0_190_l19_3 (p3 p5 : Int32) : Int32 := (odo11_10_l15 (0 : Int32) (tx p3) (v0_161_L0_3 p3 p5))
theorem own_255 (p5 : Int32) : ¬ (p5 &&& (255 : Int32)) < 0 ∧ (p5 &&& (255 : Int32)) < (256 : Int32) := by
  have a := c_and p5 255 (by decide); rw [Int32.lt_iff_toInt_lt, Int32.lt_iff_toInt_lt]; have z0 : (0 : Int32).toInt = 0 := rfl; have z1 : (255 : Int32).toInt = 255 := rfl; have z2 : (256 : Int32).toInt = 256 := rfl; omega
theorem own_cc (p5 : Int32) : ¬ (cp p5) < (64 : Int32) ∧ (cp p5) < (256 : Int32) := own_cap (own_255 p5)
theorem own_c1 (p5 : Int32) : ¬ (cp p5) < (64 : Int32) := (own_cc p5).1
theorem own_cm (p5 l : Int32) (hl : 1 ≤ l.toInt ∧ l.toInt ≤ 8) : ¬ (l * (cp p5)) < (64 : Int32) := by
  have h := own_mulr (l := l) ⟨by omega, hl.2⟩ (own_cc p5); rw [Int32.lt_iff_toInt_lt]; have z0 : (64 : Int32).toInt = 64 := rfl
  have m : 1 * (cp p5).toInt ≤ l.toInt * (cp p5).toInt := Int.mul_le_mul_of_nonneg_right hl.1 (by omega); omega
theorem own_c2 (p5 : Int32) : ¬ ((2 : Int32) * (cp p5)) < (64 : Int32) := own_cm p5 2 (by decide)
theorem own_c4 (p5 : Int32) : ¬ ((4 : Int32) * (cp p5)) < (64 : Int32) := own_cm p5 4 (by decide)
theorem own_c8 (p5 : Int32) : ¬ ((8 : Int32) * (cp p5)) < (64 : Int32) := own_cm p5 8 (by decide)
theorem own_clt (p5 : Int32) {x : Int32} (h : ¬ x < 0 ∧ x < (64 : Int32)) : ¬ x < 0 ∧ x < (cp p5) := by
  refine ⟨h.1, ?_⟩; have a := own_c1 p5; have b := h.2; rw [Int32.lt_iff_toInt_lt] at *; omega
theorem own_ord (x : Int32) : ¬ (v1_r_ordinal x) < 0 ∧ (v1_r_ordinal x) < (5 : Int32) := by
  unfold v1_r_ordinal; repeat' split
  all_goals exact ⟨by decide, by decide⟩
theorem own_es0 : ∀ k < 256, ¬ (v2_55_f_expectedSlots (Int32.ofNat k)) < (128 : Int32) ∧ (v2_55_f_expectedSlots (Int32.ofNat k)) < (513 : Int32) := by decide +kernel
theorem own_nat256 {x : Int32} (h : ¬ x < 0 ∧ x < (256 : Int32)) : ∃ k, k < 256 ∧ x = Int32.ofNat k := by
  rw [Int32.lt_iff_toInt_lt, Int32.lt_iff_toInt_lt] at h; have z0 : (0 : Int32).toInt = 0 := rfl; have z2 : (256 : Int32).toInt = 256 := rfl
  refine ⟨x.toInt.toNat, by omega, ?_⟩
  have e : x = Int32.ofInt x.toInt := (Int32.ofInt_toInt x).symm
  rw [show Int32.ofNat x.toInt.toNat = Int32.ofInt (x.toInt.toNat : Int) from rfl, Int.toNat_of_nonneg (by omega)]; exact e
theorem own_es (p5 : Int32) : ¬ (es p5) < (128 : Int32) ∧ (es p5) < (513 : Int32) := by
  obtain ⟨k, hk, e⟩ := own_nat256 (own_255 p5); unfold es; rw [e]; exact own_es0 k hk
theorem own_b8 (x : Int32) : x.toInt8.toInt32.toInt8.toInt32 = x.toInt8.toInt32 := by
  apply Int32.toInt_inj.mp; have a := c_i2b x; have b := c_i2b x.toInt8.toInt32; omega
theorem own_X0 (p3 : Int32) : v0_55_e p3 = v0_7_l9 p3 := by unfold v0_55_e v0_7_l9; exact own_b8 _
theorem own_X1 (p3 : Int32) : v0_60_e p3 = v0_16_s0 p3 := by
  unfold v0_60_e v0_16_s0; split
  · exact own_b8 _
  · exact own_X0 p3
theorem own_same0 (p3 : Int32) (c : ¬ ((v0_60_e p3) = (v0_55_e p3))) : (v0_196_s0 p3) = (0 : Int32) := by
  unfold v0_196_s0; rw [if_neg]; intro e; apply c; rw [own_X0, own_X1]; exact e.symm
theorem own_same1 (p3 : Int32) (c : (v0_60_e p3) = (v0_55_e p3)) : ¬ ((v0_196_s0 p3) = (0 : Int32)) := by
  unfold v0_196_s0; rw [own_X0, own_X1] at c; rw [if_pos c.symm]; decide
theorem own_222n (p3 : Int32) (c : ¬ ((v0_60_e p3) = (v0_55_e p3))) : (1 : Int32) = v0_222_s0 p3 := by unfold v0_222_s0; rw [if_pos (own_same0 p3 c)]
theorem own_222s (p3 : Int32) (c : (v0_60_e p3) = (v0_55_e p3)) : (0 : Int32) = v0_222_s0 p3 := by unfold v0_222_s0; rw [if_neg (own_same1 p3 c)]
theorem own_242n (p3 : Int32) (c : ¬ ((v0_60_e p3) = (v0_55_e p3))) : (2 : Int32) = v0_242_s0 p3 := by unfold v0_242_s0; rw [if_pos (own_same0 p3 c)]
theorem own_242s (p3 : Int32) (c : (v0_60_e p3) = (v0_55_e p3)) : (1 : Int32) = v0_242_s0 p3 := by unfold v0_242_s0; rw [if_neg (own_same1 p3 c)]
theorem own_v73 (p2 : Int32) (L : List Int32) : v13_73_l4 p2 L = v13_49_l6 p2 L := by unfold v13_73_l4; rw [Int32.mul_zero, Int32.zero_add]
theorem own_vr (p2 : Int32) (L : List Int32) (h : ¬ (v13_ret p2 L) < (0 : Int32)) : v13_ret p2 L = v13_49_l6 p2 L ∧ 0 ≤ (v13_ret p2 L).toInt ∧ (v13_ret p2 L).toInt ≤ 9 := by
  revert h; unfold v13_ret; rw [own_v73]
  split
  · intro h; exact absurd (by decide) h
  · split
    · intro h; exact absurd (by decide) h
    · rename_i a b; intro _; rw [Int32.lt_iff_toInt_lt] at a b; have z0 : (0 : Int32).toInt = 0 := rfl; have z9 : (9 : Int32).toInt = 9 := rfl; exact ⟨rfl, by omega, by omega⟩
theorem own_v10 (p2 : Int32) (L : List Int32) : (v13_ret p2 L) < (10 : Int32) := by
  by_cases h : (v13_ret p2 L) < (0 : Int32)
  · rw [Int32.lt_iff_toInt_lt] at *; have z0 : (0 : Int32).toInt = 0 := rfl; have z9 : (10 : Int32).toInt = 10 := rfl; omega
  · have := own_vr p2 L h; rw [Int32.lt_iff_toInt_lt]; have z9 : (10 : Int32).toInt = 10 := rfl; omega
theorem own_d0 (p3 : Int32) : v13_49_l6 (0 : Int32) (tx p3) = v0_55_e p3 - (48 : Int32) := rfl
theorem own_d1 (p3 : Int32) : v13_49_l6 (1 : Int32) (tx p3) = v0_60_e p3 - (48 : Int32) := rfl
theorem own_req (p3 : Int32) (c : (v0_60_e p3) = (v0_55_e p3)) : v13_ret (1 : Int32) (tx p3) = v13_ret (0 : Int32) (tx p3) := by
  unfold v13_ret; rw [own_v73, own_v73, own_d0, own_d1, c]
theorem own_nq1 (p3 : Int32) (c0 : (v13_ret (0 : Int32) (tx p3)) < (0 : Int32)) (c1 : ¬ ((v13_ret (1 : Int32) (tx p3)) < (0 : Int32))) : ¬ ((v0_60_e p3) = (v0_55_e p3)) := fun e => c1 (by rw [own_req p3 e]; exact c0)
theorem own_nq2 (p3 : Int32) (c0 : ¬ ((v13_ret (0 : Int32) (tx p3)) < (0 : Int32))) (c1 : (v13_ret (1 : Int32) (tx p3)) < (0 : Int32)) : ¬ ((v0_60_e p3) = (v0_55_e p3)) := fun e => c0 (by rw [← own_req p3 e]; exact c1)
theorem own_rne (p3 : Int32) (c0 : ¬ ((v13_ret (0 : Int32) (tx p3)) < (0 : Int32))) (c1 : ¬ ((v13_ret (1 : Int32) (tx p3)) < (0 : Int32))) (c2 : ¬ ((v0_60_e p3) = (v0_55_e p3))) : (v13_ret (1 : Int32) (tx p3)).toNatClampNeg ≠ (v13_ret (0 : Int32) (tx p3)).toNatClampNeg := by
  intro e; obtain ⟨a1, a2, a3⟩ := own_vr _ _ c0; obtain ⟨b1, b2, b3⟩ := own_vr _ _ c1
  have q : (v13_ret (1 : Int32) (tx p3)).toInt = (v13_ret (0 : Int32) (tx p3)).toInt := by simp only [Int32.toNatClampNeg] at e; omega
  apply c2; rw [a1, b1, own_d0, own_d1] at q
  have x := c_isub (v0_60_e p3) 48; have y := c_isub (v0_55_e p3) 48; have r1 := rng32 (v0_60_e p3); have r2 := rng32 (v0_55_e p3); apply Int32.toInt_inj.mp; omega
theorem own_rlt (p3 p5 k : Int32) : (v13_ret k (tx p3)).toNatClampNeg < ((2 : Int32) * (cp p5)).toNatClampNeg := by
  have a := own_v10 k (tx p3); have b := own_c2 p5; rw [Int32.lt_iff_toInt_lt] at a b; have z9 : (10 : Int32).toInt = 10 := rfl; have z6 : (64 : Int32).toInt = 64 := rfl; simp only [Int32.toNatClampNeg]; omega
theorem own_setS {α : Type} (L : List α) (k : Nat) (v d : α) (h : k < L.length) : (L.set k v).getD k d = v := by
  rw [List.getD_eq_getElem?_getD, List.getElem?_set, if_pos rfl, if_pos h]; rfl
theorem own_setO {α : Type} (L : List α) (k j : Nat) (v d : α) (h : k ≠ j) : (L.set k v).getD j d = L.getD j d := by
  rw [List.getD_eq_getElem?_getD, List.getElem?_set, if_neg h, List.getD_eq_getElem?_getD]
theorem own_r32 (n k : Nat) : ((List.replicate n (0 : Int32)).getD k (0 : Int32)) = (0 : Int32) := by
  rw [List.getD_eq_getElem?_getD, List.getElem?_replicate]; split <;> rfl
theorem own_bv0 (p3 p5 : Int32) : ((v0_136_L0_1 p3 p5).getD ((v13_ret (0 : Int32) (tx p3))).toNatClampNeg (0 : Int32)) = (1 : Int32) := by
  unfold v0_136_L0_1 dn12_67_L; rw [own_setS _ _ _ _ (by rw [List.length_replicate]; exact own_rlt p3 p5 0)]; rfl
theorem own_bv0e (p3 p5 : Int32) (c : (v0_60_e p3) = (v0_55_e p3)) : ((v0_136_L0_1 p3 p5).getD ((v13_ret (1 : Int32) (tx p3))).toNatClampNeg (0 : Int32)) = (1 : Int32) := by rw [own_req p3 c]; exact own_bv0 p3 p5
theorem own_bv1 (p3 p5 : Int32) (c0 : ¬ ((v13_ret (0 : Int32) (tx p3)) < (0 : Int32))) (c1 : ¬ ((v13_ret (1 : Int32) (tx p3)) < (0 : Int32))) (c2 : ¬ ((v0_60_e p3) = (v0_55_e p3))) : ((v0_136_L0_1 p3 p5).getD ((v13_ret (1 : Int32) (tx p3))).toNatClampNeg (0 : Int32)) = (0 : Int32) := by
  unfold v0_136_L0_1 dn12_67_L; rw [own_setO _ _ _ _ _ (Ne.symm (own_rne p3 c0 c1 c2))]; exact own_r32 _ _
theorem own_bv2 (p3 p5 : Int32) (c0 : ¬ ((v13_ret (0 : Int32) (tx p3)) < (0 : Int32))) (c1 : ¬ ((v13_ret (1 : Int32) (tx p3)) < (0 : Int32))) (c2 : ¬ ((v0_60_e p3) = (v0_55_e p3))) : ((v0_161_L0_3 p3 p5).getD ((v13_ret (0 : Int32) (tx p3))).toNatClampNeg (0 : Int32)) = (1 : Int32) := by
  unfold v0_161_L0_3 dn12_67_L; rw [own_setO _ _ _ _ _ (own_rne p3 c0 c1 c2)]; exact own_bv0 p3 p5
theorem own_n0 {x : Int32} (h : x = (1 : Int32)) : ¬ (x = (0 : Int32)) := by subst h; decide
theorem own_s1 {x : Int32} (h : x = (1 : Int32)) : x - (1 : Int32) = (0 : Int32) := by subst h; rfl
theorem own_zlt {x n : Int32} (h : x = (0 : Int32)) (hn : (0 : Int32) < n) : x < n := by subst h; exact hn
theorem own_E0 (L : List Int32) : ¬ (v16_ret (0 : Int32) L) < 0 ∧ (v16_ret (0 : Int32) L) < (60 : Int32) := by unfold v16_ret; rw [if_pos rfl]; decide
theorem own_clen (p5 : Int32) (k : Nat) (hk : k < 64) : k < (cp p5).toNatClampNeg := by
  have b := own_c1 p5; rw [Int32.lt_iff_toInt_lt] at b; have z6 : (64 : Int32).toInt = 64 := rfl; simp only [Int32.toNatClampNeg]; omega
theorem own_Lg (p5 a b : Int32) (h : ((0 : Int32) + b) - a = (1 : Int32)) : (v15_131_L a b (0 : Int32) (List.replicate (cp p5).toNatClampNeg (0 : Int32))).getD 0 (0 : Int32) = (1 : Int32) := by
  unfold v15_131_L; rw [show (0 : Int32).toNatClampNeg = 0 from rfl, own_setS _ _ _ _ (by rw [List.length_replicate]; exact own_clen p5 0 (by decide))]
  rw [show v16_ret (0 : Int32) (List.replicate (cp p5).toNatClampNeg (0 : Int32)) = (0 : Int32) from if_pos rfl]; exact h
theorem own_L1 (p5 : Int32) : ((v0_136_L1 p5).getD 0 (0 : Int32)) = (1 : Int32) := own_Lg p5 0 1 rfl
theorem own_Eg (p5 a b : Int32) (h : ((0 : Int32) + b) - a = (1 : Int32)) : v16_ret ((0 : Int32) + (1 : Int32)) (v15_131_L a b (0 : Int32) (List.replicate (cp p5).toNatClampNeg (0 : Int32))) = (1 : Int32) := by
  unfold v16_ret; rw [if_neg (by decide)]; unfold v16_21_at; exact own_Lg p5 a b h
theorem own_E1 (p5 a b : Int32) (h : ((0 : Int32) + b) - a = (1 : Int32)) : ¬ (v16_ret ((0 : Int32) + (1 : Int32)) (v15_131_L a b (0 : Int32) (List.replicate (cp p5).toNatClampNeg (0 : Int32)))) < 0 ∧ (v16_ret ((0 : Int32) + (1 : Int32)) (v15_131_L a b (0 : Int32) (List.replicate (cp p5).toNatClampNeg (0 : Int32)))) < (60 : Int32) := by
  rw [own_Eg p5 a b h]; decide
theorem own_L2 (p5 : Int32) : ((v0_161_L2 p5).getD 0 (0 : Int32)) = (1 : Int32) := by
  unfold v0_161_L2 v15_131_L; rw [own_setO _ _ _ _ _ (by decide)]; exact own_L1 p5
theorem own_B0 (p3 p5 : Int32) : ((v0_136_L0 p3 p5).getD 0 (0 : Int32)) = v0_55_e p3 := by
  show (((List.replicate ((8 : Int32) * (cp p5)).toNatClampNeg (0 : Int32)).set ((v16_ret (0 : Int32) (List.replicate (cp p5).toNatClampNeg (0 : Int32)))).toNatClampNeg (v0_55_e p3)).getD 0 (0 : Int32)) = v0_55_e p3
  rw [show v16_ret (0 : Int32) (List.replicate (cp p5).toNatClampNeg (0 : Int32)) = (0 : Int32) from if_pos rfl, show (0 : Int32).toNatClampNeg = 0 from rfl]
  refine own_setS _ _ _ _ ?_; rw [List.length_replicate]; have b := own_c8 p5; rw [Int32.lt_iff_toInt_lt] at b; have z6 : (64 : Int32).toInt = 64 := rfl; simp only [Int32.toNatClampNeg]; omega
theorem own_B1 (p3 p5 : Int32) : ((v0_161_L1 p3 p5).getD 0 (0 : Int32)) = v0_55_e p3 := by
  show (((v0_136_L0 p3 p5).set ((v16_ret ((0 : Int32) + (1 : Int32)) (v15_131_L (0 : Int32) (1 : Int32) (0 : Int32) (List.replicate (cp p5).toNatClampNeg (0 : Int32))))).toNatClampNeg (v0_60_e p3)).getD 0 (0 : Int32)) = v0_55_e p3
  rw [own_Eg p5 0 1 rfl, own_setO _ _ _ _ _ (by decide)]; exact own_B0 p3 p5
theorem own_B2 (p3 p5 : Int32) : ((v0_161_L1_1 p3 p5).getD 0 (0 : Int32)) = v0_55_e p3 := own_B1 p3 p5
theorem own_Q0 (q0 : Int64) (p5 : Int32) : (v21_5_at (0 : Int32) (v0_136_L7 q0 p5)) = q0 := by
  unfold v21_5_at v0_136_L7; exact own_setS _ _ _ _ (by rw [List.length_replicate]; exact own_clen p5 0 (by decide))
theorem own_Q1 (q0 q1 : Int64) (p5 : Int32) : (v21_5_at (0 : Int32) (v0_161_L8 q0 q1 p5)) = q0 := by
  unfold v21_5_at v0_161_L8; rw [own_setO _ _ _ _ _ (by decide)]; exact own_Q0 q0 p5
theorem own_Q2 (q0 q1 : Int64) (p5 : Int32) : (v21_5_at (1 : Int32) (v0_161_L8 q0 q1 p5)) = q1 := by
  unfold v21_5_at v0_161_L8 v0_136_L7; exact own_setS _ _ _ _ (by rw [List.length_set, List.length_replicate]; exact own_clen p5 1 (by decide))
def own_ent (h : Int32) : Int64 := (((h).toInt64) <<< ((32 : Int32) &&& 0x3f).toInt64) ||| (((0 : Int32) + (1 : Int32)).toInt64)
def own_hi (x : Int64) : Int32 := (((x.toUInt64 >>> ((32 : Int32) &&& 0x3f).toInt64.toUInt64).toInt64).toInt32)
def own_h (x : Int32) : Int32 := (((31 : Int32) * (1 : Int32)) + x)
theorem own_entf0 : ∀ k : Nat, k < 256 → ¬ own_ent (own_h (Int32.ofInt ((k : Int) - 128))) = 0 ∧ own_hi (own_ent (own_h (Int32.ofInt ((k : Int) - 128)))) = own_h (Int32.ofInt ((k : Int) - 128)) ∧ (own_ent (own_h (Int32.ofInt ((k : Int) - 128)))).toInt32 - (1 : Int32) = 0 := by decide +kernel
theorem own_entf (p3 : Int32) : ¬ own_ent (own_h (v0_55_e p3)) = 0 ∧ own_hi (own_ent (own_h (v0_55_e p3))) = own_h (v0_55_e p3) ∧ (own_ent (own_h (v0_55_e p3))).toInt32 - (1 : Int32) = 0 := by
  have r : -128 ≤ (v0_55_e p3).toInt ∧ (v0_55_e p3).toInt < 128 := by unfold v0_55_e; have a := c_i2b (v0_7_l9 p3); omega
  have e : v0_55_e p3 = Int32.ofInt ((((v0_55_e p3).toInt + 128).toNat : Int) - 128) := by
    rw [Int.toNat_of_nonneg (by omega), show (v0_55_e p3).toInt + 128 - 128 = (v0_55_e p3).toInt by omega]; exact (Int32.ofInt_toInt _).symm
  rw [e]; exact own_entf0 _ (by omega)
theorem own_hinj (x y : Int32) (h : own_h x = own_h y) : x = y := by
  unfold own_h at h; have a := c_iadd ((31 : Int32) * (1 : Int32)) x; have b := c_iadd ((31 : Int32) * (1 : Int32)) y; have r1 := rng32 x; have r2 := rng32 y; rw [h] at a; apply Int32.toInt_inj.mp; omega
def own_slot (x n : Int32) : Int32 := (((own_h x) ^^^ (((own_h x).toUInt32 >>> ((16 : Int32) &&& 31).toUInt32).toInt32)) &&& (n - (1 : Int32)))
def own_S0 (p3 p5 : Int32) : List Int64 := (List.replicate (es p5).toNatClampNeg (0 : Int64)).set (own_slot (v0_55_e p3) (es p5)).toNatClampNeg (own_ent (own_h (v0_55_e p3)))
theorem own_slt (p5 x : Int32) : (own_slot x (es p5)).toNatClampNeg < (es p5).toNatClampNeg := by
  have a := own_sl (x := ((own_h x) ^^^ (((own_h x).toUInt32 >>> ((16 : Int32) &&& 31).toUInt32).toInt32))) (own_es p5); exact own_lt_nat a.1 a.2
theorem own_S0e (p3 p5 : Int32) : hf12_337_L (0 : Int32) (tx p3) (es p5) (0 : Int32) = own_S0 p3 p5 := rfl
theorem own_S0at (p3 p5 : Int32) : (own_S0 p3 p5).getD (own_slot (v0_55_e p3) (es p5)).toNatClampNeg (0 : Int64) = own_ent (own_h (v0_55_e p3)) :=
  own_setS _ _ _ _ (by rw [List.length_replicate]; exact own_slt p5 _)
theorem own_at0 (p3 p5 : Int32) : hk12_207_at (0 : Int32) (tx p3) (es p5) (hf12_337_L (0 : Int32) (tx p3) (es p5) (0 : Int32)) = own_ent (own_h (v0_55_e p3)) := own_S0at p3 p5
theorem own_at1 (p3 p5 : Int32) (c : (v0_60_e p3) = (v0_55_e p3)) : hk12_207_at (1 : Int32) (tx p3) (es p5) (hf12_337_L (0 : Int32) (tx p3) (es p5) (0 : Int32)) = own_ent (own_h (v0_55_e p3)) := by
  show (own_S0 p3 p5).getD (own_slot (v0_60_e p3) (es p5)).toNatClampNeg (0 : Int64) = _
  rw [c]; exact own_S0at p3 p5
theorem own_hk1 (p3 : Int32) {x : Int64} (e : x = own_ent (own_h (v0_55_e p3))) : ¬ (x = (0 : Int64)) := by rw [e]; exact (own_entf p3).1
theorem own_hk2 (p3 : Int32) {x : Int64} (e : x = own_ent (own_h (v0_55_e p3))) : (((x.toUInt64 >>> ((32 : Int32) &&& 0x3f).toInt64.toUInt64).toInt64).toInt32) = own_h (v0_55_e p3) := by rw [e]; exact (own_entf p3).2.1
theorem own_hk3 (p3 : Int32) {x : Int64} (e : x = own_ent (own_h (v0_55_e p3))) : (x.toInt32) - (1 : Int32) = (0 : Int32) := by rw [e]; exact (own_entf p3).2.2
theorem own_hk2e (p3 p5 : Int32) (c : (v0_60_e p3) = (v0_55_e p3)) : (((((hk12_207_at (1 : Int32) (tx p3) (es p5) (hf12_337_L (0 : Int32) (tx p3) (es p5) (0 : Int32))).toUInt64 >>> ((32 : Int32) &&& 0x3f).toInt64.toUInt64).toInt64).toInt32) = (hk12_174_l5 (1 : Int32) (tx p3))) := by
  rw [own_hk2 p3 (own_at1 p3 p5 c)]; show own_h (v0_55_e p3) = own_h (v0_60_e p3); rw [c]
theorem own_sx (p3 p5 : Int32) (h : ¬ ((own_S0 p3 p5).getD (own_slot (v0_60_e p3) (es p5)).toNatClampNeg (0 : Int64) = (0 : Int64))) : (own_slot (v0_60_e p3) (es p5)).toNatClampNeg = (own_slot (v0_55_e p3) (es p5)).toNatClampNeg := by
  apply Classical.byContradiction; intro q; apply h; unfold own_S0; rw [own_setO _ _ _ _ _ (Ne.symm q)]; exact own_rep0 _ _
theorem own_hn1 (p3 p5 : Int32) (c : ¬ ((v0_60_e p3) = (v0_55_e p3))) : ¬ ((hn12_207_at (1 : Int32) (tx p3) (es p5) (hf12_337_L (0 : Int32) (tx p3) (es p5) (0 : Int32))) = (0 : Int64)) → ¬ (((((hn12_207_at (1 : Int32) (tx p3) (es p5) (hf12_337_L (0 : Int32) (tx p3) (es p5) (0 : Int32))).toUInt64 >>> ((32 : Int32) &&& 0x3f).toInt64.toUInt64).toInt64).toInt32) = (hn12_174_l5 (1 : Int32) (tx p3))) := by
  intro h
  have q := own_sx p3 p5 h
  have e : hn12_207_at (1 : Int32) (tx p3) (es p5) (hf12_337_L (0 : Int32) (tx p3) (es p5) (0 : Int32)) = own_ent (own_h (v0_55_e p3)) := by
    show (own_S0 p3 p5).getD (own_slot (v0_60_e p3) (es p5)).toNatClampNeg (0 : Int64) = _
    rw [q]; exact own_S0at p3 p5
  rw [own_hk2 p3 e]; intro z; exact c (own_hinj _ _ z).symm
theorem own_es3 : ∀ k < 256, v2_55_f_expectedSlots (Int32.ofNat k) = 128 ∨ v2_55_f_expectedSlots (Int32.ofNat k) = 256 ∨ v2_55_f_expectedSlots (Int32.ofNat k) = 512 := by decide +kernel
theorem own_esv (p5 : Int32) : es p5 = 128 ∨ es p5 = 256 ∨ es p5 = 512 := by
  obtain ⟨k, hk, e⟩ := own_nat256 (own_255 p5); unfold es; rw [e]; exact own_es3 k hk
theorem own_nx0 : ∀ k < 512, (((Int32.ofNat k + (1 : Int32)) &&& ((128 : Int32) - (1 : Int32))).toNatClampNeg ≠ (Int32.ofNat k).toNatClampNeg) ∧ (((Int32.ofNat k + (1 : Int32)) &&& ((256 : Int32) - (1 : Int32))).toNatClampNeg ≠ (Int32.ofNat k).toNatClampNeg) ∧ (((Int32.ofNat k + (1 : Int32)) &&& ((512 : Int32) - (1 : Int32))).toNatClampNeg ≠ (Int32.ofNat k).toNatClampNeg) := by decide +kernel
def own_nxt (s n : Int32) : Int32 := ((s + (1 : Int32)) &&& (n - (1 : Int32)))
theorem own_nx (p5 x : Int32) : (own_nxt (own_slot x (es p5)) (es p5)).toNatClampNeg ≠ (own_slot x (es p5)).toNatClampNeg := by
  have a := own_sl (x := ((own_h x) ^^^ (((own_h x).toUInt32 >>> ((16 : Int32) &&& 31).toUInt32).toInt32))) (own_es p5)
  have b := own_es p5
  change ¬ (own_slot x (es p5)) < 0 ∧ (own_slot x (es p5)) < (es p5) at a
  generalize own_slot x (es p5) = s at a ⊢
  rw [Int32.lt_iff_toInt_lt, Int32.lt_iff_toInt_lt] at a b
  have z0 : (0 : Int32).toInt = 0 := rfl
  have z5 : (513 : Int32).toInt = 513 := rfl
  have e : s = Int32.ofNat s.toInt.toNat := by
    rw [show Int32.ofNat s.toInt.toNat = Int32.ofInt (s.toInt.toNat : Int) from rfl, Int.toNat_of_nonneg (by omega)]; exact (Int32.ofInt_toInt s).symm
  have h := own_nx0 s.toInt.toNat (by omega)
  rw [← e] at h; unfold own_nxt
  rcases own_esv p5 with q | q | q
  · rw [q]; exact h.1
  · rw [q]; exact h.2.1
  · rw [q]; exact h.2.2
theorem own_hn2 (p3 p5 : Int32) : ¬ ((hn12_207_at (1 : Int32) (tx p3) (es p5) (hf12_337_L (0 : Int32) (tx p3) (es p5) (0 : Int32))) = (0 : Int64)) → (hn12_305_at (1 : Int32) (tx p3) (es p5) (hf12_337_L (0 : Int32) (tx p3) (es p5) (0 : Int32))) = (0 : Int64) := by
  intro h
  have q := own_sx p3 p5 h
  show (own_S0 p3 p5).getD (own_nxt (own_slot (v0_60_e p3) (es p5)) (es p5)).toNatClampNeg (0 : Int64) = _
  unfold own_S0; rw [own_setO _ _ _ _ _ (by rw [← q]; exact Ne.symm (own_nx p5 (v0_60_e p3)))]; exact own_rep0 _ _
theorem own_at2 (p3 p5 : Int32) (c : ¬ ((v0_60_e p3) = (v0_55_e p3))) : hk12_207_at (0 : Int32) (tx p3) (es p5) (v0_161_L0 p3 p5) = own_ent (own_h (v0_55_e p3)) := by
  show (hn12_a_r_slots_ra0 (1 : Int32) (tx p3) (es p5) (own_S0 p3 p5) ((0 : Int32) + (1 : Int32))).getD (own_slot (v0_55_e p3) (es p5)).toNatClampNeg (0 : Int64) = _
  unfold hn12_a_r_slots_ra0
  by_cases h : (hn12_207_at (1 : Int32) (tx p3) (es p5) (own_S0 p3 p5)) = (0 : Int64)
  · rw [if_pos h]
    show ((own_S0 p3 p5).set (own_slot (v0_60_e p3) (es p5)).toNatClampNeg _).getD (own_slot (v0_55_e p3) (es p5)).toNatClampNeg (0 : Int64) = _
    rw [own_setO _ _ _ _ _ (fun q => (own_entf p3).1 (by rw [← own_S0at p3 p5, ← q]; exact h))]; exact own_S0at p3 p5
  · rw [if_neg h]; have q := own_sx p3 p5 h
    show ((own_S0 p3 p5).set (own_nxt (own_slot (v0_60_e p3) (es p5)) (es p5)).toNatClampNeg _).getD (own_slot (v0_55_e p3) (es p5)).toNatClampNeg (0 : Int64) = _
    rw [own_setO _ _ _ _ _ (by rw [← q]; exact own_nx p5 (v0_60_e p3))]; exact own_S0at p3 p5
theorem own_law (q0 q1 q2 : Int64) (p3 p4 p5 : Int32) : (1 : Int32) = 1 := rfl
theorem ef_rm0 (m : MethodId) (q0 q1 q2 : Int64) (p3 p4 p5 : Int32) : entryFrame m #[(.long q0), (.long q1), (.long q2), (.int p3), (.int p4), (.int p5)] maxLocals = mkF m 0 #[.val (.long q0), .second, .val (.long q1), .second, .val (.long q2), .second, iv p3, iv p4, iv p5, .unset, .unset, .unset, .unset, .unset, .unset, .unset, .unset, .unset, .unset, .unset, .unset] [] := by first | (simp [entryFrame, mkF, argsToLocals, Value.category, maxLocals]; done) | rfl
def Q0 (Z : State) (q0 q1 q2 : Int64) (p3 p4 p5 : Int32) (zcl zau : Addr) (zca o_BUY : Addr) (o_SELL zan zci : Addr) (zfj : ClassId) (zfk : List Value) (h0 : Heap) (n0 : Nat) (v : Option Value) (h : Heap) (L : List Loc) : Prop := v = some (.int 1) ∧ Fr n0 L
set_option maxRecDepth 65536 in
set_option maxHeartbeats 40000000 in
theorem rm0 (l : Launch) (Z : State) (a0 : Array Value) (hw : HW Z a0) (ws : List Jvm.Cond) (q0 q1 q2 : Int64) (p3 p4 p5 : Int32) (zcl zau : Addr) (zca o_BUY : Addr) (o_SELL zan zci : Addr) (zfj : ClassId) (zfk : List Value) (h0 : Heap) (n0 : Nat) (Z0 : n0 ≤ h0.size) (zjz : Sta Z Z.heap cKi "LIMIT" "Lcom/example/gavelbook/gavelbook/Orders$Kind;" (.ref zcl)) (zgp : Sta Z Z.heap cKi "NON_COMPETITIVE" "Lcom/example/gavelbook/gavelbook/Orders$Kind;" (.ref zau)) (zjx : Sta Z Z.heap cKi "MARKET" "Lcom/example/gavelbook/gavelbook/Orders$Kind;" (.ref zca)) (S_BUY : Sta Z Z.heap cKi "BUY" "Lcom/example/gavelbook/gavelbook/Orders$Kind;" (.ref o_BUY)) (S_SELL : Sta Z Z.heap cKi "SELL" "Lcom/example/gavelbook/gavelbook/Orders$Kind;" (.ref o_SELL)) (O0 : Old Z n0 h0) (zht : Exa Z Z.heap zcl cKi) (zfx : Fld Z Z.heap zcl "java/lang/Enum" "ordinal" "I" (.int 0)) (zdz : Exa Z Z.heap zau cKi) (zdt : Fld Z Z.heap zau "java/lang/Enum" "ordinal" "I" (.int 1)) (zhf : Exa Z Z.heap zca cKi) (zfi : Fld Z Z.heap zca "java/lang/Enum" "ordinal" "I" (.int 2)) (ziv : Exa Z Z.heap o_BUY cKi) (zgt : Fld Z Z.heap o_BUY "java/lang/Enum" "ordinal" "I" (.int 3)) (zif : Exa Z Z.heap o_SELL cKi) (zge : Fld Z Z.heap o_SELL "java/lang/Enum" "ordinal" "I" (.int 4)) (zcw : Sta Z Z.heap "java/util/ArrayList" "DEFAULTCAPACITY_EMPTY_ELEMENTDATA" "[Ljava/lang/Object;" (.ref zan)) (zkj : Sta Z Z.heap cOr "KINDS" "[Lcom/example/gavelbook/gavelbook/Orders$Kind;" (.ref zci)) (zfy : Arv Z Z.heap zci zfj (.object cKi) (5 : Int32) zfk .null) :
  MetFree l x (head1 (Jvm.Cond.code x code maxLocals ret :: ws) room_1) (fun a U => a = #[(.long q0), (.long q1), (.long q2), (.int p3), (.int p4), (.int p5)] ∧ Z.Warmed39 U.vm ∧ U.heap = h0) (fun _ _ _ _ _ => True) (fun _ U o U' => ∃ v L, o = .returned v ∧ Q0 Z q0 q1 q2 p3 p4 p5 zcl zau zca o_BUY o_SELL zan zci zfj zfk h0 n0 v U'.heap L ∧ FrameEnd U o U' L room_1.cells room_1.slots) := by
 refine MetFree.of_bodySF (plainFor_of_name pn_26) hisR ?_
 intro p e s m args below meth c s₁ Bd hml0 hP hK
 obtain ⟨rfl, hZ, hh⟩ := hP
 have hx := Bd.exec
 have hlk : meth.locks = false := by first | exact BodyLoose.notSynchronized Bd | exact Body.notSynchronized Bd
 have hby := Bd.bytes
 have hml : c.maxLocals = 21 := hml0
 have hown : s.vm.findClass cLw = some m.cls := findClass_of_methodNamed Bd.named
 have hnm := (name_of_methodNamed Bd.named Bd.method).1
 have X0 : Stand p l e room_1 s m #[(.long q0), (.long q1), (.long q2), (.int p3), (.int p4), (.int p5)] below meth c s₁ [] 0 0 := Stand.of_body Bd
 have e0 : s₁.heap = h0 := by rw [← hh, Bd.state]; rfl
 have N0 := Fr.nil n0
 have KC0 := Keep.refl h0 ([] : List Addr)
 let o7 : Array Slot := #[.val (.long q0), .second, .val (.long q1), .second, .val (.long q2), .second, iv p3, iv p4, iv p5, iv (v0_7_l9 p3), iv (v0_16_s0 p3), iv (v0_46_l11 p3), .unset, .unset, .unset, .unset, .unset, .unset, .unset, .unset, .unset]
 let o24 : Array Slot := #[.val (.long q0), .second, .val (.long q1), .second, .val (.long q2), .second, iv p3, iv p4, iv p5, iv (v0_7_l9 p3), .unset, .unset, .unset, .unset, .unset, .unset, .unset, .unset, .unset, .unset, .unset]
 let o28 : Array Slot := #[.val (.long q0), .second, .val (.long q1), .second, .val (.long q2), .second, iv p3, iv p4, iv p5, iv (v0_7_l9 p3), iv (v0_16_s0 p3), .unset, .unset, .unset, .unset, .unset, .unset, .unset, .unset, .unset, .unset]
 have pre0 : ∀ t, SF p e below s₁ m 0 #[.val (.long q0), .second, .val (.long q1), .second, .val (.long q2), .second, iv p3, iv p4, iv p5, .unset, .unset, .unset, .unset, .unset, .unset, .unset, .unset, .unset, .unset, .unset, .unset] [] t → Steps p.tables e below (s₁.setTop (entryFrame m #[(.long q0), (.long q1), (.long q2), (.int p3), (.int p4), (.int p5)] maxLocals)) t := fun t k => castTop (ef_rm0 m q0 q1 q2 p3 p4 p5) k
 have k2060 := fun t (kk : SF p e below s₁ m 49 o7 [(.int 3)] t) => pre0 t (by
  refine XS.iload X0.here hx rfl (hb hby at_0) rfl ?_
  refine XS.sipush X0.here hx rfl (hb hby at_2) ?_
  refine XS.iand X0.here hx rfl (hb hby at_5) rfl ?_
  refine XS.i2b X0.here hx rfl (hb hby at_6) rfl ?_
  refine XS.istore X0.here hx rfl (hb hby at_7) rfl (l' := o24) rfl ?_
  refine XS.iload X0.here hx rfl (hb hby at_9) rfl ?_
  refine XS.bipush X0.here hx rfl (hb hby at_11) ?_
  refine XS.iushr X0.here hx rfl (hb hby at_13) rfl ?_
  refine XS.iconst X0.here hx rfl (hb hby at_14) ?_
  refine XS.iand X0.here hx rfl (hb hby at_15) rfl ?_
  suffices k2059 : SF p e below s₁ m 34 #[.val (.long q0), .second, .val (.long q1), .second, .val (.long q2), .second, iv p3, iv p4, iv p5, iv (v0_7_l9 p3), .unset, .unset, .unset, .unset, .unset, .unset, .unset, .unset, .unset, .unset, .unset] [(.int (v0_16_s0 p3))] t by
   by_cases hc16_2058 : (((p3.toUInt32 >>> ((16 : Int32) &&& 31).toUInt32).toInt32) &&& (1 : Int32)) = (0 : Int32)
   ·rw [(show (v0_16_s0 p3) = ((((p3.toUInt32 >>> ((8 : Int32) &&& 31).toUInt32).toInt32) &&& (255 : Int32)).toInt8.toInt32) from if_pos hc16_2058)] at k2059
    show SF p e below s₁ m 16 o24 [(.int (((p3.toUInt32 >>> ((16 : Int32) &&& 31).toUInt32).toInt32) &&& (1 : Int32)))] _
    refine XS.ifYes X0.here hx rfl (pc0 := 16) (pc' := 24) rfl (hb hby at_16) rfl ((if0 _ _).trans (teq hc16_2058).1) (by decide) (by decide) ?_
    refine XS.iload X0.here hx rfl (hb hby at_24) rfl ?_
    refine XS.bipush X0.here hx rfl (hb hby at_26) ?_
    refine XS.iushr X0.here hx rfl (hb hby at_28) rfl ?_
    refine XS.sipush X0.here hx rfl (hb hby at_29) ?_
    refine XS.iand X0.here hx rfl (hb hby at_32) rfl ?_
    refine XS.i2b X0.here hx rfl (hb hby at_33) rfl ?_
    exact k2059
   ·rw [(show (v0_16_s0 p3) = (v0_7_l9 p3) from if_neg hc16_2058)] at k2059
    refine XS.ifNo X0.here hx rfl (hb hby at_16) rfl ((if0 _ _).trans (feq hc16_2058).1) ?_
    refine XS.iload X0.here hx rfl (hb hby at_19) rfl ?_
    refine XS.goto X0.here hx rfl (pc0 := 21) (pc' := 34) rfl (hb hby at_21) (by decide) (by decide) ?_
    exact k2059
  refine XS.istore X0.here hx rfl (hb hby at_34) rfl (l' := o28) rfl ?_
  refine XS.iload X0.here hx rfl (hb hby at_36) rfl ?_
  show SF p e below s₁ m 38 o28 [(.int p3)] _
  refine XS.bipush X0.here hx rfl (hb hby at_38) ?_
  refine XS.iushr X0.here hx rfl (hb hby at_40) rfl ?_
  refine XS.sipush X0.here hx rfl (hb hby at_41) ?_
  refine XS.iand X0.here hx rfl (hb hby at_44) rfl ?_
  refine XS.i2b X0.here hx rfl (hb hby at_45) rfl ?_
  refine XS.istore X0.here hx rfl (hb hby at_46) rfl (l' := o7) rfl ?_
  refine XS.iconst X0.here hx rfl (hb hby at_48) ?_
  exact kk)
 obtain ⟨T2061, h2061, k2061, X2061, e2061, E2061, A2061, st2061⟩ := newP (aty := .byte) X0 hx hZ (w0 hw) e0 (g := (mkF m 49 o7 [(.int 3)])) rfl (hb hby at_49) rfl (by decide) (cap := 3) (by decide) (by decide) (by decide) (by decide)
 obtain ⟨b2061, g2061⟩ : ∃ z, z = h0.size := ⟨_, rfl⟩
 let o20 : Array Slot := #[.val (.long q0), .second, .val (.long q1), .second, .val (.long q2), .second, iv p3, iv p4, iv p5, iv (v0_7_l9 p3), iv (v0_16_s0 p3), iv (v0_46_l11 p3), rv b2061, .unset, .unset, .unset, .unset, .unset, .unset, .unset, .unset]
 rw [← g2061] at A2061 st2061
 have g_b2061 : n0 ≤ b2061 := Nat.le_trans (Nat.le_trans Z0 KC0.1) (Nat.le_of_eq g2061.symm)
 have sz_b2061 : h0.size ≤ b2061 := Nat.le_trans KC0.1 (Nat.le_of_eq g2061.symm)
 have K2061 : Keep h0 h2061 [] := KC0.ext E2061
 have V2061 : Arv Z h2061 b2061 k2061 .byte (3 : Int32) (List.map Value.int ([(0 : Int32), (0 : Int32), (0 : Int32)] : List Int32)) (.int 0) := (Arv.new A2061 (by decide)).pad (pad_rep [] (.int 0) 3)
 have VL2061 : ([(0 : Int32), (0 : Int32), (0 : Int32)] : List Int32).length = ((3 : Int32)).toNatClampNeg := rfl
 have k2062 := fun t (kk : SF p e below T2061 m 51 o7 [(.ref b2061)] t) => k2060 t (st2061 _ kk)
 have k2063 := fun t (kk : SF p e below T2061 m 55 o7 [(.int (v0_7_l9 p3)), (.int 0), (.ref b2061), (.ref b2061)] t) => k2062 t (by
  refine XS.dup X2061.here hx rfl (hb hby at_51) rfl rfl ?_
  refine XS.iconst X2061.here hx rfl (hb hby at_52) ?_
  refine XS.iload X2061.here hx rfl (hb hby at_53) rfl ?_
  exact kk)
 have hV2064 := V2061
 obtain ⟨cl2064, Ar2064, q2064, S2064, Nn2064, H2064, G2064⟩ := hV2064
 have hb2065 : ¬ (0 : Int32) < 0 ∧ (0 : Int32) < (3 : Int32) := ⟨by decide, by decide⟩
 have hin2065 : ¬ ((0 : Int32) < 0 ∨ cl2064.slots.size ≤ ((0 : Int32)).toNatClampNeg) := inb_of S2064 hb2065
 obtain ⟨T2065, h2065, X2065, e2065, W2065, st2065⟩ := stB X2061 hx hZ e2061 Ar2064 (j := (0 : Int32)) hin2065 (g := (mkF m 55 o7 [(.int (v0_7_l9 p3)), (.int 0), (.ref b2061), (.ref b2061)])) rfl rfl (hb hby at_55)
 have V2065 : Arv Z h2065 b2061 k2061 .byte (3 : Int32) (List.map Value.int ([(v0_55_e p3), (0 : Int32), (0 : Int32)] : List Int32)) (.int 0) := Arv.set Ar2064 q2064 S2064 Nn2064 H2064 G2064 (fits_nar_byte _) W2065 0 rfl (Nat.le_of_ble_eq_true rfl)
 have VL2065 : ([(v0_55_e p3), (0 : Int32), (0 : Int32)] : List Int32).length = ((3 : Int32)).toNatClampNeg := rfl
 have K2065 : Keep h0 h2065 [] := K2061.wr W2065 (Or.inr sz_b2061)
 have N2065 := Fr.snoc X2065 N0 g_b2061
 have k2066 := fun t (kk : SF p e below T2065 m 56 o7 [(.ref b2061)] t) => k2063 t (st2065 _ kk)
 have k2067 := fun t (kk : SF p e below T2065 m 60 o7 [(.int (v0_16_s0 p3)), (.int 1), (.ref b2061), (.ref b2061)] t) => k2066 t (by
  refine XS.dup X2065.here hx rfl (hb hby at_56) rfl rfl ?_
  refine XS.iconst X2065.here hx rfl (hb hby at_57) ?_
  show SF p e below T2065 m 58 o7 [(.int 1), (.ref b2061), (.ref b2061)] _
  refine XS.iload X2065.here hx rfl (hb hby at_58) rfl ?_
  exact kk)
 have hV2068 := V2065
 obtain ⟨cl2068, Ar2068, q2068, S2068, Nn2068, H2068, G2068⟩ := hV2068
 have hb2069 : ¬ (1 : Int32) < 0 ∧ (1 : Int32) < (3 : Int32) := ⟨by decide, by decide⟩
 have hin2069 : ¬ ((1 : Int32) < 0 ∨ cl2068.slots.size ≤ ((1 : Int32)).toNatClampNeg) := inb_of S2068 hb2069
 obtain ⟨T2069, h2069, X2069, e2069, W2069, st2069⟩ := stB X2065 hx hZ e2065 Ar2068 (j := (1 : Int32)) hin2069 (g := (mkF m 60 o7 [(.int (v0_16_s0 p3)), (.int 1), (.ref b2061), (.ref b2061)])) rfl rfl (hb hby at_60)
 have V2069 : Arv Z h2069 b2061 k2061 .byte (3 : Int32) (List.map Value.int ([(v0_55_e p3), (v0_60_e p3), (0 : Int32)] : List Int32)) (.int 0) := Arv.set Ar2068 q2068 S2068 Nn2068 H2068 G2068 (fits_nar_byte _) W2069 1 rfl (Nat.le_of_ble_eq_true rfl)
 have VL2069 : ([(v0_55_e p3), (v0_60_e p3), (0 : Int32)] : List Int32).length = ((3 : Int32)).toNatClampNeg := rfl
 have K2069 : Keep h0 h2069 [] := K2065.wr W2069 (Or.inr sz_b2061)
 have N2069 := Fr.snoc X2069 N2065 g_b2061
 have k2070 := fun t (kk : SF p e below T2069 m 61 o7 [(.ref b2061)] t) => k2067 t (st2069 _ kk)
 have k2071 := fun t (kk : SF p e below T2069 m 65 o7 [(.int (v0_46_l11 p3)), (.int 2), (.ref b2061), (.ref b2061)] t) => k2070 t (by
  refine XS.dup X2069.here hx rfl (hb hby at_61) rfl rfl ?_
  refine XS.iconst X2069.here hx rfl (hb hby at_62) ?_
  refine XS.iload X2069.here hx rfl (hb hby at_63) rfl ?_
  exact kk)
 have hV2072 := V2069
 obtain ⟨cl2072, Ar2072, q2072, S2072, Nn2072, H2072, G2072⟩ := hV2072
 have hb2073 : ¬ (2 : Int32) < 0 ∧ (2 : Int32) < (3 : Int32) := ⟨by decide, by decide⟩
 have hin2073 : ¬ ((2 : Int32) < 0 ∨ cl2072.slots.size ≤ ((2 : Int32)).toNatClampNeg) := inb_of S2072 hb2073
 obtain ⟨T2073, h2073, X2073, e2073, W2073, st2073⟩ := stB X2069 hx hZ e2069 Ar2072 (j := (2 : Int32)) hin2073 (g := (mkF m 65 o7 [(.int (v0_46_l11 p3)), (.int 2), (.ref b2061), (.ref b2061)])) rfl rfl (hb hby at_65)
 have V2073 : Arv Z h2073 b2061 k2061 .byte (3 : Int32) (List.map Value.int (tx p3)) (.int 0) := Arv.set Ar2072 q2072 S2072 Nn2072 H2072 G2072 (fits_nar_byte _) W2073 2 rfl (Nat.le_of_ble_eq_true rfl)
 have VL2073 : (tx p3).length = ((3 : Int32)).toNatClampNeg := rfl
 have K2073 : Keep h0 h2073 [] := K2069.wr W2073 (Or.inr sz_b2061)
 have N2073 := Fr.snoc X2073 N2069 g_b2061
 have k2074 := fun t (kk : SF p e below T2073 m 66 o7 [(.ref b2061)] t) => k2071 t (st2073 _ kk)
 have k2075 := fun t (kk : SF p e below T2073 m 73 o20 [(.int (p4 &&& (7 : Int32)))] t) => k2074 t (by
  refine XS.astore X2073.here hx rfl (hb hby at_66) rfl rfl (l' := o20) rfl ?_
  refine XS.iload X2073.here hx rfl (hb hby at_68) rfl ?_
  refine XS.bipush X2073.here hx rfl (hb hby at_70) ?_
  refine XS.iand X2073.here hx rfl (hb hby at_72) rfl ?_
  exact kk)
 have O2076 := ((((O0.ext E2061).wr W2065 g_b2061).wr W2069 g_b2061).wr W2073 g_b2061)
 have f2077 := zht.ext O2076.2
 have f2078 := zfx.ext O2076.2
 have f2079 := zdz.ext O2076.2
 have f2080 := zdt.ext O2076.2
 have f2081 := zhf.ext O2076.2
 have f2082 := zfi.ext O2076.2
 have f2083 := ziv.ext O2076.2
 have f2084 := zgt.ext O2076.2
 have f2085 := zif.ext O2076.2
 have f2086 := zge.ext O2076.2
 have Zz2087 : n0 ≤ h2073.size := (Nat.le_trans Z0 K2073.1)
 obtain ⟨_, _, ⟨T2087, L2087, k2087, n2087⟩, -, X2087, ⟨Lc2087, hQ2087, l2087, y2087, z2087⟩, st2087⟩ := Jvm.LawKit.callS X2073 hx (y := M23_) hown (mvT hZ (w1 hw)) (mvT hZ (w2 hw)) (mvT hZ (w3 hw)) (mvT hZ (w4 hw)) (by decide) (backOf (W := 0) (rm1 l Z a0 hw [] (p4 &&& (7 : Int32)) zcl zau zca o_BUY o_SELL h2073 n0 Zz2087 zjz O2076 zht zfx zgp zdz zdt zjx zhf zfi S_BUY ziv zgt S_SELL zif zge) hZ (w4 hw) (w3 hw) (by decide) (by decide)) (g := (mkF m 73 o20 [(.int (p4 &&& (7 : Int32)))])) rfl (by rw [hml]; rfl) (argsL := [(.int (p4 &&& (7 : Int32)))]) (rest := []) (lenOf pd_7 rfl) rfl (Nat.le_of_eq rfl) (hb hby at_73) (fun _ _ => ⟨rfl, e2073, (by decide : 1 + 0 ≤ _), (by decide : 3 + 0 ≤ _)⟩)
 dsimp only [Pt.U, Pt.locs, Pt.cells, Pt.slots] at X2087 l2087 y2087 z2087 st2087 hQ2087
 subst l2087 y2087 z2087
 obtain ⟨r2087, rfl, N2087q, e2087, E_r2087, F_ordinal_r2087⟩ := hQ2087
 let o18 : Array Slot := #[.val (.long q0), .second, .val (.long q1), .second, .val (.long q2), .second, iv p3, iv p4, iv p5, iv (v0_7_l9 p3), iv (v0_16_s0 p3), iv (v0_46_l11 p3), rv b2061, rv r2087, .unset, .unset, .unset, .unset, .unset, .unset, .unset]
 rw [e2087] at E_r2087 F_ordinal_r2087
 have N2087 := Fr.app N2073 N2087q
 have k2088 := fun t (kk : SF p e below T2087 m 76 o20 [(.ref r2087)] t) => k2075 t (st2087 _ kk)
 have k2089 := fun t (kk : SF p e below T2087 m 85 o18 [(.int (((p4.toUInt32 >>> ((3 : Int32) &&& 31).toUInt32).toInt32) &&& (7 : Int32)))] t) => k2088 t (by
  refine XS.astore X2087.here hx rfl (hb hby at_76) rfl rfl (l' := o18) rfl ?_
  refine XS.iload X2087.here hx rfl (hb hby at_78) rfl ?_
  refine XS.iconst X2087.here hx rfl (hb hby at_80) ?_
  refine XS.iushr X2087.here hx rfl (hb hby at_81) rfl ?_
  show SF p e below T2087 m 82 o18 [(.int ((p4.toUInt32 >>> ((3 : Int32) &&& 31).toUInt32).toInt32))] _
  refine XS.bipush X2087.here hx rfl (hb hby at_82) ?_
  refine XS.iand X2087.here hx rfl (hb hby at_84) rfl ?_
  exact kk)
 have Zz2090 : n0 ≤ h2073.size := (Nat.le_trans Z0 K2073.1)
 obtain ⟨_, _, ⟨T2090, L2090, k2090, n2090⟩, -, X2090, ⟨Lc2090, hQ2090, l2090, y2090, z2090⟩, st2090⟩ := Jvm.LawKit.callS X2087 hx (y := M23_) hown (mvT hZ (w1 hw)) (mvT hZ (w2 hw)) (mvT hZ (w3 hw)) (mvT hZ (w4 hw)) (by decide) (backOf (W := 0) (rm1 l Z a0 hw [] (((p4.toUInt32 >>> ((3 : Int32) &&& 31).toUInt32).toInt32) &&& (7 : Int32)) zcl zau zca o_BUY o_SELL h2073 n0 Zz2090 zjz O2076 zht zfx zgp zdz zdt zjx zhf zfi S_BUY ziv zgt S_SELL zif zge) hZ (w4 hw) (w3 hw) (by decide) (by decide)) (g := (mkF m 85 o18 [(.int (((p4.toUInt32 >>> ((3 : Int32) &&& 31).toUInt32).toInt32) &&& (7 : Int32)))])) rfl (by rw [hml]; rfl) (argsL := [(.int (((p4.toUInt32 >>> ((3 : Int32) &&& 31).toUInt32).toInt32) &&& (7 : Int32)))]) (rest := []) (lenOf pd_7 rfl) rfl (Nat.le_of_eq rfl) (hb hby at_85) (fun _ _ => ⟨rfl, e2087, (by decide : 1 + 0 ≤ _), (by decide : 3 + 0 ≤ _)⟩)
 dsimp only [Pt.U, Pt.locs, Pt.cells, Pt.slots] at X2090 l2090 y2090 z2090 st2090 hQ2090
 subst l2090 y2090 z2090
 obtain ⟨r2090, rfl, N2090q, e2090, E_r2090, F_ordinal_r2090⟩ := hQ2090
 let o19 : Array Slot := #[.val (.long q0), .second, .val (.long q1), .second, .val (.long q2), .second, iv p3, iv p4, iv p5, iv (v0_7_l9 p3), iv (v0_16_s0 p3), iv (v0_46_l11 p3), rv b2061, rv r2087, rv r2090, .unset, .unset, .unset, .unset, .unset, .unset]
 rw [e2090] at E_r2090 F_ordinal_r2090
 have N2090 := Fr.app N2087 N2090q
 have k2091 := fun t (kk : SF p e below T2090 m 88 o18 [(.ref r2090)] t) => k2089 t (st2090 _ kk)
 have k2092 := fun t (kk : SF p e below T2090 m 98 o19 [(.int (((p4.toUInt32 >>> ((6 : Int32) &&& 31).toUInt32).toInt32) &&& (7 : Int32)))] t) => k2091 t (by
  refine XS.astore X2090.here hx rfl (hb hby at_88) rfl rfl (l' := o19) rfl ?_
  refine XS.iload X2090.here hx rfl (hb hby at_90) rfl ?_
  refine XS.bipush X2090.here hx rfl (hb hby at_92) ?_
  refine XS.iushr X2090.here hx rfl (hb hby at_94) rfl ?_
  refine XS.bipush X2090.here hx rfl (hb hby at_95) ?_
  refine XS.iand X2090.here hx rfl (hb hby at_97) rfl ?_
  exact kk)
 have Zz2093 : n0 ≤ h2073.size := (Nat.le_trans Z0 K2073.1)
 obtain ⟨_, _, ⟨T2093, L2093, k2093, n2093⟩, -, X2093, ⟨Lc2093, hQ2093, l2093, y2093, z2093⟩, st2093⟩ := Jvm.LawKit.callS X2090 hx (y := M23_) hown (mvT hZ (w1 hw)) (mvT hZ (w2 hw)) (mvT hZ (w3 hw)) (mvT hZ (w4 hw)) (by decide) (backOf (W := 0) (rm1 l Z a0 hw [] (((p4.toUInt32 >>> ((6 : Int32) &&& 31).toUInt32).toInt32) &&& (7 : Int32)) zcl zau zca o_BUY o_SELL h2073 n0 Zz2093 zjz O2076 zht zfx zgp zdz zdt zjx zhf zfi S_BUY ziv zgt S_SELL zif zge) hZ (w4 hw) (w3 hw) (by decide) (by decide)) (g := (mkF m 98 o19 [(.int (((p4.toUInt32 >>> ((6 : Int32) &&& 31).toUInt32).toInt32) &&& (7 : Int32)))])) rfl (by rw [hml]; rfl) (argsL := [(.int (((p4.toUInt32 >>> ((6 : Int32) &&& 31).toUInt32).toInt32) &&& (7 : Int32)))]) (rest := []) (lenOf pd_7 rfl) rfl (Nat.le_of_eq rfl) (hb hby at_98) (fun _ _ => ⟨rfl, e2090, (by decide : 1 + 0 ≤ _), (by decide : 3 + 0 ≤ _)⟩)
 dsimp only [Pt.U, Pt.locs, Pt.cells, Pt.slots] at X2093 l2093 y2093 z2093 st2093 hQ2093
 subst l2093 y2093 z2093
 obtain ⟨r2093, rfl, N2093q, e2093, E_r2093, F_ordinal_r2093⟩ := hQ2093
 let o17 : Array Slot := #[.val (.long q0), .second, .val (.long q1), .second, .val (.long q2), .second, iv p3, iv p4, iv p5, iv (v0_7_l9 p3), iv (v0_16_s0 p3), iv (v0_46_l11 p3), rv b2061, rv r2087, rv r2090, rv r2093, .unset, .unset, .unset, .unset, .unset]
 rw [e2093] at E_r2093 F_ordinal_r2093
 have N2093 := Fr.app N2090 N2093q
 have k2094 := fun t (kk : SF p e below T2093 m 101 o19 [(.ref r2093)] t) => k2092 t (st2093 _ kk)
 have k2095 := fun t (kk : SF p e below T2093 m 103 o17 [] t) => k2094 t (by
  refine XS.astore X2093.here hx rfl (hb hby at_101) rfl rfl (l' := o17) rfl ?_
  exact kk)
 obtain ⟨T2096, h2096, X2096, e2096, E2096, A2096, D2096, -, st2096⟩ := newO X2093 hx hZ hown (w10 hw) (w11 hw) (w12 hw) e2093 (g := (mkF m 103 o17 [])) rfl (hb hby at_103) (by decide) (by decide)
 obtain ⟨b2096, g2096⟩ : ∃ z, z = h2073.size := ⟨_, rfl⟩
 let o1 : Array Slot := #[.val (.long q0), .second, .val (.long q1), .second, .val (.long q2), .second, iv p3, iv p4, iv p5, iv (v0_7_l9 p3), iv (v0_16_s0 p3), iv (v0_46_l11 p3), rv b2061, rv r2087, rv r2090, rv r2093, rv b2096, iv (ohf11_10_l15 (0 : Int32)), iv ((0 : Int32) + (1 : Int32)), iv (v0_190_l19 p3 p5), iv (v0_196_s0 p3)]
 let o2 : Array Slot := #[.val (.long q0), .second, .val (.long q1), .second, .val (.long q2), .second, iv p3, iv p4, iv p5, iv (v0_7_l9 p3), iv (v0_16_s0 p3), iv (v0_46_l11 p3), rv b2061, rv r2087, rv r2090, rv r2093, rv b2096, iv (ohf11_10_l15 (0 : Int32)), iv v0_164_l18_1, iv (v0_190_l19_1 p3 p5), iv (v0_196_s0 p3)]
 let o3 : Array Slot := #[.val (.long q0), .second, .val (.long q1), .second, .val (.long q2), .second, iv p3, iv p4, iv p5, iv (v0_7_l9 p3), iv (v0_16_s0 p3), iv (v0_46_l11 p3), rv b2061, rv r2087, rv r2090, rv r2093, rv b2096, iv 0, iv ((0 : Int32) + (1 : Int32)), iv (v0_190_l19_3 p3 p5), iv (v0_196_s0 p3)]
 let o4 : Array Slot := #[.val (.long q0), .second, .val (.long q1), .second, .val (.long q2), .second, iv p3, iv p4, iv p5, iv (v0_7_l9 p3), iv (v0_16_s0 p3), iv (v0_46_l11 p3), rv b2061, rv r2087, rv r2090, rv r2093, rv b2096, iv 0, iv v0_164_l18_2, iv (v0_190_l19_2 p3 p5), iv (v0_196_s0 p3)]
 let o5 : Array Slot := #[.val (.long q0), .second, .val (.long q1), .second, .val (.long q2), .second, iv p3, iv p4, iv p5, iv (v0_7_l9 p3), iv (v0_16_s0 p3), iv (v0_46_l11 p3), rv b2061, rv r2087, rv r2090, rv r2093, rv b2096, iv (ohf11_10_l15 (0 : Int32)), iv (v0_164_l18 p3 p5), iv (v0_190_l19 p3 p5), iv (v0_196_s0 p3)]
 let o6 : Array Slot := #[.val (.long q0), .second, .val (.long q1), .second, .val (.long q2), .second, iv p3, iv p4, iv p5, iv (v0_7_l9 p3), iv (v0_16_s0 p3), iv (v0_46_l11 p3), rv b2061, rv r2087, rv r2090, rv r2093, rv b2096, iv 0, iv (v0_164_l18_3 p3 p5), iv (v0_190_l19_2 p3 p5), iv (v0_196_s0 p3)]
 let o8 : Array Slot := #[.val (.long q0), .second, .val (.long q1), .second, .val (.long q2), .second, iv p3, iv p4, iv p5, iv (v0_7_l9 p3), iv (v0_16_s0 p3), iv (v0_46_l11 p3), rv b2061, rv r2087, rv r2090, rv r2093, rv b2096, iv (ohf11_10_l15 (0 : Int32)), .unset, .unset, .unset]
 let o9 : Array Slot := #[.val (.long q0), .second, .val (.long q1), .second, .val (.long q2), .second, iv p3, iv p4, iv p5, iv (v0_7_l9 p3), iv (v0_16_s0 p3), iv (v0_46_l11 p3), rv b2061, rv r2087, rv r2090, rv r2093, rv b2096, iv 0, .unset, .unset, .unset]
 let o10 : Array Slot := #[.val (.long q0), .second, .val (.long q1), .second, .val (.long q2), .second, iv p3, iv p4, iv p5, iv (v0_7_l9 p3), iv (v0_16_s0 p3), iv (v0_46_l11 p3), rv b2061, rv r2087, rv r2090, rv r2093, rv b2096, iv (ohf11_10_l15 (0 : Int32)), iv ((0 : Int32) + (1 : Int32)), .unset, .unset]
 let o11 : Array Slot := #[.val (.long q0), .second, .val (.long q1), .second, .val (.long q2), .second, iv p3, iv p4, iv p5, iv (v0_7_l9 p3), iv (v0_16_s0 p3), iv (v0_46_l11 p3), rv b2061, rv r2087, rv r2090, rv r2093, rv b2096, iv (ohf11_10_l15 (0 : Int32)), iv (v0_164_l18 p3 p5), .unset, .unset]
 let o12 : Array Slot := #[.val (.long q0), .second, .val (.long q1), .second, .val (.long q2), .second, iv p3, iv p4, iv p5, iv (v0_7_l9 p3), iv (v0_16_s0 p3), iv (v0_46_l11 p3), rv b2061, rv r2087, rv r2090, rv r2093, rv b2096, iv (ohf11_10_l15 (0 : Int32)), iv v0_164_l18_1, .unset, .unset]
 let o13 : Array Slot := #[.val (.long q0), .second, .val (.long q1), .second, .val (.long q2), .second, iv p3, iv p4, iv p5, iv (v0_7_l9 p3), iv (v0_16_s0 p3), iv (v0_46_l11 p3), rv b2061, rv r2087, rv r2090, rv r2093, rv b2096, .unset, .unset, .unset, .unset]
 let o14 : Array Slot := #[.val (.long q0), .second, .val (.long q1), .second, .val (.long q2), .second, iv p3, iv p4, iv p5, iv (v0_7_l9 p3), iv (v0_16_s0 p3), iv (v0_46_l11 p3), rv b2061, rv r2087, rv r2090, rv r2093, rv b2096, iv 0, iv ((0 : Int32) + (1 : Int32)), .unset, .unset]
 let o15 : Array Slot := #[.val (.long q0), .second, .val (.long q1), .second, .val (.long q2), .second, iv p3, iv p4, iv p5, iv (v0_7_l9 p3), iv (v0_16_s0 p3), iv (v0_46_l11 p3), rv b2061, rv r2087, rv r2090, rv r2093, rv b2096, iv 0, iv (v0_164_l18_3 p3 p5), .unset, .unset]
 let o16 : Array Slot := #[.val (.long q0), .second, .val (.long q1), .second, .val (.long q2), .second, iv p3, iv p4, iv p5, iv (v0_7_l9 p3), iv (v0_16_s0 p3), iv (v0_46_l11 p3), rv b2061, rv r2087, rv r2090, rv r2093, rv b2096, iv 0, iv v0_164_l18_2, .unset, .unset]
 let o21 : Array Slot := #[.val (.long q0), .second, .val (.long q1), .second, .val (.long q2), .second, iv p3, iv p4, iv p5, iv (v0_7_l9 p3), iv (v0_16_s0 p3), iv (v0_46_l11 p3), rv b2061, rv r2087, rv r2090, rv r2093, rv b2096, iv (ohf11_10_l15 (0 : Int32)), iv ((0 : Int32) + (1 : Int32)), iv (v0_190_l19 p3 p5), .unset]
 let o22 : Array Slot := #[.val (.long q0), .second, .val (.long q1), .second, .val (.long q2), .second, iv p3, iv p4, iv p5, iv (v0_7_l9 p3), iv (v0_16_s0 p3), iv (v0_46_l11 p3), rv b2061, rv r2087, rv r2090, rv r2093, rv b2096, iv 0, iv ((0 : Int32) + (1 : Int32)), iv (v0_190_l19_3 p3 p5), .unset]
 let o23 : Array Slot := #[.val (.long q0), .second, .val (.long q1), .second, .val (.long q2), .second, iv p3, iv p4, iv p5, iv (v0_7_l9 p3), iv (v0_16_s0 p3), iv (v0_46_l11 p3), rv b2061, rv r2087, rv r2090, rv r2093, rv b2096, iv 0, iv (v0_164_l18_3 p3 p5), iv (v0_190_l19_2 p3 p5), .unset]
 let o25 : Array Slot := #[.val (.long q0), .second, .val (.long q1), .second, .val (.long q2), .second, iv p3, iv p4, iv p5, iv (v0_7_l9 p3), iv (v0_16_s0 p3), iv (v0_46_l11 p3), rv b2061, rv r2087, rv r2090, rv r2093, rv b2096, iv (ohf11_10_l15 (0 : Int32)), iv (v0_164_l18 p3 p5), iv (v0_190_l19 p3 p5), .unset]
 let o26 : Array Slot := #[.val (.long q0), .second, .val (.long q1), .second, .val (.long q2), .second, iv p3, iv p4, iv p5, iv (v0_7_l9 p3), iv (v0_16_s0 p3), iv (v0_46_l11 p3), rv b2061, rv r2087, rv r2090, rv r2093, rv b2096, iv (ohf11_10_l15 (0 : Int32)), iv v0_164_l18_1, iv (v0_190_l19_1 p3 p5), .unset]
 let o27 : Array Slot := #[.val (.long q0), .second, .val (.long q1), .second, .val (.long q2), .second, iv p3, iv p4, iv p5, iv (v0_7_l9 p3), iv (v0_16_s0 p3), iv (v0_46_l11 p3), rv b2061, rv r2087, rv r2090, rv r2093, rv b2096, iv 0, iv v0_164_l18_2, iv (v0_190_l19_2 p3 p5), .unset]
 rw [← g2096] at A2096 D2096 st2096
 have ne_b2061_b2096 : b2061 ≠ b2096 := own_nb1 V2073.lt g2096
 have zof : zcl ≠ b2096 := own_nb1 f2077.lt g2096
 have zlk : zau ≠ b2096 := own_nb1 f2079.lt g2096
 have znp : zca ≠ b2096 := own_nb1 f2081.lt g2096
 have zoy : o_BUY ≠ b2096 := own_nb1 f2083.lt g2096
 have zox : o_SELL ≠ b2096 := own_nb1 f2085.lt g2096
 have ne_r2087_b2096 : r2087 ≠ b2096 := own_nb1 E_r2087.lt g2096
 have ne_r2090_b2096 : r2090 ≠ b2096 := own_nb1 E_r2090.lt g2096
 have ne_r2093_b2096 : r2093 ≠ b2096 := own_nb1 E_r2093.lt g2096
 have g_b2096 : n0 ≤ b2096 := Nat.le_trans (Nat.le_trans Z0 K2073.1) (Nat.le_of_eq g2096.symm)
 have sz_b2096 : h0.size ≤ b2096 := Nat.le_trans K2073.1 (Nat.le_of_eq g2096.symm)
 have K2096 : Keep h0 h2096 [] := K2073.ext E2096
 have F_unpacked_b2096 : Fld Z h2096 b2096 cOr "unpacked" "Ljava/util/List;" .null := D2096 (Or.inr (w44 hw)) (ty := (.object "java/util/List")) (by decide)
 have F_kindCounts_b2096 : Fld Z h2096 b2096 cOr "kindCounts" "[I" .null := D2096 (Or.inr (w49 hw)) (ty := (.array .int)) (by decide)
 have F_leastPrice_b2096 : Fld Z h2096 b2096 cOr "leastPrice" "J" (.long (0 : Int64)) := D2096 (Or.inl (w52 hw)) (ty := .long) (by decide)
 have F_mostPrice_b2096 : Fld Z h2096 b2096 cOr "mostPrice" "J" (.long (0 : Int64)) := D2096 (Or.inl (w55 hw)) (ty := .long) (by decide)
 have F_ids_b2096 : Fld Z h2096 b2096 cOr "ids" "Lcom/example/gavelbook/gavelbook/ByteStrings;" .null := D2096 (Or.inr (w86 hw)) (ty := (.object cBs)) (by decide)
 have F_memberNames_b2096 : Fld Z h2096 b2096 cOr "memberNames" "Lcom/example/gavelbook/gavelbook/ByteStrings;" .null := D2096 (Or.inr (w88 hw)) (ty := (.object cBs)) (by decide)
 have F_lines_b2096 : Fld Z h2096 b2096 cOr "lines" "[J" .null := D2096 (Or.inl (w91 hw)) (ty := (.array .long)) (by decide)
 have F_kinds_b2096 : Fld Z h2096 b2096 cOr "kinds" "[B" .null := D2096 (Or.inl (w93 hw)) (ty := (.array .byte)) (by decide)
 have F_quantities_b2096 : Fld Z h2096 b2096 cOr "quantities" "[J" .null := D2096 (Or.inl (w95 hw)) (ty := (.array .long)) (by decide)
 have F_prices_b2096 : Fld Z h2096 b2096 cOr "prices" "[J" .null := D2096 (Or.inl (w97 hw)) (ty := (.array .long)) (by decide)
 have F_size_b2096 : Fld Z h2096 b2096 cOr "size" "I" (.int 0) := D2096 (Or.inl (w138 hw)) (ty := .int) (by decide)
 have F_byKind_b2096 : Fld Z h2096 b2096 cOr "byKind" "[[I" .null := D2096 (Or.inl (w150 hw)) (ty := (.array (.array .int))) (by decide)
 have F_amounts_b2096 : Fld Z h2096 b2096 cOr "amounts" "[J" .null := D2096 (Or.inl (w152 hw)) (ty := (.array .long)) (by decide)
 have F_uncounted_b2096 : Fld Z h2096 b2096 cOr "uncounted" "Z" (.int 0) := D2096 (Or.inl (w180 hw)) (ty := .boolean) (by decide)
 have k2097 := fun t (kk : SF p e below T2096 m 106 o17 [(.ref b2096)] t) => k2095 t (st2096 _ kk)
 have k2098 := fun t (kk : SF p e below T2096 m 113 o17 [(.int (p5 &&& (255 : Int32))), (.ref b2096), (.ref b2096)] t) => k2097 t (by
  refine XS.dup X2096.here hx rfl (hb hby at_106) rfl rfl ?_
  refine XS.iload X2096.here hx rfl (hb hby at_107) rfl ?_
  refine XS.sipush X2096.here hx rfl (hb hby at_109) ?_
  show SF p e below T2096 m 112 o17 [(.int 255), (.int p5), (.ref b2096), (.ref b2096)] _
  refine XS.iand X2096.here hx rfl (hb hby at_112) rfl ?_
  exact kk)
 have O2099 := (O2076.ext E2096)
 have Zz2100 : n0 ≤ h2096.size := (Nat.le_trans Z0 K2096.1)
 obtain ⟨_, _, ⟨T2100, L2100, k2100, n2100⟩, -, X2100, ⟨Lc2100, hQ2100, l2100, y2100, z2100⟩, st2100⟩ := X2096.specialBack hx (y := M25_) rfl hown (mvT hZ (w13 hw)) (mvT hZ (w14 hw)) (mvT hZ (w15 hw)) (by decide) (backOf (W := 1) (rm2 l Z a0 hw [] b2096 (p5 &&& (255 : Int32)) zan .null zci zfj zfk .null (0 : Int64) (0 : Int64) .null .null .null .null .null .null (0 : Int32) .null .null (0 : Int32) h2096 n0 Zz2100 (own_255 p5) zcw O2099 A2096 F_unpacked_b2096 g_b2096 zkj zfy F_kindCounts_b2096 F_leastPrice_b2096 F_mostPrice_b2096 F_ids_b2096 F_memberNames_b2096 F_lines_b2096 F_kinds_b2096 F_quantities_b2096 F_prices_b2096 F_size_b2096 F_byKind_b2096 F_amounts_b2096 F_uncounted_b2096) hZ (w15 hw) (w12 hw) (by decide) (by decide)) (g := (mkF m 113 o17 [(.int (p5 &&& (255 : Int32))), (.ref b2096), (.ref b2096)])) rfl (by rw [hml]; rfl) (Steps.refl _) (a := b2096) (argsL := [(.int (p5 &&& (255 : Int32)))]) (rest := [(.ref b2096)]) (lenOf pd_8 rfl) rfl (Nat.le_of_eq rfl) (hb hby at_113) (fun _ _ => ⟨rfl, e2096, (by decide : 2 + 13 ≤ _), (by decide : 17 + 6146 ≤ _)⟩)
 dsimp only [Pt.U, Pt.locs, Pt.cells, Pt.slots] at X2100 l2100 y2100 z2100 st2100 hQ2100
 subst l2100 y2100 z2100
 obtain ⟨xu_2100, xk_2100, k_xk_2100, xi_2100, xib_2100, k_xib_2100, xie_2100, k_xie_2100, xiv_2100, k_xiv_2100, xm_2100, xmb_2100, k_xmb_2100, xme_2100, k_xme_2100, xl_2100, k_xl_2100, xc_2100, k_xc_2100, xq_2100, k_xq_2100, xp_2100, k_xp_2100, rfl, N2100q, Kq2100, Eq2100_0, Fq2100_0, Fq2100_1, Fq2100_2, Fq2100_3, Fq2100_4, Fq2100_5, Fq2100_6, Fq2100_7, Fq2100_8, Fq2100_9, Fq2100_10, Fq2100_11, Fq2100_12, Fq2100_13, sx_xu_2100, Ex_xu_2100, Fx_xu_2100_0, Fx_xu_2100_1, sx_xk_2100, Vx_xk_2100, VLx_xk_2100, sx_xi_2100, Ex_xi_2100, Fx_xi_2100_0, Fx_xi_2100_1, Fx_xi_2100_2, Fx_xi_2100_3, Fx_xi_2100_4, Fx_xi_2100_5, Fx_xi_2100_6, Fx_xi_2100_7, Fx_xi_2100_8, sx_xib_2100, Vx_xib_2100, VLx_xib_2100, sx_xie_2100, Vx_xie_2100, VLx_xie_2100, sx_xiv_2100, Vx_xiv_2100, VLx_xiv_2100, sx_xm_2100, Ex_xm_2100, Fx_xm_2100_0, Fx_xm_2100_1, Fx_xm_2100_2, Fx_xm_2100_3, Fx_xm_2100_4, Fx_xm_2100_5, Fx_xm_2100_6, Fx_xm_2100_7, Fx_xm_2100_8, sx_xmb_2100, Vx_xmb_2100, VLx_xmb_2100, sx_xme_2100, Vx_xme_2100, VLx_xme_2100, sx_xl_2100, Vx_xl_2100, VLx_xl_2100, sx_xc_2100, Vx_xc_2100, VLx_xc_2100, sx_xq_2100, Vx_xq_2100, VLx_xq_2100, sx_xp_2100, Vx_xp_2100, VLx_xp_2100, nx_xu_xk_2100, nx_xu_xi_2100, nx_xu_xib_2100, nx_xu_xie_2100, nx_xu_xiv_2100, nx_xu_xm_2100, nx_xu_xmb_2100, nx_xu_xme_2100, nx_xu_xl_2100, nx_xu_xc_2100, nx_xu_xq_2100, nx_xu_xp_2100, nx_xk_xi_2100, nx_xk_xib_2100, nx_xk_xie_2100, nx_xk_xiv_2100, nx_xk_xm_2100, nx_xk_xmb_2100, nx_xk_xme_2100, nx_xk_xl_2100, nx_xk_xc_2100, nx_xk_xq_2100, nx_xk_xp_2100, nx_xi_xib_2100, nx_xi_xie_2100, nx_xi_xiv_2100, nx_xi_xm_2100, nx_xi_xmb_2100, nx_xi_xme_2100, nx_xi_xl_2100, nx_xi_xc_2100, nx_xi_xq_2100, nx_xi_xp_2100, nx_xib_xie_2100, nx_xib_xiv_2100, nx_xib_xm_2100, nx_xib_xmb_2100, nx_xib_xme_2100, nx_xib_xl_2100, nx_xib_xc_2100, nx_xib_xq_2100, nx_xib_xp_2100, nx_xie_xiv_2100, nx_xie_xm_2100, nx_xie_xmb_2100, nx_xie_xme_2100, nx_xie_xl_2100, nx_xie_xc_2100, nx_xie_xq_2100, nx_xie_xp_2100, nx_xiv_xm_2100, nx_xiv_xmb_2100, nx_xiv_xme_2100, nx_xiv_xl_2100, nx_xiv_xc_2100, nx_xiv_xq_2100, nx_xiv_xp_2100, nx_xm_xmb_2100, nx_xm_xme_2100, nx_xm_xl_2100, nx_xm_xc_2100, nx_xm_xq_2100, nx_xm_xp_2100, nx_xmb_xme_2100, nx_xmb_xl_2100, nx_xmb_xc_2100, nx_xmb_xq_2100, nx_xmb_xp_2100, nx_xme_xl_2100, nx_xme_xc_2100, nx_xme_xq_2100, nx_xme_xp_2100, nx_xl_xc_2100, nx_xl_xq_2100, nx_xl_xp_2100, nx_xc_xq_2100, nx_xc_xp_2100, nx_xq_xp_2100⟩ := hQ2100
 have f2101 := (V2073.ext E2096)
 have f2102 := zht.ext O2099.2
 have f2103 := zdz.ext O2099.2
 have f2104 := zhf.ext O2099.2
 have f2105 := ziv.ext O2099.2
 have f2106 := zif.ext O2099.2
 have f2107 := (E_r2087.ext E2096)
 have f2108 := (E_r2090.ext E2096)
 have f2109 := (E_r2093.ext E2096)
 have f2110 := zfy.ext O2099.2
 have ne_b2061_xu_2100 : b2061 ≠ xu_2100 := Nat.ne_of_lt (Nat.lt_of_lt_of_le f2101.lt sx_xu_2100)
 have zml : zcl ≠ xu_2100 := Nat.ne_of_lt (Nat.lt_of_lt_of_le f2102.lt sx_xu_2100)
 have zkx : zau ≠ xu_2100 := Nat.ne_of_lt (Nat.lt_of_lt_of_le f2103.lt sx_xu_2100)
 have zlr : zca ≠ xu_2100 := Nat.ne_of_lt (Nat.lt_of_lt_of_le f2104.lt sx_xu_2100)
 have zog : o_BUY ≠ xu_2100 := Nat.ne_of_lt (Nat.lt_of_lt_of_le f2105.lt sx_xu_2100)
 have znq : o_SELL ≠ xu_2100 := Nat.ne_of_lt (Nat.lt_of_lt_of_le f2106.lt sx_xu_2100)
 have ne_r2087_xu_2100 : r2087 ≠ xu_2100 := Nat.ne_of_lt (Nat.lt_of_lt_of_le f2107.lt sx_xu_2100)
 have ne_r2090_xu_2100 : r2090 ≠ xu_2100 := Nat.ne_of_lt (Nat.lt_of_lt_of_le f2108.lt sx_xu_2100)
 have ne_r2093_xu_2100 : r2093 ≠ xu_2100 := Nat.ne_of_lt (Nat.lt_of_lt_of_le f2109.lt sx_xu_2100)
 have ne_b2096_xu_2100 : b2096 ≠ xu_2100 := Nat.ne_of_lt (Nat.lt_of_lt_of_le A2096.lt sx_xu_2100)
 have zmm : zci ≠ xu_2100 := Nat.ne_of_lt (Nat.lt_of_lt_of_le f2110.lt sx_xu_2100)
 have ne_b2061_xk_2100 : b2061 ≠ xk_2100 := Nat.ne_of_lt (Nat.lt_of_lt_of_le f2101.lt sx_xk_2100)
 have zmn : zcl ≠ xk_2100 := Nat.ne_of_lt (Nat.lt_of_lt_of_le f2102.lt sx_xk_2100)
 have zky : zau ≠ xk_2100 := Nat.ne_of_lt (Nat.lt_of_lt_of_le f2103.lt sx_xk_2100)
 have zls : zca ≠ xk_2100 := Nat.ne_of_lt (Nat.lt_of_lt_of_le f2104.lt sx_xk_2100)
 have zoh : o_BUY ≠ xk_2100 := Nat.ne_of_lt (Nat.lt_of_lt_of_le f2105.lt sx_xk_2100)
 have znr : o_SELL ≠ xk_2100 := Nat.ne_of_lt (Nat.lt_of_lt_of_le f2106.lt sx_xk_2100)
 have ne_r2087_xk_2100 : r2087 ≠ xk_2100 := Nat.ne_of_lt (Nat.lt_of_lt_of_le f2107.lt sx_xk_2100)
 have ne_r2090_xk_2100 : r2090 ≠ xk_2100 := Nat.ne_of_lt (Nat.lt_of_lt_of_le f2108.lt sx_xk_2100)
 have ne_r2093_xk_2100 : r2093 ≠ xk_2100 := Nat.ne_of_lt (Nat.lt_of_lt_of_le f2109.lt sx_xk_2100)
 have ne_b2096_xk_2100 : b2096 ≠ xk_2100 := Nat.ne_of_lt (Nat.lt_of_lt_of_le A2096.lt sx_xk_2100)
 have zmo : zci ≠ xk_2100 := Nat.ne_of_lt (Nat.lt_of_lt_of_le f2110.lt sx_xk_2100)
 have ne_b2061_xi_2100 : b2061 ≠ xi_2100 := Nat.ne_of_lt (Nat.lt_of_lt_of_le f2101.lt sx_xi_2100)
 have zmp : zcl ≠ xi_2100 := Nat.ne_of_lt (Nat.lt_of_lt_of_le f2102.lt sx_xi_2100)
 have zkz : zau ≠ xi_2100 := Nat.ne_of_lt (Nat.lt_of_lt_of_le f2103.lt sx_xi_2100)
 have zlt : zca ≠ xi_2100 := Nat.ne_of_lt (Nat.lt_of_lt_of_le f2104.lt sx_xi_2100)
 have zoi : o_BUY ≠ xi_2100 := Nat.ne_of_lt (Nat.lt_of_lt_of_le f2105.lt sx_xi_2100)
 have zns : o_SELL ≠ xi_2100 := Nat.ne_of_lt (Nat.lt_of_lt_of_le f2106.lt sx_xi_2100)
 have ne_r2087_xi_2100 : r2087 ≠ xi_2100 := Nat.ne_of_lt (Nat.lt_of_lt_of_le f2107.lt sx_xi_2100)
 have ne_r2090_xi_2100 : r2090 ≠ xi_2100 := Nat.ne_of_lt (Nat.lt_of_lt_of_le f2108.lt sx_xi_2100)
 have ne_r2093_xi_2100 : r2093 ≠ xi_2100 := Nat.ne_of_lt (Nat.lt_of_lt_of_le f2109.lt sx_xi_2100)
 have ne_b2096_xi_2100 : b2096 ≠ xi_2100 := Nat.ne_of_lt (Nat.lt_of_lt_of_le A2096.lt sx_xi_2100)
 have zmq : zci ≠ xi_2100 := Nat.ne_of_lt (Nat.lt_of_lt_of_le f2110.lt sx_xi_2100)
 have ne_b2061_xib_2100 : b2061 ≠ xib_2100 := Nat.ne_of_lt (Nat.lt_of_lt_of_le f2101.lt sx_xib_2100)
 have zlu : zcl ≠ xib_2100 := Nat.ne_of_lt (Nat.lt_of_lt_of_le f2102.lt sx_xib_2100)
 have zkr : zau ≠ xib_2100 := Nat.ne_of_lt (Nat.lt_of_lt_of_le f2103.lt sx_xib_2100)
 have zlm : zca ≠ xib_2100 := Nat.ne_of_lt (Nat.lt_of_lt_of_le f2104.lt sx_xib_2100)
 have znt : o_BUY ≠ xib_2100 := Nat.ne_of_lt (Nat.lt_of_lt_of_le f2105.lt sx_xib_2100)
 have zmr : o_SELL ≠ xib_2100 := Nat.ne_of_lt (Nat.lt_of_lt_of_le f2106.lt sx_xib_2100)
 have ne_r2087_xib_2100 : r2087 ≠ xib_2100 := Nat.ne_of_lt (Nat.lt_of_lt_of_le f2107.lt sx_xib_2100)
 have ne_r2090_xib_2100 : r2090 ≠ xib_2100 := Nat.ne_of_lt (Nat.lt_of_lt_of_le f2108.lt sx_xib_2100)
 have ne_r2093_xib_2100 : r2093 ≠ xib_2100 := Nat.ne_of_lt (Nat.lt_of_lt_of_le f2109.lt sx_xib_2100)
 have ne_b2096_xib_2100 : b2096 ≠ xib_2100 := Nat.ne_of_lt (Nat.lt_of_lt_of_le A2096.lt sx_xib_2100)
 have zlv : zci ≠ xib_2100 := Nat.ne_of_lt (Nat.lt_of_lt_of_le f2110.lt sx_xib_2100)
 have ne_b2061_xie_2100 : b2061 ≠ xie_2100 := Nat.ne_of_lt (Nat.lt_of_lt_of_le f2101.lt sx_xie_2100)
 have zlw : zcl ≠ xie_2100 := Nat.ne_of_lt (Nat.lt_of_lt_of_le f2102.lt sx_xie_2100)
 have zks : zau ≠ xie_2100 := Nat.ne_of_lt (Nat.lt_of_lt_of_le f2103.lt sx_xie_2100)
 have zln : zca ≠ xie_2100 := Nat.ne_of_lt (Nat.lt_of_lt_of_le f2104.lt sx_xie_2100)
 have znu : o_BUY ≠ xie_2100 := Nat.ne_of_lt (Nat.lt_of_lt_of_le f2105.lt sx_xie_2100)
 have zms : o_SELL ≠ xie_2100 := Nat.ne_of_lt (Nat.lt_of_lt_of_le f2106.lt sx_xie_2100)
 have ne_r2087_xie_2100 : r2087 ≠ xie_2100 := Nat.ne_of_lt (Nat.lt_of_lt_of_le f2107.lt sx_xie_2100)
 have ne_r2090_xie_2100 : r2090 ≠ xie_2100 := Nat.ne_of_lt (Nat.lt_of_lt_of_le f2108.lt sx_xie_2100)
 have ne_r2093_xie_2100 : r2093 ≠ xie_2100 := Nat.ne_of_lt (Nat.lt_of_lt_of_le f2109.lt sx_xie_2100)
 have ne_b2096_xie_2100 : b2096 ≠ xie_2100 := Nat.ne_of_lt (Nat.lt_of_lt_of_le A2096.lt sx_xie_2100)
 have zlx : zci ≠ xie_2100 := Nat.ne_of_lt (Nat.lt_of_lt_of_le f2110.lt sx_xie_2100)
 have ne_b2061_xiv_2100 : b2061 ≠ xiv_2100 := Nat.ne_of_lt (Nat.lt_of_lt_of_le f2101.lt sx_xiv_2100)
 have zly : zcl ≠ xiv_2100 := Nat.ne_of_lt (Nat.lt_of_lt_of_le f2102.lt sx_xiv_2100)
 have zkt : zau ≠ xiv_2100 := Nat.ne_of_lt (Nat.lt_of_lt_of_le f2103.lt sx_xiv_2100)
 have zlo : zca ≠ xiv_2100 := Nat.ne_of_lt (Nat.lt_of_lt_of_le f2104.lt sx_xiv_2100)
 have znv : o_BUY ≠ xiv_2100 := Nat.ne_of_lt (Nat.lt_of_lt_of_le f2105.lt sx_xiv_2100)
 have zmt : o_SELL ≠ xiv_2100 := Nat.ne_of_lt (Nat.lt_of_lt_of_le f2106.lt sx_xiv_2100)
 have ne_r2087_xiv_2100 : r2087 ≠ xiv_2100 := Nat.ne_of_lt (Nat.lt_of_lt_of_le f2107.lt sx_xiv_2100)
 have ne_r2090_xiv_2100 : r2090 ≠ xiv_2100 := Nat.ne_of_lt (Nat.lt_of_lt_of_le f2108.lt sx_xiv_2100)
 have ne_r2093_xiv_2100 : r2093 ≠ xiv_2100 := Nat.ne_of_lt (Nat.lt_of_lt_of_le f2109.lt sx_xiv_2100)
 have ne_b2096_xiv_2100 : b2096 ≠ xiv_2100 := Nat.ne_of_lt (Nat.lt_of_lt_of_le A2096.lt sx_xiv_2100)
 have zlz : zci ≠ xiv_2100 := Nat.ne_of_lt (Nat.lt_of_lt_of_le f2110.lt sx_xiv_2100)
 have ne_b2061_xm_2100 : b2061 ≠ xm_2100 := Nat.ne_of_lt (Nat.lt_of_lt_of_le f2101.lt sx_xm_2100)
 have zmu : zcl ≠ xm_2100 := Nat.ne_of_lt (Nat.lt_of_lt_of_le f2102.lt sx_xm_2100)
 have zla : zau ≠ xm_2100 := Nat.ne_of_lt (Nat.lt_of_lt_of_le f2103.lt sx_xm_2100)
 have zma : zca ≠ xm_2100 := Nat.ne_of_lt (Nat.lt_of_lt_of_le f2104.lt sx_xm_2100)
 have zoj : o_BUY ≠ xm_2100 := Nat.ne_of_lt (Nat.lt_of_lt_of_le f2105.lt sx_xm_2100)
 have znw : o_SELL ≠ xm_2100 := Nat.ne_of_lt (Nat.lt_of_lt_of_le f2106.lt sx_xm_2100)
 have ne_r2087_xm_2100 : r2087 ≠ xm_2100 := Nat.ne_of_lt (Nat.lt_of_lt_of_le f2107.lt sx_xm_2100)
 have ne_r2090_xm_2100 : r2090 ≠ xm_2100 := Nat.ne_of_lt (Nat.lt_of_lt_of_le f2108.lt sx_xm_2100)
 have ne_r2093_xm_2100 : r2093 ≠ xm_2100 := Nat.ne_of_lt (Nat.lt_of_lt_of_le f2109.lt sx_xm_2100)
 have ne_b2096_xm_2100 : b2096 ≠ xm_2100 := Nat.ne_of_lt (Nat.lt_of_lt_of_le A2096.lt sx_xm_2100)
 have zmv : zci ≠ xm_2100 := Nat.ne_of_lt (Nat.lt_of_lt_of_le f2110.lt sx_xm_2100)
 have ne_b2061_xmb_2100 : b2061 ≠ xmb_2100 := Nat.ne_of_lt (Nat.lt_of_lt_of_le f2101.lt sx_xmb_2100)
 have zmb : zcl ≠ xmb_2100 := Nat.ne_of_lt (Nat.lt_of_lt_of_le f2102.lt sx_xmb_2100)
 have zku : zau ≠ xmb_2100 := Nat.ne_of_lt (Nat.lt_of_lt_of_le f2103.lt sx_xmb_2100)
 have zlp : zca ≠ xmb_2100 := Nat.ne_of_lt (Nat.lt_of_lt_of_le f2104.lt sx_xmb_2100)
 have znx : o_BUY ≠ xmb_2100 := Nat.ne_of_lt (Nat.lt_of_lt_of_le f2105.lt sx_xmb_2100)
 have zmw : o_SELL ≠ xmb_2100 := Nat.ne_of_lt (Nat.lt_of_lt_of_le f2106.lt sx_xmb_2100)
 have ne_r2087_xmb_2100 : r2087 ≠ xmb_2100 := Nat.ne_of_lt (Nat.lt_of_lt_of_le f2107.lt sx_xmb_2100)
 have ne_r2090_xmb_2100 : r2090 ≠ xmb_2100 := Nat.ne_of_lt (Nat.lt_of_lt_of_le f2108.lt sx_xmb_2100)
 have ne_r2093_xmb_2100 : r2093 ≠ xmb_2100 := Nat.ne_of_lt (Nat.lt_of_lt_of_le f2109.lt sx_xmb_2100)
 have ne_b2096_xmb_2100 : b2096 ≠ xmb_2100 := Nat.ne_of_lt (Nat.lt_of_lt_of_le A2096.lt sx_xmb_2100)
 have zmc : zci ≠ xmb_2100 := Nat.ne_of_lt (Nat.lt_of_lt_of_le f2110.lt sx_xmb_2100)
 have ne_b2061_xme_2100 : b2061 ≠ xme_2100 := Nat.ne_of_lt (Nat.lt_of_lt_of_le f2101.lt sx_xme_2100)
 have zmd : zcl ≠ xme_2100 := Nat.ne_of_lt (Nat.lt_of_lt_of_le f2102.lt sx_xme_2100)
 have zkv : zau ≠ xme_2100 := Nat.ne_of_lt (Nat.lt_of_lt_of_le f2103.lt sx_xme_2100)
 have zlq : zca ≠ xme_2100 := Nat.ne_of_lt (Nat.lt_of_lt_of_le f2104.lt sx_xme_2100)
 have zny : o_BUY ≠ xme_2100 := Nat.ne_of_lt (Nat.lt_of_lt_of_le f2105.lt sx_xme_2100)
 have zmx : o_SELL ≠ xme_2100 := Nat.ne_of_lt (Nat.lt_of_lt_of_le f2106.lt sx_xme_2100)
 have ne_r2087_xme_2100 : r2087 ≠ xme_2100 := Nat.ne_of_lt (Nat.lt_of_lt_of_le f2107.lt sx_xme_2100)
 have ne_r2090_xme_2100 : r2090 ≠ xme_2100 := Nat.ne_of_lt (Nat.lt_of_lt_of_le f2108.lt sx_xme_2100)
 have ne_r2093_xme_2100 : r2093 ≠ xme_2100 := Nat.ne_of_lt (Nat.lt_of_lt_of_le f2109.lt sx_xme_2100)
 have ne_b2096_xme_2100 : b2096 ≠ xme_2100 := Nat.ne_of_lt (Nat.lt_of_lt_of_le A2096.lt sx_xme_2100)
 have zme : zci ≠ xme_2100 := Nat.ne_of_lt (Nat.lt_of_lt_of_le f2110.lt sx_xme_2100)
 have ne_b2061_xl_2100 : b2061 ≠ xl_2100 := Nat.ne_of_lt (Nat.lt_of_lt_of_le f2101.lt sx_xl_2100)
 have zmy : zcl ≠ xl_2100 := Nat.ne_of_lt (Nat.lt_of_lt_of_le f2102.lt sx_xl_2100)
 have zlb : zau ≠ xl_2100 := Nat.ne_of_lt (Nat.lt_of_lt_of_le f2103.lt sx_xl_2100)
 have zmf : zca ≠ xl_2100 := Nat.ne_of_lt (Nat.lt_of_lt_of_le f2104.lt sx_xl_2100)
 have zok : o_BUY ≠ xl_2100 := Nat.ne_of_lt (Nat.lt_of_lt_of_le f2105.lt sx_xl_2100)
 have znz : o_SELL ≠ xl_2100 := Nat.ne_of_lt (Nat.lt_of_lt_of_le f2106.lt sx_xl_2100)
 have ne_r2087_xl_2100 : r2087 ≠ xl_2100 := Nat.ne_of_lt (Nat.lt_of_lt_of_le f2107.lt sx_xl_2100)
 have ne_r2090_xl_2100 : r2090 ≠ xl_2100 := Nat.ne_of_lt (Nat.lt_of_lt_of_le f2108.lt sx_xl_2100)
 have ne_r2093_xl_2100 : r2093 ≠ xl_2100 := Nat.ne_of_lt (Nat.lt_of_lt_of_le f2109.lt sx_xl_2100)
 have ne_b2096_xl_2100 : b2096 ≠ xl_2100 := Nat.ne_of_lt (Nat.lt_of_lt_of_le A2096.lt sx_xl_2100)
 have zmz : zci ≠ xl_2100 := Nat.ne_of_lt (Nat.lt_of_lt_of_le f2110.lt sx_xl_2100)
 have ne_b2061_xc_2100 : b2061 ≠ xc_2100 := Nat.ne_of_lt (Nat.lt_of_lt_of_le f2101.lt sx_xc_2100)
 have zna : zcl ≠ xc_2100 := Nat.ne_of_lt (Nat.lt_of_lt_of_le f2102.lt sx_xc_2100)
 have zlc : zau ≠ xc_2100 := Nat.ne_of_lt (Nat.lt_of_lt_of_le f2103.lt sx_xc_2100)
 have zmg : zca ≠ xc_2100 := Nat.ne_of_lt (Nat.lt_of_lt_of_le f2104.lt sx_xc_2100)
 have zol : o_BUY ≠ xc_2100 := Nat.ne_of_lt (Nat.lt_of_lt_of_le f2105.lt sx_xc_2100)
 have zoa : o_SELL ≠ xc_2100 := Nat.ne_of_lt (Nat.lt_of_lt_of_le f2106.lt sx_xc_2100)
 have ne_r2087_xc_2100 : r2087 ≠ xc_2100 := Nat.ne_of_lt (Nat.lt_of_lt_of_le f2107.lt sx_xc_2100)
 have ne_r2090_xc_2100 : r2090 ≠ xc_2100 := Nat.ne_of_lt (Nat.lt_of_lt_of_le f2108.lt sx_xc_2100)
 have ne_r2093_xc_2100 : r2093 ≠ xc_2100 := Nat.ne_of_lt (Nat.lt_of_lt_of_le f2109.lt sx_xc_2100)
 have ne_b2096_xc_2100 : b2096 ≠ xc_2100 := Nat.ne_of_lt (Nat.lt_of_lt_of_le A2096.lt sx_xc_2100)
 have znb : zci ≠ xc_2100 := Nat.ne_of_lt (Nat.lt_of_lt_of_le f2110.lt sx_xc_2100)
 have ne_b2061_xq_2100 : b2061 ≠ xq_2100 := Nat.ne_of_lt (Nat.lt_of_lt_of_le f2101.lt sx_xq_2100)
 have znc : zcl ≠ xq_2100 := Nat.ne_of_lt (Nat.lt_of_lt_of_le f2102.lt sx_xq_2100)
 have zld : zau ≠ xq_2100 := Nat.ne_of_lt (Nat.lt_of_lt_of_le f2103.lt sx_xq_2100)
 have zmh : zca ≠ xq_2100 := Nat.ne_of_lt (Nat.lt_of_lt_of_le f2104.lt sx_xq_2100)
 have zom : o_BUY ≠ xq_2100 := Nat.ne_of_lt (Nat.lt_of_lt_of_le f2105.lt sx_xq_2100)
 have zob : o_SELL ≠ xq_2100 := Nat.ne_of_lt (Nat.lt_of_lt_of_le f2106.lt sx_xq_2100)
 have ne_r2087_xq_2100 : r2087 ≠ xq_2100 := Nat.ne_of_lt (Nat.lt_of_lt_of_le f2107.lt sx_xq_2100)
 have ne_r2090_xq_2100 : r2090 ≠ xq_2100 := Nat.ne_of_lt (Nat.lt_of_lt_of_le f2108.lt sx_xq_2100)
 have ne_r2093_xq_2100 : r2093 ≠ xq_2100 := Nat.ne_of_lt (Nat.lt_of_lt_of_le f2109.lt sx_xq_2100)
 have ne_b2096_xq_2100 : b2096 ≠ xq_2100 := Nat.ne_of_lt (Nat.lt_of_lt_of_le A2096.lt sx_xq_2100)
 have znd : zci ≠ xq_2100 := Nat.ne_of_lt (Nat.lt_of_lt_of_le f2110.lt sx_xq_2100)
 have ne_b2061_xp_2100 : b2061 ≠ xp_2100 := Nat.ne_of_lt (Nat.lt_of_lt_of_le f2101.lt sx_xp_2100)
 have zne : zcl ≠ xp_2100 := Nat.ne_of_lt (Nat.lt_of_lt_of_le f2102.lt sx_xp_2100)
 have zle : zau ≠ xp_2100 := Nat.ne_of_lt (Nat.lt_of_lt_of_le f2103.lt sx_xp_2100)
 have zmi : zca ≠ xp_2100 := Nat.ne_of_lt (Nat.lt_of_lt_of_le f2104.lt sx_xp_2100)
 have zon : o_BUY ≠ xp_2100 := Nat.ne_of_lt (Nat.lt_of_lt_of_le f2105.lt sx_xp_2100)
 have zoc : o_SELL ≠ xp_2100 := Nat.ne_of_lt (Nat.lt_of_lt_of_le f2106.lt sx_xp_2100)
 have ne_r2087_xp_2100 : r2087 ≠ xp_2100 := Nat.ne_of_lt (Nat.lt_of_lt_of_le f2107.lt sx_xp_2100)
 have ne_r2090_xp_2100 : r2090 ≠ xp_2100 := Nat.ne_of_lt (Nat.lt_of_lt_of_le f2108.lt sx_xp_2100)
 have ne_r2093_xp_2100 : r2093 ≠ xp_2100 := Nat.ne_of_lt (Nat.lt_of_lt_of_le f2109.lt sx_xp_2100)
 have ne_b2096_xp_2100 : b2096 ≠ xp_2100 := Nat.ne_of_lt (Nat.lt_of_lt_of_le A2096.lt sx_xp_2100)
 have znf : zci ≠ xp_2100 := Nat.ne_of_lt (Nat.lt_of_lt_of_le f2110.lt sx_xp_2100)
 have sz_xu_2100 : h0.size ≤ xu_2100 := Nat.le_trans K2096.1 sx_xu_2100
 have g_xu_2100 : n0 ≤ xu_2100 := Nat.le_trans Z0 sz_xu_2100
 have sz_xk_2100 : h0.size ≤ xk_2100 := Nat.le_trans K2096.1 sx_xk_2100
 have g_xk_2100 : n0 ≤ xk_2100 := Nat.le_trans Z0 sz_xk_2100
 have sz_xi_2100 : h0.size ≤ xi_2100 := Nat.le_trans K2096.1 sx_xi_2100
 have g_xi_2100 : n0 ≤ xi_2100 := Nat.le_trans Z0 sz_xi_2100
 have sz_xib_2100 : h0.size ≤ xib_2100 := Nat.le_trans K2096.1 sx_xib_2100
 have g_xib_2100 : n0 ≤ xib_2100 := Nat.le_trans Z0 sz_xib_2100
 have sz_xie_2100 : h0.size ≤ xie_2100 := Nat.le_trans K2096.1 sx_xie_2100
 have g_xie_2100 : n0 ≤ xie_2100 := Nat.le_trans Z0 sz_xie_2100
 have sz_xiv_2100 : h0.size ≤ xiv_2100 := Nat.le_trans K2096.1 sx_xiv_2100
 have g_xiv_2100 : n0 ≤ xiv_2100 := Nat.le_trans Z0 sz_xiv_2100
 have sz_xm_2100 : h0.size ≤ xm_2100 := Nat.le_trans K2096.1 sx_xm_2100
 have g_xm_2100 : n0 ≤ xm_2100 := Nat.le_trans Z0 sz_xm_2100
 have sz_xmb_2100 : h0.size ≤ xmb_2100 := Nat.le_trans K2096.1 sx_xmb_2100
 have g_xmb_2100 : n0 ≤ xmb_2100 := Nat.le_trans Z0 sz_xmb_2100
 have sz_xme_2100 : h0.size ≤ xme_2100 := Nat.le_trans K2096.1 sx_xme_2100
 have g_xme_2100 : n0 ≤ xme_2100 := Nat.le_trans Z0 sz_xme_2100
 have sz_xl_2100 : h0.size ≤ xl_2100 := Nat.le_trans K2096.1 sx_xl_2100
 have g_xl_2100 : n0 ≤ xl_2100 := Nat.le_trans Z0 sz_xl_2100
 have sz_xc_2100 : h0.size ≤ xc_2100 := Nat.le_trans K2096.1 sx_xc_2100
 have g_xc_2100 : n0 ≤ xc_2100 := Nat.le_trans Z0 sz_xc_2100
 have sz_xq_2100 : h0.size ≤ xq_2100 := Nat.le_trans K2096.1 sx_xq_2100
 have g_xq_2100 : n0 ≤ xq_2100 := Nat.le_trans Z0 sz_xq_2100
 have sz_xp_2100 : h0.size ≤ xp_2100 := Nat.le_trans K2096.1 sx_xp_2100
 have g_xp_2100 : n0 ≤ xp_2100 := Nat.le_trans Z0 sz_xp_2100
 have K2100 : Keep h0 T2100.heap [] := K2096.trans Kq2100 (allS (Or.inr sz_b2096) all0)
 have N2100 := Fr.app N2093 N2100q
 have k2111 := fun t (kk : SF p e below T2100 m 116 o17 [(.ref b2096)] t) => k2098 t (st2100.trans kk)
 have k2112 := fun t (kk : SF p e below T2100 m 136 o13 [(.long (-1 : Int64)), (.long (-1 : Int64)), (.long q0), (.ref r2087), (.long (1 : Int64)), (.int 3), (.int 2), (.int 1), (.int 0), (.ref b2061), (.ref b2096)] t) => k2111 t (by
  refine XS.astore X2100.here hx rfl (hb hby at_116) rfl rfl (l' := o13) rfl ?_
  refine XS.aload X2100.here hx rfl (hb hby at_118) rfl rfl ?_
  refine XS.aload X2100.here hx rfl (hb hby at_120) rfl rfl ?_
  refine XS.iconst X2100.here hx rfl (hb hby at_122) ?_
  refine XS.iconst X2100.here hx rfl (hb hby at_123) ?_
  refine XS.iconst X2100.here hx rfl (hb hby at_124) ?_
  refine XS.iconst X2100.here hx rfl (hb hby at_125) ?_
  refine XS.lconst X2100.here hx rfl (hb hby at_126) ?_
  refine XS.aload X2100.here hx rfl (hb hby at_127) rfl rfl ?_
  refine XS.lloadN X2100.here hx rfl (hb hby at_129) rfl ?_
  refine X2100.ldc2Long hx hown (mvT hZ (w98 hw)) (g := (mkF m 130 o13 [(.long q0), (.ref r2087), (.long (1 : Int64)), (.int 3), (.int 2), (.int 1), (.int 0), (.ref b2061), (.ref b2096)])) rfl (hb hby at_130) _ ?_
  show SF p e below T2100 m 133 o13 [(.long (-1 : Int64)), (.long q0), (.ref r2087), (.long (1 : Int64)), (.int 3), (.int 2), (.int 1), (.int 0), (.ref b2061), (.ref b2096)] _
  refine X2100.ldc2Long hx hown (mvT hZ (w98 hw)) (g := (mkF m 133 o13 [(.long (-1 : Int64)), (.long q0), (.ref r2087), (.long (1 : Int64)), (.int 3), (.int 2), (.int 1), (.int 0), (.ref b2061), (.ref b2096)])) rfl (hb hby at_133) _ ?_
  exact kk)
 by_cases hs136_2113 : (v13_ret (0 : Int32) (tx p3)) < (0 : Int32)
 ·have t2114 := fun {C n d : String} {v : Value} (F : Fld Z _ r2087 C n d v) => (F.ext E2096).keep Kq2100 (ninS ne_r2087_b2096 nin0)
  have f2115 := t2114 F_ordinal_r2087
  have f2116 := (f2101.keep Kq2100 (ninS ne_b2061_b2096 nin0))
  have m2117 : xib_2100 ≠ b2096 := Ne.symm ne_b2096_xib_2100
  have m2118 : xie_2100 ≠ b2096 := Ne.symm ne_b2096_xie_2100
  have m2119 : xi_2100 ≠ b2096 := Ne.symm ne_b2096_xi_2100
  have m2120 : xl_2100 ≠ b2096 := Ne.symm ne_b2096_xl_2100
  have m2121 : xl_2100 ≠ xm_2100 := Ne.symm nx_xm_xl_2100
  have m2122 : xmb_2100 ≠ xie_2100 := Ne.symm nx_xie_xmb_2100
  have m2123 : xib_2100 ≠ b2061 := Ne.symm ne_b2061_xib_2100
  have m2124 : xie_2100 ≠ b2061 := Ne.symm ne_b2061_xie_2100
  have m2125 : xl_2100 ≠ b2061 := Ne.symm ne_b2061_xl_2100
  have m2126 : xmb_2100 ≠ b2096 := Ne.symm ne_b2096_xmb_2100
  have m2127 : xme_2100 ≠ b2096 := Ne.symm ne_b2096_xme_2100
  have m2128 : xm_2100 ≠ b2096 := Ne.symm ne_b2096_xm_2100
  have m2129 : xib_2100 ≠ r2087 := Ne.symm ne_r2087_xib_2100
  have m2130 : xie_2100 ≠ r2087 := Ne.symm ne_r2087_xie_2100
  have m2131 : xi_2100 ≠ r2087 := Ne.symm ne_r2087_xi_2100
  have m2132 : xl_2100 ≠ r2087 := Ne.symm ne_r2087_xl_2100
  have m2133 : xmb_2100 ≠ r2087 := Ne.symm ne_r2087_xmb_2100
  have m2134 : xme_2100 ≠ r2087 := Ne.symm ne_r2087_xme_2100
  have m2135 : xm_2100 ≠ r2087 := Ne.symm ne_r2087_xm_2100
  have f2136 := (f2107.keep Kq2100)
  have m2137 : xc_2100 ≠ xl_2100 := Ne.symm nx_xl_xc_2100
  have m2138 : xc_2100 ≠ b2096 := Ne.symm ne_b2096_xc_2100
  have m2139 : xc_2100 ≠ r2087 := Ne.symm ne_r2087_xc_2100
  have m2140 : xib_2100 ≠ xk_2100 := Ne.symm nx_xk_xib_2100
  have m2141 : xie_2100 ≠ xk_2100 := Ne.symm nx_xk_xie_2100
  have m2142 : xmb_2100 ≠ xk_2100 := Ne.symm nx_xk_xmb_2100
  have m2143 : xme_2100 ≠ xk_2100 := Ne.symm nx_xk_xme_2100
  have m2144 : xp_2100 ≠ xq_2100 := Ne.symm nx_xq_xp_2100
  have Zz2145 : n0 ≤ T2100.heap.size := (Nat.le_trans Z0 K2100.1)
  obtain ⟨cq2145, kq2145, q2145a, q2145b, q2145c⟩ := isOf hZ rfl Eq2100_0
  obtain ⟨_, _, ⟨T2145, L2145, k2145, n2145⟩, -, X2145, ⟨Lc2145, hQ2145, l2145, y2145, z2145⟩, st2145⟩ := X2100.virtualBack hx (y := M33_) (z := M33_) hown (mvT hZ (w99 hw)) (mvT hZ (w100 hw)) (notFace_of_selects (args := #[]) (mvT hZ (w102 hw))) (mvT hZ (w102 hw)) (mvT hZ (w101 hw)) (by decide) (backOf (W := 0) (rm11hf l Z a0 hw [] b2096 b2061 (0 : Int32) (1 : Int32) (2 : Int32) (3 : Int32) (1 : Int64) r2087 q0 (-1 : Int64) (-1 : Int64) xi_2100 xiv_2100 k2061 (tx p3) k_xiv_2100 ((2 : Int32) * (cp p5)) (List.replicate (((2 : Int32) * (cp p5))).toNatClampNeg (0 : Int32)) (es p5) (0 : Int32) xie_2100 k_xie_2100 (cp p5) (List.replicate ((cp p5)).toNatClampNeg (0 : Int32)) xib_2100 k_xib_2100 ((8 : Int32) * (cp p5)) (List.replicate (((8 : Int32) * (cp p5))).toNatClampNeg (0 : Int32)) (0 : Int32) (0 : Int64) (0 : Int32) xl_2100 k_xl_2100 (cp p5) (List.replicate ((cp p5)).toNatClampNeg (0 : Int64)) xm_2100 (0 : Int32) xme_2100 k_xme_2100 (cp p5) (List.replicate ((cp p5)).toNatClampNeg (0 : Int32)) xmb_2100 k_xmb_2100 ((4 : Int32) * (cp p5)) (List.replicate (((4 : Int32) * (cp p5))).toNatClampNeg (0 : Int32)) (v2_69_f_expectedSlots (p5 &&& (255 : Int32))) .null .null (0 : Int32) (0 : Int64) xc_2100 (v1_r_ordinal (p4 &&& (7 : Int32))) k_xc_2100 (cp p5) (List.replicate ((cp p5)).toNatClampNeg (0 : Int32)) xk_2100 k_xk_2100 ([(0 : Int32), (0 : Int32), (0 : Int32), (0 : Int32), (0 : Int32)] : List Int32) .null xq_2100 k_xq_2100 (cp p5) (List.replicate ((cp p5)).toNatClampNeg (0 : Int64)) xp_2100 k_xp_2100 (cp p5) (List.replicate ((cp p5)).toNatClampNeg (0 : Int64)) (.ref xu_2100) (9223372036854775807 : Int64) (-9223372036854775808 : Int64) (0 : Int32) T2100.heap n0 Zz2145 (own_clt p5 (by decide)) (own_E0 _) (own_c8 p5) (by decide) (by decide) (hs136_2113) (own_c2 p5) (own_es p5) (by decide) (own_clt p5 (by decide)) (own_E0 _) (own_c4 p5) (by decide) (by decide) (by decide) (by decide) (own_ord _) (by decide) (by decide) (own_c1 p5) (own_c1 p5) (own_c1 p5) (own_c1 p5) Fq2100_4 Fx_xi_2100_2 f2116 VL2073 Vx_xiv_2100 VLx_xiv_2100 Fx_xi_2100_3 Fx_xi_2100_6 Fx_xi_2100_1 Vx_xie_2100 VLx_xie_2100 Fx_xi_2100_0 Vx_xib_2100 VLx_xib_2100 Fx_xi_2100_7 Fx_xi_2100_8 Ex_xi_2100 Fx_xi_2100_4 Fx_xi_2100_5 g_xi_2100 g_xib_2100 nx_xib_xie_2100 g_xie_2100 Fq2100_10 m2117 m2118 m2119 Fq2100_6 Vx_xl_2100 VLx_xl_2100 nx_xib_xl_2100 nx_xie_xl_2100 g_xl_2100 Fq2100_5 m2120 Fx_xm_2100_6 nx_xib_xm_2100 nx_xie_xm_2100 nx_xi_xm_2100 m2121 Fx_xm_2100_1 Vx_xme_2100 VLx_xme_2100 Fx_xm_2100_0 Vx_xmb_2100 VLx_xmb_2100 Fx_xm_2100_3 Fx_xm_2100_4 Fx_xm_2100_5 Fx_xm_2100_7 Fx_xm_2100_8 Fx_xm_2100_2 nx_xib_xme_2100 nx_xie_xme_2100 nx_xme_xl_2100 nx_xib_xmb_2100 m2122 nx_xmb_xl_2100 m2123 m2124 m2125 Ex_xm_2100 g_xmb_2100 nx_xmb_xme_2100 g_xme_2100 g_xm_2100 Fq2100_7 m2126 m2127 m2128 f2115 m2129 m2130 m2131 m2132 m2133 m2134 m2135 f2136 Vx_xc_2100 VLx_xc_2100 nx_xib_xc_2100 nx_xie_xc_2100 m2137 nx_xmb_xc_2100 nx_xme_xc_2100 g_xc_2100 Fq2100_1 m2138 m2139 Vx_xk_2100 VLx_xk_2100 m2140 m2141 nx_xk_xl_2100 m2142 m2143 nx_xk_xc_2100 g_xk_2100 Eq2100_0 Fq2100_11 g_b2096 Fq2100_8 Vx_xq_2100 VLx_xq_2100 nx_xib_xq_2100 nx_xie_xq_2100 nx_xl_xq_2100 nx_xmb_xq_2100 nx_xme_xq_2100 nx_xc_xq_2100 nx_xk_xq_2100 g_xq_2100 Fq2100_9 Vx_xp_2100 VLx_xp_2100 nx_xib_xp_2100 nx_xie_xp_2100 nx_xl_xp_2100 nx_xmb_xp_2100 nx_xme_xp_2100 nx_xc_xp_2100 nx_xk_xp_2100 m2144 g_xp_2100 Fq2100_12 Fq2100_0 Fq2100_2 Fq2100_3 Fq2100_13) hZ (w103 hw) (w12 hw) (by decide) (by decide)) q2145a q2145c (g := (mkF m 136 o13 [(.long (-1 : Int64)), (.long (-1 : Int64)), (.long q0), (.ref r2087), (.long (1 : Int64)), (.int 3), (.int 2), (.int 1), (.int 0), (.ref b2061), (.ref b2096)])) rfl (by rw [hml]; rfl) (Steps.refl _) (argsL := [(.ref b2061), (.int 0), (.int 1), (.int 2), (.int 3), (.long (1 : Int64)), (.ref r2087), (.long q0), (.long (-1 : Int64)), (.long (-1 : Int64))]) (rest := []) (lenOf pd_9 rfl) rfl (Nat.le_of_eq rfl) (hb hby at_136) (fun _ _ => ⟨rfl, rfl, (by decide : 15 + 1 ≤ _), (by decide : 6163 + 512 ≤ _)⟩)
  dsimp only [Pt.U, Pt.locs, Pt.cells, Pt.slots] at X2145 l2145 y2145 z2145 st2145 hQ2145
  subst l2145 y2145 z2145
  obtain ⟨xs_2145, k_xs_2145, rfl, N2145q, Kq2145, Eq2145_0, Eq2145_1, Eq2145_2, Fq2145_0, Fq2145_1, Fq2145_2, Fq2145_3, Fq2145_4, Fq2145_5, Fq2145_6, Fq2145_7, Fq2145_8, Fq2145_9, Fq2145_10, Fq2145_11, Fq2145_12, Fq2145_13, Fq2145_14, Fq2145_15, Fq2145_16, Fq2145_17, Fq2145_18, Fq2145_19, Fq2145_20, Fq2145_21, Fq2145_22, Fq2145_23, Fq2145_24, Fq2145_25, Fq2145_26, Fq2145_27, Fq2145_28, Fq2145_29, Fq2145_30, Fq2145_31, Vq2145_0, VLq2145_0, Vq2145_1, VLq2145_1, Vq2145_2, VLq2145_2, Vq2145_3, VLq2145_3, Vq2145_4, VLq2145_4, Vq2145_5, VLq2145_5, Vq2145_6, VLq2145_6, Vq2145_7, VLq2145_7, Vq2145_8, VLq2145_8, sx_xs_2145, Vx_xs_2145, VLx_xs_2145⟩ := hQ2145
  have O2146 := (O2099.keep Kq2100 (allS g_b2096 all0))
  have f2147 := zht.ext O2146.2
  have f2148 := zdz.ext O2146.2
  have f2149 := zhf.ext O2146.2
  have f2150 := ziv.ext O2146.2
  have f2151 := zif.ext O2146.2
  have f2152 := (f2108.keep Kq2100)
  have f2153 := (f2109.keep Kq2100)
  have f2154 := zfy.ext O2146.2
  have ne_b2061_xs_2145 : b2061 ≠ xs_2145 := Nat.ne_of_lt (Nat.lt_of_lt_of_le f2116.lt sx_xs_2145)
  have zng : zcl ≠ xs_2145 := Nat.ne_of_lt (Nat.lt_of_lt_of_le f2147.lt sx_xs_2145)
  have zlf : zau ≠ xs_2145 := Nat.ne_of_lt (Nat.lt_of_lt_of_le f2148.lt sx_xs_2145)
  have zmj : zca ≠ xs_2145 := Nat.ne_of_lt (Nat.lt_of_lt_of_le f2149.lt sx_xs_2145)
  have zoo : o_BUY ≠ xs_2145 := Nat.ne_of_lt (Nat.lt_of_lt_of_le f2150.lt sx_xs_2145)
  have zod : o_SELL ≠ xs_2145 := Nat.ne_of_lt (Nat.lt_of_lt_of_le f2151.lt sx_xs_2145)
  have ne_r2087_xs_2145 : r2087 ≠ xs_2145 := Nat.ne_of_lt (Nat.lt_of_lt_of_le f2136.lt sx_xs_2145)
  have ne_r2090_xs_2145 : r2090 ≠ xs_2145 := Nat.ne_of_lt (Nat.lt_of_lt_of_le f2152.lt sx_xs_2145)
  have ne_r2093_xs_2145 : r2093 ≠ xs_2145 := Nat.ne_of_lt (Nat.lt_of_lt_of_le f2153.lt sx_xs_2145)
  have ne_b2096_xs_2145 : b2096 ≠ xs_2145 := Nat.ne_of_lt (Nat.lt_of_lt_of_le Eq2100_0.lt sx_xs_2145)
  have znh : zci ≠ xs_2145 := Nat.ne_of_lt (Nat.lt_of_lt_of_le f2154.lt sx_xs_2145)
  have ne_xu_2100_xs_2145 : xu_2100 ≠ xs_2145 := Nat.ne_of_lt (Nat.lt_of_lt_of_le Ex_xu_2100.lt sx_xs_2145)
  have ne_xk_2100_xs_2145 : xk_2100 ≠ xs_2145 := Nat.ne_of_lt (Nat.lt_of_lt_of_le Vx_xk_2100.lt sx_xs_2145)
  have ne_xi_2100_xs_2145 : xi_2100 ≠ xs_2145 := Nat.ne_of_lt (Nat.lt_of_lt_of_le Ex_xi_2100.lt sx_xs_2145)
  have ne_xib_2100_xs_2145 : xib_2100 ≠ xs_2145 := Nat.ne_of_lt (Nat.lt_of_lt_of_le Vx_xib_2100.lt sx_xs_2145)
  have ne_xie_2100_xs_2145 : xie_2100 ≠ xs_2145 := Nat.ne_of_lt (Nat.lt_of_lt_of_le Vx_xie_2100.lt sx_xs_2145)
  have ne_xiv_2100_xs_2145 : xiv_2100 ≠ xs_2145 := Nat.ne_of_lt (Nat.lt_of_lt_of_le Vx_xiv_2100.lt sx_xs_2145)
  have ne_xm_2100_xs_2145 : xm_2100 ≠ xs_2145 := Nat.ne_of_lt (Nat.lt_of_lt_of_le Ex_xm_2100.lt sx_xs_2145)
  have ne_xmb_2100_xs_2145 : xmb_2100 ≠ xs_2145 := Nat.ne_of_lt (Nat.lt_of_lt_of_le Vx_xmb_2100.lt sx_xs_2145)
  have ne_xme_2100_xs_2145 : xme_2100 ≠ xs_2145 := Nat.ne_of_lt (Nat.lt_of_lt_of_le Vx_xme_2100.lt sx_xs_2145)
  have ne_xl_2100_xs_2145 : xl_2100 ≠ xs_2145 := Nat.ne_of_lt (Nat.lt_of_lt_of_le Vx_xl_2100.lt sx_xs_2145)
  have ne_xc_2100_xs_2145 : xc_2100 ≠ xs_2145 := Nat.ne_of_lt (Nat.lt_of_lt_of_le Vx_xc_2100.lt sx_xs_2145)
  have ne_xq_2100_xs_2145 : xq_2100 ≠ xs_2145 := Nat.ne_of_lt (Nat.lt_of_lt_of_le Vx_xq_2100.lt sx_xs_2145)
  have ne_xp_2100_xs_2145 : xp_2100 ≠ xs_2145 := Nat.ne_of_lt (Nat.lt_of_lt_of_le Vx_xp_2100.lt sx_xs_2145)
  have sz_xs_2145 : h0.size ≤ xs_2145 := Nat.le_trans K2100.1 sx_xs_2145
  have g_xs_2145 : n0 ≤ xs_2145 := Nat.le_trans Z0 sz_xs_2145
  have K2145 : Keep h0 T2145.heap [] := K2100.trans Kq2145 (allS (Or.inr sz_xib_2100) (allS (Or.inr sz_xie_2100) (allS (Or.inr sz_xi_2100) (allS (Or.inr sz_xl_2100) (allS (Or.inr sz_xmb_2100) (allS (Or.inr sz_xme_2100) (allS (Or.inr sz_xm_2100) (allS (Or.inr sz_xc_2100) (allS (Or.inr sz_xk_2100) (allS (Or.inr sz_b2096) (allS (Or.inr sz_xq_2100) (allS (Or.inr sz_xp_2100) all0))))))))))))
  have Fn2145_3 : Fld Z T2145.heap xi_2100 cBs "expectedSlots" "I" (.int (v0_136_f_expectedSlots p5)) := Fq2145_3
  have Fn2145_12 : Fld Z T2145.heap xm_2100 cBs "expectedSlots" "I" (.int (v0_136_f_expectedSlots_1 p5)) := Fq2145_12
  have V2145n : Arv Z T2145.heap xib_2100 k_xib_2100 .byte ((8 : Int32) * (cp p5)) (List.map Value.int (v0_136_L0 p3 p5)) (.int 0) := Vq2145_0
  have VL2145n : (v0_136_L0 p3 p5).length = (((8 : Int32) * (cp p5))).toNatClampNeg := VLq2145_0
  have V2145n1 : Arv Z T2145.heap xie_2100 k_xie_2100 .int (cp p5) (List.map Value.int (v0_136_L1 p5)) (.int 0) := Vq2145_1
  have VL2145n1 : (v0_136_L1 p5).length = ((cp p5)).toNatClampNeg := VLq2145_1
  have V2145n2 : Arv Z T2145.heap xl_2100 k_xl_2100 .long (cp p5) (List.map Value.long (v0_136_L2 p5)) (.long (0 : Int64)) := Vq2145_2
  have VL2145n2 : (v0_136_L2 p5).length = ((cp p5)).toNatClampNeg := VLq2145_2
  have V2145n3 : Arv Z T2145.heap xmb_2100 k_xmb_2100 .byte ((4 : Int32) * (cp p5)) (List.map Value.int (v0_136_L3 p3 p5)) (.int 0) := Vq2145_3
  have VL2145n3 : (v0_136_L3 p3 p5).length = (((4 : Int32) * (cp p5))).toNatClampNeg := VLq2145_3
  have V2145n4 : Arv Z T2145.heap xme_2100 k_xme_2100 .int (cp p5) (List.map Value.int (v0_136_L4 p5)) (.int 0) := Vq2145_4
  have VL2145n4 : (v0_136_L4 p5).length = ((cp p5)).toNatClampNeg := VLq2145_4
  have V2145n5 : Arv Z T2145.heap xc_2100 k_xc_2100 .byte (cp p5) (List.map Value.int (v0_136_L5 p4 p5)) (.int 0) := Vq2145_5
  have VL2145n5 : (v0_136_L5 p4 p5).length = ((cp p5)).toNatClampNeg := VLq2145_5
  have V2145n6 : Arv Z T2145.heap xk_2100 k_xk_2100 .int 5 (List.map Value.int (v0_136_L6 p4)) (.int 0) := Vq2145_6
  have VL2145n6 : (v0_136_L6 p4).length = ((5 : Int32)).toNatClampNeg := VLq2145_6
  have V2145n7 : Arv Z T2145.heap xq_2100 k_xq_2100 .long (cp p5) (List.map Value.long (v0_136_L7 q0 p5)) (.long (0 : Int64)) := Vq2145_7
  have VL2145n7 : (v0_136_L7 q0 p5).length = ((cp p5)).toNatClampNeg := VLq2145_7
  have V2145n8 : Arv Z T2145.heap xp_2100 k_xp_2100 .long (cp p5) (List.map Value.long (v0_136_L8 p5)) (.long (0 : Int64)) := Vq2145_8
  have VL2145n8 : (v0_136_L8 p5).length = ((cp p5)).toNatClampNeg := VLq2145_8
  have N2145 := Fr.app N2100 N2145q
  have k2155 := fun t (kk : SF p e below T2145 m 139 o13 [(.int (ohf11_10_l15 (0 : Int32)))] t) => k2112 t (st2145.trans kk)
  have k2156 := fun t (kk : SF p e below T2145 m 161 o8 [(.long (-1 : Int64)), (.long (-1 : Int64)), (.long q1), (.ref r2090), (.long (2 : Int64)), (.int 3), (.int 2), (.int 2), (.int 1), (.ref b2061), (.ref b2096)] t) => k2155 t (by
   refine XS.istore X2145.here hx rfl (hb hby at_139) rfl (l' := o8) rfl ?_
   refine XS.aload X2145.here hx rfl (hb hby at_141) rfl rfl ?_
   refine XS.aload X2145.here hx rfl (hb hby at_143) rfl rfl ?_
   refine XS.iconst X2145.here hx rfl (hb hby at_145) ?_
   refine XS.iconst X2145.here hx rfl (hb hby at_146) ?_
   refine XS.iconst X2145.here hx rfl (hb hby at_147) ?_
   refine XS.iconst X2145.here hx rfl (hb hby at_148) ?_
   refine X2145.ldc2Long hx hown (mvT hZ (w153 hw)) (g := (mkF m 149 o8 [(.int 3), (.int 2), (.int 2), (.int 1), (.ref b2061), (.ref b2096)])) rfl (hb hby at_149) _ ?_
   refine XS.aload X2145.here hx rfl (hb hby at_152) rfl rfl ?_
   refine XS.lloadN X2145.here hx rfl (hb hby at_154) rfl ?_
   refine X2145.ldc2Long hx hown (mvT hZ (w98 hw)) (g := (mkF m 155 o8 [(.long q1), (.ref r2090), (.long (2 : Int64)), (.int 3), (.int 2), (.int 2), (.int 1), (.ref b2061), (.ref b2096)])) rfl (hb hby at_155) _ ?_
   show SF p e below T2145 m 158 o8 [(.long (-1 : Int64)), (.long q1), (.ref r2090), (.long (2 : Int64)), (.int 3), (.int 2), (.int 2), (.int 1), (.ref b2061), (.ref b2096)] _
   refine X2145.ldc2Long hx hown (mvT hZ (w98 hw)) (g := (mkF m 158 o8 [(.long (-1 : Int64)), (.long q1), (.ref r2090), (.long (2 : Int64)), (.int 3), (.int 2), (.int 2), (.int 1), (.ref b2061), (.ref b2096)])) rfl (hb hby at_158) _ ?_
   exact kk)
  by_cases hs161_2157 : (v13_ret (1 : Int32) (tx p3)) < (0 : Int32)
  ·by_cases hs161_2158 : (v0_60_e p3) = (v0_55_e p3)
   ·have f2159 := (f2116.keep Kq2145 (ninS ne_b2061_xib_2100 (ninS ne_b2061_xie_2100 (ninS ne_b2061_xi_2100 (ninS ne_b2061_xl_2100 (ninS ne_b2061_xmb_2100 (ninS ne_b2061_xme_2100 (ninS ne_b2061_xm_2100 (ninS ne_b2061_xc_2100 (ninS ne_b2061_xk_2100 (ninS ne_b2061_b2096 (ninS ne_b2061_xq_2100 (ninS ne_b2061_xp_2100 nin0)))))))))))))
    have m2160 : xiv_2100 ≠ b2096 := Ne.symm ne_b2096_xiv_2100
    have m2161 : xiv_2100 ≠ xk_2100 := Ne.symm nx_xk_xiv_2100
    have m2162 : xiv_2100 ≠ xi_2100 := Ne.symm nx_xi_xiv_2100
    have m2163 : xiv_2100 ≠ xie_2100 := Ne.symm nx_xie_xiv_2100
    have m2164 : xiv_2100 ≠ xib_2100 := Ne.symm nx_xib_xiv_2100
    have f2165 := (Vx_xiv_2100.keep Kq2145 (ninS m2164 (ninS m2163 (ninS m2162 (ninS nx_xiv_xl_2100 (ninS nx_xiv_xmb_2100 (ninS nx_xiv_xme_2100 (ninS nx_xiv_xm_2100 (ninS nx_xiv_xc_2100 (ninS m2161 (ninS m2160 (ninS nx_xiv_xq_2100 (ninS nx_xiv_xp_2100 nin0)))))))))))))
    have Zz2166 : n0 ≤ T2145.heap.size := (Nat.le_trans Z0 K2145.1)
    obtain ⟨cq2166, kq2166, q2166a, q2166b, q2166c⟩ := isOf hZ rfl Eq2145_2
    obtain ⟨_, _, ⟨T2166, L2166, k2166, n2166⟩, -, X2166, ⟨Lc2166, hQ2166, l2166, y2166, z2166⟩, st2166⟩ := X2145.virtualBack hx (y := M33_) (z := M33_) hown (mvT hZ (w99 hw)) (mvT hZ (w100 hw)) (notFace_of_selects (args := #[]) (mvT hZ (w102 hw))) (mvT hZ (w102 hw)) (mvT hZ (w101 hw)) (by decide) (backOf (W := 0) (rm11hk l Z a0 hw [] b2096 b2061 (1 : Int32) (2 : Int32) (2 : Int32) (3 : Int32) (2 : Int64) r2090 q1 (-1 : Int64) (-1 : Int64) xi_2100 xiv_2100 k2061 (tx p3) k_xiv_2100 ((2 : Int32) * (cp p5)) (List.replicate (((2 : Int32) * (cp p5))).toNatClampNeg (0 : Int32)) xs_2145 k_xs_2145 (es p5) (hf12_337_L (0 : Int32) (tx p3) (es p5) (0 : Int32)) xie_2100 k_xie_2100 (cp p5) (v0_136_L1 p5) xib_2100 k_xib_2100 ((8 : Int32) * (cp p5)) (v0_136_L0 p3 p5) ((0 : Int32) + (1 : Int32)) T2145.heap n0 Zz2166 (by decide) (by decide) (hs161_2157) (own_c2 p5) (own_es p5) (own_hk1 p3 (own_at1 p3 p5 hs161_2158)) (own_hk2e p3 p5 hs161_2158) (own_hk3 p3 (own_at1 p3 p5 hs161_2158)) (own_c1 p5) (own_c8 p5) (own_L1 p5) ((own_B0 p3 p5).trans (Eq.symm hs161_2158)) (own_zlt (own_hk3 p3 (own_at1 p3 p5 hs161_2158)) (by decide)) Fq2145_22 Fq2145_2 f2159 VL2073 f2165 VLx_xiv_2100 Fq2145_5 Vx_xs_2145 VLx_xs_2145 Fq2145_1 V2145n1 VL2145n1 Fq2145_0 V2145n VL2145n Eq2145_0 Fq2145_4 Fq2145_28) hZ (w103 hw) (w12 hw) (by decide) (by decide)) q2166a q2166c (g := (mkF m 161 o8 [(.long (-1 : Int64)), (.long (-1 : Int64)), (.long q1), (.ref r2090), (.long (2 : Int64)), (.int 3), (.int 2), (.int 2), (.int 1), (.ref b2061), (.ref b2096)])) rfl (by rw [hml]; rfl) (Steps.refl _) (argsL := [(.ref b2061), (.int 1), (.int 2), (.int 2), (.int 3), (.long (2 : Int64)), (.ref r2090), (.long q1), (.long (-1 : Int64)), (.long (-1 : Int64))]) (rest := []) (lenOf pd_9 rfl) rfl (Nat.le_of_eq rfl) (hb hby at_161) (fun _ _ => ⟨rfl, rfl, (by decide : 16 + 0 ≤ _), (by decide : 6675 + 0 ≤ _)⟩)
    dsimp only [Pt.U, Pt.locs, Pt.cells, Pt.slots] at X2166 l2166 y2166 z2166 st2166 hQ2166
    subst l2166 y2166 z2166
    obtain ⟨rfl, N2166q, e2166⟩ := hQ2166
    have N2166 := Fr.app N2145 N2166q
    have k2167 := fun t (kk : SF p e below T2166 m 164 o8 [(.int (ohk11_ret (1 : Int32) (tx p3) (es p5) (hf12_337_L (0 : Int32) (tx p3) (es p5) (0 : Int32))))] t) => k2156 t (st2166.trans kk)
    have k2168 := fun t (kk : SF p e below T2166 m 187 o11 [(.long (-1 : Int64)), (.long (-1 : Int64)), (.long q2), (.ref r2093), (.long (3 : Int64)), (.int 3), (.int 2), (.int 1), (.int 0), (.ref b2061), (.ref b2096)] t) => k2167 t (by
     refine XS.istore X2166.here hx rfl (hb hby at_164) rfl (l' := o11) rfl ?_
     refine XS.aload X2166.here hx rfl (hb hby at_166) rfl rfl ?_
     refine XS.aload X2166.here hx rfl (hb hby at_168) rfl rfl ?_
     refine XS.iconst X2166.here hx rfl (hb hby at_170) ?_
     refine XS.iconst X2166.here hx rfl (hb hby at_171) ?_
     refine XS.iconst X2166.here hx rfl (hb hby at_172) ?_
     refine XS.iconst X2166.here hx rfl (hb hby at_173) ?_
     refine X2166.ldc2Long hx hown (mvT hZ (w154 hw)) (g := (mkF m 174 o11 [(.int 3), (.int 2), (.int 1), (.int 0), (.ref b2061), (.ref b2096)])) rfl (hb hby at_174) _ ?_
     refine XS.aload X2166.here hx rfl (hb hby at_177) rfl rfl ?_
     refine XS.lload X2166.here hx rfl (hb hby at_179) rfl ?_
     refine X2166.ldc2Long hx hown (mvT hZ (w98 hw)) (g := (mkF m 181 o11 [(.long q2), (.ref r2093), (.long (3 : Int64)), (.int 3), (.int 2), (.int 1), (.int 0), (.ref b2061), (.ref b2096)])) rfl (hb hby at_181) _ ?_
     show SF p e below T2166 m 184 o11 [(.long (-1 : Int64)), (.long q2), (.ref r2093), (.long (3 : Int64)), (.int 3), (.int 2), (.int 1), (.int 0), (.ref b2061), (.ref b2096)] _
     refine X2166.ldc2Long hx hown (mvT hZ (w98 hw)) (g := (mkF m 184 o11 [(.long (-1 : Int64)), (.long q2), (.ref r2093), (.long (3 : Int64)), (.int 3), (.int 2), (.int 1), (.int 0), (.ref b2061), (.ref b2096)])) rfl (hb hby at_184) _ ?_
     exact kk)
    have Zz2169 : n0 ≤ T2145.heap.size := (Nat.le_trans Z0 K2145.1)
    obtain ⟨cq2169, kq2169, q2169a, q2169b, q2169c⟩ := isOf hZ e2166 Eq2145_2
    obtain ⟨_, _, ⟨T2169, L2169, k2169, n2169⟩, -, X2169, ⟨Lc2169, hQ2169, l2169, y2169, z2169⟩, st2169⟩ := X2166.virtualBack hx (y := M33_) (z := M33_) hown (mvT hZ (w99 hw)) (mvT hZ (w100 hw)) (notFace_of_selects (args := #[]) (mvT hZ (w102 hw))) (mvT hZ (w102 hw)) (mvT hZ (w101 hw)) (by decide) (backOf (W := 0) (rm11hk l Z a0 hw [] b2096 b2061 (0 : Int32) (1 : Int32) (2 : Int32) (3 : Int32) (3 : Int64) r2093 q2 (-1 : Int64) (-1 : Int64) xi_2100 xiv_2100 k2061 (tx p3) k_xiv_2100 ((2 : Int32) * (cp p5)) (List.replicate (((2 : Int32) * (cp p5))).toNatClampNeg (0 : Int32)) xs_2145 k_xs_2145 (es p5) (hf12_337_L (0 : Int32) (tx p3) (es p5) (0 : Int32)) xie_2100 k_xie_2100 (cp p5) (v0_136_L1 p5) xib_2100 k_xib_2100 ((8 : Int32) * (cp p5)) (v0_136_L0 p3 p5) ((0 : Int32) + (1 : Int32)) T2145.heap n0 Zz2169 (by decide) (by decide) (hs136_2113) (own_c2 p5) (own_es p5) (own_hk1 p3 (own_at0 p3 p5)) (own_hk2 p3 (own_at0 p3 p5)) (own_hk3 p3 (own_at0 p3 p5)) (own_c1 p5) (own_c8 p5) (own_L1 p5) (own_B0 p3 p5) (own_zlt (own_hk3 p3 (own_at0 p3 p5)) (by decide)) Fq2145_22 Fq2145_2 f2159 VL2073 f2165 VLx_xiv_2100 Fq2145_5 Vx_xs_2145 VLx_xs_2145 Fq2145_1 V2145n1 VL2145n1 Fq2145_0 V2145n VL2145n Eq2145_0 Fq2145_4 Fq2145_28) hZ (w103 hw) (w12 hw) (by decide) (by decide)) q2169a q2169c (g := (mkF m 187 o11 [(.long (-1 : Int64)), (.long (-1 : Int64)), (.long q2), (.ref r2093), (.long (3 : Int64)), (.int 3), (.int 2), (.int 1), (.int 0), (.ref b2061), (.ref b2096)])) rfl (by rw [hml]; rfl) (Steps.refl _) (argsL := [(.ref b2061), (.int 0), (.int 1), (.int 2), (.int 3), (.long (3 : Int64)), (.ref r2093), (.long q2), (.long (-1 : Int64)), (.long (-1 : Int64))]) (rest := []) (lenOf pd_9 rfl) rfl (Nat.le_of_eq rfl) (hb hby at_187) (fun _ _ => ⟨rfl, e2166, (by decide : 16 + 0 ≤ _), (by decide : 6675 + 0 ≤ _)⟩)
    dsimp only [Pt.U, Pt.locs, Pt.cells, Pt.slots] at X2169 l2169 y2169 z2169 st2169 hQ2169
    subst l2169 y2169 z2169
    obtain ⟨rfl, N2169q, e2169⟩ := hQ2169
    have N2169 := Fr.app N2166 N2169q
    have k2170 := fun t (kk : SF p e below T2169 m 190 o11 [(.int (ohk11_ret (0 : Int32) (tx p3) (es p5) (hf12_337_L (0 : Int32) (tx p3) (es p5) (0 : Int32))))] t) => k2168 t (st2169.trans kk)
    have k2173 := fun t (kk : SF p e below T2169 m 208 o5 [(.int (ohf11_10_l15 (0 : Int32)))] t) => k2170 t (by
     refine XS.istore X2169.here hx rfl (hb hby at_190) rfl (l' := o25) rfl ?_
     refine XS.iload X2169.here hx rfl (hb hby at_192) rfl ?_
     refine XS.iload X2169.here hx rfl (hb hby at_194) rfl ?_
     suffices k2172 : SF p e below T2169 m 204 #[.val (.long q0), .second, .val (.long q1), .second, .val (.long q2), .second, iv p3, iv p4, iv p5, iv (v0_7_l9 p3), iv (v0_16_s0 p3), iv (v0_46_l11 p3), rv b2061, rv r2087, rv r2090, rv r2093, rv b2096, iv (ohf11_10_l15 (0 : Int32)), iv (v0_164_l18 p3 p5), iv (v0_190_l19 p3 p5), .unset] [(.int (v0_196_s0 p3))] t by
      by_cases hc196_2171 : (v0_7_l9 p3) = (v0_16_s0 p3)
      ·rw [(show (v0_196_s0 p3) = (1 : Int32) from if_pos hc196_2171)] at k2172
       refine XS.icmpNo X2169.here hx rfl (hb hby at_196) rfl (teq hc196_2171).2 ?_
       refine XS.iconst X2169.here hx rfl (hb hby at_199) ?_
       refine XS.goto X2169.here hx rfl (pc0 := 200) (pc' := 204) rfl (hb hby at_200) (by decide) (by decide) ?_
       exact k2172
      ·rw [(show (v0_196_s0 p3) = (0 : Int32) from if_neg hc196_2171)] at k2172
       refine XS.icmpYes X2169.here hx rfl (pc0 := 196) (pc' := 203) rfl (hb hby at_196) rfl (feq hc196_2171).2 (by decide) (by decide) ?_
       refine XS.iconst X2169.here hx rfl (hb hby at_203) ?_
       exact k2172
     refine XS.istore X2169.here hx rfl (hb hby at_204) rfl (l' := o5) rfl ?_
     refine XS.iload X2169.here hx rfl (hb hby at_206) rfl ?_
     exact kk)
    have hc208_2174 : (ohf11_10_l15 (0 : Int32)) = (0 : Int32) := by decide
    have k2175 := fun t (kk : SF p e below T2169 m 213 o5 [(.int (v0_190_l19 p3 p5))] t) => k2173 t (by
     refine XS.ifNo X2169.here hx rfl (hb hby at_208) rfl ((if0 _ _).trans (teq hc208_2174).2) ?_
     show SF p e below T2169 m 211 o5 [] _
     refine XS.iload X2169.here hx rfl (hb hby at_211) rfl ?_
     exact kk)
    have hc213_2176 : (v0_190_l19 p3 p5) = (0 : Int32) := own_hk3 p3 (own_at0 p3 p5)
    have k2179 := fun t (kk : SF p e below T2169 m 230 o5 [(.int (v0_222_s0 p3)), (.int (v0_164_l18 p3 p5))] t) => k2175 t (by
     refine XS.ifYes X2169.here hx rfl (pc0 := 213) (pc' := 218) rfl (hb hby at_213) rfl ((if0 _ _).trans (teq hc213_2176).1) (by decide) (by decide) ?_
     refine XS.iload X2169.here hx rfl (hb hby at_218) rfl ?_
     refine XS.iload X2169.here hx rfl (hb hby at_220) rfl ?_
     suffices k2178 : SF p e below T2169 m 230 #[.val (.long q0), .second, .val (.long q1), .second, .val (.long q2), .second, iv p3, iv p4, iv p5, iv (v0_7_l9 p3), iv (v0_16_s0 p3), iv (v0_46_l11 p3), rv b2061, rv r2087, rv r2090, rv r2093, rv b2096, iv (ohf11_10_l15 (0 : Int32)), iv (v0_164_l18 p3 p5), iv (v0_190_l19 p3 p5), iv (v0_196_s0 p3)] [(.int (v0_222_s0 p3)), (.int (v0_164_l18 p3 p5))] t by
      by_cases hc222_2177 : (v0_196_s0 p3) = (0 : Int32)
      ·rw [(show (v0_222_s0 p3) = (1 : Int32) from if_pos hc222_2177)] at k2178
       refine XS.ifYes X2169.here hx rfl (pc0 := 222) (pc' := 229) rfl (hb hby at_222) rfl ((if0 _ _).trans (teq hc222_2177).1) (by decide) (by decide) ?_
       refine XS.iconst X2169.here hx rfl (hb hby at_229) ?_
       exact k2178
      ·rw [(show (v0_222_s0 p3) = (0 : Int32) from if_neg hc222_2177)] at k2178
       refine XS.ifNo X2169.here hx rfl (hb hby at_222) rfl ((if0 _ _).trans (feq hc222_2177).1) ?_
       refine XS.iconst X2169.here hx rfl (hb hby at_225) ?_
       refine XS.goto X2169.here hx rfl (pc0 := 226) (pc' := 230) rfl (hb hby at_226) (by decide) (by decide) ?_
       exact k2178
     exact kk)
    have hc230_2180 : (v0_164_l18 p3 p5) = (v0_222_s0 p3) := (show (v0_164_l18 p3 p5) = (0 : Int32) from (own_hk3 p3 (own_at1 p3 p5 hs161_2158))).trans (own_222s p3 hs161_2158)
    have k2181 := fun t (kk : SF p e below T2169 m 237 o5 [(.ref b2096)] t) => k2179 t (by
     refine XS.icmpYes X2169.here hx rfl (pc0 := 230) (pc' := 235) rfl (hb hby at_230) rfl (teq hc230_2180).1 (by decide) (by decide) ?_
     refine XS.aload X2169.here hx rfl (hb hby at_235) rfl rfl ?_
     exact kk)
    have Zz2182 : n0 ≤ T2145.heap.size := (Nat.le_trans Z0 K2145.1)
    obtain ⟨cq2182, kq2182, q2182a, q2182b, q2182c⟩ := isOf hZ e2169 Eq2145_2
    obtain ⟨_, _, ⟨T2182, L2182, k2182, n2182⟩, -, X2182, ⟨Lc2182, hQ2182, l2182, y2182, z2182⟩, st2182⟩ := X2169.virtualBack hx (y := M35_) (z := M35_) hown (mvT hZ (w163 hw)) (mvT hZ (w164 hw)) (notFace_of_selects (args := #[]) (mvT hZ (w166 hw))) (mvT hZ (w166 hw)) (mvT hZ (w165 hw)) (by decide) (backOf (W := 0) (rm20 l Z a0 hw [] b2096 ((0 : Int32) + (1 : Int32)) T2145.heap n0 Zz2182 Fq2145_28) hZ (w167 hw) (w12 hw) (by decide) (by decide)) q2182a q2182c (g := (mkF m 237 o5 [(.ref b2096)])) rfl (by rw [hml]; rfl) (Steps.refl _) (argsL := []) (rest := []) (lenOf pd_4 rfl) rfl (Nat.le_of_eq rfl) (hb hby at_237) (fun _ _ => ⟨rfl, e2169, (by decide : 16 + 0 ≤ _), (by decide : 6675 + 0 ≤ _)⟩)
    dsimp only [Pt.U, Pt.locs, Pt.cells, Pt.slots] at X2182 l2182 y2182 z2182 st2182 hQ2182
    subst l2182 y2182 z2182
    obtain ⟨rfl, N2182q, e2182⟩ := hQ2182
    have N2182 := Fr.app N2169 N2182q
    have k2183 := fun t (kk : SF p e below T2182 m 240 o5 [(.int ((0 : Int32) + (1 : Int32)))] t) => k2181 t (st2182.trans kk)
    have k2186 := fun t (kk : SF p e below T2182 m 250 o5 [(.int (v0_242_s0 p3)), (.int ((0 : Int32) + (1 : Int32)))] t) => k2183 t (by
     refine XS.iload X2182.here hx rfl (hb hby at_240) rfl ?_
     suffices k2185 : SF p e below T2182 m 250 #[.val (.long q0), .second, .val (.long q1), .second, .val (.long q2), .second, iv p3, iv p4, iv p5, iv (v0_7_l9 p3), iv (v0_16_s0 p3), iv (v0_46_l11 p3), rv b2061, rv r2087, rv r2090, rv r2093, rv b2096, iv (ohf11_10_l15 (0 : Int32)), iv (v0_164_l18 p3 p5), iv (v0_190_l19 p3 p5), iv (v0_196_s0 p3)] [(.int (v0_242_s0 p3)), (.int ((0 : Int32) + (1 : Int32)))] t by
      by_cases hc242_2184 : (v0_196_s0 p3) = (0 : Int32)
      ·rw [(show (v0_242_s0 p3) = (2 : Int32) from if_pos hc242_2184)] at k2185
       show SF p e below T2182 m 242 o5 [(.int (v0_196_s0 p3)), (.int ((0 : Int32) + (1 : Int32)))] _
       refine XS.ifYes X2182.here hx rfl (pc0 := 242) (pc' := 249) rfl (hb hby at_242) rfl ((if0 _ _).trans (teq hc242_2184).1) (by decide) (by decide) ?_
       refine XS.iconst X2182.here hx rfl (hb hby at_249) ?_
       exact k2185
      ·rw [(show (v0_242_s0 p3) = (1 : Int32) from if_neg hc242_2184)] at k2185
       refine XS.ifNo X2182.here hx rfl (hb hby at_242) rfl ((if0 _ _).trans (feq hc242_2184).1) ?_
       refine XS.iconst X2182.here hx rfl (hb hby at_245) ?_
       refine XS.goto X2182.here hx rfl (pc0 := 246) (pc' := 250) rfl (hb hby at_246) (by decide) (by decide) ?_
       exact k2185
     exact kk)
    have hc250_2187 : ((0 : Int32) + (1 : Int32)) = (v0_242_s0 p3) := (show ((0 : Int32) + (1 : Int32)) = (1 : Int32) from (by decide)).trans (own_242s p3 hs161_2158)
    have k2188 := fun t (kk : SF p e below T2182 m 258 o5 [(.int 0), (.ref b2096)] t) => k2186 t (by
     refine XS.icmpYes X2182.here hx rfl (pc0 := 250) (pc' := 255) rfl (hb hby at_250) rfl (teq hc250_2187).1 (by decide) (by decide) ?_
     refine XS.aload X2182.here hx rfl (hb hby at_255) rfl rfl ?_
     refine XS.iconst X2182.here hx rfl (hb hby at_257) ?_
     exact kk)
    have Zz2189 : n0 ≤ T2145.heap.size := (Nat.le_trans Z0 K2145.1)
    obtain ⟨cq2189, kq2189, q2189a, q2189b, q2189c⟩ := isOf hZ e2182 Eq2145_2
    obtain ⟨_, _, ⟨T2189, L2189, k2189, n2189⟩, -, X2189, ⟨Lc2189, hQ2189, l2189, y2189, z2189⟩, st2189⟩ := X2182.virtualBack hx (y := M36_) (z := M36_) hown (mvT hZ (w168 hw)) (mvT hZ (w169 hw)) (notFace_of_selects (args := #[]) (mvT hZ (w171 hw))) (mvT hZ (w171 hw)) (mvT hZ (w170 hw)) (by decide) (backOf (W := 0) (rm21 l Z a0 hw [] b2096 (0 : Int32) xq_2100 k_xq_2100 (cp p5) (v0_136_L7 q0 p5) T2145.heap n0 Zz2189 (own_clt p5 (by decide)) Fq2145_26 V2145n7 VL2145n7) hZ (w172 hw) (w12 hw) (by decide) (by decide)) q2189a q2189c (g := (mkF m 258 o5 [(.int 0), (.ref b2096)])) rfl (by rw [hml]; rfl) (Steps.refl _) (argsL := [(.int 0)]) (rest := []) (lenOf pd_10 rfl) rfl (Nat.le_of_eq rfl) (hb hby at_258) (fun _ _ => ⟨rfl, e2182, (by decide : 16 + 0 ≤ _), (by decide : 6675 + 0 ≤ _)⟩)
    dsimp only [Pt.U, Pt.locs, Pt.cells, Pt.slots] at X2189 l2189 y2189 z2189 st2189 hQ2189
    subst l2189 y2189 z2189
    obtain ⟨rfl, N2189q, e2189⟩ := hQ2189
    have N2189 := Fr.app N2182 N2189q
    have k2190 := fun t (kk : SF p e below T2189 m 261 o5 [(.long (v21_5_at (0 : Int32) (v0_136_L7 q0 p5)))] t) => k2188 t (st2189.trans kk)
    have k2191 := fun t (kk : SF p e below T2189 m 263 o5 [(.int (lcmpW (v21_5_at (0 : Int32) (v0_136_L7 q0 p5)) q0))] t) => k2190 t (by
     refine XS.lloadN X2189.here hx rfl (hb hby at_261) rfl ?_
     refine XS.lcmp X2189.here hx rfl (hb hby at_262) rfl ?_
     exact kk)
    have hc263_2192 : (v21_5_at (0 : Int32) (v0_136_L7 q0 p5)) = q0 := own_Q0 q0 p5
    have k2193 := fun t (kk : SF p e below T2189 m 270 o5 [(.int (v0_196_s0 p3))] t) => k2191 t (by
     refine XS.ifYes X2189.here hx rfl (pc0 := 263) (pc' := 268) rfl (hb hby at_263) rfl ((if0 _ _).trans (teq ((lw_eq _ _).mpr hc263_2192)).1) (by decide) (by decide) ?_
     refine XS.iload X2189.here hx rfl (hb hby at_268) rfl ?_
     exact kk)
    have hc270_2194 : ¬ ((v0_196_s0 p3) = (0 : Int32)) := own_same1 p3 hs161_2158
    have k2195 := fun t (kk : SF p e below T2189 m 287 o5 [(.int 1)] t) => k2193 t (by
     show SF p e below T2189 m 270 o5 [(.int (v0_196_s0 p3))] _
     refine XS.ifYes X2189.here hx rfl (pc0 := 270) (pc' := 286) rfl (hb hby at_270) rfl ((if0 _ _).trans (feq hc270_2194).2) (by decide) (by decide) ?_
     refine XS.iconst X2189.here hx rfl (hb hby at_286) ?_
     exact kk)
    obtain ⟨fs, hr, hrun, hended, hW, hsame⟩ := X2189.leave (v := some (.int 1)) (fun h => by rw [Bd.returns] at h; cases h) hlk
    have hv : (1 : Int32) = (1 : Int32) := rfl
    have hone : (1 : Int32) = 1 := hv.symm.trans (own_law q0 q1 q2 p3 p4 p5)
    refine ⟨_, _, k2195 _ ?_, hrun, hended, _, _, rfl, ?_, ⟨_, rfl⟩, hW, hsame.mono (by decide) (by decide)⟩
    ·show SF p e below T2189 m 287 o5 [(.int 1)] _
     exact retN X2189 hx (t := .boolean) Bd.returns (by simp) (hb hby at_287) hr
    ·show Q0 Z q0 q1 q2 p3 p4 p5 zcl zau zca o_BUY o_SELL zan zci zfj zfk h0 n0 _ T2189.heap _
     rw [e2189]
     exact ⟨congrArg (fun z => some (Value.int z)) hone, N2189⟩
   ·have t2196 := fun {C n d : String} {v : Value} (F : Fld Z _ r2090 C n d v) => ((F.ext E2096).keep Kq2100 (ninS ne_r2090_b2096 nin0)).keep Kq2145 (ninS ne_r2090_xib_2100 (ninS ne_r2090_xie_2100 (ninS ne_r2090_xi_2100 (ninS ne_r2090_xl_2100 (ninS ne_r2090_xmb_2100 (ninS ne_r2090_xme_2100 (ninS ne_r2090_xm_2100 (ninS ne_r2090_xc_2100 (ninS ne_r2090_xk_2100 (ninS ne_r2090_b2096 (ninS ne_r2090_xq_2100 (ninS ne_r2090_xp_2100 nin0))))))))))))
    have f2197 := t2196 F_ordinal_r2090
    have f2198 := (f2116.keep Kq2145 (ninS ne_b2061_xib_2100 (ninS ne_b2061_xie_2100 (ninS ne_b2061_xi_2100 (ninS ne_b2061_xl_2100 (ninS ne_b2061_xmb_2100 (ninS ne_b2061_xme_2100 (ninS ne_b2061_xm_2100 (ninS ne_b2061_xc_2100 (ninS ne_b2061_xk_2100 (ninS ne_b2061_b2096 (ninS ne_b2061_xq_2100 (ninS ne_b2061_xp_2100 nin0)))))))))))))
    have m2199 : xiv_2100 ≠ b2096 := Ne.symm ne_b2096_xiv_2100
    have m2200 : xiv_2100 ≠ xk_2100 := Ne.symm nx_xk_xiv_2100
    have m2201 : xiv_2100 ≠ xi_2100 := Ne.symm nx_xi_xiv_2100
    have m2202 : xiv_2100 ≠ xie_2100 := Ne.symm nx_xie_xiv_2100
    have m2203 : xiv_2100 ≠ xib_2100 := Ne.symm nx_xib_xiv_2100
    have f2204 := (Vx_xiv_2100.keep Kq2145 (ninS m2203 (ninS m2202 (ninS m2201 (ninS nx_xiv_xl_2100 (ninS nx_xiv_xmb_2100 (ninS nx_xiv_xme_2100 (ninS nx_xiv_xm_2100 (ninS nx_xiv_xc_2100 (ninS m2200 (ninS m2199 (ninS nx_xiv_xq_2100 (ninS nx_xiv_xp_2100 nin0)))))))))))))
    have m2205 : xs_2145 ≠ b2096 := Ne.symm ne_b2096_xs_2145
    have m2206 : xs_2145 ≠ b2061 := Ne.symm ne_b2061_xs_2145
    have m2207 : xs_2145 ≠ r2090 := Ne.symm ne_r2090_xs_2145
    have m2208 : xib_2100 ≠ r2090 := Ne.symm ne_r2090_xib_2100
    have m2209 : xie_2100 ≠ r2090 := Ne.symm ne_r2090_xie_2100
    have m2210 : xi_2100 ≠ r2090 := Ne.symm ne_r2090_xi_2100
    have m2211 : xl_2100 ≠ r2090 := Ne.symm ne_r2090_xl_2100
    have m2212 : xmb_2100 ≠ r2090 := Ne.symm ne_r2090_xmb_2100
    have m2213 : xme_2100 ≠ r2090 := Ne.symm ne_r2090_xme_2100
    have m2214 : xm_2100 ≠ r2090 := Ne.symm ne_r2090_xm_2100
    have f2215 := (f2152.keep Kq2145)
    have m2216 : xc_2100 ≠ r2090 := Ne.symm ne_r2090_xc_2100
    have Zz2217 : n0 ≤ T2145.heap.size := (Nat.le_trans Z0 K2145.1)
    obtain ⟨cq2217, kq2217, q2217a, q2217b, q2217c⟩ := isOf hZ rfl Eq2145_2
    obtain ⟨_, _, ⟨T2217, L2217, k2217, n2217⟩, -, X2217, ⟨Lc2217, hQ2217, l2217, y2217, z2217⟩, st2217⟩ := X2145.virtualBack hx (y := M33_) (z := M33_) hown (mvT hZ (w99 hw)) (mvT hZ (w100 hw)) (notFace_of_selects (args := #[]) (mvT hZ (w102 hw))) (mvT hZ (w102 hw)) (mvT hZ (w101 hw)) (by decide) (backOf (W := 0) (rm11hn l Z a0 hw [] b2096 b2061 (1 : Int32) (2 : Int32) (2 : Int32) (3 : Int32) (2 : Int64) r2090 q1 (-1 : Int64) (-1 : Int64) xi_2100 xiv_2100 k2061 (tx p3) k_xiv_2100 ((2 : Int32) * (cp p5)) (List.replicate (((2 : Int32) * (cp p5))).toNatClampNeg (0 : Int32)) xs_2145 k_xs_2145 (es p5) (hf12_337_L (0 : Int32) (tx p3) (es p5) (0 : Int32)) ((0 : Int32) + (1 : Int32)) xie_2100 k_xie_2100 (cp p5) (v0_136_L1 p5) xib_2100 k_xib_2100 ((8 : Int32) * (cp p5)) (v0_136_L0 p3 p5) (v0_136_f_expectedSlots p5) (ohf11_7_f_hashed (0 : Int32)) (0 : Int64) ((0 : Int32) + (1 : Int32)) xl_2100 k_xl_2100 (cp p5) (v0_136_L2 p5) xm_2100 (ohf11_173_f_size (0 : Int32)) xme_2100 k_xme_2100 (cp p5) (v0_136_L4 p5) xmb_2100 k_xmb_2100 ((4 : Int32) * (cp p5)) (v0_136_L3 p3 p5) (v0_136_f_expectedSlots_1 p5) .null .null (0 : Int32) (0 : Int64) xc_2100 (v1_r_ordinal (((p4.toUInt32 >>> ((3 : Int32) &&& 31).toUInt32).toInt32) &&& (7 : Int32))) k_xc_2100 (cp p5) (v0_136_L5 p4 p5) xk_2100 k_xk_2100 (v0_136_L6 p4) .null xq_2100 k_xq_2100 (cp p5) (v0_136_L7 q0 p5) xp_2100 k_xp_2100 (cp p5) (v0_136_L8 p5) (.ref xu_2100) (9223372036854775807 : Int64) (-9223372036854775808 : Int64) (0 : Int32) T2145.heap n0 Zz2217 (own_clt p5 (by decide)) (own_E1 p5 0 1 rfl) (own_c8 p5) (by decide) (by decide) (hs161_2157) (own_c2 p5) (own_es p5) (by decide) (by decide) (own_hn1 p3 p5 hs161_2158) (own_hn2 p3 p5) (own_clt p5 (by decide)) (own_E1 p5 2 3 rfl) (own_c4 p5) (by decide) (by decide) (by decide) (by decide) (own_ord _) (by decide) (by decide) (own_c1 p5) (own_c1 p5) (own_c1 p5) (own_c1 p5) Fq2145_22 Fq2145_2 f2198 VL2073 f2204 VLx_xiv_2100 Fq2145_5 Vx_xs_2145 VLx_xs_2145 Fq2145_6 Fq2145_1 V2145n1 VL2145n1 Fq2145_0 V2145n VL2145n Fn2145_3 Fq2145_7 Fq2145_8 Eq2145_0 Fq2145_4 g_xib_2100 nx_xib_xie_2100 g_xie_2100 g_xi_2100 ne_xie_2100_xs_2145 ne_xib_2100_xs_2145 g_xs_2145 Fq2145_28 m2205 m2117 m2118 m2119 Fq2145_24 V2145n2 VL2145n2 ne_xl_2100_xs_2145 nx_xib_xl_2100 nx_xie_xl_2100 g_xl_2100 Fq2145_23 m2120 Fq2145_15 ne_xm_2100_xs_2145 nx_xib_xm_2100 nx_xie_xm_2100 nx_xi_xm_2100 m2121 Fq2145_10 V2145n4 VL2145n4 Fq2145_9 V2145n3 VL2145n3 Fn2145_12 Fq2145_13 Fq2145_14 Fq2145_16 Fq2145_17 Fq2145_11 ne_xme_2100_xs_2145 nx_xib_xme_2100 nx_xie_xme_2100 nx_xme_xl_2100 ne_xmb_2100_xs_2145 nx_xib_xmb_2100 m2122 nx_xmb_xl_2100 m2206 m2123 m2124 m2125 Eq2145_1 g_xmb_2100 nx_xmb_xme_2100 g_xme_2100 g_xm_2100 Fq2145_25 m2126 m2127 m2128 f2197 m2207 m2208 m2209 m2210 m2211 m2212 m2213 m2214 f2215 V2145n5 VL2145n5 ne_xc_2100_xs_2145 nx_xib_xc_2100 nx_xie_xc_2100 m2137 nx_xmb_xc_2100 nx_xme_xc_2100 g_xc_2100 Fq2145_19 m2138 m2216 V2145n6 VL2145n6 ne_xk_2100_xs_2145 m2140 m2141 nx_xk_xl_2100 m2142 m2143 nx_xk_xc_2100 g_xk_2100 Eq2145_2 Fq2145_29 g_b2096 Fq2145_26 V2145n7 VL2145n7 ne_xq_2100_xs_2145 nx_xib_xq_2100 nx_xie_xq_2100 nx_xl_xq_2100 nx_xmb_xq_2100 nx_xme_xq_2100 nx_xc_xq_2100 nx_xk_xq_2100 g_xq_2100 Fq2145_27 V2145n8 VL2145n8 ne_xp_2100_xs_2145 nx_xib_xp_2100 nx_xie_xp_2100 nx_xl_xp_2100 nx_xmb_xp_2100 nx_xme_xp_2100 nx_xc_xp_2100 nx_xk_xp_2100 m2144 g_xp_2100 Fq2145_30 Fq2145_18 Fq2145_20 Fq2145_21 Fq2145_31) hZ (w103 hw) (w12 hw) (by decide) (by decide)) q2217a q2217c (g := (mkF m 161 o8 [(.long (-1 : Int64)), (.long (-1 : Int64)), (.long q1), (.ref r2090), (.long (2 : Int64)), (.int 3), (.int 2), (.int 2), (.int 1), (.ref b2061), (.ref b2096)])) rfl (by rw [hml]; rfl) (Steps.refl _) (argsL := [(.ref b2061), (.int 1), (.int 2), (.int 2), (.int 3), (.long (2 : Int64)), (.ref r2090), (.long q1), (.long (-1 : Int64)), (.long (-1 : Int64))]) (rest := []) (lenOf pd_9 rfl) rfl (Nat.le_of_eq rfl) (hb hby at_161) (fun _ _ => ⟨rfl, rfl, (by decide : 16 + 0 ≤ _), (by decide : 6675 + 0 ≤ _)⟩)
    dsimp only [Pt.U, Pt.locs, Pt.cells, Pt.slots] at X2217 l2217 y2217 z2217 st2217 hQ2217
    subst l2217 y2217 z2217
    obtain ⟨rfl, N2217q, Kq2217, Eq2217_0, Eq2217_1, Eq2217_2, Fq2217_0, Fq2217_1, Fq2217_2, Fq2217_3, Fq2217_4, Fq2217_5, Fq2217_6, Fq2217_7, Fq2217_8, Fq2217_9, Fq2217_10, Fq2217_11, Fq2217_12, Fq2217_13, Fq2217_14, Fq2217_15, Fq2217_16, Fq2217_17, Fq2217_18, Fq2217_19, Fq2217_20, Fq2217_21, Fq2217_22, Fq2217_23, Fq2217_24, Fq2217_25, Fq2217_26, Fq2217_27, Fq2217_28, Fq2217_29, Fq2217_30, Fq2217_31, Vq2217_0, VLq2217_0, Vq2217_1, VLq2217_1, Vq2217_2, VLq2217_2, Vq2217_3, VLq2217_3, Vq2217_4, VLq2217_4, Vq2217_5, VLq2217_5, Vq2217_6, VLq2217_6, Vq2217_7, VLq2217_7, Vq2217_8, VLq2217_8, Vq2217_9, VLq2217_9⟩ := hQ2217
    have K2217 : Keep h0 T2217.heap [] := K2145.trans Kq2217 (allS (Or.inr sz_xs_2145) (allS (Or.inr sz_xib_2100) (allS (Or.inr sz_xie_2100) (allS (Or.inr sz_xi_2100) (allS (Or.inr sz_xl_2100) (allS (Or.inr sz_xmb_2100) (allS (Or.inr sz_xme_2100) (allS (Or.inr sz_xm_2100) (allS (Or.inr sz_xc_2100) (allS (Or.inr sz_xk_2100) (allS (Or.inr sz_b2096) (allS (Or.inr sz_xq_2100) (allS (Or.inr sz_xp_2100) all0)))))))))))))
    have Fn2217_6 : Fld Z T2217.heap xi_2100 cBs "size" "I" (.int v0_161_f_size) := Fq2217_6
    have Fn2217_7 : Fld Z T2217.heap xi_2100 cBs "hashed" "I" (.int v0_161_f_hashed) := Fq2217_7
    have Fn2217_8 : Fld Z T2217.heap xi_2100 cBs "probes" "J" (.long (v0_161_f_probes p3 p5)) := Fq2217_8
    have Fn2217_15 : Fld Z T2217.heap xm_2100 cBs "size" "I" (.int v0_161_f_size_1) := Fq2217_15
    have Fn2217_28 : Fld Z T2217.heap b2096 cOr "size" "I" (.int v0_161_f_size) := Fq2217_28
    have V2217n : Arv Z T2217.heap xs_2145 k_xs_2145 .long (es p5) (List.map Value.long (v0_161_L0 p3 p5)) (.long (0 : Int64)) := Vq2217_0
    have VL2217n : (v0_161_L0 p3 p5).length = ((es p5)).toNatClampNeg := VLq2217_0
    have V2217n1 : Arv Z T2217.heap xib_2100 k_xib_2100 .byte ((8 : Int32) * (cp p5)) (List.map Value.int (v0_161_L1 p3 p5)) (.int 0) := Vq2217_1
    have VL2217n1 : (v0_161_L1 p3 p5).length = (((8 : Int32) * (cp p5))).toNatClampNeg := VLq2217_1
    have V2217n2 : Arv Z T2217.heap xie_2100 k_xie_2100 .int (cp p5) (List.map Value.int (v0_161_L2 p5)) (.int 0) := Vq2217_2
    have VL2217n2 : (v0_161_L2 p5).length = ((cp p5)).toNatClampNeg := VLq2217_2
    have V2217n3 : Arv Z T2217.heap xl_2100 k_xl_2100 .long (cp p5) (List.map Value.long (v0_161_L3 p5)) (.long (0 : Int64)) := Vq2217_3
    have VL2217n3 : (v0_161_L3 p5).length = ((cp p5)).toNatClampNeg := VLq2217_3
    have V2217n4 : Arv Z T2217.heap xmb_2100 k_xmb_2100 .byte ((4 : Int32) * (cp p5)) (List.map Value.int (v0_161_L4 p3 p5)) (.int 0) := Vq2217_4
    have VL2217n4 : (v0_161_L4 p3 p5).length = (((4 : Int32) * (cp p5))).toNatClampNeg := VLq2217_4
    have V2217n5 : Arv Z T2217.heap xme_2100 k_xme_2100 .int (cp p5) (List.map Value.int (v0_161_L5 p5)) (.int 0) := Vq2217_5
    have VL2217n5 : (v0_161_L5 p5).length = ((cp p5)).toNatClampNeg := VLq2217_5
    have V2217n6 : Arv Z T2217.heap xc_2100 k_xc_2100 .byte (cp p5) (List.map Value.int (v0_161_L6 p4 p5)) (.int 0) := Vq2217_6
    have VL2217n6 : (v0_161_L6 p4 p5).length = ((cp p5)).toNatClampNeg := VLq2217_6
    have V2217n7 : Arv Z T2217.heap xk_2100 k_xk_2100 .int 5 (List.map Value.int (v0_161_L7 p4)) (.int 0) := Vq2217_7
    have VL2217n7 : (v0_161_L7 p4).length = ((5 : Int32)).toNatClampNeg := VLq2217_7
    have V2217n8 : Arv Z T2217.heap xq_2100 k_xq_2100 .long (cp p5) (List.map Value.long (v0_161_L8 q0 q1 p5)) (.long (0 : Int64)) := Vq2217_8
    have VL2217n8 : (v0_161_L8 q0 q1 p5).length = ((cp p5)).toNatClampNeg := VLq2217_8
    have V2217n9 : Arv Z T2217.heap xp_2100 k_xp_2100 .long (cp p5) (List.map Value.long (v0_161_L9 p5)) (.long (0 : Int64)) := Vq2217_9
    have VL2217n9 : (v0_161_L9 p5).length = ((cp p5)).toNatClampNeg := VLq2217_9
    have N2217 := Fr.app N2145 N2217q
    have k2218 := fun t (kk : SF p e below T2217 m 164 o8 [(.int (ohn11_10_l15 ((0 : Int32) + (1 : Int32))))] t) => k2156 t (st2217.trans kk)
    have k2219 := fun t (kk : SF p e below T2217 m 187 o12 [(.long (-1 : Int64)), (.long (-1 : Int64)), (.long q2), (.ref r2093), (.long (3 : Int64)), (.int 3), (.int 2), (.int 1), (.int 0), (.ref b2061), (.ref b2096)] t) => k2218 t (by
     refine XS.istore X2217.here hx rfl (hb hby at_164) rfl (l' := o12) rfl ?_
     refine XS.aload X2217.here hx rfl (hb hby at_166) rfl rfl ?_
     refine XS.aload X2217.here hx rfl (hb hby at_168) rfl rfl ?_
     refine XS.iconst X2217.here hx rfl (hb hby at_170) ?_
     refine XS.iconst X2217.here hx rfl (hb hby at_171) ?_
     refine XS.iconst X2217.here hx rfl (hb hby at_172) ?_
     refine XS.iconst X2217.here hx rfl (hb hby at_173) ?_
     refine X2217.ldc2Long hx hown (mvT hZ (w154 hw)) (g := (mkF m 174 o12 [(.int 3), (.int 2), (.int 1), (.int 0), (.ref b2061), (.ref b2096)])) rfl (hb hby at_174) _ ?_
     refine XS.aload X2217.here hx rfl (hb hby at_177) rfl rfl ?_
     refine XS.lload X2217.here hx rfl (hb hby at_179) rfl ?_
     show SF p e below T2217 m 181 o12 [(.long q2), (.ref r2093), (.long (3 : Int64)), (.int 3), (.int 2), (.int 1), (.int 0), (.ref b2061), (.ref b2096)] _
     refine X2217.ldc2Long hx hown (mvT hZ (w98 hw)) (g := (mkF m 181 o12 [(.long q2), (.ref r2093), (.long (3 : Int64)), (.int 3), (.int 2), (.int 1), (.int 0), (.ref b2061), (.ref b2096)])) rfl (hb hby at_181) _ ?_
     refine X2217.ldc2Long hx hown (mvT hZ (w98 hw)) (g := (mkF m 184 o12 [(.long (-1 : Int64)), (.long q2), (.ref r2093), (.long (3 : Int64)), (.int 3), (.int 2), (.int 1), (.int 0), (.ref b2061), (.ref b2096)])) rfl (hb hby at_184) _ ?_
     exact kk)
    have f2220 := (f2198.keep Kq2217 (ninS ne_b2061_xs_2145 (ninS ne_b2061_xib_2100 (ninS ne_b2061_xie_2100 (ninS ne_b2061_xi_2100 (ninS ne_b2061_xl_2100 (ninS ne_b2061_xmb_2100 (ninS ne_b2061_xme_2100 (ninS ne_b2061_xm_2100 (ninS ne_b2061_xc_2100 (ninS ne_b2061_xk_2100 (ninS ne_b2061_b2096 (ninS ne_b2061_xq_2100 (ninS ne_b2061_xp_2100 nin0))))))))))))))
    have f2221 := (f2204.keep Kq2217 (ninS ne_xiv_2100_xs_2145 (ninS m2203 (ninS m2202 (ninS m2201 (ninS nx_xiv_xl_2100 (ninS nx_xiv_xmb_2100 (ninS nx_xiv_xme_2100 (ninS nx_xiv_xm_2100 (ninS nx_xiv_xc_2100 (ninS m2200 (ninS m2199 (ninS nx_xiv_xq_2100 (ninS nx_xiv_xp_2100 nin0))))))))))))))
    have Zz2222 : n0 ≤ T2217.heap.size := (Nat.le_trans Z0 K2217.1)
    obtain ⟨cq2222, kq2222, q2222a, q2222b, q2222c⟩ := isOf hZ rfl Eq2217_2
    obtain ⟨_, _, ⟨T2222, L2222, k2222, n2222⟩, -, X2222, ⟨Lc2222, hQ2222, l2222, y2222, z2222⟩, st2222⟩ := X2217.virtualBack hx (y := M33_) (z := M33_) hown (mvT hZ (w99 hw)) (mvT hZ (w100 hw)) (notFace_of_selects (args := #[]) (mvT hZ (w102 hw))) (mvT hZ (w102 hw)) (mvT hZ (w101 hw)) (by decide) (backOf (W := 0) (rm11hk l Z a0 hw [] b2096 b2061 (0 : Int32) (1 : Int32) (2 : Int32) (3 : Int32) (3 : Int64) r2093 q2 (-1 : Int64) (-1 : Int64) xi_2100 xiv_2100 k2061 (tx p3) k_xiv_2100 ((2 : Int32) * (cp p5)) (List.replicate (((2 : Int32) * (cp p5))).toNatClampNeg (0 : Int32)) xs_2145 k_xs_2145 (es p5) (v0_161_L0 p3 p5) xie_2100 k_xie_2100 (cp p5) (v0_161_L2 p5) xib_2100 k_xib_2100 ((8 : Int32) * (cp p5)) (v0_161_L1 p3 p5) v0_161_f_size T2217.heap n0 Zz2222 (by decide) (by decide) (hs136_2113) (own_c2 p5) (own_es p5) (own_hk1 p3 (own_at2 p3 p5 hs161_2158)) (own_hk2 p3 (own_at2 p3 p5 hs161_2158)) (own_hk3 p3 (own_at2 p3 p5 hs161_2158)) (own_c1 p5) (own_c8 p5) (own_L2 p5) (own_B1 p3 p5) (own_zlt (own_hk3 p3 (own_at2 p3 p5 hs161_2158)) (by decide)) Fq2217_22 Fq2217_2 f2220 VL2073 f2221 VLx_xiv_2100 Fq2217_5 V2217n VL2217n Fq2217_1 V2217n2 VL2217n2 Fq2217_0 V2217n1 VL2217n1 Eq2217_0 Fq2217_4 Fn2217_28) hZ (w103 hw) (w12 hw) (by decide) (by decide)) q2222a q2222c (g := (mkF m 187 o12 [(.long (-1 : Int64)), (.long (-1 : Int64)), (.long q2), (.ref r2093), (.long (3 : Int64)), (.int 3), (.int 2), (.int 1), (.int 0), (.ref b2061), (.ref b2096)])) rfl (by rw [hml]; rfl) (Steps.refl _) (argsL := [(.ref b2061), (.int 0), (.int 1), (.int 2), (.int 3), (.long (3 : Int64)), (.ref r2093), (.long q2), (.long (-1 : Int64)), (.long (-1 : Int64))]) (rest := []) (lenOf pd_9 rfl) rfl (Nat.le_of_eq rfl) (hb hby at_187) (fun _ _ => ⟨rfl, rfl, (by decide : 16 + 0 ≤ _), (by decide : 6675 + 0 ≤ _)⟩)
    dsimp only [Pt.U, Pt.locs, Pt.cells, Pt.slots] at X2222 l2222 y2222 z2222 st2222 hQ2222
    subst l2222 y2222 z2222
    obtain ⟨rfl, N2222q, e2222⟩ := hQ2222
    have N2222 := Fr.app N2217 N2222q
    have k2223 := fun t (kk : SF p e below T2222 m 190 o12 [(.int (ohk11_ret (0 : Int32) (tx p3) (es p5) (v0_161_L0 p3 p5)))] t) => k2219 t (st2222.trans kk)
    have k2226 := fun t (kk : SF p e below T2222 m 208 o2 [(.int (ohf11_10_l15 (0 : Int32)))] t) => k2223 t (by
     refine XS.istore X2222.here hx rfl (hb hby at_190) rfl (l' := o26) rfl ?_
     refine XS.iload X2222.here hx rfl (hb hby at_192) rfl ?_
     refine XS.iload X2222.here hx rfl (hb hby at_194) rfl ?_
     suffices k2225 : SF p e below T2222 m 204 #[.val (.long q0), .second, .val (.long q1), .second, .val (.long q2), .second, iv p3, iv p4, iv p5, iv (v0_7_l9 p3), iv (v0_16_s0 p3), iv (v0_46_l11 p3), rv b2061, rv r2087, rv r2090, rv r2093, rv b2096, iv (ohf11_10_l15 (0 : Int32)), iv v0_164_l18_1, iv (v0_190_l19_1 p3 p5), .unset] [(.int (v0_196_s0 p3))] t by
      by_cases hc196_2224 : (v0_7_l9 p3) = (v0_16_s0 p3)
      ·rw [(show (v0_196_s0 p3) = (1 : Int32) from if_pos hc196_2224)] at k2225
       refine XS.icmpNo X2222.here hx rfl (hb hby at_196) rfl (teq hc196_2224).2 ?_
       refine XS.iconst X2222.here hx rfl (hb hby at_199) ?_
       refine XS.goto X2222.here hx rfl (pc0 := 200) (pc' := 204) rfl (hb hby at_200) (by decide) (by decide) ?_
       exact k2225
      ·rw [(show (v0_196_s0 p3) = (0 : Int32) from if_neg hc196_2224)] at k2225
       refine XS.icmpYes X2222.here hx rfl (pc0 := 196) (pc' := 203) rfl (hb hby at_196) rfl (feq hc196_2224).2 (by decide) (by decide) ?_
       refine XS.iconst X2222.here hx rfl (hb hby at_203) ?_
       exact k2225
     refine XS.istore X2222.here hx rfl (hb hby at_204) rfl (l' := o2) rfl ?_
     refine XS.iload X2222.here hx rfl (hb hby at_206) rfl ?_
     exact kk)
    have hc208_2227 : (ohf11_10_l15 (0 : Int32)) = (0 : Int32) := by decide
    have k2228 := fun t (kk : SF p e below T2222 m 213 o2 [(.int (v0_190_l19_1 p3 p5))] t) => k2226 t (by
     show SF p e below T2222 m 208 o2 [(.int (ohf11_10_l15 (0 : Int32)))] _
     refine XS.ifNo X2222.here hx rfl (hb hby at_208) rfl ((if0 _ _).trans (teq hc208_2227).2) ?_
     refine XS.iload X2222.here hx rfl (hb hby at_211) rfl ?_
     exact kk)
    have hc213_2229 : (v0_190_l19_1 p3 p5) = (0 : Int32) := own_hk3 p3 (own_at2 p3 p5 hs161_2158)
    have k2232 := fun t (kk : SF p e below T2222 m 230 o2 [(.int (v0_222_s0 p3)), (.int v0_164_l18_1)] t) => k2228 t (by
     refine XS.ifYes X2222.here hx rfl (pc0 := 213) (pc' := 218) rfl (hb hby at_213) rfl ((if0 _ _).trans (teq hc213_2229).1) (by decide) (by decide) ?_
     refine XS.iload X2222.here hx rfl (hb hby at_218) rfl ?_
     refine XS.iload X2222.here hx rfl (hb hby at_220) rfl ?_
     suffices k2231 : SF p e below T2222 m 230 #[.val (.long q0), .second, .val (.long q1), .second, .val (.long q2), .second, iv p3, iv p4, iv p5, iv (v0_7_l9 p3), iv (v0_16_s0 p3), iv (v0_46_l11 p3), rv b2061, rv r2087, rv r2090, rv r2093, rv b2096, iv (ohf11_10_l15 (0 : Int32)), iv v0_164_l18_1, iv (v0_190_l19_1 p3 p5), iv (v0_196_s0 p3)] [(.int (v0_222_s0 p3)), (.int v0_164_l18_1)] t by
      by_cases hc222_2230 : (v0_196_s0 p3) = (0 : Int32)
      ·rw [(show (v0_222_s0 p3) = (1 : Int32) from if_pos hc222_2230)] at k2231
       refine XS.ifYes X2222.here hx rfl (pc0 := 222) (pc' := 229) rfl (hb hby at_222) rfl ((if0 _ _).trans (teq hc222_2230).1) (by decide) (by decide) ?_
       refine XS.iconst X2222.here hx rfl (hb hby at_229) ?_
       exact k2231
      ·rw [(show (v0_222_s0 p3) = (0 : Int32) from if_neg hc222_2230)] at k2231
       refine XS.ifNo X2222.here hx rfl (hb hby at_222) rfl ((if0 _ _).trans (feq hc222_2230).1) ?_
       refine XS.iconst X2222.here hx rfl (hb hby at_225) ?_
       refine XS.goto X2222.here hx rfl (pc0 := 226) (pc' := 230) rfl (hb hby at_226) (by decide) (by decide) ?_
       exact k2231
     exact kk)
    have hc230_2233 : v0_164_l18_1 = (v0_222_s0 p3) := (show v0_164_l18_1 = (1 : Int32) from (by decide)).trans (own_222n p3 hs161_2158)
    have k2234 := fun t (kk : SF p e below T2222 m 237 o2 [(.ref b2096)] t) => k2232 t (by
     refine XS.icmpYes X2222.here hx rfl (pc0 := 230) (pc' := 235) rfl (hb hby at_230) rfl (teq hc230_2233).1 (by decide) (by decide) ?_
     refine XS.aload X2222.here hx rfl (hb hby at_235) rfl rfl ?_
     exact kk)
    have Zz2235 : n0 ≤ T2217.heap.size := (Nat.le_trans Z0 K2217.1)
    obtain ⟨cq2235, kq2235, q2235a, q2235b, q2235c⟩ := isOf hZ e2222 Eq2217_2
    obtain ⟨_, _, ⟨T2235, L2235, k2235, n2235⟩, -, X2235, ⟨Lc2235, hQ2235, l2235, y2235, z2235⟩, st2235⟩ := X2222.virtualBack hx (y := M35_) (z := M35_) hown (mvT hZ (w163 hw)) (mvT hZ (w164 hw)) (notFace_of_selects (args := #[]) (mvT hZ (w166 hw))) (mvT hZ (w166 hw)) (mvT hZ (w165 hw)) (by decide) (backOf (W := 0) (rm20 l Z a0 hw [] b2096 v0_161_f_size T2217.heap n0 Zz2235 Fn2217_28) hZ (w167 hw) (w12 hw) (by decide) (by decide)) q2235a q2235c (g := (mkF m 237 o2 [(.ref b2096)])) rfl (by rw [hml]; rfl) (Steps.refl _) (argsL := []) (rest := []) (lenOf pd_4 rfl) rfl (Nat.le_of_eq rfl) (hb hby at_237) (fun _ _ => ⟨rfl, e2222, (by decide : 16 + 0 ≤ _), (by decide : 6675 + 0 ≤ _)⟩)
    dsimp only [Pt.U, Pt.locs, Pt.cells, Pt.slots] at X2235 l2235 y2235 z2235 st2235 hQ2235
    subst l2235 y2235 z2235
    obtain ⟨rfl, N2235q, e2235⟩ := hQ2235
    have N2235 := Fr.app N2222 N2235q
    have k2236 := fun t (kk : SF p e below T2235 m 240 o2 [(.int v0_161_f_size)] t) => k2234 t (st2235.trans kk)
    have k2239 := fun t (kk : SF p e below T2235 m 250 o2 [(.int (v0_242_s0 p3)), (.int v0_161_f_size)] t) => k2236 t (by
     show SF p e below T2235 m 240 o2 [(.int v0_161_f_size)] _
     refine XS.iload X2235.here hx rfl (hb hby at_240) rfl ?_
     suffices k2238 : SF p e below T2235 m 250 #[.val (.long q0), .second, .val (.long q1), .second, .val (.long q2), .second, iv p3, iv p4, iv p5, iv (v0_7_l9 p3), iv (v0_16_s0 p3), iv (v0_46_l11 p3), rv b2061, rv r2087, rv r2090, rv r2093, rv b2096, iv (ohf11_10_l15 (0 : Int32)), iv v0_164_l18_1, iv (v0_190_l19_1 p3 p5), iv (v0_196_s0 p3)] [(.int (v0_242_s0 p3)), (.int v0_161_f_size)] t by
      by_cases hc242_2237 : (v0_196_s0 p3) = (0 : Int32)
      ·rw [(show (v0_242_s0 p3) = (2 : Int32) from if_pos hc242_2237)] at k2238
       refine XS.ifYes X2235.here hx rfl (pc0 := 242) (pc' := 249) rfl (hb hby at_242) rfl ((if0 _ _).trans (teq hc242_2237).1) (by decide) (by decide) ?_
       refine XS.iconst X2235.here hx rfl (hb hby at_249) ?_
       exact k2238
      ·rw [(show (v0_242_s0 p3) = (1 : Int32) from if_neg hc242_2237)] at k2238
       refine XS.ifNo X2235.here hx rfl (hb hby at_242) rfl ((if0 _ _).trans (feq hc242_2237).1) ?_
       refine XS.iconst X2235.here hx rfl (hb hby at_245) ?_
       refine XS.goto X2235.here hx rfl (pc0 := 246) (pc' := 250) rfl (hb hby at_246) (by decide) (by decide) ?_
       exact k2238
     exact kk)
    have hc250_2240 : v0_161_f_size = (v0_242_s0 p3) := (show v0_161_f_size = (2 : Int32) from (by decide)).trans (own_242n p3 hs161_2158)
    have k2241 := fun t (kk : SF p e below T2235 m 258 o2 [(.int 0), (.ref b2096)] t) => k2239 t (by
     refine XS.icmpYes X2235.here hx rfl (pc0 := 250) (pc' := 255) rfl (hb hby at_250) rfl (teq hc250_2240).1 (by decide) (by decide) ?_
     refine XS.aload X2235.here hx rfl (hb hby at_255) rfl rfl ?_
     refine XS.iconst X2235.here hx rfl (hb hby at_257) ?_
     exact kk)
    have Zz2242 : n0 ≤ T2217.heap.size := (Nat.le_trans Z0 K2217.1)
    obtain ⟨cq2242, kq2242, q2242a, q2242b, q2242c⟩ := isOf hZ e2235 Eq2217_2
    obtain ⟨_, _, ⟨T2242, L2242, k2242, n2242⟩, -, X2242, ⟨Lc2242, hQ2242, l2242, y2242, z2242⟩, st2242⟩ := X2235.virtualBack hx (y := M36_) (z := M36_) hown (mvT hZ (w168 hw)) (mvT hZ (w169 hw)) (notFace_of_selects (args := #[]) (mvT hZ (w171 hw))) (mvT hZ (w171 hw)) (mvT hZ (w170 hw)) (by decide) (backOf (W := 0) (rm21 l Z a0 hw [] b2096 (0 : Int32) xq_2100 k_xq_2100 (cp p5) (v0_161_L8 q0 q1 p5) T2217.heap n0 Zz2242 (own_clt p5 (by decide)) Fq2217_26 V2217n8 VL2217n8) hZ (w172 hw) (w12 hw) (by decide) (by decide)) q2242a q2242c (g := (mkF m 258 o2 [(.int 0), (.ref b2096)])) rfl (by rw [hml]; rfl) (Steps.refl _) (argsL := [(.int 0)]) (rest := []) (lenOf pd_10 rfl) rfl (Nat.le_of_eq rfl) (hb hby at_258) (fun _ _ => ⟨rfl, e2235, (by decide : 16 + 0 ≤ _), (by decide : 6675 + 0 ≤ _)⟩)
    dsimp only [Pt.U, Pt.locs, Pt.cells, Pt.slots] at X2242 l2242 y2242 z2242 st2242 hQ2242
    subst l2242 y2242 z2242
    obtain ⟨rfl, N2242q, e2242⟩ := hQ2242
    have N2242 := Fr.app N2235 N2242q
    have k2243 := fun t (kk : SF p e below T2242 m 261 o2 [(.long (v21_5_at (0 : Int32) (v0_161_L8 q0 q1 p5)))] t) => k2241 t (st2242.trans kk)
    have k2244 := fun t (kk : SF p e below T2242 m 263 o2 [(.int (lcmpW (v21_5_at (0 : Int32) (v0_161_L8 q0 q1 p5)) q0))] t) => k2243 t (by
     refine XS.lloadN X2242.here hx rfl (hb hby at_261) rfl ?_
     refine XS.lcmp X2242.here hx rfl (hb hby at_262) rfl ?_
     exact kk)
    have hc263_2245 : (v21_5_at (0 : Int32) (v0_161_L8 q0 q1 p5)) = q0 := own_Q1 q0 q1 p5
    have k2246 := fun t (kk : SF p e below T2242 m 270 o2 [(.int (v0_196_s0 p3))] t) => k2244 t (by
     refine XS.ifYes X2242.here hx rfl (pc0 := 263) (pc' := 268) rfl (hb hby at_263) rfl ((if0 _ _).trans (teq ((lw_eq _ _).mpr hc263_2245)).1) (by decide) (by decide) ?_
     show SF p e below T2242 m 268 o2 [] _
     refine XS.iload X2242.here hx rfl (hb hby at_268) rfl ?_
     exact kk)
    have hc270_2247 : (v0_196_s0 p3) = (0 : Int32) := own_same0 p3 hs161_2158
    have k2248 := fun t (kk : SF p e below T2242 m 276 o2 [(.int 1), (.ref b2096)] t) => k2246 t (by
     refine XS.ifNo X2242.here hx rfl (hb hby at_270) rfl ((if0 _ _).trans (teq hc270_2247).2) ?_
     refine XS.aload X2242.here hx rfl (hb hby at_273) rfl rfl ?_
     refine XS.iconst X2242.here hx rfl (hb hby at_275) ?_
     exact kk)
    have Zz2249 : n0 ≤ T2217.heap.size := (Nat.le_trans Z0 K2217.1)
    obtain ⟨cq2249, kq2249, q2249a, q2249b, q2249c⟩ := isOf hZ e2242 Eq2217_2
    obtain ⟨_, _, ⟨T2249, L2249, k2249, n2249⟩, -, X2249, ⟨Lc2249, hQ2249, l2249, y2249, z2249⟩, st2249⟩ := X2242.virtualBack hx (y := M36_) (z := M36_) hown (mvT hZ (w168 hw)) (mvT hZ (w169 hw)) (notFace_of_selects (args := #[]) (mvT hZ (w171 hw))) (mvT hZ (w171 hw)) (mvT hZ (w170 hw)) (by decide) (backOf (W := 0) (rm21 l Z a0 hw [] b2096 (1 : Int32) xq_2100 k_xq_2100 (cp p5) (v0_161_L8 q0 q1 p5) T2217.heap n0 Zz2249 (own_clt p5 (by decide)) Fq2217_26 V2217n8 VL2217n8) hZ (w172 hw) (w12 hw) (by decide) (by decide)) q2249a q2249c (g := (mkF m 276 o2 [(.int 1), (.ref b2096)])) rfl (by rw [hml]; rfl) (Steps.refl _) (argsL := [(.int 1)]) (rest := []) (lenOf pd_10 rfl) rfl (Nat.le_of_eq rfl) (hb hby at_276) (fun _ _ => ⟨rfl, e2242, (by decide : 16 + 0 ≤ _), (by decide : 6675 + 0 ≤ _)⟩)
    dsimp only [Pt.U, Pt.locs, Pt.cells, Pt.slots] at X2249 l2249 y2249 z2249 st2249 hQ2249
    subst l2249 y2249 z2249
    obtain ⟨rfl, N2249q, e2249⟩ := hQ2249
    have N2249 := Fr.app N2242 N2249q
    have k2250 := fun t (kk : SF p e below T2249 m 279 o2 [(.long (v21_5_at (1 : Int32) (v0_161_L8 q0 q1 p5)))] t) => k2248 t (st2249.trans kk)
    have k2251 := fun t (kk : SF p e below T2249 m 281 o2 [(.int (lcmpW (v21_5_at (1 : Int32) (v0_161_L8 q0 q1 p5)) q1))] t) => k2250 t (by
     refine XS.lloadN X2249.here hx rfl (hb hby at_279) rfl ?_
     refine XS.lcmp X2249.here hx rfl (hb hby at_280) rfl ?_
     exact kk)
    have hc281_2252 : (v21_5_at (1 : Int32) (v0_161_L8 q0 q1 p5)) = q1 := own_Q2 q0 q1 p5
    have k2253 := fun t (kk : SF p e below T2249 m 287 o2 [(.int 1)] t) => k2251 t (by
     refine XS.ifYes X2249.here hx rfl (pc0 := 281) (pc' := 286) rfl (hb hby at_281) rfl ((if0 _ _).trans (teq ((lw_eq _ _).mpr hc281_2252)).1) (by decide) (by decide) ?_
     refine XS.iconst X2249.here hx rfl (hb hby at_286) ?_
     exact kk)
    obtain ⟨fs, hr, hrun, hended, hW, hsame⟩ := X2249.leave (v := some (.int 1)) (fun h => by rw [Bd.returns] at h; cases h) hlk
    have hv : (1 : Int32) = (1 : Int32) := rfl
    have hone : (1 : Int32) = 1 := hv.symm.trans (own_law q0 q1 q2 p3 p4 p5)
    refine ⟨_, _, k2253 _ ?_, hrun, hended, _, _, rfl, ?_, ⟨_, rfl⟩, hW, hsame.mono (by decide) (by decide)⟩
    ·show SF p e below T2249 m 287 o2 [(.int 1)] _
     exact retN X2249 hx (t := .boolean) Bd.returns (by simp) (hb hby at_287) hr
    ·show Q0 Z q0 q1 q2 p3 p4 p5 zcl zau zca o_BUY o_SELL zan zci zfj zfk h0 n0 _ T2249.heap _
     rw [e2249]
     exact ⟨congrArg (fun z => some (Value.int z)) hone, N2249⟩
  ·have t2254 := fun {C n d : String} {v : Value} (F : Fld Z _ r2090 C n d v) => ((F.ext E2096).keep Kq2100 (ninS ne_r2090_b2096 nin0)).keep Kq2145 (ninS ne_r2090_xib_2100 (ninS ne_r2090_xie_2100 (ninS ne_r2090_xi_2100 (ninS ne_r2090_xl_2100 (ninS ne_r2090_xmb_2100 (ninS ne_r2090_xme_2100 (ninS ne_r2090_xm_2100 (ninS ne_r2090_xc_2100 (ninS ne_r2090_xk_2100 (ninS ne_r2090_b2096 (ninS ne_r2090_xq_2100 (ninS ne_r2090_xp_2100 nin0))))))))))))
   have f2255 := t2254 F_ordinal_r2090
   have f2256 := (f2116.keep Kq2145 (ninS ne_b2061_xib_2100 (ninS ne_b2061_xie_2100 (ninS ne_b2061_xi_2100 (ninS ne_b2061_xl_2100 (ninS ne_b2061_xmb_2100 (ninS ne_b2061_xme_2100 (ninS ne_b2061_xm_2100 (ninS ne_b2061_xc_2100 (ninS ne_b2061_xk_2100 (ninS ne_b2061_b2096 (ninS ne_b2061_xq_2100 (ninS ne_b2061_xp_2100 nin0)))))))))))))
   have m2257 : xiv_2100 ≠ b2096 := Ne.symm ne_b2096_xiv_2100
   have m2258 : xiv_2100 ≠ xk_2100 := Ne.symm nx_xk_xiv_2100
   have m2259 : xiv_2100 ≠ xi_2100 := Ne.symm nx_xi_xiv_2100
   have m2260 : xiv_2100 ≠ xie_2100 := Ne.symm nx_xie_xiv_2100
   have m2261 : xiv_2100 ≠ xib_2100 := Ne.symm nx_xib_xiv_2100
   have f2262 := (Vx_xiv_2100.keep Kq2145 (ninS m2261 (ninS m2260 (ninS m2259 (ninS nx_xiv_xl_2100 (ninS nx_xiv_xmb_2100 (ninS nx_xiv_xme_2100 (ninS nx_xiv_xm_2100 (ninS nx_xiv_xc_2100 (ninS m2258 (ninS m2257 (ninS nx_xiv_xq_2100 (ninS nx_xiv_xp_2100 nin0)))))))))))))
   have m2263 : xiv_2100 ≠ b2061 := Ne.symm ne_b2061_xiv_2100
   have m2264 : xiv_2100 ≠ r2090 := Ne.symm ne_r2090_xiv_2100
   have m2265 : xib_2100 ≠ r2090 := Ne.symm ne_r2090_xib_2100
   have m2266 : xie_2100 ≠ r2090 := Ne.symm ne_r2090_xie_2100
   have m2267 : xi_2100 ≠ r2090 := Ne.symm ne_r2090_xi_2100
   have m2268 : xl_2100 ≠ r2090 := Ne.symm ne_r2090_xl_2100
   have m2269 : xmb_2100 ≠ r2090 := Ne.symm ne_r2090_xmb_2100
   have m2270 : xme_2100 ≠ r2090 := Ne.symm ne_r2090_xme_2100
   have m2271 : xm_2100 ≠ r2090 := Ne.symm ne_r2090_xm_2100
   have f2272 := (f2152.keep Kq2145)
   have m2273 : xc_2100 ≠ r2090 := Ne.symm ne_r2090_xc_2100
   have Zz2274 : n0 ≤ T2145.heap.size := (Nat.le_trans Z0 K2145.1)
   obtain ⟨cq2274, kq2274, q2274a, q2274b, q2274c⟩ := isOf hZ rfl Eq2145_2
   obtain ⟨_, _, ⟨T2274, L2274, k2274, n2274⟩, -, X2274, ⟨Lc2274, hQ2274, l2274, y2274, z2274⟩, st2274⟩ := X2145.virtualBack hx (y := M33_) (z := M33_) hown (mvT hZ (w99 hw)) (mvT hZ (w100 hw)) (notFace_of_selects (args := #[]) (mvT hZ (w102 hw))) (mvT hZ (w102 hw)) (mvT hZ (w101 hw)) (by decide) (backOf (W := 0) (rm11dn l Z a0 hw [] b2096 b2061 (1 : Int32) (2 : Int32) (2 : Int32) (3 : Int32) (2 : Int64) r2090 q1 (-1 : Int64) (-1 : Int64) xi_2100 xiv_2100 k2061 (tx p3) k_xiv_2100 ((2 : Int32) * (cp p5)) (List.replicate (((2 : Int32) * (cp p5))).toNatClampNeg (0 : Int32)) ((0 : Int32) + (1 : Int32)) xie_2100 k_xie_2100 (cp p5) (v0_136_L1 p5) xib_2100 k_xib_2100 ((8 : Int32) * (cp p5)) (v0_136_L0 p3 p5) (v0_136_f_expectedSlots p5) .null (.ref xs_2145) (ohf11_7_f_hashed (0 : Int32)) (0 : Int64) ((0 : Int32) + (1 : Int32)) xl_2100 k_xl_2100 (cp p5) (v0_136_L2 p5) xm_2100 (ohf11_173_f_size (0 : Int32)) xme_2100 k_xme_2100 (cp p5) (v0_136_L4 p5) xmb_2100 k_xmb_2100 ((4 : Int32) * (cp p5)) (v0_136_L3 p3 p5) (v0_136_f_expectedSlots_1 p5) .null .null (0 : Int32) (0 : Int64) xc_2100 (v1_r_ordinal (((p4.toUInt32 >>> ((3 : Int32) &&& 31).toUInt32).toInt32) &&& (7 : Int32))) k_xc_2100 (cp p5) (v0_136_L5 p4 p5) xk_2100 k_xk_2100 (v0_136_L6 p4) .null xq_2100 k_xq_2100 (cp p5) (v0_136_L7 q0 p5) xp_2100 k_xp_2100 (cp p5) (v0_136_L8 p5) (.ref xu_2100) (9223372036854775807 : Int64) (-9223372036854775808 : Int64) (0 : Int32) T2145.heap n0 Zz2274 (own_clt p5 (by decide)) (own_E1 p5 0 1 rfl) (own_c8 p5) (by decide) (by decide) (own_c2 p5) (hs161_2157) (own_v10 _ _) (own_r32 _ _) (own_clt p5 (by decide)) (own_E1 p5 2 3 rfl) (own_c4 p5) (by decide) (by decide) (by decide) (by decide) (own_ord _) (by decide) (by decide) (own_c1 p5) (own_c1 p5) (own_c1 p5) (own_c1 p5) Fq2145_22 Fq2145_2 f2256 VL2073 f2262 VLx_xiv_2100 Fq2145_6 Fq2145_1 V2145n1 VL2145n1 Fq2145_0 V2145n VL2145n Fn2145_3 Fq2145_4 Fq2145_5 Fq2145_7 Fq2145_8 Eq2145_0 g_xib_2100 nx_xib_xie_2100 g_xie_2100 g_xi_2100 m2260 m2261 g_xiv_2100 Fq2145_28 m2257 m2117 m2118 m2119 Fq2145_24 V2145n2 VL2145n2 nx_xiv_xl_2100 nx_xib_xl_2100 nx_xie_xl_2100 g_xl_2100 Fq2145_23 m2120 Fq2145_15 nx_xiv_xm_2100 nx_xib_xm_2100 nx_xie_xm_2100 nx_xi_xm_2100 m2121 Fq2145_10 V2145n4 VL2145n4 Fq2145_9 V2145n3 VL2145n3 Fn2145_12 Fq2145_13 Fq2145_14 Fq2145_16 Fq2145_17 Fq2145_11 nx_xiv_xme_2100 nx_xib_xme_2100 nx_xie_xme_2100 nx_xme_xl_2100 nx_xiv_xmb_2100 nx_xib_xmb_2100 m2122 nx_xmb_xl_2100 m2263 m2123 m2124 m2125 Eq2145_1 g_xmb_2100 nx_xmb_xme_2100 g_xme_2100 g_xm_2100 Fq2145_25 m2126 m2127 m2128 f2255 m2264 m2265 m2266 m2267 m2268 m2269 m2270 m2271 f2272 V2145n5 VL2145n5 nx_xiv_xc_2100 nx_xib_xc_2100 nx_xie_xc_2100 m2137 nx_xmb_xc_2100 nx_xme_xc_2100 g_xc_2100 Fq2145_19 m2138 m2273 V2145n6 VL2145n6 m2258 m2140 m2141 nx_xk_xl_2100 m2142 m2143 nx_xk_xc_2100 g_xk_2100 Eq2145_2 Fq2145_29 g_b2096 Fq2145_26 V2145n7 VL2145n7 nx_xiv_xq_2100 nx_xib_xq_2100 nx_xie_xq_2100 nx_xl_xq_2100 nx_xmb_xq_2100 nx_xme_xq_2100 nx_xc_xq_2100 nx_xk_xq_2100 g_xq_2100 Fq2145_27 V2145n8 VL2145n8 nx_xiv_xp_2100 nx_xib_xp_2100 nx_xie_xp_2100 nx_xl_xp_2100 nx_xmb_xp_2100 nx_xme_xp_2100 nx_xc_xp_2100 nx_xk_xp_2100 m2144 g_xp_2100 Fq2145_30 Fq2145_18 Fq2145_20 Fq2145_21 Fq2145_31) hZ (w103 hw) (w12 hw) (by decide) (by decide)) q2274a q2274c (g := (mkF m 161 o8 [(.long (-1 : Int64)), (.long (-1 : Int64)), (.long q1), (.ref r2090), (.long (2 : Int64)), (.int 3), (.int 2), (.int 2), (.int 1), (.ref b2061), (.ref b2096)])) rfl (by rw [hml]; rfl) (Steps.refl _) (argsL := [(.ref b2061), (.int 1), (.int 2), (.int 2), (.int 3), (.long (2 : Int64)), (.ref r2090), (.long q1), (.long (-1 : Int64)), (.long (-1 : Int64))]) (rest := []) (lenOf pd_9 rfl) rfl (Nat.le_of_eq rfl) (hb hby at_161) (fun _ _ => ⟨rfl, rfl, (by decide : 16 + 0 ≤ _), (by decide : 6675 + 0 ≤ _)⟩)
   dsimp only [Pt.U, Pt.locs, Pt.cells, Pt.slots] at X2274 l2274 y2274 z2274 st2274 hQ2274
   subst l2274 y2274 z2274
   obtain ⟨rfl, N2274q, Kq2274, Eq2274_0, Eq2274_1, Eq2274_2, Fq2274_0, Fq2274_1, Fq2274_2, Fq2274_3, Fq2274_4, Fq2274_5, Fq2274_6, Fq2274_7, Fq2274_8, Fq2274_9, Fq2274_10, Fq2274_11, Fq2274_12, Fq2274_13, Fq2274_14, Fq2274_15, Fq2274_16, Fq2274_17, Fq2274_18, Fq2274_19, Fq2274_20, Fq2274_21, Fq2274_22, Fq2274_23, Fq2274_24, Fq2274_25, Fq2274_26, Fq2274_27, Fq2274_28, Fq2274_29, Fq2274_30, Fq2274_31, Vq2274_0, VLq2274_0, Vq2274_1, VLq2274_1, Vq2274_2, VLq2274_2, Vq2274_3, VLq2274_3, Vq2274_4, VLq2274_4, Vq2274_5, VLq2274_5, Vq2274_6, VLq2274_6, Vq2274_7, VLq2274_7, Vq2274_8, VLq2274_8, Vq2274_9, VLq2274_9⟩ := hQ2274
   have K2274 : Keep h0 T2274.heap [] := K2145.trans Kq2274 (allS (Or.inr sz_xiv_2100) (allS (Or.inr sz_xib_2100) (allS (Or.inr sz_xie_2100) (allS (Or.inr sz_xi_2100) (allS (Or.inr sz_xl_2100) (allS (Or.inr sz_xmb_2100) (allS (Or.inr sz_xme_2100) (allS (Or.inr sz_xm_2100) (allS (Or.inr sz_xc_2100) (allS (Or.inr sz_xk_2100) (allS (Or.inr sz_b2096) (allS (Or.inr sz_xq_2100) (allS (Or.inr sz_xp_2100) all0)))))))))))))
   have Fn2274_6 : Fld Z T2274.heap xi_2100 cBs "size" "I" (.int v0_161_f_size) := Fq2274_6
   have Fn2274_15 : Fld Z T2274.heap xm_2100 cBs "size" "I" (.int v0_161_f_size_2) := Fq2274_15
   have Fn2274_28 : Fld Z T2274.heap b2096 cOr "size" "I" (.int v0_161_f_size) := Fq2274_28
   have V2274n : Arv Z T2274.heap xiv_2100 k_xiv_2100 .int ((2 : Int32) * (cp p5)) (List.map Value.int (v0_161_L0_1 p3 p5)) (.int 0) := Vq2274_0
   have VL2274n : (v0_161_L0_1 p3 p5).length = (((2 : Int32) * (cp p5))).toNatClampNeg := VLq2274_0
   have V2274n1 : Arv Z T2274.heap xib_2100 k_xib_2100 .byte ((8 : Int32) * (cp p5)) (List.map Value.int (v0_161_L1_1 p3 p5)) (.int 0) := Vq2274_1
   have VL2274n1 : (v0_161_L1_1 p3 p5).length = (((8 : Int32) * (cp p5))).toNatClampNeg := VLq2274_1
   have V2274n2 : Arv Z T2274.heap xie_2100 k_xie_2100 .int (cp p5) (List.map Value.int (v0_161_L2 p5)) (.int 0) := Vq2274_2
   have VL2274n2 : (v0_161_L2 p5).length = ((cp p5)).toNatClampNeg := VLq2274_2
   have V2274n3 : Arv Z T2274.heap xl_2100 k_xl_2100 .long (cp p5) (List.map Value.long (v0_161_L3 p5)) (.long (0 : Int64)) := Vq2274_3
   have VL2274n3 : (v0_161_L3 p5).length = ((cp p5)).toNatClampNeg := VLq2274_3
   have V2274n4 : Arv Z T2274.heap xmb_2100 k_xmb_2100 .byte ((4 : Int32) * (cp p5)) (List.map Value.int (v0_161_L4_1 p3 p5)) (.int 0) := Vq2274_4
   have VL2274n4 : (v0_161_L4_1 p3 p5).length = (((4 : Int32) * (cp p5))).toNatClampNeg := VLq2274_4
   have V2274n5 : Arv Z T2274.heap xme_2100 k_xme_2100 .int (cp p5) (List.map Value.int (v0_161_L5_1 p5)) (.int 0) := Vq2274_5
   have VL2274n5 : (v0_161_L5_1 p5).length = ((cp p5)).toNatClampNeg := VLq2274_5
   have V2274n6 : Arv Z T2274.heap xc_2100 k_xc_2100 .byte (cp p5) (List.map Value.int (v0_161_L6_1 p4 p5)) (.int 0) := Vq2274_6
   have VL2274n6 : (v0_161_L6_1 p4 p5).length = ((cp p5)).toNatClampNeg := VLq2274_6
   have V2274n7 : Arv Z T2274.heap xk_2100 k_xk_2100 .int 5 (List.map Value.int (v0_161_L7_1 p4)) (.int 0) := Vq2274_7
   have VL2274n7 : (v0_161_L7_1 p4).length = ((5 : Int32)).toNatClampNeg := VLq2274_7
   have V2274n8 : Arv Z T2274.heap xq_2100 k_xq_2100 .long (cp p5) (List.map Value.long (v0_161_L8 q0 q1 p5)) (.long (0 : Int64)) := Vq2274_8
   have VL2274n8 : (v0_161_L8 q0 q1 p5).length = ((cp p5)).toNatClampNeg := VLq2274_8
   have V2274n9 : Arv Z T2274.heap xp_2100 k_xp_2100 .long (cp p5) (List.map Value.long (v0_161_L9 p5)) (.long (0 : Int64)) := Vq2274_9
   have VL2274n9 : (v0_161_L9 p5).length = ((cp p5)).toNatClampNeg := VLq2274_9
   have N2274 := Fr.app N2145 N2274q
   have k2275 := fun t (kk : SF p e below T2274 m 164 o8 [(.int ((0 : Int32) + (1 : Int32)))] t) => k2156 t (st2274.trans kk)
   have k2276 := fun t (kk : SF p e below T2274 m 187 o10 [(.long (-1 : Int64)), (.long (-1 : Int64)), (.long q2), (.ref r2093), (.long (3 : Int64)), (.int 3), (.int 2), (.int 1), (.int 0), (.ref b2061), (.ref b2096)] t) => k2275 t (by
    refine XS.istore X2274.here hx rfl (hb hby at_164) rfl (l' := o10) rfl ?_
    refine XS.aload X2274.here hx rfl (hb hby at_166) rfl rfl ?_
    refine XS.aload X2274.here hx rfl (hb hby at_168) rfl rfl ?_
    refine XS.iconst X2274.here hx rfl (hb hby at_170) ?_
    show SF p e below T2274 m 171 o10 [(.int 0), (.ref b2061), (.ref b2096)] _
    refine XS.iconst X2274.here hx rfl (hb hby at_171) ?_
    refine XS.iconst X2274.here hx rfl (hb hby at_172) ?_
    refine XS.iconst X2274.here hx rfl (hb hby at_173) ?_
    refine X2274.ldc2Long hx hown (mvT hZ (w154 hw)) (g := (mkF m 174 o10 [(.int 3), (.int 2), (.int 1), (.int 0), (.ref b2061), (.ref b2096)])) rfl (hb hby at_174) _ ?_
    refine XS.aload X2274.here hx rfl (hb hby at_177) rfl rfl ?_
    refine XS.lload X2274.here hx rfl (hb hby at_179) rfl ?_
    refine X2274.ldc2Long hx hown (mvT hZ (w98 hw)) (g := (mkF m 181 o10 [(.long q2), (.ref r2093), (.long (3 : Int64)), (.int 3), (.int 2), (.int 1), (.int 0), (.ref b2061), (.ref b2096)])) rfl (hb hby at_181) _ ?_
    refine X2274.ldc2Long hx hown (mvT hZ (w98 hw)) (g := (mkF m 184 o10 [(.long (-1 : Int64)), (.long q2), (.ref r2093), (.long (3 : Int64)), (.int 3), (.int 2), (.int 1), (.int 0), (.ref b2061), (.ref b2096)])) rfl (hb hby at_184) _ ?_
    exact kk)
   have f2277 := (f2256.keep Kq2274 (ninS ne_b2061_xiv_2100 (ninS ne_b2061_xib_2100 (ninS ne_b2061_xie_2100 (ninS ne_b2061_xi_2100 (ninS ne_b2061_xl_2100 (ninS ne_b2061_xmb_2100 (ninS ne_b2061_xme_2100 (ninS ne_b2061_xm_2100 (ninS ne_b2061_xc_2100 (ninS ne_b2061_xk_2100 (ninS ne_b2061_b2096 (ninS ne_b2061_xq_2100 (ninS ne_b2061_xp_2100 nin0))))))))))))))
   have m2278 : xs_2145 ≠ xp_2100 := Ne.symm ne_xp_2100_xs_2145
   have m2279 : xs_2145 ≠ xq_2100 := Ne.symm ne_xq_2100_xs_2145
   have m2280 : xs_2145 ≠ b2096 := Ne.symm ne_b2096_xs_2145
   have m2281 : xs_2145 ≠ xk_2100 := Ne.symm ne_xk_2100_xs_2145
   have m2282 : xs_2145 ≠ xc_2100 := Ne.symm ne_xc_2100_xs_2145
   have m2283 : xs_2145 ≠ xm_2100 := Ne.symm ne_xm_2100_xs_2145
   have m2284 : xs_2145 ≠ xme_2100 := Ne.symm ne_xme_2100_xs_2145
   have m2285 : xs_2145 ≠ xmb_2100 := Ne.symm ne_xmb_2100_xs_2145
   have m2286 : xs_2145 ≠ xl_2100 := Ne.symm ne_xl_2100_xs_2145
   have m2287 : xs_2145 ≠ xi_2100 := Ne.symm ne_xi_2100_xs_2145
   have m2288 : xs_2145 ≠ xie_2100 := Ne.symm ne_xie_2100_xs_2145
   have m2289 : xs_2145 ≠ xib_2100 := Ne.symm ne_xib_2100_xs_2145
   have m2290 : xs_2145 ≠ xiv_2100 := Ne.symm ne_xiv_2100_xs_2145
   have f2291 := (Vx_xs_2145.keep Kq2274 (ninS m2290 (ninS m2289 (ninS m2288 (ninS m2287 (ninS m2286 (ninS m2285 (ninS m2284 (ninS m2283 (ninS m2282 (ninS m2281 (ninS m2280 (ninS m2279 (ninS m2278 nin0))))))))))))))
   have Zz2292 : n0 ≤ T2274.heap.size := (Nat.le_trans Z0 K2274.1)
   obtain ⟨cq2292, kq2292, q2292a, q2292b, q2292c⟩ := isOf hZ rfl Eq2274_2
   obtain ⟨_, _, ⟨T2292, L2292, k2292, n2292⟩, -, X2292, ⟨Lc2292, hQ2292, l2292, y2292, z2292⟩, st2292⟩ := X2274.virtualBack hx (y := M33_) (z := M33_) hown (mvT hZ (w99 hw)) (mvT hZ (w100 hw)) (notFace_of_selects (args := #[]) (mvT hZ (w102 hw))) (mvT hZ (w102 hw)) (mvT hZ (w101 hw)) (by decide) (backOf (W := 0) (rm11hk l Z a0 hw [] b2096 b2061 (0 : Int32) (1 : Int32) (2 : Int32) (3 : Int32) (3 : Int64) r2093 q2 (-1 : Int64) (-1 : Int64) xi_2100 xiv_2100 k2061 (tx p3) k_xiv_2100 ((2 : Int32) * (cp p5)) (v0_161_L0_1 p3 p5) xs_2145 k_xs_2145 (es p5) (hf12_337_L (0 : Int32) (tx p3) (es p5) (0 : Int32)) xie_2100 k_xie_2100 (cp p5) (v0_161_L2 p5) xib_2100 k_xib_2100 ((8 : Int32) * (cp p5)) (v0_161_L1_1 p3 p5) v0_161_f_size T2274.heap n0 Zz2292 (by decide) (by decide) (hs136_2113) (own_c2 p5) (own_es p5) (own_hk1 p3 (own_at0 p3 p5)) (own_hk2 p3 (own_at0 p3 p5)) (own_hk3 p3 (own_at0 p3 p5)) (own_c1 p5) (own_c8 p5) (own_L2 p5) (own_B2 p3 p5) (own_zlt (own_hk3 p3 (own_at0 p3 p5)) (by decide)) Fq2274_22 Fq2274_2 f2277 VL2073 V2274n VL2274n Fq2274_5 f2291 VLx_xs_2145 Fq2274_1 V2274n2 VL2274n2 Fq2274_0 V2274n1 VL2274n1 Eq2274_0 Fq2274_4 Fn2274_28) hZ (w103 hw) (w12 hw) (by decide) (by decide)) q2292a q2292c (g := (mkF m 187 o10 [(.long (-1 : Int64)), (.long (-1 : Int64)), (.long q2), (.ref r2093), (.long (3 : Int64)), (.int 3), (.int 2), (.int 1), (.int 0), (.ref b2061), (.ref b2096)])) rfl (by rw [hml]; rfl) (Steps.refl _) (argsL := [(.ref b2061), (.int 0), (.int 1), (.int 2), (.int 3), (.long (3 : Int64)), (.ref r2093), (.long q2), (.long (-1 : Int64)), (.long (-1 : Int64))]) (rest := []) (lenOf pd_9 rfl) rfl (Nat.le_of_eq rfl) (hb hby at_187) (fun _ _ => ⟨rfl, rfl, (by decide : 16 + 0 ≤ _), (by decide : 6675 + 0 ≤ _)⟩)
   dsimp only [Pt.U, Pt.locs, Pt.cells, Pt.slots] at X2292 l2292 y2292 z2292 st2292 hQ2292
   subst l2292 y2292 z2292
   obtain ⟨rfl, N2292q, e2292⟩ := hQ2292
   have N2292 := Fr.app N2274 N2292q
   have k2293 := fun t (kk : SF p e below T2292 m 190 o10 [(.int (ohk11_ret (0 : Int32) (tx p3) (es p5) (hf12_337_L (0 : Int32) (tx p3) (es p5) (0 : Int32))))] t) => k2276 t (st2292.trans kk)
   have k2296 := fun t (kk : SF p e below T2292 m 208 o1 [(.int (ohf11_10_l15 (0 : Int32)))] t) => k2293 t (by
    refine XS.istore X2292.here hx rfl (hb hby at_190) rfl (l' := o21) rfl ?_
    refine XS.iload X2292.here hx rfl (hb hby at_192) rfl ?_
    refine XS.iload X2292.here hx rfl (hb hby at_194) rfl ?_
    suffices k2295 : SF p e below T2292 m 204 #[.val (.long q0), .second, .val (.long q1), .second, .val (.long q2), .second, iv p3, iv p4, iv p5, iv (v0_7_l9 p3), iv (v0_16_s0 p3), iv (v0_46_l11 p3), rv b2061, rv r2087, rv r2090, rv r2093, rv b2096, iv (ohf11_10_l15 (0 : Int32)), iv ((0 : Int32) + (1 : Int32)), iv (v0_190_l19 p3 p5), .unset] [(.int (v0_196_s0 p3))] t by
     by_cases hc196_2294 : (v0_7_l9 p3) = (v0_16_s0 p3)
     ·rw [(show (v0_196_s0 p3) = (1 : Int32) from if_pos hc196_2294)] at k2295
      refine XS.icmpNo X2292.here hx rfl (hb hby at_196) rfl (teq hc196_2294).2 ?_
      show SF p e below T2292 m 199 o21 [] _
      refine XS.iconst X2292.here hx rfl (hb hby at_199) ?_
      refine XS.goto X2292.here hx rfl (pc0 := 200) (pc' := 204) rfl (hb hby at_200) (by decide) (by decide) ?_
      exact k2295
     ·rw [(show (v0_196_s0 p3) = (0 : Int32) from if_neg hc196_2294)] at k2295
      refine XS.icmpYes X2292.here hx rfl (pc0 := 196) (pc' := 203) rfl (hb hby at_196) rfl (feq hc196_2294).2 (by decide) (by decide) ?_
      refine XS.iconst X2292.here hx rfl (hb hby at_203) ?_
      exact k2295
    refine XS.istore X2292.here hx rfl (hb hby at_204) rfl (l' := o1) rfl ?_
    refine XS.iload X2292.here hx rfl (hb hby at_206) rfl ?_
    exact kk)
   have hc208_2297 : (ohf11_10_l15 (0 : Int32)) = (0 : Int32) := by decide
   have k2298 := fun t (kk : SF p e below T2292 m 213 o1 [(.int (v0_190_l19 p3 p5))] t) => k2296 t (by
    refine XS.ifNo X2292.here hx rfl (hb hby at_208) rfl ((if0 _ _).trans (teq hc208_2297).2) ?_
    refine XS.iload X2292.here hx rfl (hb hby at_211) rfl ?_
    exact kk)
   have hc213_2299 : (v0_190_l19 p3 p5) = (0 : Int32) := own_hk3 p3 (own_at0 p3 p5)
   have k2302 := fun t (kk : SF p e below T2292 m 230 o1 [(.int (v0_222_s0 p3)), (.int ((0 : Int32) + (1 : Int32)))] t) => k2298 t (by
    refine XS.ifYes X2292.here hx rfl (pc0 := 213) (pc' := 218) rfl (hb hby at_213) rfl ((if0 _ _).trans (teq hc213_2299).1) (by decide) (by decide) ?_
    refine XS.iload X2292.here hx rfl (hb hby at_218) rfl ?_
    refine XS.iload X2292.here hx rfl (hb hby at_220) rfl ?_
    suffices k2301 : SF p e below T2292 m 230 #[.val (.long q0), .second, .val (.long q1), .second, .val (.long q2), .second, iv p3, iv p4, iv p5, iv (v0_7_l9 p3), iv (v0_16_s0 p3), iv (v0_46_l11 p3), rv b2061, rv r2087, rv r2090, rv r2093, rv b2096, iv (ohf11_10_l15 (0 : Int32)), iv ((0 : Int32) + (1 : Int32)), iv (v0_190_l19 p3 p5), iv (v0_196_s0 p3)] [(.int (v0_222_s0 p3)), (.int ((0 : Int32) + (1 : Int32)))] t by
     by_cases hc222_2300 : (v0_196_s0 p3) = (0 : Int32)
     ·rw [(show (v0_222_s0 p3) = (1 : Int32) from if_pos hc222_2300)] at k2301
      refine XS.ifYes X2292.here hx rfl (pc0 := 222) (pc' := 229) rfl (hb hby at_222) rfl ((if0 _ _).trans (teq hc222_2300).1) (by decide) (by decide) ?_
      show SF p e below T2292 m 229 o1 [(.int ((0 : Int32) + (1 : Int32)))] _
      refine XS.iconst X2292.here hx rfl (hb hby at_229) ?_
      exact k2301
     ·rw [(show (v0_222_s0 p3) = (0 : Int32) from if_neg hc222_2300)] at k2301
      refine XS.ifNo X2292.here hx rfl (hb hby at_222) rfl ((if0 _ _).trans (feq hc222_2300).1) ?_
      refine XS.iconst X2292.here hx rfl (hb hby at_225) ?_
      refine XS.goto X2292.here hx rfl (pc0 := 226) (pc' := 230) rfl (hb hby at_226) (by decide) (by decide) ?_
      exact k2301
    exact kk)
   have hc230_2303 : ((0 : Int32) + (1 : Int32)) = (v0_222_s0 p3) := (show ((0 : Int32) + (1 : Int32)) = (1 : Int32) from (by decide)).trans (own_222n p3 (own_nq1 p3 hs136_2113 hs161_2157))
   have k2304 := fun t (kk : SF p e below T2292 m 237 o1 [(.ref b2096)] t) => k2302 t (by
    refine XS.icmpYes X2292.here hx rfl (pc0 := 230) (pc' := 235) rfl (hb hby at_230) rfl (teq hc230_2303).1 (by decide) (by decide) ?_
    refine XS.aload X2292.here hx rfl (hb hby at_235) rfl rfl ?_
    exact kk)
   have Zz2305 : n0 ≤ T2274.heap.size := (Nat.le_trans Z0 K2274.1)
   obtain ⟨cq2305, kq2305, q2305a, q2305b, q2305c⟩ := isOf hZ e2292 Eq2274_2
   obtain ⟨_, _, ⟨T2305, L2305, k2305, n2305⟩, -, X2305, ⟨Lc2305, hQ2305, l2305, y2305, z2305⟩, st2305⟩ := X2292.virtualBack hx (y := M35_) (z := M35_) hown (mvT hZ (w163 hw)) (mvT hZ (w164 hw)) (notFace_of_selects (args := #[]) (mvT hZ (w166 hw))) (mvT hZ (w166 hw)) (mvT hZ (w165 hw)) (by decide) (backOf (W := 0) (rm20 l Z a0 hw [] b2096 v0_161_f_size T2274.heap n0 Zz2305 Fn2274_28) hZ (w167 hw) (w12 hw) (by decide) (by decide)) q2305a q2305c (g := (mkF m 237 o1 [(.ref b2096)])) rfl (by rw [hml]; rfl) (Steps.refl _) (argsL := []) (rest := []) (lenOf pd_4 rfl) rfl (Nat.le_of_eq rfl) (hb hby at_237) (fun _ _ => ⟨rfl, e2292, (by decide : 16 + 0 ≤ _), (by decide : 6675 + 0 ≤ _)⟩)
   dsimp only [Pt.U, Pt.locs, Pt.cells, Pt.slots] at X2305 l2305 y2305 z2305 st2305 hQ2305
   subst l2305 y2305 z2305
   obtain ⟨rfl, N2305q, e2305⟩ := hQ2305
   have N2305 := Fr.app N2292 N2305q
   have k2306 := fun t (kk : SF p e below T2305 m 240 o1 [(.int v0_161_f_size)] t) => k2304 t (st2305.trans kk)
   have k2309 := fun t (kk : SF p e below T2305 m 250 o1 [(.int (v0_242_s0 p3)), (.int v0_161_f_size)] t) => k2306 t (by
    refine XS.iload X2305.here hx rfl (hb hby at_240) rfl ?_
    suffices k2308 : SF p e below T2305 m 250 #[.val (.long q0), .second, .val (.long q1), .second, .val (.long q2), .second, iv p3, iv p4, iv p5, iv (v0_7_l9 p3), iv (v0_16_s0 p3), iv (v0_46_l11 p3), rv b2061, rv r2087, rv r2090, rv r2093, rv b2096, iv (ohf11_10_l15 (0 : Int32)), iv ((0 : Int32) + (1 : Int32)), iv (v0_190_l19 p3 p5), iv (v0_196_s0 p3)] [(.int (v0_242_s0 p3)), (.int v0_161_f_size)] t by
     by_cases hc242_2307 : (v0_196_s0 p3) = (0 : Int32)
     ·rw [(show (v0_242_s0 p3) = (2 : Int32) from if_pos hc242_2307)] at k2308
      refine XS.ifYes X2305.here hx rfl (pc0 := 242) (pc' := 249) rfl (hb hby at_242) rfl ((if0 _ _).trans (teq hc242_2307).1) (by decide) (by decide) ?_
      refine XS.iconst X2305.here hx rfl (hb hby at_249) ?_
      exact k2308
     ·rw [(show (v0_242_s0 p3) = (1 : Int32) from if_neg hc242_2307)] at k2308
      refine XS.ifNo X2305.here hx rfl (hb hby at_242) rfl ((if0 _ _).trans (feq hc242_2307).1) ?_
      refine XS.iconst X2305.here hx rfl (hb hby at_245) ?_
      refine XS.goto X2305.here hx rfl (pc0 := 246) (pc' := 250) rfl (hb hby at_246) (by decide) (by decide) ?_
      exact k2308
    exact kk)
   have hc250_2310 : v0_161_f_size = (v0_242_s0 p3) := (show v0_161_f_size = (2 : Int32) from (by decide)).trans (own_242n p3 (own_nq1 p3 hs136_2113 hs161_2157))
   have k2311 := fun t (kk : SF p e below T2305 m 258 o1 [(.int 0), (.ref b2096)] t) => k2309 t (by
    show SF p e below T2305 m 250 o1 [(.int (v0_242_s0 p3)), (.int v0_161_f_size)] _
    refine XS.icmpYes X2305.here hx rfl (pc0 := 250) (pc' := 255) rfl (hb hby at_250) rfl (teq hc250_2310).1 (by decide) (by decide) ?_
    refine XS.aload X2305.here hx rfl (hb hby at_255) rfl rfl ?_
    refine XS.iconst X2305.here hx rfl (hb hby at_257) ?_
    exact kk)
   have Zz2312 : n0 ≤ T2274.heap.size := (Nat.le_trans Z0 K2274.1)
   obtain ⟨cq2312, kq2312, q2312a, q2312b, q2312c⟩ := isOf hZ e2305 Eq2274_2
   obtain ⟨_, _, ⟨T2312, L2312, k2312, n2312⟩, -, X2312, ⟨Lc2312, hQ2312, l2312, y2312, z2312⟩, st2312⟩ := X2305.virtualBack hx (y := M36_) (z := M36_) hown (mvT hZ (w168 hw)) (mvT hZ (w169 hw)) (notFace_of_selects (args := #[]) (mvT hZ (w171 hw))) (mvT hZ (w171 hw)) (mvT hZ (w170 hw)) (by decide) (backOf (W := 0) (rm21 l Z a0 hw [] b2096 (0 : Int32) xq_2100 k_xq_2100 (cp p5) (v0_161_L8 q0 q1 p5) T2274.heap n0 Zz2312 (own_clt p5 (by decide)) Fq2274_26 V2274n8 VL2274n8) hZ (w172 hw) (w12 hw) (by decide) (by decide)) q2312a q2312c (g := (mkF m 258 o1 [(.int 0), (.ref b2096)])) rfl (by rw [hml]; rfl) (Steps.refl _) (argsL := [(.int 0)]) (rest := []) (lenOf pd_10 rfl) rfl (Nat.le_of_eq rfl) (hb hby at_258) (fun _ _ => ⟨rfl, e2305, (by decide : 16 + 0 ≤ _), (by decide : 6675 + 0 ≤ _)⟩)
   dsimp only [Pt.U, Pt.locs, Pt.cells, Pt.slots] at X2312 l2312 y2312 z2312 st2312 hQ2312
   subst l2312 y2312 z2312
   obtain ⟨rfl, N2312q, e2312⟩ := hQ2312
   have N2312 := Fr.app N2305 N2312q
   have k2313 := fun t (kk : SF p e below T2312 m 261 o1 [(.long (v21_5_at (0 : Int32) (v0_161_L8 q0 q1 p5)))] t) => k2311 t (st2312.trans kk)
   have k2314 := fun t (kk : SF p e below T2312 m 263 o1 [(.int (lcmpW (v21_5_at (0 : Int32) (v0_161_L8 q0 q1 p5)) q0))] t) => k2313 t (by
    refine XS.lloadN X2312.here hx rfl (hb hby at_261) rfl ?_
    refine XS.lcmp X2312.here hx rfl (hb hby at_262) rfl ?_
    exact kk)
   have hc263_2315 : (v21_5_at (0 : Int32) (v0_161_L8 q0 q1 p5)) = q0 := own_Q1 q0 q1 p5
   have k2316 := fun t (kk : SF p e below T2312 m 270 o1 [(.int (v0_196_s0 p3))] t) => k2314 t (by
    refine XS.ifYes X2312.here hx rfl (pc0 := 263) (pc' := 268) rfl (hb hby at_263) rfl ((if0 _ _).trans (teq ((lw_eq _ _).mpr hc263_2315)).1) (by decide) (by decide) ?_
    refine XS.iload X2312.here hx rfl (hb hby at_268) rfl ?_
    exact kk)
   have hc270_2317 : (v0_196_s0 p3) = (0 : Int32) := own_same0 p3 (own_nq1 p3 hs136_2113 hs161_2157)
   have k2318 := fun t (kk : SF p e below T2312 m 276 o1 [(.int 1), (.ref b2096)] t) => k2316 t (by
    refine XS.ifNo X2312.here hx rfl (hb hby at_270) rfl ((if0 _ _).trans (teq hc270_2317).2) ?_
    refine XS.aload X2312.here hx rfl (hb hby at_273) rfl rfl ?_
    refine XS.iconst X2312.here hx rfl (hb hby at_275) ?_
    exact kk)
   have Zz2319 : n0 ≤ T2274.heap.size := (Nat.le_trans Z0 K2274.1)
   obtain ⟨cq2319, kq2319, q2319a, q2319b, q2319c⟩ := isOf hZ e2312 Eq2274_2
   obtain ⟨_, _, ⟨T2319, L2319, k2319, n2319⟩, -, X2319, ⟨Lc2319, hQ2319, l2319, y2319, z2319⟩, st2319⟩ := X2312.virtualBack hx (y := M36_) (z := M36_) hown (mvT hZ (w168 hw)) (mvT hZ (w169 hw)) (notFace_of_selects (args := #[]) (mvT hZ (w171 hw))) (mvT hZ (w171 hw)) (mvT hZ (w170 hw)) (by decide) (backOf (W := 0) (rm21 l Z a0 hw [] b2096 (1 : Int32) xq_2100 k_xq_2100 (cp p5) (v0_161_L8 q0 q1 p5) T2274.heap n0 Zz2319 (own_clt p5 (by decide)) Fq2274_26 V2274n8 VL2274n8) hZ (w172 hw) (w12 hw) (by decide) (by decide)) q2319a q2319c (g := (mkF m 276 o1 [(.int 1), (.ref b2096)])) rfl (by rw [hml]; rfl) (Steps.refl _) (argsL := [(.int 1)]) (rest := []) (lenOf pd_10 rfl) rfl (Nat.le_of_eq rfl) (hb hby at_276) (fun _ _ => ⟨rfl, e2312, (by decide : 16 + 0 ≤ _), (by decide : 6675 + 0 ≤ _)⟩)
   dsimp only [Pt.U, Pt.locs, Pt.cells, Pt.slots] at X2319 l2319 y2319 z2319 st2319 hQ2319
   subst l2319 y2319 z2319
   obtain ⟨rfl, N2319q, e2319⟩ := hQ2319
   have N2319 := Fr.app N2312 N2319q
   have k2320 := fun t (kk : SF p e below T2319 m 279 o1 [(.long (v21_5_at (1 : Int32) (v0_161_L8 q0 q1 p5)))] t) => k2318 t (st2319.trans kk)
   have k2321 := fun t (kk : SF p e below T2319 m 281 o1 [(.int (lcmpW (v21_5_at (1 : Int32) (v0_161_L8 q0 q1 p5)) q1))] t) => k2320 t (by
    refine XS.lloadN X2319.here hx rfl (hb hby at_279) rfl ?_
    refine XS.lcmp X2319.here hx rfl (hb hby at_280) rfl ?_
    exact kk)
   have hc281_2322 : (v21_5_at (1 : Int32) (v0_161_L8 q0 q1 p5)) = q1 := own_Q2 q0 q1 p5
   have k2323 := fun t (kk : SF p e below T2319 m 287 o1 [(.int 1)] t) => k2321 t (by
    show SF p e below T2319 m 281 o1 [(.int (lcmpW (v21_5_at (1 : Int32) (v0_161_L8 q0 q1 p5)) q1))] _
    refine XS.ifYes X2319.here hx rfl (pc0 := 281) (pc' := 286) rfl (hb hby at_281) rfl ((if0 _ _).trans (teq ((lw_eq _ _).mpr hc281_2322)).1) (by decide) (by decide) ?_
    refine XS.iconst X2319.here hx rfl (hb hby at_286) ?_
    exact kk)
   obtain ⟨fs, hr, hrun, hended, hW, hsame⟩ := X2319.leave (v := some (.int 1)) (fun h => by rw [Bd.returns] at h; cases h) hlk
   have hv : (1 : Int32) = (1 : Int32) := rfl
   have hone : (1 : Int32) = 1 := hv.symm.trans (own_law q0 q1 q2 p3 p4 p5)
   refine ⟨_, _, k2323 _ ?_, hrun, hended, _, _, rfl, ?_, ⟨_, rfl⟩, hW, hsame.mono (by decide) (by decide)⟩
   ·show SF p e below T2319 m 287 o1 [(.int 1)] _
    exact retN X2319 hx (t := .boolean) Bd.returns (by simp) (hb hby at_287) hr
   ·show Q0 Z q0 q1 q2 p3 p4 p5 zcl zau zca o_BUY o_SELL zan zci zfj zfk h0 n0 _ T2319.heap _
    rw [e2319]
    exact ⟨congrArg (fun z => some (Value.int z)) hone, N2319⟩
 ·have t2324 := fun {C n d : String} {v : Value} (F : Fld Z _ r2087 C n d v) => (F.ext E2096).keep Kq2100 (ninS ne_r2087_b2096 nin0)
  have f2325 := t2324 F_ordinal_r2087
  have f2326 := (f2101.keep Kq2100 (ninS ne_b2061_b2096 nin0))
  have m2327 : xiv_2100 ≠ xie_2100 := Ne.symm nx_xie_xiv_2100
  have m2328 : xiv_2100 ≠ xib_2100 := Ne.symm nx_xib_xiv_2100
  have m2329 : xiv_2100 ≠ b2096 := Ne.symm ne_b2096_xiv_2100
  have m2330 : xib_2100 ≠ b2096 := Ne.symm ne_b2096_xib_2100
  have m2331 : xie_2100 ≠ b2096 := Ne.symm ne_b2096_xie_2100
  have m2332 : xi_2100 ≠ b2096 := Ne.symm ne_b2096_xi_2100
  have m2333 : xl_2100 ≠ b2096 := Ne.symm ne_b2096_xl_2100
  have m2334 : xl_2100 ≠ xm_2100 := Ne.symm nx_xm_xl_2100
  have m2335 : xmb_2100 ≠ xie_2100 := Ne.symm nx_xie_xmb_2100
  have m2336 : xiv_2100 ≠ b2061 := Ne.symm ne_b2061_xiv_2100
  have m2337 : xib_2100 ≠ b2061 := Ne.symm ne_b2061_xib_2100
  have m2338 : xie_2100 ≠ b2061 := Ne.symm ne_b2061_xie_2100
  have m2339 : xl_2100 ≠ b2061 := Ne.symm ne_b2061_xl_2100
  have m2340 : xmb_2100 ≠ b2096 := Ne.symm ne_b2096_xmb_2100
  have m2341 : xme_2100 ≠ b2096 := Ne.symm ne_b2096_xme_2100
  have m2342 : xm_2100 ≠ b2096 := Ne.symm ne_b2096_xm_2100
  have m2343 : xiv_2100 ≠ r2087 := Ne.symm ne_r2087_xiv_2100
  have m2344 : xib_2100 ≠ r2087 := Ne.symm ne_r2087_xib_2100
  have m2345 : xie_2100 ≠ r2087 := Ne.symm ne_r2087_xie_2100
  have m2346 : xi_2100 ≠ r2087 := Ne.symm ne_r2087_xi_2100
  have m2347 : xl_2100 ≠ r2087 := Ne.symm ne_r2087_xl_2100
  have m2348 : xmb_2100 ≠ r2087 := Ne.symm ne_r2087_xmb_2100
  have m2349 : xme_2100 ≠ r2087 := Ne.symm ne_r2087_xme_2100
  have m2350 : xm_2100 ≠ r2087 := Ne.symm ne_r2087_xm_2100
  have f2351 := (f2107.keep Kq2100)
  have m2352 : xc_2100 ≠ xl_2100 := Ne.symm nx_xl_xc_2100
  have m2353 : xc_2100 ≠ b2096 := Ne.symm ne_b2096_xc_2100
  have m2354 : xc_2100 ≠ r2087 := Ne.symm ne_r2087_xc_2100
  have m2355 : xiv_2100 ≠ xk_2100 := Ne.symm nx_xk_xiv_2100
  have m2356 : xib_2100 ≠ xk_2100 := Ne.symm nx_xk_xib_2100
  have m2357 : xie_2100 ≠ xk_2100 := Ne.symm nx_xk_xie_2100
  have m2358 : xmb_2100 ≠ xk_2100 := Ne.symm nx_xk_xmb_2100
  have m2359 : xme_2100 ≠ xk_2100 := Ne.symm nx_xk_xme_2100
  have m2360 : xp_2100 ≠ xq_2100 := Ne.symm nx_xq_xp_2100
  have Zz2361 : n0 ≤ T2100.heap.size := (Nat.le_trans Z0 K2100.1)
  obtain ⟨cq2361, kq2361, q2361a, q2361b, q2361c⟩ := isOf hZ rfl Eq2100_0
  obtain ⟨_, _, ⟨T2361, L2361, k2361, n2361⟩, -, X2361, ⟨Lc2361, hQ2361, l2361, y2361, z2361⟩, st2361⟩ := X2100.virtualBack hx (y := M33_) (z := M33_) hown (mvT hZ (w99 hw)) (mvT hZ (w100 hw)) (notFace_of_selects (args := #[]) (mvT hZ (w102 hw))) (mvT hZ (w102 hw)) (mvT hZ (w101 hw)) (by decide) (backOf (W := 0) (rm11dn l Z a0 hw [] b2096 b2061 (0 : Int32) (1 : Int32) (2 : Int32) (3 : Int32) (1 : Int64) r2087 q0 (-1 : Int64) (-1 : Int64) xi_2100 xiv_2100 k2061 (tx p3) k_xiv_2100 ((2 : Int32) * (cp p5)) (List.replicate (((2 : Int32) * (cp p5))).toNatClampNeg (0 : Int32)) (0 : Int32) xie_2100 k_xie_2100 (cp p5) (List.replicate ((cp p5)).toNatClampNeg (0 : Int32)) xib_2100 k_xib_2100 ((8 : Int32) * (cp p5)) (List.replicate (((8 : Int32) * (cp p5))).toNatClampNeg (0 : Int32)) (es p5) .null .null (0 : Int32) (0 : Int64) (0 : Int32) xl_2100 k_xl_2100 (cp p5) (List.replicate ((cp p5)).toNatClampNeg (0 : Int64)) xm_2100 (0 : Int32) xme_2100 k_xme_2100 (cp p5) (List.replicate ((cp p5)).toNatClampNeg (0 : Int32)) xmb_2100 k_xmb_2100 ((4 : Int32) * (cp p5)) (List.replicate (((4 : Int32) * (cp p5))).toNatClampNeg (0 : Int32)) (v2_69_f_expectedSlots (p5 &&& (255 : Int32))) .null .null (0 : Int32) (0 : Int64) xc_2100 (v1_r_ordinal (p4 &&& (7 : Int32))) k_xc_2100 (cp p5) (List.replicate ((cp p5)).toNatClampNeg (0 : Int32)) xk_2100 k_xk_2100 ([(0 : Int32), (0 : Int32), (0 : Int32), (0 : Int32), (0 : Int32)] : List Int32) .null xq_2100 k_xq_2100 (cp p5) (List.replicate ((cp p5)).toNatClampNeg (0 : Int64)) xp_2100 k_xp_2100 (cp p5) (List.replicate ((cp p5)).toNatClampNeg (0 : Int64)) (.ref xu_2100) (9223372036854775807 : Int64) (-9223372036854775808 : Int64) (0 : Int32) T2100.heap n0 Zz2361 (own_clt p5 (by decide)) (own_E0 _) (own_c8 p5) (by decide) (by decide) (own_c2 p5) (hs136_2113) (own_v10 _ _) (own_r32 _ _) (own_clt p5 (by decide)) (own_E0 _) (own_c4 p5) (by decide) (by decide) (by decide) (by decide) (own_ord _) (by decide) (by decide) (own_c1 p5) (own_c1 p5) (own_c1 p5) (own_c1 p5) Fq2100_4 Fx_xi_2100_2 f2326 VL2073 Vx_xiv_2100 VLx_xiv_2100 Fx_xi_2100_6 Fx_xi_2100_1 Vx_xie_2100 VLx_xie_2100 Fx_xi_2100_0 Vx_xib_2100 VLx_xib_2100 Fx_xi_2100_3 Fx_xi_2100_4 Fx_xi_2100_5 Fx_xi_2100_7 Fx_xi_2100_8 Ex_xi_2100 g_xib_2100 nx_xib_xie_2100 g_xie_2100 g_xi_2100 m2327 m2328 g_xiv_2100 Fq2100_10 m2329 m2330 m2331 m2332 Fq2100_6 Vx_xl_2100 VLx_xl_2100 nx_xiv_xl_2100 nx_xib_xl_2100 nx_xie_xl_2100 g_xl_2100 Fq2100_5 m2333 Fx_xm_2100_6 nx_xiv_xm_2100 nx_xib_xm_2100 nx_xie_xm_2100 nx_xi_xm_2100 m2334 Fx_xm_2100_1 Vx_xme_2100 VLx_xme_2100 Fx_xm_2100_0 Vx_xmb_2100 VLx_xmb_2100 Fx_xm_2100_3 Fx_xm_2100_4 Fx_xm_2100_5 Fx_xm_2100_7 Fx_xm_2100_8 Fx_xm_2100_2 nx_xiv_xme_2100 nx_xib_xme_2100 nx_xie_xme_2100 nx_xme_xl_2100 nx_xiv_xmb_2100 nx_xib_xmb_2100 m2335 nx_xmb_xl_2100 m2336 m2337 m2338 m2339 Ex_xm_2100 g_xmb_2100 nx_xmb_xme_2100 g_xme_2100 g_xm_2100 Fq2100_7 m2340 m2341 m2342 f2325 m2343 m2344 m2345 m2346 m2347 m2348 m2349 m2350 f2351 Vx_xc_2100 VLx_xc_2100 nx_xiv_xc_2100 nx_xib_xc_2100 nx_xie_xc_2100 m2352 nx_xmb_xc_2100 nx_xme_xc_2100 g_xc_2100 Fq2100_1 m2353 m2354 Vx_xk_2100 VLx_xk_2100 m2355 m2356 m2357 nx_xk_xl_2100 m2358 m2359 nx_xk_xc_2100 g_xk_2100 Eq2100_0 Fq2100_11 g_b2096 Fq2100_8 Vx_xq_2100 VLx_xq_2100 nx_xiv_xq_2100 nx_xib_xq_2100 nx_xie_xq_2100 nx_xl_xq_2100 nx_xmb_xq_2100 nx_xme_xq_2100 nx_xc_xq_2100 nx_xk_xq_2100 g_xq_2100 Fq2100_9 Vx_xp_2100 VLx_xp_2100 nx_xiv_xp_2100 nx_xib_xp_2100 nx_xie_xp_2100 nx_xl_xp_2100 nx_xmb_xp_2100 nx_xme_xp_2100 nx_xc_xp_2100 nx_xk_xp_2100 m2360 g_xp_2100 Fq2100_12 Fq2100_0 Fq2100_2 Fq2100_3 Fq2100_13) hZ (w103 hw) (w12 hw) (by decide) (by decide)) q2361a q2361c (g := (mkF m 136 o13 [(.long (-1 : Int64)), (.long (-1 : Int64)), (.long q0), (.ref r2087), (.long (1 : Int64)), (.int 3), (.int 2), (.int 1), (.int 0), (.ref b2061), (.ref b2096)])) rfl (by rw [hml]; rfl) (Steps.refl _) (argsL := [(.ref b2061), (.int 0), (.int 1), (.int 2), (.int 3), (.long (1 : Int64)), (.ref r2087), (.long q0), (.long (-1 : Int64)), (.long (-1 : Int64))]) (rest := []) (lenOf pd_9 rfl) rfl (Nat.le_of_eq rfl) (hb hby at_136) (fun _ _ => ⟨rfl, rfl, (by decide : 15 + 0 ≤ _), (by decide : 6163 + 0 ≤ _)⟩)
  dsimp only [Pt.U, Pt.locs, Pt.cells, Pt.slots] at X2361 l2361 y2361 z2361 st2361 hQ2361
  subst l2361 y2361 z2361
  obtain ⟨rfl, N2361q, Kq2361, Eq2361_0, Eq2361_1, Eq2361_2, Fq2361_0, Fq2361_1, Fq2361_2, Fq2361_3, Fq2361_4, Fq2361_5, Fq2361_6, Fq2361_7, Fq2361_8, Fq2361_9, Fq2361_10, Fq2361_11, Fq2361_12, Fq2361_13, Fq2361_14, Fq2361_15, Fq2361_16, Fq2361_17, Fq2361_18, Fq2361_19, Fq2361_20, Fq2361_21, Fq2361_22, Fq2361_23, Fq2361_24, Fq2361_25, Fq2361_26, Fq2361_27, Fq2361_28, Fq2361_29, Fq2361_30, Fq2361_31, Vq2361_0, VLq2361_0, Vq2361_1, VLq2361_1, Vq2361_2, VLq2361_2, Vq2361_3, VLq2361_3, Vq2361_4, VLq2361_4, Vq2361_5, VLq2361_5, Vq2361_6, VLq2361_6, Vq2361_7, VLq2361_7, Vq2361_8, VLq2361_8, Vq2361_9, VLq2361_9⟩ := hQ2361
  have K2361 : Keep h0 T2361.heap [] := K2100.trans Kq2361 (allS (Or.inr sz_xiv_2100) (allS (Or.inr sz_xib_2100) (allS (Or.inr sz_xie_2100) (allS (Or.inr sz_xi_2100) (allS (Or.inr sz_xl_2100) (allS (Or.inr sz_xmb_2100) (allS (Or.inr sz_xme_2100) (allS (Or.inr sz_xm_2100) (allS (Or.inr sz_xc_2100) (allS (Or.inr sz_xk_2100) (allS (Or.inr sz_b2096) (allS (Or.inr sz_xq_2100) (allS (Or.inr sz_xp_2100) all0)))))))))))))
  have Fn2361_3 : Fld Z T2361.heap xi_2100 cBs "expectedSlots" "I" (.int (v0_136_f_expectedSlots p5)) := Fq2361_3
  have Fn2361_12 : Fld Z T2361.heap xm_2100 cBs "expectedSlots" "I" (.int (v0_136_f_expectedSlots_1 p5)) := Fq2361_12
  have V2361n : Arv Z T2361.heap xiv_2100 k_xiv_2100 .int ((2 : Int32) * (cp p5)) (List.map Value.int (v0_136_L0_1 p3 p5)) (.int 0) := Vq2361_0
  have VL2361n : (v0_136_L0_1 p3 p5).length = (((2 : Int32) * (cp p5))).toNatClampNeg := VLq2361_0
  have V2361n1 : Arv Z T2361.heap xib_2100 k_xib_2100 .byte ((8 : Int32) * (cp p5)) (List.map Value.int (v0_136_L1_1 p3 p5)) (.int 0) := Vq2361_1
  have VL2361n1 : (v0_136_L1_1 p3 p5).length = (((8 : Int32) * (cp p5))).toNatClampNeg := VLq2361_1
  have V2361n2 : Arv Z T2361.heap xie_2100 k_xie_2100 .int (cp p5) (List.map Value.int (v0_136_L2_1 p5)) (.int 0) := Vq2361_2
  have VL2361n2 : (v0_136_L2_1 p5).length = ((cp p5)).toNatClampNeg := VLq2361_2
  have V2361n3 : Arv Z T2361.heap xl_2100 k_xl_2100 .long (cp p5) (List.map Value.long (v0_136_L3_1 p5)) (.long (0 : Int64)) := Vq2361_3
  have VL2361n3 : (v0_136_L3_1 p5).length = ((cp p5)).toNatClampNeg := VLq2361_3
  have V2361n4 : Arv Z T2361.heap xmb_2100 k_xmb_2100 .byte ((4 : Int32) * (cp p5)) (List.map Value.int (v0_136_L4_1 p3 p5)) (.int 0) := Vq2361_4
  have VL2361n4 : (v0_136_L4_1 p3 p5).length = (((4 : Int32) * (cp p5))).toNatClampNeg := VLq2361_4
  have V2361n5 : Arv Z T2361.heap xme_2100 k_xme_2100 .int (cp p5) (List.map Value.int (v0_136_L5_1 p5)) (.int 0) := Vq2361_5
  have VL2361n5 : (v0_136_L5_1 p5).length = ((cp p5)).toNatClampNeg := VLq2361_5
  have V2361n6 : Arv Z T2361.heap xc_2100 k_xc_2100 .byte (cp p5) (List.map Value.int (v0_136_L6_1 p4 p5)) (.int 0) := Vq2361_6
  have VL2361n6 : (v0_136_L6_1 p4 p5).length = ((cp p5)).toNatClampNeg := VLq2361_6
  have V2361n7 : Arv Z T2361.heap xk_2100 k_xk_2100 .int 5 (List.map Value.int (v0_136_L7_1 p4)) (.int 0) := Vq2361_7
  have VL2361n7 : (v0_136_L7_1 p4).length = ((5 : Int32)).toNatClampNeg := VLq2361_7
  have V2361n8 : Arv Z T2361.heap xq_2100 k_xq_2100 .long (cp p5) (List.map Value.long (v0_136_L8_1 q0 p5)) (.long (0 : Int64)) := Vq2361_8
  have VL2361n8 : (v0_136_L8_1 q0 p5).length = ((cp p5)).toNatClampNeg := VLq2361_8
  have V2361n9 : Arv Z T2361.heap xp_2100 k_xp_2100 .long (cp p5) (List.map Value.long (v0_136_L9 p5)) (.long (0 : Int64)) := Vq2361_9
  have VL2361n9 : (v0_136_L9 p5).length = ((cp p5)).toNatClampNeg := VLq2361_9
  have N2361 := Fr.app N2100 N2361q
  have k2362 := fun t (kk : SF p e below T2361 m 139 o13 [(.int 0)] t) => k2112 t (st2361.trans kk)
  have k2363 := fun t (kk : SF p e below T2361 m 161 o9 [(.long (-1 : Int64)), (.long (-1 : Int64)), (.long q1), (.ref r2090), (.long (2 : Int64)), (.int 3), (.int 2), (.int 2), (.int 1), (.ref b2061), (.ref b2096)] t) => k2362 t (by
   refine XS.istore X2361.here hx rfl (hb hby at_139) rfl (l' := o9) rfl ?_
   refine XS.aload X2361.here hx rfl (hb hby at_141) rfl rfl ?_
   refine XS.aload X2361.here hx rfl (hb hby at_143) rfl rfl ?_
   refine XS.iconst X2361.here hx rfl (hb hby at_145) ?_
   refine XS.iconst X2361.here hx rfl (hb hby at_146) ?_
   refine XS.iconst X2361.here hx rfl (hb hby at_147) ?_
   refine XS.iconst X2361.here hx rfl (hb hby at_148) ?_
   refine X2361.ldc2Long hx hown (mvT hZ (w153 hw)) (g := (mkF m 149 o9 [(.int 3), (.int 2), (.int 2), (.int 1), (.ref b2061), (.ref b2096)])) rfl (hb hby at_149) _ ?_
   refine XS.aload X2361.here hx rfl (hb hby at_152) rfl rfl ?_
   refine XS.lloadN X2361.here hx rfl (hb hby at_154) rfl ?_
   show SF p e below T2361 m 155 o9 [(.long q1), (.ref r2090), (.long (2 : Int64)), (.int 3), (.int 2), (.int 2), (.int 1), (.ref b2061), (.ref b2096)] _
   refine X2361.ldc2Long hx hown (mvT hZ (w98 hw)) (g := (mkF m 155 o9 [(.long q1), (.ref r2090), (.long (2 : Int64)), (.int 3), (.int 2), (.int 2), (.int 1), (.ref b2061), (.ref b2096)])) rfl (hb hby at_155) _ ?_
   refine X2361.ldc2Long hx hown (mvT hZ (w98 hw)) (g := (mkF m 158 o9 [(.long (-1 : Int64)), (.long q1), (.ref r2090), (.long (2 : Int64)), (.int 3), (.int 2), (.int 2), (.int 1), (.ref b2061), (.ref b2096)])) rfl (hb hby at_158) _ ?_
   exact kk)
  by_cases hs161_2364 : (v13_ret (1 : Int32) (tx p3)) < (0 : Int32)
  ·have t2365 := fun {C n d : String} {v : Value} (F : Fld Z _ r2090 C n d v) => ((F.ext E2096).keep Kq2100 (ninS ne_r2090_b2096 nin0)).keep Kq2361 (ninS ne_r2090_xiv_2100 (ninS ne_r2090_xib_2100 (ninS ne_r2090_xie_2100 (ninS ne_r2090_xi_2100 (ninS ne_r2090_xl_2100 (ninS ne_r2090_xmb_2100 (ninS ne_r2090_xme_2100 (ninS ne_r2090_xm_2100 (ninS ne_r2090_xc_2100 (ninS ne_r2090_xk_2100 (ninS ne_r2090_b2096 (ninS ne_r2090_xq_2100 (ninS ne_r2090_xp_2100 nin0)))))))))))))
   have f2366 := t2365 F_ordinal_r2090
   have f2367 := (f2326.keep Kq2361 (ninS ne_b2061_xiv_2100 (ninS ne_b2061_xib_2100 (ninS ne_b2061_xie_2100 (ninS ne_b2061_xi_2100 (ninS ne_b2061_xl_2100 (ninS ne_b2061_xmb_2100 (ninS ne_b2061_xme_2100 (ninS ne_b2061_xm_2100 (ninS ne_b2061_xc_2100 (ninS ne_b2061_xk_2100 (ninS ne_b2061_b2096 (ninS ne_b2061_xq_2100 (ninS ne_b2061_xp_2100 nin0))))))))))))))
   have m2368 : xib_2100 ≠ r2090 := Ne.symm ne_r2090_xib_2100
   have m2369 : xie_2100 ≠ r2090 := Ne.symm ne_r2090_xie_2100
   have m2370 : xi_2100 ≠ r2090 := Ne.symm ne_r2090_xi_2100
   have m2371 : xl_2100 ≠ r2090 := Ne.symm ne_r2090_xl_2100
   have m2372 : xmb_2100 ≠ r2090 := Ne.symm ne_r2090_xmb_2100
   have m2373 : xme_2100 ≠ r2090 := Ne.symm ne_r2090_xme_2100
   have m2374 : xm_2100 ≠ r2090 := Ne.symm ne_r2090_xm_2100
   have f2375 := ((f2108.keep Kq2100).keep Kq2361)
   have m2376 : xc_2100 ≠ r2090 := Ne.symm ne_r2090_xc_2100
   have Zz2377 : n0 ≤ T2361.heap.size := (Nat.le_trans Z0 K2361.1)
   obtain ⟨cq2377, kq2377, q2377a, q2377b, q2377c⟩ := isOf hZ rfl Eq2361_2
   obtain ⟨_, _, ⟨T2377, L2377, k2377, n2377⟩, -, X2377, ⟨Lc2377, hQ2377, l2377, y2377, z2377⟩, st2377⟩ := X2361.virtualBack hx (y := M33_) (z := M33_) hown (mvT hZ (w99 hw)) (mvT hZ (w100 hw)) (notFace_of_selects (args := #[]) (mvT hZ (w102 hw))) (mvT hZ (w102 hw)) (mvT hZ (w101 hw)) (by decide) (backOf (W := 0) (rm11hf l Z a0 hw [] b2096 b2061 (1 : Int32) (2 : Int32) (2 : Int32) (3 : Int32) (2 : Int64) r2090 q1 (-1 : Int64) (-1 : Int64) xi_2100 xiv_2100 k2061 (tx p3) k_xiv_2100 ((2 : Int32) * (cp p5)) (v0_136_L0_1 p3 p5) (v0_136_f_expectedSlots p5) ((0 : Int32) + (1 : Int32)) xie_2100 k_xie_2100 (cp p5) (v0_136_L2_1 p5) xib_2100 k_xib_2100 ((8 : Int32) * (cp p5)) (v0_136_L1_1 p3 p5) (0 : Int32) (0 : Int64) ((0 : Int32) + (1 : Int32)) xl_2100 k_xl_2100 (cp p5) (v0_136_L3_1 p5) xm_2100 (odn11_173_f_size (0 : Int32)) xme_2100 k_xme_2100 (cp p5) (v0_136_L5_1 p5) xmb_2100 k_xmb_2100 ((4 : Int32) * (cp p5)) (v0_136_L4_1 p3 p5) (v0_136_f_expectedSlots_1 p5) .null .null (0 : Int32) (0 : Int64) xc_2100 (v1_r_ordinal (((p4.toUInt32 >>> ((3 : Int32) &&& 31).toUInt32).toInt32) &&& (7 : Int32))) k_xc_2100 (cp p5) (v0_136_L6_1 p4 p5) xk_2100 k_xk_2100 (v0_136_L7_1 p4) .null xq_2100 k_xq_2100 (cp p5) (v0_136_L8_1 q0 p5) xp_2100 k_xp_2100 (cp p5) (v0_136_L9 p5) (.ref xu_2100) (9223372036854775807 : Int64) (-9223372036854775808 : Int64) (0 : Int32) T2361.heap n0 Zz2377 (own_clt p5 (by decide)) (own_E1 p5 0 1 rfl) (own_c8 p5) (by decide) (by decide) (hs161_2364) (own_c2 p5) (own_es p5) (by decide) (own_clt p5 (by decide)) (own_E1 p5 2 3 rfl) (own_c4 p5) (by decide) (by decide) (by decide) (by decide) (own_ord _) (by decide) (by decide) (own_c1 p5) (own_c1 p5) (own_c1 p5) (own_c1 p5) Fq2361_22 Fq2361_2 f2367 VL2073 V2361n VL2361n Fn2361_3 Fq2361_6 Fq2361_1 V2361n2 VL2361n2 Fq2361_0 V2361n1 VL2361n1 Fq2361_7 Fq2361_8 Eq2361_0 Fq2361_4 Fq2361_5 g_xi_2100 g_xib_2100 nx_xib_xie_2100 g_xie_2100 Fq2361_28 m2330 m2331 m2332 Fq2361_24 V2361n3 VL2361n3 nx_xib_xl_2100 nx_xie_xl_2100 g_xl_2100 Fq2361_23 m2333 Fq2361_15 nx_xib_xm_2100 nx_xie_xm_2100 nx_xi_xm_2100 m2334 Fq2361_10 V2361n5 VL2361n5 Fq2361_9 V2361n4 VL2361n4 Fn2361_12 Fq2361_13 Fq2361_14 Fq2361_16 Fq2361_17 Fq2361_11 nx_xib_xme_2100 nx_xie_xme_2100 nx_xme_xl_2100 nx_xib_xmb_2100 m2335 nx_xmb_xl_2100 m2337 m2338 m2339 Eq2361_1 g_xmb_2100 nx_xmb_xme_2100 g_xme_2100 g_xm_2100 Fq2361_25 m2340 m2341 m2342 f2366 m2368 m2369 m2370 m2371 m2372 m2373 m2374 f2375 V2361n6 VL2361n6 nx_xib_xc_2100 nx_xie_xc_2100 m2352 nx_xmb_xc_2100 nx_xme_xc_2100 g_xc_2100 Fq2361_19 m2353 m2376 V2361n7 VL2361n7 m2356 m2357 nx_xk_xl_2100 m2358 m2359 nx_xk_xc_2100 g_xk_2100 Eq2361_2 Fq2361_29 g_b2096 Fq2361_26 V2361n8 VL2361n8 nx_xib_xq_2100 nx_xie_xq_2100 nx_xl_xq_2100 nx_xmb_xq_2100 nx_xme_xq_2100 nx_xc_xq_2100 nx_xk_xq_2100 g_xq_2100 Fq2361_27 V2361n9 VL2361n9 nx_xib_xp_2100 nx_xie_xp_2100 nx_xl_xp_2100 nx_xmb_xp_2100 nx_xme_xp_2100 nx_xc_xp_2100 nx_xk_xp_2100 m2360 g_xp_2100 Fq2361_30 Fq2361_18 Fq2361_20 Fq2361_21 Fq2361_31) hZ (w103 hw) (w12 hw) (by decide) (by decide)) q2377a q2377c (g := (mkF m 161 o9 [(.long (-1 : Int64)), (.long (-1 : Int64)), (.long q1), (.ref r2090), (.long (2 : Int64)), (.int 3), (.int 2), (.int 2), (.int 1), (.ref b2061), (.ref b2096)])) rfl (by rw [hml]; rfl) (Steps.refl _) (argsL := [(.ref b2061), (.int 1), (.int 2), (.int 2), (.int 3), (.long (2 : Int64)), (.ref r2090), (.long q1), (.long (-1 : Int64)), (.long (-1 : Int64))]) (rest := []) (lenOf pd_9 rfl) rfl (Nat.le_of_eq rfl) (hb hby at_161) (fun _ _ => ⟨rfl, rfl, (by decide : 15 + 1 ≤ _), (by decide : 6163 + 512 ≤ _)⟩)
   dsimp only [Pt.U, Pt.locs, Pt.cells, Pt.slots] at X2377 l2377 y2377 z2377 st2377 hQ2377
   subst l2377 y2377 z2377
   obtain ⟨xs_2377, k_xs_2377, rfl, N2377q, Kq2377, Eq2377_0, Eq2377_1, Eq2377_2, Fq2377_0, Fq2377_1, Fq2377_2, Fq2377_3, Fq2377_4, Fq2377_5, Fq2377_6, Fq2377_7, Fq2377_8, Fq2377_9, Fq2377_10, Fq2377_11, Fq2377_12, Fq2377_13, Fq2377_14, Fq2377_15, Fq2377_16, Fq2377_17, Fq2377_18, Fq2377_19, Fq2377_20, Fq2377_21, Fq2377_22, Fq2377_23, Fq2377_24, Fq2377_25, Fq2377_26, Fq2377_27, Fq2377_28, Fq2377_29, Fq2377_30, Fq2377_31, Vq2377_0, VLq2377_0, Vq2377_1, VLq2377_1, Vq2377_2, VLq2377_2, Vq2377_3, VLq2377_3, Vq2377_4, VLq2377_4, Vq2377_5, VLq2377_5, Vq2377_6, VLq2377_6, Vq2377_7, VLq2377_7, Vq2377_8, VLq2377_8, sx_xs_2377, Vx_xs_2377, VLx_xs_2377⟩ := hQ2377
   have O2378 := ((O2099.keep Kq2100 (allS g_b2096 all0)).keep Kq2361 (allS g_xiv_2100 (allS g_xib_2100 (allS g_xie_2100 (allS g_xi_2100 (allS g_xl_2100 (allS g_xmb_2100 (allS g_xme_2100 (allS g_xm_2100 (allS g_xc_2100 (allS g_xk_2100 (allS g_b2096 (allS g_xq_2100 (allS g_xp_2100 all0))))))))))))))
   have f2379 := zht.ext O2378.2
   have f2380 := zdz.ext O2378.2
   have f2381 := zhf.ext O2378.2
   have f2382 := ziv.ext O2378.2
   have f2383 := zif.ext O2378.2
   have f2384 := (f2351.keep Kq2361)
   have f2385 := ((f2109.keep Kq2100).keep Kq2361)
   have f2386 := zfy.ext O2378.2
   have f2387 := (Ex_xu_2100.keep Kq2361)
   have ne_b2061_xs_2377 : b2061 ≠ xs_2377 := Nat.ne_of_lt (Nat.lt_of_lt_of_le f2367.lt sx_xs_2377)
   have zni : zcl ≠ xs_2377 := Nat.ne_of_lt (Nat.lt_of_lt_of_le f2379.lt sx_xs_2377)
   have zlg : zau ≠ xs_2377 := Nat.ne_of_lt (Nat.lt_of_lt_of_le f2380.lt sx_xs_2377)
   have zmk : zca ≠ xs_2377 := Nat.ne_of_lt (Nat.lt_of_lt_of_le f2381.lt sx_xs_2377)
   have zop : o_BUY ≠ xs_2377 := Nat.ne_of_lt (Nat.lt_of_lt_of_le f2382.lt sx_xs_2377)
   have zoe : o_SELL ≠ xs_2377 := Nat.ne_of_lt (Nat.lt_of_lt_of_le f2383.lt sx_xs_2377)
   have ne_r2087_xs_2377 : r2087 ≠ xs_2377 := Nat.ne_of_lt (Nat.lt_of_lt_of_le f2384.lt sx_xs_2377)
   have ne_r2090_xs_2377 : r2090 ≠ xs_2377 := Nat.ne_of_lt (Nat.lt_of_lt_of_le f2375.lt sx_xs_2377)
   have ne_r2093_xs_2377 : r2093 ≠ xs_2377 := Nat.ne_of_lt (Nat.lt_of_lt_of_le f2385.lt sx_xs_2377)
   have ne_b2096_xs_2377 : b2096 ≠ xs_2377 := Nat.ne_of_lt (Nat.lt_of_lt_of_le Eq2361_2.lt sx_xs_2377)
   have znj : zci ≠ xs_2377 := Nat.ne_of_lt (Nat.lt_of_lt_of_le f2386.lt sx_xs_2377)
   have ne_xu_2100_xs_2377 : xu_2100 ≠ xs_2377 := Nat.ne_of_lt (Nat.lt_of_lt_of_le f2387.lt sx_xs_2377)
   have ne_xk_2100_xs_2377 : xk_2100 ≠ xs_2377 := Nat.ne_of_lt (Nat.lt_of_lt_of_le V2361n7.lt sx_xs_2377)
   have ne_xi_2100_xs_2377 : xi_2100 ≠ xs_2377 := Nat.ne_of_lt (Nat.lt_of_lt_of_le Eq2361_0.lt sx_xs_2377)
   have ne_xib_2100_xs_2377 : xib_2100 ≠ xs_2377 := Nat.ne_of_lt (Nat.lt_of_lt_of_le V2361n1.lt sx_xs_2377)
   have ne_xie_2100_xs_2377 : xie_2100 ≠ xs_2377 := Nat.ne_of_lt (Nat.lt_of_lt_of_le V2361n2.lt sx_xs_2377)
   have ne_xiv_2100_xs_2377 : xiv_2100 ≠ xs_2377 := Nat.ne_of_lt (Nat.lt_of_lt_of_le V2361n.lt sx_xs_2377)
   have ne_xm_2100_xs_2377 : xm_2100 ≠ xs_2377 := Nat.ne_of_lt (Nat.lt_of_lt_of_le Eq2361_1.lt sx_xs_2377)
   have ne_xmb_2100_xs_2377 : xmb_2100 ≠ xs_2377 := Nat.ne_of_lt (Nat.lt_of_lt_of_le V2361n4.lt sx_xs_2377)
   have ne_xme_2100_xs_2377 : xme_2100 ≠ xs_2377 := Nat.ne_of_lt (Nat.lt_of_lt_of_le V2361n5.lt sx_xs_2377)
   have ne_xl_2100_xs_2377 : xl_2100 ≠ xs_2377 := Nat.ne_of_lt (Nat.lt_of_lt_of_le V2361n3.lt sx_xs_2377)
   have ne_xc_2100_xs_2377 : xc_2100 ≠ xs_2377 := Nat.ne_of_lt (Nat.lt_of_lt_of_le V2361n6.lt sx_xs_2377)
   have ne_xq_2100_xs_2377 : xq_2100 ≠ xs_2377 := Nat.ne_of_lt (Nat.lt_of_lt_of_le V2361n8.lt sx_xs_2377)
   have ne_xp_2100_xs_2377 : xp_2100 ≠ xs_2377 := Nat.ne_of_lt (Nat.lt_of_lt_of_le V2361n9.lt sx_xs_2377)
   have sz_xs_2377 : h0.size ≤ xs_2377 := Nat.le_trans K2361.1 sx_xs_2377
   have g_xs_2377 : n0 ≤ xs_2377 := Nat.le_trans Z0 sz_xs_2377
   have K2377 : Keep h0 T2377.heap [] := K2361.trans Kq2377 (allS (Or.inr sz_xib_2100) (allS (Or.inr sz_xie_2100) (allS (Or.inr sz_xi_2100) (allS (Or.inr sz_xl_2100) (allS (Or.inr sz_xmb_2100) (allS (Or.inr sz_xme_2100) (allS (Or.inr sz_xm_2100) (allS (Or.inr sz_xc_2100) (allS (Or.inr sz_xk_2100) (allS (Or.inr sz_b2096) (allS (Or.inr sz_xq_2100) (allS (Or.inr sz_xp_2100) all0))))))))))))
   have Fn2377_6 : Fld Z T2377.heap xi_2100 cBs "size" "I" (.int v0_161_f_size) := Fq2377_6
   have Fn2377_15 : Fld Z T2377.heap xm_2100 cBs "size" "I" (.int v0_161_f_size_3) := Fq2377_15
   have Fn2377_28 : Fld Z T2377.heap b2096 cOr "size" "I" (.int v0_161_f_size) := Fq2377_28
   have V2377n : Arv Z T2377.heap xib_2100 k_xib_2100 .byte ((8 : Int32) * (cp p5)) (List.map Value.int (v0_161_L0_2 p3 p5)) (.int 0) := Vq2377_0
   have VL2377n : (v0_161_L0_2 p3 p5).length = (((8 : Int32) * (cp p5))).toNatClampNeg := VLq2377_0
   have V2377n1 : Arv Z T2377.heap xie_2100 k_xie_2100 .int (cp p5) (List.map Value.int (v0_161_L1_2 p5)) (.int 0) := Vq2377_1
   have VL2377n1 : (v0_161_L1_2 p5).length = ((cp p5)).toNatClampNeg := VLq2377_1
   have V2377n2 : Arv Z T2377.heap xl_2100 k_xl_2100 .long (cp p5) (List.map Value.long (v0_161_L2_1 p5)) (.long (0 : Int64)) := Vq2377_2
   have VL2377n2 : (v0_161_L2_1 p5).length = ((cp p5)).toNatClampNeg := VLq2377_2
   have V2377n3 : Arv Z T2377.heap xmb_2100 k_xmb_2100 .byte ((4 : Int32) * (cp p5)) (List.map Value.int (v0_161_L3_1 p3 p5)) (.int 0) := Vq2377_3
   have VL2377n3 : (v0_161_L3_1 p3 p5).length = (((4 : Int32) * (cp p5))).toNatClampNeg := VLq2377_3
   have V2377n4 : Arv Z T2377.heap xme_2100 k_xme_2100 .int (cp p5) (List.map Value.int (v0_161_L4_2 p5)) (.int 0) := Vq2377_4
   have VL2377n4 : (v0_161_L4_2 p5).length = ((cp p5)).toNatClampNeg := VLq2377_4
   have V2377n5 : Arv Z T2377.heap xc_2100 k_xc_2100 .byte (cp p5) (List.map Value.int (v0_161_L5_2 p4 p5)) (.int 0) := Vq2377_5
   have VL2377n5 : (v0_161_L5_2 p4 p5).length = ((cp p5)).toNatClampNeg := VLq2377_5
   have V2377n6 : Arv Z T2377.heap xk_2100 k_xk_2100 .int 5 (List.map Value.int (v0_161_L6_2 p4)) (.int 0) := Vq2377_6
   have VL2377n6 : (v0_161_L6_2 p4).length = ((5 : Int32)).toNatClampNeg := VLq2377_6
   have V2377n7 : Arv Z T2377.heap xq_2100 k_xq_2100 .long (cp p5) (List.map Value.long (v0_161_L7_2 q0 q1 p5)) (.long (0 : Int64)) := Vq2377_7
   have VL2377n7 : (v0_161_L7_2 q0 q1 p5).length = ((cp p5)).toNatClampNeg := VLq2377_7
   have V2377n8 : Arv Z T2377.heap xp_2100 k_xp_2100 .long (cp p5) (List.map Value.long (v0_161_L8_1 p5)) (.long (0 : Int64)) := Vq2377_8
   have VL2377n8 : (v0_161_L8_1 p5).length = ((cp p5)).toNatClampNeg := VLq2377_8
   have N2377 := Fr.app N2361 N2377q
   have k2388 := fun t (kk : SF p e below T2377 m 164 o9 [(.int (ohf11_10_l15 ((0 : Int32) + (1 : Int32))))] t) => k2363 t (st2377.trans kk)
   have k2389 := fun t (kk : SF p e below T2377 m 187 o16 [(.long (-1 : Int64)), (.long (-1 : Int64)), (.long q2), (.ref r2093), (.long (3 : Int64)), (.int 3), (.int 2), (.int 1), (.int 0), (.ref b2061), (.ref b2096)] t) => k2388 t (by
    refine XS.istore X2377.here hx rfl (hb hby at_164) rfl (l' := o16) rfl ?_
    refine XS.aload X2377.here hx rfl (hb hby at_166) rfl rfl ?_
    refine XS.aload X2377.here hx rfl (hb hby at_168) rfl rfl ?_
    refine XS.iconst X2377.here hx rfl (hb hby at_170) ?_
    refine XS.iconst X2377.here hx rfl (hb hby at_171) ?_
    refine XS.iconst X2377.here hx rfl (hb hby at_172) ?_
    refine XS.iconst X2377.here hx rfl (hb hby at_173) ?_
    refine X2377.ldc2Long hx hown (mvT hZ (w154 hw)) (g := (mkF m 174 o16 [(.int 3), (.int 2), (.int 1), (.int 0), (.ref b2061), (.ref b2096)])) rfl (hb hby at_174) _ ?_
    refine XS.aload X2377.here hx rfl (hb hby at_177) rfl rfl ?_
    refine XS.lload X2377.here hx rfl (hb hby at_179) rfl ?_
    show SF p e below T2377 m 181 o16 [(.long q2), (.ref r2093), (.long (3 : Int64)), (.int 3), (.int 2), (.int 1), (.int 0), (.ref b2061), (.ref b2096)] _
    refine X2377.ldc2Long hx hown (mvT hZ (w98 hw)) (g := (mkF m 181 o16 [(.long q2), (.ref r2093), (.long (3 : Int64)), (.int 3), (.int 2), (.int 1), (.int 0), (.ref b2061), (.ref b2096)])) rfl (hb hby at_181) _ ?_
    refine X2377.ldc2Long hx hown (mvT hZ (w98 hw)) (g := (mkF m 184 o16 [(.long (-1 : Int64)), (.long q2), (.ref r2093), (.long (3 : Int64)), (.int 3), (.int 2), (.int 1), (.int 0), (.ref b2061), (.ref b2096)])) rfl (hb hby at_184) _ ?_
    exact kk)
   have f2390 := (f2367.keep Kq2377 (ninS ne_b2061_xib_2100 (ninS ne_b2061_xie_2100 (ninS ne_b2061_xi_2100 (ninS ne_b2061_xl_2100 (ninS ne_b2061_xmb_2100 (ninS ne_b2061_xme_2100 (ninS ne_b2061_xm_2100 (ninS ne_b2061_xc_2100 (ninS ne_b2061_xk_2100 (ninS ne_b2061_b2096 (ninS ne_b2061_xq_2100 (ninS ne_b2061_xp_2100 nin0)))))))))))))
   have m2391 : xiv_2100 ≠ xi_2100 := Ne.symm nx_xi_xiv_2100
   have f2392 := (V2361n.keep Kq2377 (ninS m2328 (ninS m2327 (ninS m2391 (ninS nx_xiv_xl_2100 (ninS nx_xiv_xmb_2100 (ninS nx_xiv_xme_2100 (ninS nx_xiv_xm_2100 (ninS nx_xiv_xc_2100 (ninS m2355 (ninS m2329 (ninS nx_xiv_xq_2100 (ninS nx_xiv_xp_2100 nin0)))))))))))))
   have Zz2393 : n0 ≤ T2377.heap.size := (Nat.le_trans Z0 K2377.1)
   obtain ⟨cq2393, kq2393, q2393a, q2393b, q2393c⟩ := isOf hZ rfl Eq2377_2
   obtain ⟨_, _, ⟨T2393, L2393, k2393, n2393⟩, -, X2393, ⟨Lc2393, hQ2393, l2393, y2393, z2393⟩, st2393⟩ := X2377.virtualBack hx (y := M33_) (z := M33_) hown (mvT hZ (w99 hw)) (mvT hZ (w100 hw)) (notFace_of_selects (args := #[]) (mvT hZ (w102 hw))) (mvT hZ (w102 hw)) (mvT hZ (w101 hw)) (by decide) (backOf (W := 0) (rm11do l Z a0 hw [] b2096 b2061 (0 : Int32) (1 : Int32) (2 : Int32) (3 : Int32) (3 : Int64) r2093 q2 (-1 : Int64) (-1 : Int64) xi_2100 xiv_2100 k2061 (tx p3) k_xiv_2100 ((2 : Int32) * (cp p5)) (v0_136_L0_1 p3 p5) v0_161_f_size T2377.heap n0 Zz2393 (by decide) (by decide) (own_c2 p5) (hs136_2113) (own_v10 _ _) (own_n0 (own_bv0 p3 p5)) (own_zlt (own_s1 (own_bv0 p3 p5)) (by decide)) Fq2377_22 Fq2377_2 f2390 VL2073 f2392 VL2361n Eq2377_0 Fn2377_28) hZ (w103 hw) (w12 hw) (by decide) (by decide)) q2393a q2393c (g := (mkF m 187 o16 [(.long (-1 : Int64)), (.long (-1 : Int64)), (.long q2), (.ref r2093), (.long (3 : Int64)), (.int 3), (.int 2), (.int 1), (.int 0), (.ref b2061), (.ref b2096)])) rfl (by rw [hml]; rfl) (Steps.refl _) (argsL := [(.ref b2061), (.int 0), (.int 1), (.int 2), (.int 3), (.long (3 : Int64)), (.ref r2093), (.long q2), (.long (-1 : Int64)), (.long (-1 : Int64))]) (rest := []) (lenOf pd_9 rfl) rfl (Nat.le_of_eq rfl) (hb hby at_187) (fun _ _ => ⟨rfl, rfl, (by decide : 16 + 0 ≤ _), (by decide : 6675 + 0 ≤ _)⟩)
   dsimp only [Pt.U, Pt.locs, Pt.cells, Pt.slots] at X2393 l2393 y2393 z2393 st2393 hQ2393
   subst l2393 y2393 z2393
   obtain ⟨rfl, N2393q, e2393⟩ := hQ2393
   have N2393 := Fr.app N2377 N2393q
   have k2394 := fun t (kk : SF p e below T2393 m 190 o16 [(.int (odo11_10_l15 (0 : Int32) (tx p3) (v0_136_L0_1 p3 p5)))] t) => k2389 t (st2393.trans kk)
   have k2397 := fun t (kk : SF p e below T2393 m 208 o4 [(.int 0)] t) => k2394 t (by
    refine XS.istore X2393.here hx rfl (hb hby at_190) rfl (l' := o27) rfl ?_
    refine XS.iload X2393.here hx rfl (hb hby at_192) rfl ?_
    refine XS.iload X2393.here hx rfl (hb hby at_194) rfl ?_
    suffices k2396 : SF p e below T2393 m 204 #[.val (.long q0), .second, .val (.long q1), .second, .val (.long q2), .second, iv p3, iv p4, iv p5, iv (v0_7_l9 p3), iv (v0_16_s0 p3), iv (v0_46_l11 p3), rv b2061, rv r2087, rv r2090, rv r2093, rv b2096, iv 0, iv v0_164_l18_2, iv (v0_190_l19_2 p3 p5), .unset] [(.int (v0_196_s0 p3))] t by
     by_cases hc196_2395 : (v0_7_l9 p3) = (v0_16_s0 p3)
     ·rw [(show (v0_196_s0 p3) = (1 : Int32) from if_pos hc196_2395)] at k2396
      refine XS.icmpNo X2393.here hx rfl (hb hby at_196) rfl (teq hc196_2395).2 ?_
      refine XS.iconst X2393.here hx rfl (hb hby at_199) ?_
      refine XS.goto X2393.here hx rfl (pc0 := 200) (pc' := 204) rfl (hb hby at_200) (by decide) (by decide) ?_
      exact k2396
     ·rw [(show (v0_196_s0 p3) = (0 : Int32) from if_neg hc196_2395)] at k2396
      refine XS.icmpYes X2393.here hx rfl (pc0 := 196) (pc' := 203) rfl (hb hby at_196) rfl (feq hc196_2395).2 (by decide) (by decide) ?_
      refine XS.iconst X2393.here hx rfl (hb hby at_203) ?_
      exact k2396
    refine XS.istore X2393.here hx rfl (hb hby at_204) rfl (l' := o4) rfl ?_
    refine XS.iload X2393.here hx rfl (hb hby at_206) rfl ?_
    exact kk)
   have hc208_2398 : (0 : Int32) = (0 : Int32) := by decide
   have k2399 := fun t (kk : SF p e below T2393 m 213 o4 [(.int (v0_190_l19_2 p3 p5))] t) => k2397 t (by
    show SF p e below T2393 m 208 o4 [(.int 0)] _
    refine XS.ifNo X2393.here hx rfl (hb hby at_208) rfl ((if0 _ _).trans (teq hc208_2398).2) ?_
    refine XS.iload X2393.here hx rfl (hb hby at_211) rfl ?_
    exact kk)
   have hc213_2400 : (v0_190_l19_2 p3 p5) = (0 : Int32) := own_s1 (own_bv0 p3 p5)
   have k2403 := fun t (kk : SF p e below T2393 m 230 o4 [(.int (v0_222_s0 p3)), (.int v0_164_l18_2)] t) => k2399 t (by
    refine XS.ifYes X2393.here hx rfl (pc0 := 213) (pc' := 218) rfl (hb hby at_213) rfl ((if0 _ _).trans (teq hc213_2400).1) (by decide) (by decide) ?_
    refine XS.iload X2393.here hx rfl (hb hby at_218) rfl ?_
    refine XS.iload X2393.here hx rfl (hb hby at_220) rfl ?_
    suffices k2402 : SF p e below T2393 m 230 #[.val (.long q0), .second, .val (.long q1), .second, .val (.long q2), .second, iv p3, iv p4, iv p5, iv (v0_7_l9 p3), iv (v0_16_s0 p3), iv (v0_46_l11 p3), rv b2061, rv r2087, rv r2090, rv r2093, rv b2096, iv 0, iv v0_164_l18_2, iv (v0_190_l19_2 p3 p5), iv (v0_196_s0 p3)] [(.int (v0_222_s0 p3)), (.int v0_164_l18_2)] t by
     by_cases hc222_2401 : (v0_196_s0 p3) = (0 : Int32)
     ·rw [(show (v0_222_s0 p3) = (1 : Int32) from if_pos hc222_2401)] at k2402
      refine XS.ifYes X2393.here hx rfl (pc0 := 222) (pc' := 229) rfl (hb hby at_222) rfl ((if0 _ _).trans (teq hc222_2401).1) (by decide) (by decide) ?_
      refine XS.iconst X2393.here hx rfl (hb hby at_229) ?_
      exact k2402
     ·rw [(show (v0_222_s0 p3) = (0 : Int32) from if_neg hc222_2401)] at k2402
      refine XS.ifNo X2393.here hx rfl (hb hby at_222) rfl ((if0 _ _).trans (feq hc222_2401).1) ?_
      refine XS.iconst X2393.here hx rfl (hb hby at_225) ?_
      refine XS.goto X2393.here hx rfl (pc0 := 226) (pc' := 230) rfl (hb hby at_226) (by decide) (by decide) ?_
      exact k2402
    exact kk)
   have hc230_2404 : v0_164_l18_2 = (v0_222_s0 p3) := (show v0_164_l18_2 = (1 : Int32) from (by decide)).trans (own_222n p3 (own_nq2 p3 hs136_2113 hs161_2364))
   have k2405 := fun t (kk : SF p e below T2393 m 237 o4 [(.ref b2096)] t) => k2403 t (by
    refine XS.icmpYes X2393.here hx rfl (pc0 := 230) (pc' := 235) rfl (hb hby at_230) rfl (teq hc230_2404).1 (by decide) (by decide) ?_
    refine XS.aload X2393.here hx rfl (hb hby at_235) rfl rfl ?_
    exact kk)
   have Zz2406 : n0 ≤ T2377.heap.size := (Nat.le_trans Z0 K2377.1)
   obtain ⟨cq2406, kq2406, q2406a, q2406b, q2406c⟩ := isOf hZ e2393 Eq2377_2
   obtain ⟨_, _, ⟨T2406, L2406, k2406, n2406⟩, -, X2406, ⟨Lc2406, hQ2406, l2406, y2406, z2406⟩, st2406⟩ := X2393.virtualBack hx (y := M35_) (z := M35_) hown (mvT hZ (w163 hw)) (mvT hZ (w164 hw)) (notFace_of_selects (args := #[]) (mvT hZ (w166 hw))) (mvT hZ (w166 hw)) (mvT hZ (w165 hw)) (by decide) (backOf (W := 0) (rm20 l Z a0 hw [] b2096 v0_161_f_size T2377.heap n0 Zz2406 Fn2377_28) hZ (w167 hw) (w12 hw) (by decide) (by decide)) q2406a q2406c (g := (mkF m 237 o4 [(.ref b2096)])) rfl (by rw [hml]; rfl) (Steps.refl _) (argsL := []) (rest := []) (lenOf pd_4 rfl) rfl (Nat.le_of_eq rfl) (hb hby at_237) (fun _ _ => ⟨rfl, e2393, (by decide : 16 + 0 ≤ _), (by decide : 6675 + 0 ≤ _)⟩)
   dsimp only [Pt.U, Pt.locs, Pt.cells, Pt.slots] at X2406 l2406 y2406 z2406 st2406 hQ2406
   subst l2406 y2406 z2406
   obtain ⟨rfl, N2406q, e2406⟩ := hQ2406
   have N2406 := Fr.app N2393 N2406q
   have k2407 := fun t (kk : SF p e below T2406 m 240 o4 [(.int v0_161_f_size)] t) => k2405 t (st2406.trans kk)
   have k2410 := fun t (kk : SF p e below T2406 m 250 o4 [(.int (v0_242_s0 p3)), (.int v0_161_f_size)] t) => k2407 t (by
    show SF p e below T2406 m 240 o4 [(.int v0_161_f_size)] _
    refine XS.iload X2406.here hx rfl (hb hby at_240) rfl ?_
    suffices k2409 : SF p e below T2406 m 250 #[.val (.long q0), .second, .val (.long q1), .second, .val (.long q2), .second, iv p3, iv p4, iv p5, iv (v0_7_l9 p3), iv (v0_16_s0 p3), iv (v0_46_l11 p3), rv b2061, rv r2087, rv r2090, rv r2093, rv b2096, iv 0, iv v0_164_l18_2, iv (v0_190_l19_2 p3 p5), iv (v0_196_s0 p3)] [(.int (v0_242_s0 p3)), (.int v0_161_f_size)] t by
     by_cases hc242_2408 : (v0_196_s0 p3) = (0 : Int32)
     ·rw [(show (v0_242_s0 p3) = (2 : Int32) from if_pos hc242_2408)] at k2409
      refine XS.ifYes X2406.here hx rfl (pc0 := 242) (pc' := 249) rfl (hb hby at_242) rfl ((if0 _ _).trans (teq hc242_2408).1) (by decide) (by decide) ?_
      refine XS.iconst X2406.here hx rfl (hb hby at_249) ?_
      exact k2409
     ·rw [(show (v0_242_s0 p3) = (1 : Int32) from if_neg hc242_2408)] at k2409
      refine XS.ifNo X2406.here hx rfl (hb hby at_242) rfl ((if0 _ _).trans (feq hc242_2408).1) ?_
      refine XS.iconst X2406.here hx rfl (hb hby at_245) ?_
      refine XS.goto X2406.here hx rfl (pc0 := 246) (pc' := 250) rfl (hb hby at_246) (by decide) (by decide) ?_
      exact k2409
    exact kk)
   have hc250_2411 : v0_161_f_size = (v0_242_s0 p3) := (show v0_161_f_size = (2 : Int32) from (by decide)).trans (own_242n p3 (own_nq2 p3 hs136_2113 hs161_2364))
   have k2412 := fun t (kk : SF p e below T2406 m 258 o4 [(.int 0), (.ref b2096)] t) => k2410 t (by
    refine XS.icmpYes X2406.here hx rfl (pc0 := 250) (pc' := 255) rfl (hb hby at_250) rfl (teq hc250_2411).1 (by decide) (by decide) ?_
    refine XS.aload X2406.here hx rfl (hb hby at_255) rfl rfl ?_
    refine XS.iconst X2406.here hx rfl (hb hby at_257) ?_
    exact kk)
   have Zz2413 : n0 ≤ T2377.heap.size := (Nat.le_trans Z0 K2377.1)
   obtain ⟨cq2413, kq2413, q2413a, q2413b, q2413c⟩ := isOf hZ e2406 Eq2377_2
   obtain ⟨_, _, ⟨T2413, L2413, k2413, n2413⟩, -, X2413, ⟨Lc2413, hQ2413, l2413, y2413, z2413⟩, st2413⟩ := X2406.virtualBack hx (y := M36_) (z := M36_) hown (mvT hZ (w168 hw)) (mvT hZ (w169 hw)) (notFace_of_selects (args := #[]) (mvT hZ (w171 hw))) (mvT hZ (w171 hw)) (mvT hZ (w170 hw)) (by decide) (backOf (W := 0) (rm21 l Z a0 hw [] b2096 (0 : Int32) xq_2100 k_xq_2100 (cp p5) (v0_161_L7_2 q0 q1 p5) T2377.heap n0 Zz2413 (own_clt p5 (by decide)) Fq2377_26 V2377n7 VL2377n7) hZ (w172 hw) (w12 hw) (by decide) (by decide)) q2413a q2413c (g := (mkF m 258 o4 [(.int 0), (.ref b2096)])) rfl (by rw [hml]; rfl) (Steps.refl _) (argsL := [(.int 0)]) (rest := []) (lenOf pd_10 rfl) rfl (Nat.le_of_eq rfl) (hb hby at_258) (fun _ _ => ⟨rfl, e2406, (by decide : 16 + 0 ≤ _), (by decide : 6675 + 0 ≤ _)⟩)
   dsimp only [Pt.U, Pt.locs, Pt.cells, Pt.slots] at X2413 l2413 y2413 z2413 st2413 hQ2413
   subst l2413 y2413 z2413
   obtain ⟨rfl, N2413q, e2413⟩ := hQ2413
   have N2413 := Fr.app N2406 N2413q
   have k2414 := fun t (kk : SF p e below T2413 m 261 o4 [(.long (v21_5_at (0 : Int32) (v0_161_L7_2 q0 q1 p5)))] t) => k2412 t (st2413.trans kk)
   have k2415 := fun t (kk : SF p e below T2413 m 263 o4 [(.int (lcmpW (v21_5_at (0 : Int32) (v0_161_L7_2 q0 q1 p5)) q0))] t) => k2414 t (by
    refine XS.lloadN X2413.here hx rfl (hb hby at_261) rfl ?_
    refine XS.lcmp X2413.here hx rfl (hb hby at_262) rfl ?_
    exact kk)
   have hc263_2416 : (v21_5_at (0 : Int32) (v0_161_L7_2 q0 q1 p5)) = q0 := own_Q1 q0 q1 p5
   have k2417 := fun t (kk : SF p e below T2413 m 270 o4 [(.int (v0_196_s0 p3))] t) => k2415 t (by
    refine XS.ifYes X2413.here hx rfl (pc0 := 263) (pc' := 268) rfl (hb hby at_263) rfl ((if0 _ _).trans (teq ((lw_eq _ _).mpr hc263_2416)).1) (by decide) (by decide) ?_
    show SF p e below T2413 m 268 o4 [] _
    refine XS.iload X2413.here hx rfl (hb hby at_268) rfl ?_
    exact kk)
   have hc270_2418 : (v0_196_s0 p3) = (0 : Int32) := own_same0 p3 (own_nq2 p3 hs136_2113 hs161_2364)
   have k2419 := fun t (kk : SF p e below T2413 m 276 o4 [(.int 1), (.ref b2096)] t) => k2417 t (by
    refine XS.ifNo X2413.here hx rfl (hb hby at_270) rfl ((if0 _ _).trans (teq hc270_2418).2) ?_
    refine XS.aload X2413.here hx rfl (hb hby at_273) rfl rfl ?_
    refine XS.iconst X2413.here hx rfl (hb hby at_275) ?_
    exact kk)
   have Zz2420 : n0 ≤ T2377.heap.size := (Nat.le_trans Z0 K2377.1)
   obtain ⟨cq2420, kq2420, q2420a, q2420b, q2420c⟩ := isOf hZ e2413 Eq2377_2
   obtain ⟨_, _, ⟨T2420, L2420, k2420, n2420⟩, -, X2420, ⟨Lc2420, hQ2420, l2420, y2420, z2420⟩, st2420⟩ := X2413.virtualBack hx (y := M36_) (z := M36_) hown (mvT hZ (w168 hw)) (mvT hZ (w169 hw)) (notFace_of_selects (args := #[]) (mvT hZ (w171 hw))) (mvT hZ (w171 hw)) (mvT hZ (w170 hw)) (by decide) (backOf (W := 0) (rm21 l Z a0 hw [] b2096 (1 : Int32) xq_2100 k_xq_2100 (cp p5) (v0_161_L7_2 q0 q1 p5) T2377.heap n0 Zz2420 (own_clt p5 (by decide)) Fq2377_26 V2377n7 VL2377n7) hZ (w172 hw) (w12 hw) (by decide) (by decide)) q2420a q2420c (g := (mkF m 276 o4 [(.int 1), (.ref b2096)])) rfl (by rw [hml]; rfl) (Steps.refl _) (argsL := [(.int 1)]) (rest := []) (lenOf pd_10 rfl) rfl (Nat.le_of_eq rfl) (hb hby at_276) (fun _ _ => ⟨rfl, e2413, (by decide : 16 + 0 ≤ _), (by decide : 6675 + 0 ≤ _)⟩)
   dsimp only [Pt.U, Pt.locs, Pt.cells, Pt.slots] at X2420 l2420 y2420 z2420 st2420 hQ2420
   subst l2420 y2420 z2420
   obtain ⟨rfl, N2420q, e2420⟩ := hQ2420
   have N2420 := Fr.app N2413 N2420q
   have k2421 := fun t (kk : SF p e below T2420 m 279 o4 [(.long (v21_5_at (1 : Int32) (v0_161_L7_2 q0 q1 p5)))] t) => k2419 t (st2420.trans kk)
   have k2422 := fun t (kk : SF p e below T2420 m 281 o4 [(.int (lcmpW (v21_5_at (1 : Int32) (v0_161_L7_2 q0 q1 p5)) q1))] t) => k2421 t (by
    refine XS.lloadN X2420.here hx rfl (hb hby at_279) rfl ?_
    refine XS.lcmp X2420.here hx rfl (hb hby at_280) rfl ?_
    exact kk)
   have hc281_2423 : (v21_5_at (1 : Int32) (v0_161_L7_2 q0 q1 p5)) = q1 := own_Q2 q0 q1 p5
   have k2424 := fun t (kk : SF p e below T2420 m 287 o4 [(.int 1)] t) => k2422 t (by
    refine XS.ifYes X2420.here hx rfl (pc0 := 281) (pc' := 286) rfl (hb hby at_281) rfl ((if0 _ _).trans (teq ((lw_eq _ _).mpr hc281_2423)).1) (by decide) (by decide) ?_
    refine XS.iconst X2420.here hx rfl (hb hby at_286) ?_
    exact kk)
   obtain ⟨fs, hr, hrun, hended, hW, hsame⟩ := X2420.leave (v := some (.int 1)) (fun h => by rw [Bd.returns] at h; cases h) hlk
   have hv : (1 : Int32) = (1 : Int32) := rfl
   have hone : (1 : Int32) = 1 := hv.symm.trans (own_law q0 q1 q2 p3 p4 p5)
   refine ⟨_, _, k2424 _ ?_, hrun, hended, _, _, rfl, ?_, ⟨_, rfl⟩, hW, hsame.mono (by decide) (by decide)⟩
   ·show SF p e below T2420 m 287 o4 [(.int 1)] _
    exact retN X2420 hx (t := .boolean) Bd.returns (by simp) (hb hby at_287) hr
   ·show Q0 Z q0 q1 q2 p3 p4 p5 zcl zau zca o_BUY o_SELL zan zci zfj zfk h0 n0 _ T2420.heap _
    rw [e2420]
    exact ⟨congrArg (fun z => some (Value.int z)) hone, N2420⟩
  ·by_cases hs161_2425 : (v0_60_e p3) = (v0_55_e p3)
   ·have f2426 := (f2326.keep Kq2361 (ninS ne_b2061_xiv_2100 (ninS ne_b2061_xib_2100 (ninS ne_b2061_xie_2100 (ninS ne_b2061_xi_2100 (ninS ne_b2061_xl_2100 (ninS ne_b2061_xmb_2100 (ninS ne_b2061_xme_2100 (ninS ne_b2061_xm_2100 (ninS ne_b2061_xc_2100 (ninS ne_b2061_xk_2100 (ninS ne_b2061_b2096 (ninS ne_b2061_xq_2100 (ninS ne_b2061_xp_2100 nin0))))))))))))))
    have Zz2427 : n0 ≤ T2361.heap.size := (Nat.le_trans Z0 K2361.1)
    obtain ⟨cq2427, kq2427, q2427a, q2427b, q2427c⟩ := isOf hZ rfl Eq2361_2
    obtain ⟨_, _, ⟨T2427, L2427, k2427, n2427⟩, -, X2427, ⟨Lc2427, hQ2427, l2427, y2427, z2427⟩, st2427⟩ := X2361.virtualBack hx (y := M33_) (z := M33_) hown (mvT hZ (w99 hw)) (mvT hZ (w100 hw)) (notFace_of_selects (args := #[]) (mvT hZ (w102 hw))) (mvT hZ (w102 hw)) (mvT hZ (w101 hw)) (by decide) (backOf (W := 0) (rm11do l Z a0 hw [] b2096 b2061 (1 : Int32) (2 : Int32) (2 : Int32) (3 : Int32) (2 : Int64) r2090 q1 (-1 : Int64) (-1 : Int64) xi_2100 xiv_2100 k2061 (tx p3) k_xiv_2100 ((2 : Int32) * (cp p5)) (v0_136_L0_1 p3 p5) ((0 : Int32) + (1 : Int32)) T2361.heap n0 Zz2427 (by decide) (by decide) (own_c2 p5) (hs161_2364) (own_v10 _ _) (own_n0 (own_bv0e p3 p5 hs161_2425)) (own_zlt (own_s1 (own_bv0e p3 p5 hs161_2425)) (by decide)) Fq2361_22 Fq2361_2 f2426 VL2073 V2361n VL2361n Eq2361_0 Fq2361_28) hZ (w103 hw) (w12 hw) (by decide) (by decide)) q2427a q2427c (g := (mkF m 161 o9 [(.long (-1 : Int64)), (.long (-1 : Int64)), (.long q1), (.ref r2090), (.long (2 : Int64)), (.int 3), (.int 2), (.int 2), (.int 1), (.ref b2061), (.ref b2096)])) rfl (by rw [hml]; rfl) (Steps.refl _) (argsL := [(.ref b2061), (.int 1), (.int 2), (.int 2), (.int 3), (.long (2 : Int64)), (.ref r2090), (.long q1), (.long (-1 : Int64)), (.long (-1 : Int64))]) (rest := []) (lenOf pd_9 rfl) rfl (Nat.le_of_eq rfl) (hb hby at_161) (fun _ _ => ⟨rfl, rfl, (by decide : 15 + 0 ≤ _), (by decide : 6163 + 0 ≤ _)⟩)
    dsimp only [Pt.U, Pt.locs, Pt.cells, Pt.slots] at X2427 l2427 y2427 z2427 st2427 hQ2427
    subst l2427 y2427 z2427
    obtain ⟨rfl, N2427q, e2427⟩ := hQ2427
    have N2427 := Fr.app N2361 N2427q
    have k2428 := fun t (kk : SF p e below T2427 m 164 o9 [(.int (odo11_10_l15 (1 : Int32) (tx p3) (v0_136_L0_1 p3 p5)))] t) => k2363 t (st2427.trans kk)
    have k2429 := fun t (kk : SF p e below T2427 m 187 o15 [(.long (-1 : Int64)), (.long (-1 : Int64)), (.long q2), (.ref r2093), (.long (3 : Int64)), (.int 3), (.int 2), (.int 1), (.int 0), (.ref b2061), (.ref b2096)] t) => k2428 t (by
     refine XS.istore X2427.here hx rfl (hb hby at_164) rfl (l' := o15) rfl ?_
     refine XS.aload X2427.here hx rfl (hb hby at_166) rfl rfl ?_
     refine XS.aload X2427.here hx rfl (hb hby at_168) rfl rfl ?_
     refine XS.iconst X2427.here hx rfl (hb hby at_170) ?_
     show SF p e below T2427 m 171 o15 [(.int 0), (.ref b2061), (.ref b2096)] _
     refine XS.iconst X2427.here hx rfl (hb hby at_171) ?_
     refine XS.iconst X2427.here hx rfl (hb hby at_172) ?_
     refine XS.iconst X2427.here hx rfl (hb hby at_173) ?_
     refine X2427.ldc2Long hx hown (mvT hZ (w154 hw)) (g := (mkF m 174 o15 [(.int 3), (.int 2), (.int 1), (.int 0), (.ref b2061), (.ref b2096)])) rfl (hb hby at_174) _ ?_
     refine XS.aload X2427.here hx rfl (hb hby at_177) rfl rfl ?_
     refine XS.lload X2427.here hx rfl (hb hby at_179) rfl ?_
     refine X2427.ldc2Long hx hown (mvT hZ (w98 hw)) (g := (mkF m 181 o15 [(.long q2), (.ref r2093), (.long (3 : Int64)), (.int 3), (.int 2), (.int 1), (.int 0), (.ref b2061), (.ref b2096)])) rfl (hb hby at_181) _ ?_
     refine X2427.ldc2Long hx hown (mvT hZ (w98 hw)) (g := (mkF m 184 o15 [(.long (-1 : Int64)), (.long q2), (.ref r2093), (.long (3 : Int64)), (.int 3), (.int 2), (.int 1), (.int 0), (.ref b2061), (.ref b2096)])) rfl (hb hby at_184) _ ?_
     exact kk)
    have Zz2430 : n0 ≤ T2361.heap.size := (Nat.le_trans Z0 K2361.1)
    obtain ⟨cq2430, kq2430, q2430a, q2430b, q2430c⟩ := isOf hZ e2427 Eq2361_2
    obtain ⟨_, _, ⟨T2430, L2430, k2430, n2430⟩, -, X2430, ⟨Lc2430, hQ2430, l2430, y2430, z2430⟩, st2430⟩ := X2427.virtualBack hx (y := M33_) (z := M33_) hown (mvT hZ (w99 hw)) (mvT hZ (w100 hw)) (notFace_of_selects (args := #[]) (mvT hZ (w102 hw))) (mvT hZ (w102 hw)) (mvT hZ (w101 hw)) (by decide) (backOf (W := 0) (rm11do l Z a0 hw [] b2096 b2061 (0 : Int32) (1 : Int32) (2 : Int32) (3 : Int32) (3 : Int64) r2093 q2 (-1 : Int64) (-1 : Int64) xi_2100 xiv_2100 k2061 (tx p3) k_xiv_2100 ((2 : Int32) * (cp p5)) (v0_136_L0_1 p3 p5) ((0 : Int32) + (1 : Int32)) T2361.heap n0 Zz2430 (by decide) (by decide) (own_c2 p5) (hs136_2113) (own_v10 _ _) (own_n0 (own_bv0 p3 p5)) (own_zlt (own_s1 (own_bv0 p3 p5)) (by decide)) Fq2361_22 Fq2361_2 f2426 VL2073 V2361n VL2361n Eq2361_0 Fq2361_28) hZ (w103 hw) (w12 hw) (by decide) (by decide)) q2430a q2430c (g := (mkF m 187 o15 [(.long (-1 : Int64)), (.long (-1 : Int64)), (.long q2), (.ref r2093), (.long (3 : Int64)), (.int 3), (.int 2), (.int 1), (.int 0), (.ref b2061), (.ref b2096)])) rfl (by rw [hml]; rfl) (Steps.refl _) (argsL := [(.ref b2061), (.int 0), (.int 1), (.int 2), (.int 3), (.long (3 : Int64)), (.ref r2093), (.long q2), (.long (-1 : Int64)), (.long (-1 : Int64))]) (rest := []) (lenOf pd_9 rfl) rfl (Nat.le_of_eq rfl) (hb hby at_187) (fun _ _ => ⟨rfl, e2427, (by decide : 15 + 0 ≤ _), (by decide : 6163 + 0 ≤ _)⟩)
    dsimp only [Pt.U, Pt.locs, Pt.cells, Pt.slots] at X2430 l2430 y2430 z2430 st2430 hQ2430
    subst l2430 y2430 z2430
    obtain ⟨rfl, N2430q, e2430⟩ := hQ2430
    have N2430 := Fr.app N2427 N2430q
    have k2431 := fun t (kk : SF p e below T2430 m 190 o15 [(.int (odo11_10_l15 (0 : Int32) (tx p3) (v0_136_L0_1 p3 p5)))] t) => k2429 t (st2430.trans kk)
    have k2434 := fun t (kk : SF p e below T2430 m 208 o6 [(.int 0)] t) => k2431 t (by
     refine XS.istore X2430.here hx rfl (hb hby at_190) rfl (l' := o23) rfl ?_
     refine XS.iload X2430.here hx rfl (hb hby at_192) rfl ?_
     refine XS.iload X2430.here hx rfl (hb hby at_194) rfl ?_
     suffices k2433 : SF p e below T2430 m 204 #[.val (.long q0), .second, .val (.long q1), .second, .val (.long q2), .second, iv p3, iv p4, iv p5, iv (v0_7_l9 p3), iv (v0_16_s0 p3), iv (v0_46_l11 p3), rv b2061, rv r2087, rv r2090, rv r2093, rv b2096, iv 0, iv (v0_164_l18_3 p3 p5), iv (v0_190_l19_2 p3 p5), .unset] [(.int (v0_196_s0 p3))] t by
      by_cases hc196_2432 : (v0_7_l9 p3) = (v0_16_s0 p3)
      ·rw [(show (v0_196_s0 p3) = (1 : Int32) from if_pos hc196_2432)] at k2433
       refine XS.icmpNo X2430.here hx rfl (hb hby at_196) rfl (teq hc196_2432).2 ?_
       show SF p e below T2430 m 199 o23 [] _
       refine XS.iconst X2430.here hx rfl (hb hby at_199) ?_
       refine XS.goto X2430.here hx rfl (pc0 := 200) (pc' := 204) rfl (hb hby at_200) (by decide) (by decide) ?_
       exact k2433
      ·rw [(show (v0_196_s0 p3) = (0 : Int32) from if_neg hc196_2432)] at k2433
       refine XS.icmpYes X2430.here hx rfl (pc0 := 196) (pc' := 203) rfl (hb hby at_196) rfl (feq hc196_2432).2 (by decide) (by decide) ?_
       refine XS.iconst X2430.here hx rfl (hb hby at_203) ?_
       exact k2433
     refine XS.istore X2430.here hx rfl (hb hby at_204) rfl (l' := o6) rfl ?_
     refine XS.iload X2430.here hx rfl (hb hby at_206) rfl ?_
     exact kk)
    have hc208_2435 : (0 : Int32) = (0 : Int32) := by decide
    have k2436 := fun t (kk : SF p e below T2430 m 213 o6 [(.int (v0_190_l19_2 p3 p5))] t) => k2434 t (by
     refine XS.ifNo X2430.here hx rfl (hb hby at_208) rfl ((if0 _ _).trans (teq hc208_2435).2) ?_
     refine XS.iload X2430.here hx rfl (hb hby at_211) rfl ?_
     exact kk)
    have hc213_2437 : (v0_190_l19_2 p3 p5) = (0 : Int32) := own_s1 (own_bv0 p3 p5)
    have k2440 := fun t (kk : SF p e below T2430 m 230 o6 [(.int (v0_222_s0 p3)), (.int (v0_164_l18_3 p3 p5))] t) => k2436 t (by
     refine XS.ifYes X2430.here hx rfl (pc0 := 213) (pc' := 218) rfl (hb hby at_213) rfl ((if0 _ _).trans (teq hc213_2437).1) (by decide) (by decide) ?_
     refine XS.iload X2430.here hx rfl (hb hby at_218) rfl ?_
     refine XS.iload X2430.here hx rfl (hb hby at_220) rfl ?_
     suffices k2439 : SF p e below T2430 m 230 #[.val (.long q0), .second, .val (.long q1), .second, .val (.long q2), .second, iv p3, iv p4, iv p5, iv (v0_7_l9 p3), iv (v0_16_s0 p3), iv (v0_46_l11 p3), rv b2061, rv r2087, rv r2090, rv r2093, rv b2096, iv 0, iv (v0_164_l18_3 p3 p5), iv (v0_190_l19_2 p3 p5), iv (v0_196_s0 p3)] [(.int (v0_222_s0 p3)), (.int (v0_164_l18_3 p3 p5))] t by
      by_cases hc222_2438 : (v0_196_s0 p3) = (0 : Int32)
      ·rw [(show (v0_222_s0 p3) = (1 : Int32) from if_pos hc222_2438)] at k2439
       refine XS.ifYes X2430.here hx rfl (pc0 := 222) (pc' := 229) rfl (hb hby at_222) rfl ((if0 _ _).trans (teq hc222_2438).1) (by decide) (by decide) ?_
       show SF p e below T2430 m 229 o6 [(.int (v0_164_l18_3 p3 p5))] _
       refine XS.iconst X2430.here hx rfl (hb hby at_229) ?_
       exact k2439
      ·rw [(show (v0_222_s0 p3) = (0 : Int32) from if_neg hc222_2438)] at k2439
       refine XS.ifNo X2430.here hx rfl (hb hby at_222) rfl ((if0 _ _).trans (feq hc222_2438).1) ?_
       refine XS.iconst X2430.here hx rfl (hb hby at_225) ?_
       refine XS.goto X2430.here hx rfl (pc0 := 226) (pc' := 230) rfl (hb hby at_226) (by decide) (by decide) ?_
       exact k2439
     exact kk)
    have hc230_2441 : (v0_164_l18_3 p3 p5) = (v0_222_s0 p3) := (show (v0_164_l18_3 p3 p5) = (0 : Int32) from (own_s1 (own_bv0e p3 p5 hs161_2425))).trans (own_222s p3 hs161_2425)
    have k2442 := fun t (kk : SF p e below T2430 m 237 o6 [(.ref b2096)] t) => k2440 t (by
     refine XS.icmpYes X2430.here hx rfl (pc0 := 230) (pc' := 235) rfl (hb hby at_230) rfl (teq hc230_2441).1 (by decide) (by decide) ?_
     refine XS.aload X2430.here hx rfl (hb hby at_235) rfl rfl ?_
     exact kk)
    have Zz2443 : n0 ≤ T2361.heap.size := (Nat.le_trans Z0 K2361.1)
    obtain ⟨cq2443, kq2443, q2443a, q2443b, q2443c⟩ := isOf hZ e2430 Eq2361_2
    obtain ⟨_, _, ⟨T2443, L2443, k2443, n2443⟩, -, X2443, ⟨Lc2443, hQ2443, l2443, y2443, z2443⟩, st2443⟩ := X2430.virtualBack hx (y := M35_) (z := M35_) hown (mvT hZ (w163 hw)) (mvT hZ (w164 hw)) (notFace_of_selects (args := #[]) (mvT hZ (w166 hw))) (mvT hZ (w166 hw)) (mvT hZ (w165 hw)) (by decide) (backOf (W := 0) (rm20 l Z a0 hw [] b2096 ((0 : Int32) + (1 : Int32)) T2361.heap n0 Zz2443 Fq2361_28) hZ (w167 hw) (w12 hw) (by decide) (by decide)) q2443a q2443c (g := (mkF m 237 o6 [(.ref b2096)])) rfl (by rw [hml]; rfl) (Steps.refl _) (argsL := []) (rest := []) (lenOf pd_4 rfl) rfl (Nat.le_of_eq rfl) (hb hby at_237) (fun _ _ => ⟨rfl, e2430, (by decide : 15 + 0 ≤ _), (by decide : 6163 + 0 ≤ _)⟩)
    dsimp only [Pt.U, Pt.locs, Pt.cells, Pt.slots] at X2443 l2443 y2443 z2443 st2443 hQ2443
    subst l2443 y2443 z2443
    obtain ⟨rfl, N2443q, e2443⟩ := hQ2443
    have N2443 := Fr.app N2430 N2443q
    have k2444 := fun t (kk : SF p e below T2443 m 240 o6 [(.int ((0 : Int32) + (1 : Int32)))] t) => k2442 t (st2443.trans kk)
    have k2447 := fun t (kk : SF p e below T2443 m 250 o6 [(.int (v0_242_s0 p3)), (.int ((0 : Int32) + (1 : Int32)))] t) => k2444 t (by
     refine XS.iload X2443.here hx rfl (hb hby at_240) rfl ?_
     suffices k2446 : SF p e below T2443 m 250 #[.val (.long q0), .second, .val (.long q1), .second, .val (.long q2), .second, iv p3, iv p4, iv p5, iv (v0_7_l9 p3), iv (v0_16_s0 p3), iv (v0_46_l11 p3), rv b2061, rv r2087, rv r2090, rv r2093, rv b2096, iv 0, iv (v0_164_l18_3 p3 p5), iv (v0_190_l19_2 p3 p5), iv (v0_196_s0 p3)] [(.int (v0_242_s0 p3)), (.int ((0 : Int32) + (1 : Int32)))] t by
      by_cases hc242_2445 : (v0_196_s0 p3) = (0 : Int32)
      ·rw [(show (v0_242_s0 p3) = (2 : Int32) from if_pos hc242_2445)] at k2446
       refine XS.ifYes X2443.here hx rfl (pc0 := 242) (pc' := 249) rfl (hb hby at_242) rfl ((if0 _ _).trans (teq hc242_2445).1) (by decide) (by decide) ?_
       refine XS.iconst X2443.here hx rfl (hb hby at_249) ?_
       exact k2446
      ·rw [(show (v0_242_s0 p3) = (1 : Int32) from if_neg hc242_2445)] at k2446
       refine XS.ifNo X2443.here hx rfl (hb hby at_242) rfl ((if0 _ _).trans (feq hc242_2445).1) ?_
       refine XS.iconst X2443.here hx rfl (hb hby at_245) ?_
       refine XS.goto X2443.here hx rfl (pc0 := 246) (pc' := 250) rfl (hb hby at_246) (by decide) (by decide) ?_
       exact k2446
     exact kk)
    have hc250_2448 : ((0 : Int32) + (1 : Int32)) = (v0_242_s0 p3) := (show ((0 : Int32) + (1 : Int32)) = (1 : Int32) from (by decide)).trans (own_242s p3 hs161_2425)
    have k2449 := fun t (kk : SF p e below T2443 m 258 o6 [(.int 0), (.ref b2096)] t) => k2447 t (by
     show SF p e below T2443 m 250 o6 [(.int (v0_242_s0 p3)), (.int ((0 : Int32) + (1 : Int32)))] _
     refine XS.icmpYes X2443.here hx rfl (pc0 := 250) (pc' := 255) rfl (hb hby at_250) rfl (teq hc250_2448).1 (by decide) (by decide) ?_
     refine XS.aload X2443.here hx rfl (hb hby at_255) rfl rfl ?_
     refine XS.iconst X2443.here hx rfl (hb hby at_257) ?_
     exact kk)
    have Zz2450 : n0 ≤ T2361.heap.size := (Nat.le_trans Z0 K2361.1)
    obtain ⟨cq2450, kq2450, q2450a, q2450b, q2450c⟩ := isOf hZ e2443 Eq2361_2
    obtain ⟨_, _, ⟨T2450, L2450, k2450, n2450⟩, -, X2450, ⟨Lc2450, hQ2450, l2450, y2450, z2450⟩, st2450⟩ := X2443.virtualBack hx (y := M36_) (z := M36_) hown (mvT hZ (w168 hw)) (mvT hZ (w169 hw)) (notFace_of_selects (args := #[]) (mvT hZ (w171 hw))) (mvT hZ (w171 hw)) (mvT hZ (w170 hw)) (by decide) (backOf (W := 0) (rm21 l Z a0 hw [] b2096 (0 : Int32) xq_2100 k_xq_2100 (cp p5) (v0_136_L8_1 q0 p5) T2361.heap n0 Zz2450 (own_clt p5 (by decide)) Fq2361_26 V2361n8 VL2361n8) hZ (w172 hw) (w12 hw) (by decide) (by decide)) q2450a q2450c (g := (mkF m 258 o6 [(.int 0), (.ref b2096)])) rfl (by rw [hml]; rfl) (Steps.refl _) (argsL := [(.int 0)]) (rest := []) (lenOf pd_10 rfl) rfl (Nat.le_of_eq rfl) (hb hby at_258) (fun _ _ => ⟨rfl, e2443, (by decide : 15 + 0 ≤ _), (by decide : 6163 + 0 ≤ _)⟩)
    dsimp only [Pt.U, Pt.locs, Pt.cells, Pt.slots] at X2450 l2450 y2450 z2450 st2450 hQ2450
    subst l2450 y2450 z2450
    obtain ⟨rfl, N2450q, e2450⟩ := hQ2450
    have N2450 := Fr.app N2443 N2450q
    have k2451 := fun t (kk : SF p e below T2450 m 261 o6 [(.long (v21_5_at (0 : Int32) (v0_136_L8_1 q0 p5)))] t) => k2449 t (st2450.trans kk)
    have k2452 := fun t (kk : SF p e below T2450 m 263 o6 [(.int (lcmpW (v21_5_at (0 : Int32) (v0_136_L8_1 q0 p5)) q0))] t) => k2451 t (by
     refine XS.lloadN X2450.here hx rfl (hb hby at_261) rfl ?_
     refine XS.lcmp X2450.here hx rfl (hb hby at_262) rfl ?_
     exact kk)
    have hc263_2453 : (v21_5_at (0 : Int32) (v0_136_L8_1 q0 p5)) = q0 := own_Q0 q0 p5
    have k2454 := fun t (kk : SF p e below T2450 m 270 o6 [(.int (v0_196_s0 p3))] t) => k2452 t (by
     refine XS.ifYes X2450.here hx rfl (pc0 := 263) (pc' := 268) rfl (hb hby at_263) rfl ((if0 _ _).trans (teq ((lw_eq _ _).mpr hc263_2453)).1) (by decide) (by decide) ?_
     refine XS.iload X2450.here hx rfl (hb hby at_268) rfl ?_
     exact kk)
    have hc270_2455 : ¬ ((v0_196_s0 p3) = (0 : Int32)) := own_same1 p3 hs161_2425
    have k2456 := fun t (kk : SF p e below T2450 m 287 o6 [(.int 1)] t) => k2454 t (by
     refine XS.ifYes X2450.here hx rfl (pc0 := 270) (pc' := 286) rfl (hb hby at_270) rfl ((if0 _ _).trans (feq hc270_2455).2) (by decide) (by decide) ?_
     refine XS.iconst X2450.here hx rfl (hb hby at_286) ?_
     exact kk)
    obtain ⟨fs, hr, hrun, hended, hW, hsame⟩ := X2450.leave (v := some (.int 1)) (fun h => by rw [Bd.returns] at h; cases h) hlk
    have hv : (1 : Int32) = (1 : Int32) := rfl
    have hone : (1 : Int32) = 1 := hv.symm.trans (own_law q0 q1 q2 p3 p4 p5)
    refine ⟨_, _, k2456 _ ?_, hrun, hended, _, _, rfl, ?_, ⟨_, rfl⟩, hW, hsame.mono (by decide) (by decide)⟩
    ·show SF p e below T2450 m 287 o6 [(.int 1)] _
     exact retN X2450 hx (t := .boolean) Bd.returns (by simp) (hb hby at_287) hr
    ·show Q0 Z q0 q1 q2 p3 p4 p5 zcl zau zca o_BUY o_SELL zan zci zfj zfk h0 n0 _ T2450.heap _
     rw [e2450]
     exact ⟨congrArg (fun z => some (Value.int z)) hone, N2450⟩
   ·have t2457 := fun {C n d : String} {v : Value} (F : Fld Z _ r2090 C n d v) => ((F.ext E2096).keep Kq2100 (ninS ne_r2090_b2096 nin0)).keep Kq2361 (ninS ne_r2090_xiv_2100 (ninS ne_r2090_xib_2100 (ninS ne_r2090_xie_2100 (ninS ne_r2090_xi_2100 (ninS ne_r2090_xl_2100 (ninS ne_r2090_xmb_2100 (ninS ne_r2090_xme_2100 (ninS ne_r2090_xm_2100 (ninS ne_r2090_xc_2100 (ninS ne_r2090_xk_2100 (ninS ne_r2090_b2096 (ninS ne_r2090_xq_2100 (ninS ne_r2090_xp_2100 nin0)))))))))))))
    have f2458 := t2457 F_ordinal_r2090
    have f2459 := (f2326.keep Kq2361 (ninS ne_b2061_xiv_2100 (ninS ne_b2061_xib_2100 (ninS ne_b2061_xie_2100 (ninS ne_b2061_xi_2100 (ninS ne_b2061_xl_2100 (ninS ne_b2061_xmb_2100 (ninS ne_b2061_xme_2100 (ninS ne_b2061_xm_2100 (ninS ne_b2061_xc_2100 (ninS ne_b2061_xk_2100 (ninS ne_b2061_b2096 (ninS ne_b2061_xq_2100 (ninS ne_b2061_xp_2100 nin0))))))))))))))
    have m2460 : xiv_2100 ≠ r2090 := Ne.symm ne_r2090_xiv_2100
    have m2461 : xib_2100 ≠ r2090 := Ne.symm ne_r2090_xib_2100
    have m2462 : xie_2100 ≠ r2090 := Ne.symm ne_r2090_xie_2100
    have m2463 : xi_2100 ≠ r2090 := Ne.symm ne_r2090_xi_2100
    have m2464 : xl_2100 ≠ r2090 := Ne.symm ne_r2090_xl_2100
    have m2465 : xmb_2100 ≠ r2090 := Ne.symm ne_r2090_xmb_2100
    have m2466 : xme_2100 ≠ r2090 := Ne.symm ne_r2090_xme_2100
    have m2467 : xm_2100 ≠ r2090 := Ne.symm ne_r2090_xm_2100
    have f2468 := ((f2108.keep Kq2100).keep Kq2361)
    have m2469 : xc_2100 ≠ r2090 := Ne.symm ne_r2090_xc_2100
    have Zz2470 : n0 ≤ T2361.heap.size := (Nat.le_trans Z0 K2361.1)
    obtain ⟨cq2470, kq2470, q2470a, q2470b, q2470c⟩ := isOf hZ rfl Eq2361_2
    obtain ⟨_, _, ⟨T2470, L2470, k2470, n2470⟩, -, X2470, ⟨Lc2470, hQ2470, l2470, y2470, z2470⟩, st2470⟩ := X2361.virtualBack hx (y := M33_) (z := M33_) hown (mvT hZ (w99 hw)) (mvT hZ (w100 hw)) (notFace_of_selects (args := #[]) (mvT hZ (w102 hw))) (mvT hZ (w102 hw)) (mvT hZ (w101 hw)) (by decide) (backOf (W := 0) (rm11dn l Z a0 hw [] b2096 b2061 (1 : Int32) (2 : Int32) (2 : Int32) (3 : Int32) (2 : Int64) r2090 q1 (-1 : Int64) (-1 : Int64) xi_2100 xiv_2100 k2061 (tx p3) k_xiv_2100 ((2 : Int32) * (cp p5)) (v0_136_L0_1 p3 p5) ((0 : Int32) + (1 : Int32)) xie_2100 k_xie_2100 (cp p5) (v0_136_L2_1 p5) xib_2100 k_xib_2100 ((8 : Int32) * (cp p5)) (v0_136_L1_1 p3 p5) (v0_136_f_expectedSlots p5) .null .null (0 : Int32) (0 : Int64) ((0 : Int32) + (1 : Int32)) xl_2100 k_xl_2100 (cp p5) (v0_136_L3_1 p5) xm_2100 (odn11_173_f_size (0 : Int32)) xme_2100 k_xme_2100 (cp p5) (v0_136_L5_1 p5) xmb_2100 k_xmb_2100 ((4 : Int32) * (cp p5)) (v0_136_L4_1 p3 p5) (v0_136_f_expectedSlots_1 p5) .null .null (0 : Int32) (0 : Int64) xc_2100 (v1_r_ordinal (((p4.toUInt32 >>> ((3 : Int32) &&& 31).toUInt32).toInt32) &&& (7 : Int32))) k_xc_2100 (cp p5) (v0_136_L6_1 p4 p5) xk_2100 k_xk_2100 (v0_136_L7_1 p4) .null xq_2100 k_xq_2100 (cp p5) (v0_136_L8_1 q0 p5) xp_2100 k_xp_2100 (cp p5) (v0_136_L9 p5) (.ref xu_2100) (9223372036854775807 : Int64) (-9223372036854775808 : Int64) (0 : Int32) T2361.heap n0 Zz2470 (own_clt p5 (by decide)) (own_E1 p5 0 1 rfl) (own_c8 p5) (by decide) (by decide) (own_c2 p5) (hs161_2364) (own_v10 _ _) (own_bv1 p3 p5 hs136_2113 hs161_2364 hs161_2425) (own_clt p5 (by decide)) (own_E1 p5 2 3 rfl) (own_c4 p5) (by decide) (by decide) (by decide) (by decide) (own_ord _) (by decide) (by decide) (own_c1 p5) (own_c1 p5) (own_c1 p5) (own_c1 p5) Fq2361_22 Fq2361_2 f2459 VL2073 V2361n VL2361n Fq2361_6 Fq2361_1 V2361n2 VL2361n2 Fq2361_0 V2361n1 VL2361n1 Fn2361_3 Fq2361_4 Fq2361_5 Fq2361_7 Fq2361_8 Eq2361_0 g_xib_2100 nx_xib_xie_2100 g_xie_2100 g_xi_2100 m2327 m2328 g_xiv_2100 Fq2361_28 m2329 m2330 m2331 m2332 Fq2361_24 V2361n3 VL2361n3 nx_xiv_xl_2100 nx_xib_xl_2100 nx_xie_xl_2100 g_xl_2100 Fq2361_23 m2333 Fq2361_15 nx_xiv_xm_2100 nx_xib_xm_2100 nx_xie_xm_2100 nx_xi_xm_2100 m2334 Fq2361_10 V2361n5 VL2361n5 Fq2361_9 V2361n4 VL2361n4 Fn2361_12 Fq2361_13 Fq2361_14 Fq2361_16 Fq2361_17 Fq2361_11 nx_xiv_xme_2100 nx_xib_xme_2100 nx_xie_xme_2100 nx_xme_xl_2100 nx_xiv_xmb_2100 nx_xib_xmb_2100 m2335 nx_xmb_xl_2100 m2336 m2337 m2338 m2339 Eq2361_1 g_xmb_2100 nx_xmb_xme_2100 g_xme_2100 g_xm_2100 Fq2361_25 m2340 m2341 m2342 f2458 m2460 m2461 m2462 m2463 m2464 m2465 m2466 m2467 f2468 V2361n6 VL2361n6 nx_xiv_xc_2100 nx_xib_xc_2100 nx_xie_xc_2100 m2352 nx_xmb_xc_2100 nx_xme_xc_2100 g_xc_2100 Fq2361_19 m2353 m2469 V2361n7 VL2361n7 m2355 m2356 m2357 nx_xk_xl_2100 m2358 m2359 nx_xk_xc_2100 g_xk_2100 Eq2361_2 Fq2361_29 g_b2096 Fq2361_26 V2361n8 VL2361n8 nx_xiv_xq_2100 nx_xib_xq_2100 nx_xie_xq_2100 nx_xl_xq_2100 nx_xmb_xq_2100 nx_xme_xq_2100 nx_xc_xq_2100 nx_xk_xq_2100 g_xq_2100 Fq2361_27 V2361n9 VL2361n9 nx_xiv_xp_2100 nx_xib_xp_2100 nx_xie_xp_2100 nx_xl_xp_2100 nx_xmb_xp_2100 nx_xme_xp_2100 nx_xc_xp_2100 nx_xk_xp_2100 m2360 g_xp_2100 Fq2361_30 Fq2361_18 Fq2361_20 Fq2361_21 Fq2361_31) hZ (w103 hw) (w12 hw) (by decide) (by decide)) q2470a q2470c (g := (mkF m 161 o9 [(.long (-1 : Int64)), (.long (-1 : Int64)), (.long q1), (.ref r2090), (.long (2 : Int64)), (.int 3), (.int 2), (.int 2), (.int 1), (.ref b2061), (.ref b2096)])) rfl (by rw [hml]; rfl) (Steps.refl _) (argsL := [(.ref b2061), (.int 1), (.int 2), (.int 2), (.int 3), (.long (2 : Int64)), (.ref r2090), (.long q1), (.long (-1 : Int64)), (.long (-1 : Int64))]) (rest := []) (lenOf pd_9 rfl) rfl (Nat.le_of_eq rfl) (hb hby at_161) (fun _ _ => ⟨rfl, rfl, (by decide : 15 + 0 ≤ _), (by decide : 6163 + 0 ≤ _)⟩)
    dsimp only [Pt.U, Pt.locs, Pt.cells, Pt.slots] at X2470 l2470 y2470 z2470 st2470 hQ2470
    subst l2470 y2470 z2470
    obtain ⟨rfl, N2470q, Kq2470, Eq2470_0, Eq2470_1, Eq2470_2, Fq2470_0, Fq2470_1, Fq2470_2, Fq2470_3, Fq2470_4, Fq2470_5, Fq2470_6, Fq2470_7, Fq2470_8, Fq2470_9, Fq2470_10, Fq2470_11, Fq2470_12, Fq2470_13, Fq2470_14, Fq2470_15, Fq2470_16, Fq2470_17, Fq2470_18, Fq2470_19, Fq2470_20, Fq2470_21, Fq2470_22, Fq2470_23, Fq2470_24, Fq2470_25, Fq2470_26, Fq2470_27, Fq2470_28, Fq2470_29, Fq2470_30, Fq2470_31, Vq2470_0, VLq2470_0, Vq2470_1, VLq2470_1, Vq2470_2, VLq2470_2, Vq2470_3, VLq2470_3, Vq2470_4, VLq2470_4, Vq2470_5, VLq2470_5, Vq2470_6, VLq2470_6, Vq2470_7, VLq2470_7, Vq2470_8, VLq2470_8, Vq2470_9, VLq2470_9⟩ := hQ2470
    have K2470 : Keep h0 T2470.heap [] := K2361.trans Kq2470 (allS (Or.inr sz_xiv_2100) (allS (Or.inr sz_xib_2100) (allS (Or.inr sz_xie_2100) (allS (Or.inr sz_xi_2100) (allS (Or.inr sz_xl_2100) (allS (Or.inr sz_xmb_2100) (allS (Or.inr sz_xme_2100) (allS (Or.inr sz_xm_2100) (allS (Or.inr sz_xc_2100) (allS (Or.inr sz_xk_2100) (allS (Or.inr sz_b2096) (allS (Or.inr sz_xq_2100) (allS (Or.inr sz_xp_2100) all0)))))))))))))
    have Fn2470_6 : Fld Z T2470.heap xi_2100 cBs "size" "I" (.int v0_161_f_size) := Fq2470_6
    have Fn2470_15 : Fld Z T2470.heap xm_2100 cBs "size" "I" (.int v0_161_f_size_4) := Fq2470_15
    have Fn2470_28 : Fld Z T2470.heap b2096 cOr "size" "I" (.int v0_161_f_size) := Fq2470_28
    have V2470n : Arv Z T2470.heap xiv_2100 k_xiv_2100 .int ((2 : Int32) * (cp p5)) (List.map Value.int (v0_161_L0_3 p3 p5)) (.int 0) := Vq2470_0
    have VL2470n : (v0_161_L0_3 p3 p5).length = (((2 : Int32) * (cp p5))).toNatClampNeg := VLq2470_0
    have V2470n1 : Arv Z T2470.heap xib_2100 k_xib_2100 .byte ((8 : Int32) * (cp p5)) (List.map Value.int (v0_161_L1_3 p3 p5)) (.int 0) := Vq2470_1
    have VL2470n1 : (v0_161_L1_3 p3 p5).length = (((8 : Int32) * (cp p5))).toNatClampNeg := VLq2470_1
    have V2470n2 : Arv Z T2470.heap xie_2100 k_xie_2100 .int (cp p5) (List.map Value.int (v0_161_L2_2 p5)) (.int 0) := Vq2470_2
    have VL2470n2 : (v0_161_L2_2 p5).length = ((cp p5)).toNatClampNeg := VLq2470_2
    have V2470n3 : Arv Z T2470.heap xl_2100 k_xl_2100 .long (cp p5) (List.map Value.long (v0_161_L3_2 p5)) (.long (0 : Int64)) := Vq2470_3
    have VL2470n3 : (v0_161_L3_2 p5).length = ((cp p5)).toNatClampNeg := VLq2470_3
    have V2470n4 : Arv Z T2470.heap xmb_2100 k_xmb_2100 .byte ((4 : Int32) * (cp p5)) (List.map Value.int (v0_161_L4_3 p3 p5)) (.int 0) := Vq2470_4
    have VL2470n4 : (v0_161_L4_3 p3 p5).length = (((4 : Int32) * (cp p5))).toNatClampNeg := VLq2470_4
    have V2470n5 : Arv Z T2470.heap xme_2100 k_xme_2100 .int (cp p5) (List.map Value.int (v0_161_L5_3 p5)) (.int 0) := Vq2470_5
    have VL2470n5 : (v0_161_L5_3 p5).length = ((cp p5)).toNatClampNeg := VLq2470_5
    have V2470n6 : Arv Z T2470.heap xc_2100 k_xc_2100 .byte (cp p5) (List.map Value.int (v0_161_L6_3 p4 p5)) (.int 0) := Vq2470_6
    have VL2470n6 : (v0_161_L6_3 p4 p5).length = ((cp p5)).toNatClampNeg := VLq2470_6
    have V2470n7 : Arv Z T2470.heap xk_2100 k_xk_2100 .int 5 (List.map Value.int (v0_161_L7_3 p4)) (.int 0) := Vq2470_7
    have VL2470n7 : (v0_161_L7_3 p4).length = ((5 : Int32)).toNatClampNeg := VLq2470_7
    have V2470n8 : Arv Z T2470.heap xq_2100 k_xq_2100 .long (cp p5) (List.map Value.long (v0_161_L8_2 q0 q1 p5)) (.long (0 : Int64)) := Vq2470_8
    have VL2470n8 : (v0_161_L8_2 q0 q1 p5).length = ((cp p5)).toNatClampNeg := VLq2470_8
    have V2470n9 : Arv Z T2470.heap xp_2100 k_xp_2100 .long (cp p5) (List.map Value.long (v0_161_L9_1 p5)) (.long (0 : Int64)) := Vq2470_9
    have VL2470n9 : (v0_161_L9_1 p5).length = ((cp p5)).toNatClampNeg := VLq2470_9
    have N2470 := Fr.app N2361 N2470q
    have k2471 := fun t (kk : SF p e below T2470 m 164 o9 [(.int ((0 : Int32) + (1 : Int32)))] t) => k2363 t (st2470.trans kk)
    have k2472 := fun t (kk : SF p e below T2470 m 187 o14 [(.long (-1 : Int64)), (.long (-1 : Int64)), (.long q2), (.ref r2093), (.long (3 : Int64)), (.int 3), (.int 2), (.int 1), (.int 0), (.ref b2061), (.ref b2096)] t) => k2471 t (by
     refine XS.istore X2470.here hx rfl (hb hby at_164) rfl (l' := o14) rfl ?_
     refine XS.aload X2470.here hx rfl (hb hby at_166) rfl rfl ?_
     refine XS.aload X2470.here hx rfl (hb hby at_168) rfl rfl ?_
     show SF p e below T2470 m 170 o14 [(.ref b2061), (.ref b2096)] _
     refine XS.iconst X2470.here hx rfl (hb hby at_170) ?_
     refine XS.iconst X2470.here hx rfl (hb hby at_171) ?_
     refine XS.iconst X2470.here hx rfl (hb hby at_172) ?_
     refine XS.iconst X2470.here hx rfl (hb hby at_173) ?_
     refine X2470.ldc2Long hx hown (mvT hZ (w154 hw)) (g := (mkF m 174 o14 [(.int 3), (.int 2), (.int 1), (.int 0), (.ref b2061), (.ref b2096)])) rfl (hb hby at_174) _ ?_
     refine XS.aload X2470.here hx rfl (hb hby at_177) rfl rfl ?_
     refine XS.lload X2470.here hx rfl (hb hby at_179) rfl ?_
     refine X2470.ldc2Long hx hown (mvT hZ (w98 hw)) (g := (mkF m 181 o14 [(.long q2), (.ref r2093), (.long (3 : Int64)), (.int 3), (.int 2), (.int 1), (.int 0), (.ref b2061), (.ref b2096)])) rfl (hb hby at_181) _ ?_
     refine X2470.ldc2Long hx hown (mvT hZ (w98 hw)) (g := (mkF m 184 o14 [(.long (-1 : Int64)), (.long q2), (.ref r2093), (.long (3 : Int64)), (.int 3), (.int 2), (.int 1), (.int 0), (.ref b2061), (.ref b2096)])) rfl (hb hby at_184) _ ?_
     exact kk)
    have f2473 := (f2459.keep Kq2470 (ninS ne_b2061_xiv_2100 (ninS ne_b2061_xib_2100 (ninS ne_b2061_xie_2100 (ninS ne_b2061_xi_2100 (ninS ne_b2061_xl_2100 (ninS ne_b2061_xmb_2100 (ninS ne_b2061_xme_2100 (ninS ne_b2061_xm_2100 (ninS ne_b2061_xc_2100 (ninS ne_b2061_xk_2100 (ninS ne_b2061_b2096 (ninS ne_b2061_xq_2100 (ninS ne_b2061_xp_2100 nin0))))))))))))))
    have Zz2474 : n0 ≤ T2470.heap.size := (Nat.le_trans Z0 K2470.1)
    obtain ⟨cq2474, kq2474, q2474a, q2474b, q2474c⟩ := isOf hZ rfl Eq2470_2
    obtain ⟨_, _, ⟨T2474, L2474, k2474, n2474⟩, -, X2474, ⟨Lc2474, hQ2474, l2474, y2474, z2474⟩, st2474⟩ := X2470.virtualBack hx (y := M33_) (z := M33_) hown (mvT hZ (w99 hw)) (mvT hZ (w100 hw)) (notFace_of_selects (args := #[]) (mvT hZ (w102 hw))) (mvT hZ (w102 hw)) (mvT hZ (w101 hw)) (by decide) (backOf (W := 0) (rm11do l Z a0 hw [] b2096 b2061 (0 : Int32) (1 : Int32) (2 : Int32) (3 : Int32) (3 : Int64) r2093 q2 (-1 : Int64) (-1 : Int64) xi_2100 xiv_2100 k2061 (tx p3) k_xiv_2100 ((2 : Int32) * (cp p5)) (v0_161_L0_3 p3 p5) v0_161_f_size T2470.heap n0 Zz2474 (by decide) (by decide) (own_c2 p5) (hs136_2113) (own_v10 _ _) (own_n0 (own_bv2 p3 p5 hs136_2113 hs161_2364 hs161_2425)) (own_zlt (own_s1 (own_bv2 p3 p5 hs136_2113 hs161_2364 hs161_2425)) (by decide)) Fq2470_22 Fq2470_2 f2473 VL2073 V2470n VL2470n Eq2470_0 Fn2470_28) hZ (w103 hw) (w12 hw) (by decide) (by decide)) q2474a q2474c (g := (mkF m 187 o14 [(.long (-1 : Int64)), (.long (-1 : Int64)), (.long q2), (.ref r2093), (.long (3 : Int64)), (.int 3), (.int 2), (.int 1), (.int 0), (.ref b2061), (.ref b2096)])) rfl (by rw [hml]; rfl) (Steps.refl _) (argsL := [(.ref b2061), (.int 0), (.int 1), (.int 2), (.int 3), (.long (3 : Int64)), (.ref r2093), (.long q2), (.long (-1 : Int64)), (.long (-1 : Int64))]) (rest := []) (lenOf pd_9 rfl) rfl (Nat.le_of_eq rfl) (hb hby at_187) (fun _ _ => ⟨rfl, rfl, (by decide : 15 + 0 ≤ _), (by decide : 6163 + 0 ≤ _)⟩)
    dsimp only [Pt.U, Pt.locs, Pt.cells, Pt.slots] at X2474 l2474 y2474 z2474 st2474 hQ2474
    subst l2474 y2474 z2474
    obtain ⟨rfl, N2474q, e2474⟩ := hQ2474
    have N2474 := Fr.app N2470 N2474q
    have k2475 := fun t (kk : SF p e below T2474 m 190 o14 [(.int (odo11_10_l15 (0 : Int32) (tx p3) (v0_161_L0_3 p3 p5)))] t) => k2472 t (st2474.trans kk)
    have k2478 := fun t (kk : SF p e below T2474 m 208 o3 [(.int 0)] t) => k2475 t (by
     refine XS.istore X2474.here hx rfl (hb hby at_190) rfl (l' := o22) rfl ?_
     refine XS.iload X2474.here hx rfl (hb hby at_192) rfl ?_
     refine XS.iload X2474.here hx rfl (hb hby at_194) rfl ?_
     suffices k2477 : SF p e below T2474 m 204 #[.val (.long q0), .second, .val (.long q1), .second, .val (.long q2), .second, iv p3, iv p4, iv p5, iv (v0_7_l9 p3), iv (v0_16_s0 p3), iv (v0_46_l11 p3), rv b2061, rv r2087, rv r2090, rv r2093, rv b2096, iv 0, iv ((0 : Int32) + (1 : Int32)), iv (v0_190_l19_3 p3 p5), .unset] [(.int (v0_196_s0 p3))] t by
      by_cases hc196_2476 : (v0_7_l9 p3) = (v0_16_s0 p3)
      ·rw [(show (v0_196_s0 p3) = (1 : Int32) from if_pos hc196_2476)] at k2477
       show SF p e below T2474 m 196 o22 [(.int (v0_16_s0 p3)), (.int (v0_7_l9 p3))] _
       refine XS.icmpNo X2474.here hx rfl (hb hby at_196) rfl (teq hc196_2476).2 ?_
       refine XS.iconst X2474.here hx rfl (hb hby at_199) ?_
       refine XS.goto X2474.here hx rfl (pc0 := 200) (pc' := 204) rfl (hb hby at_200) (by decide) (by decide) ?_
       exact k2477
      ·rw [(show (v0_196_s0 p3) = (0 : Int32) from if_neg hc196_2476)] at k2477
       refine XS.icmpYes X2474.here hx rfl (pc0 := 196) (pc' := 203) rfl (hb hby at_196) rfl (feq hc196_2476).2 (by decide) (by decide) ?_
       refine XS.iconst X2474.here hx rfl (hb hby at_203) ?_
       exact k2477
     refine XS.istore X2474.here hx rfl (hb hby at_204) rfl (l' := o3) rfl ?_
     refine XS.iload X2474.here hx rfl (hb hby at_206) rfl ?_
     exact kk)
    have hc208_2479 : (0 : Int32) = (0 : Int32) := by decide
    have k2480 := fun t (kk : SF p e below T2474 m 213 o3 [(.int (v0_190_l19_3 p3 p5))] t) => k2478 t (by
     refine XS.ifNo X2474.here hx rfl (hb hby at_208) rfl ((if0 _ _).trans (teq hc208_2479).2) ?_
     refine XS.iload X2474.here hx rfl (hb hby at_211) rfl ?_
     exact kk)
    have hc213_2481 : (v0_190_l19_3 p3 p5) = (0 : Int32) := own_s1 (own_bv2 p3 p5 hs136_2113 hs161_2364 hs161_2425)
    have k2484 := fun t (kk : SF p e below T2474 m 230 o3 [(.int (v0_222_s0 p3)), (.int ((0 : Int32) + (1 : Int32)))] t) => k2480 t (by
     refine XS.ifYes X2474.here hx rfl (pc0 := 213) (pc' := 218) rfl (hb hby at_213) rfl ((if0 _ _).trans (teq hc213_2481).1) (by decide) (by decide) ?_
     refine XS.iload X2474.here hx rfl (hb hby at_218) rfl ?_
     refine XS.iload X2474.here hx rfl (hb hby at_220) rfl ?_
     suffices k2483 : SF p e below T2474 m 230 #[.val (.long q0), .second, .val (.long q1), .second, .val (.long q2), .second, iv p3, iv p4, iv p5, iv (v0_7_l9 p3), iv (v0_16_s0 p3), iv (v0_46_l11 p3), rv b2061, rv r2087, rv r2090, rv r2093, rv b2096, iv 0, iv ((0 : Int32) + (1 : Int32)), iv (v0_190_l19_3 p3 p5), iv (v0_196_s0 p3)] [(.int (v0_222_s0 p3)), (.int ((0 : Int32) + (1 : Int32)))] t by
      by_cases hc222_2482 : (v0_196_s0 p3) = (0 : Int32)
      ·rw [(show (v0_222_s0 p3) = (1 : Int32) from if_pos hc222_2482)] at k2483
       show SF p e below T2474 m 222 o3 [(.int (v0_196_s0 p3)), (.int ((0 : Int32) + (1 : Int32)))] _
       refine XS.ifYes X2474.here hx rfl (pc0 := 222) (pc' := 229) rfl (hb hby at_222) rfl ((if0 _ _).trans (teq hc222_2482).1) (by decide) (by decide) ?_
       refine XS.iconst X2474.here hx rfl (hb hby at_229) ?_
       exact k2483
      ·rw [(show (v0_222_s0 p3) = (0 : Int32) from if_neg hc222_2482)] at k2483
       refine XS.ifNo X2474.here hx rfl (hb hby at_222) rfl ((if0 _ _).trans (feq hc222_2482).1) ?_
       refine XS.iconst X2474.here hx rfl (hb hby at_225) ?_
       refine XS.goto X2474.here hx rfl (pc0 := 226) (pc' := 230) rfl (hb hby at_226) (by decide) (by decide) ?_
       exact k2483
     exact kk)
    have hc230_2485 : ((0 : Int32) + (1 : Int32)) = (v0_222_s0 p3) := (show ((0 : Int32) + (1 : Int32)) = (1 : Int32) from (by decide)).trans (own_222n p3 hs161_2425)
    have k2486 := fun t (kk : SF p e below T2474 m 237 o3 [(.ref b2096)] t) => k2484 t (by
     refine XS.icmpYes X2474.here hx rfl (pc0 := 230) (pc' := 235) rfl (hb hby at_230) rfl (teq hc230_2485).1 (by decide) (by decide) ?_
     refine XS.aload X2474.here hx rfl (hb hby at_235) rfl rfl ?_
     exact kk)
    have Zz2487 : n0 ≤ T2470.heap.size := (Nat.le_trans Z0 K2470.1)
    obtain ⟨cq2487, kq2487, q2487a, q2487b, q2487c⟩ := isOf hZ e2474 Eq2470_2
    obtain ⟨_, _, ⟨T2487, L2487, k2487, n2487⟩, -, X2487, ⟨Lc2487, hQ2487, l2487, y2487, z2487⟩, st2487⟩ := X2474.virtualBack hx (y := M35_) (z := M35_) hown (mvT hZ (w163 hw)) (mvT hZ (w164 hw)) (notFace_of_selects (args := #[]) (mvT hZ (w166 hw))) (mvT hZ (w166 hw)) (mvT hZ (w165 hw)) (by decide) (backOf (W := 0) (rm20 l Z a0 hw [] b2096 v0_161_f_size T2470.heap n0 Zz2487 Fn2470_28) hZ (w167 hw) (w12 hw) (by decide) (by decide)) q2487a q2487c (g := (mkF m 237 o3 [(.ref b2096)])) rfl (by rw [hml]; rfl) (Steps.refl _) (argsL := []) (rest := []) (lenOf pd_4 rfl) rfl (Nat.le_of_eq rfl) (hb hby at_237) (fun _ _ => ⟨rfl, e2474, (by decide : 15 + 0 ≤ _), (by decide : 6163 + 0 ≤ _)⟩)
    dsimp only [Pt.U, Pt.locs, Pt.cells, Pt.slots] at X2487 l2487 y2487 z2487 st2487 hQ2487
    subst l2487 y2487 z2487
    obtain ⟨rfl, N2487q, e2487⟩ := hQ2487
    have N2487 := Fr.app N2474 N2487q
    have k2488 := fun t (kk : SF p e below T2487 m 240 o3 [(.int v0_161_f_size)] t) => k2486 t (st2487.trans kk)
    have k2491 := fun t (kk : SF p e below T2487 m 250 o3 [(.int (v0_242_s0 p3)), (.int v0_161_f_size)] t) => k2488 t (by
     refine XS.iload X2487.here hx rfl (hb hby at_240) rfl ?_
     suffices k2490 : SF p e below T2487 m 250 #[.val (.long q0), .second, .val (.long q1), .second, .val (.long q2), .second, iv p3, iv p4, iv p5, iv (v0_7_l9 p3), iv (v0_16_s0 p3), iv (v0_46_l11 p3), rv b2061, rv r2087, rv r2090, rv r2093, rv b2096, iv 0, iv ((0 : Int32) + (1 : Int32)), iv (v0_190_l19_3 p3 p5), iv (v0_196_s0 p3)] [(.int (v0_242_s0 p3)), (.int v0_161_f_size)] t by
      by_cases hc242_2489 : (v0_196_s0 p3) = (0 : Int32)
      ·rw [(show (v0_242_s0 p3) = (2 : Int32) from if_pos hc242_2489)] at k2490
       refine XS.ifYes X2487.here hx rfl (pc0 := 242) (pc' := 249) rfl (hb hby at_242) rfl ((if0 _ _).trans (teq hc242_2489).1) (by decide) (by decide) ?_
       refine XS.iconst X2487.here hx rfl (hb hby at_249) ?_
       exact k2490
      ·rw [(show (v0_242_s0 p3) = (1 : Int32) from if_neg hc242_2489)] at k2490
       refine XS.ifNo X2487.here hx rfl (hb hby at_242) rfl ((if0 _ _).trans (feq hc242_2489).1) ?_
       refine XS.iconst X2487.here hx rfl (hb hby at_245) ?_
       show SF p e below T2487 m 246 o3 [(.int 1), (.int v0_161_f_size)] _
       refine XS.goto X2487.here hx rfl (pc0 := 246) (pc' := 250) rfl (hb hby at_246) (by decide) (by decide) ?_
       exact k2490
     exact kk)
    have hc250_2492 : v0_161_f_size = (v0_242_s0 p3) := (show v0_161_f_size = (2 : Int32) from (by decide)).trans (own_242n p3 hs161_2425)
    have k2493 := fun t (kk : SF p e below T2487 m 258 o3 [(.int 0), (.ref b2096)] t) => k2491 t (by
     refine XS.icmpYes X2487.here hx rfl (pc0 := 250) (pc' := 255) rfl (hb hby at_250) rfl (teq hc250_2492).1 (by decide) (by decide) ?_
     refine XS.aload X2487.here hx rfl (hb hby at_255) rfl rfl ?_
     refine XS.iconst X2487.here hx rfl (hb hby at_257) ?_
     exact kk)
    have Zz2494 : n0 ≤ T2470.heap.size := (Nat.le_trans Z0 K2470.1)
    obtain ⟨cq2494, kq2494, q2494a, q2494b, q2494c⟩ := isOf hZ e2487 Eq2470_2
    obtain ⟨_, _, ⟨T2494, L2494, k2494, n2494⟩, -, X2494, ⟨Lc2494, hQ2494, l2494, y2494, z2494⟩, st2494⟩ := X2487.virtualBack hx (y := M36_) (z := M36_) hown (mvT hZ (w168 hw)) (mvT hZ (w169 hw)) (notFace_of_selects (args := #[]) (mvT hZ (w171 hw))) (mvT hZ (w171 hw)) (mvT hZ (w170 hw)) (by decide) (backOf (W := 0) (rm21 l Z a0 hw [] b2096 (0 : Int32) xq_2100 k_xq_2100 (cp p5) (v0_161_L8_2 q0 q1 p5) T2470.heap n0 Zz2494 (own_clt p5 (by decide)) Fq2470_26 V2470n8 VL2470n8) hZ (w172 hw) (w12 hw) (by decide) (by decide)) q2494a q2494c (g := (mkF m 258 o3 [(.int 0), (.ref b2096)])) rfl (by rw [hml]; rfl) (Steps.refl _) (argsL := [(.int 0)]) (rest := []) (lenOf pd_10 rfl) rfl (Nat.le_of_eq rfl) (hb hby at_258) (fun _ _ => ⟨rfl, e2487, (by decide : 15 + 0 ≤ _), (by decide : 6163 + 0 ≤ _)⟩)
    dsimp only [Pt.U, Pt.locs, Pt.cells, Pt.slots] at X2494 l2494 y2494 z2494 st2494 hQ2494
    subst l2494 y2494 z2494
    obtain ⟨rfl, N2494q, e2494⟩ := hQ2494
    have N2494 := Fr.app N2487 N2494q
    have k2495 := fun t (kk : SF p e below T2494 m 261 o3 [(.long (v21_5_at (0 : Int32) (v0_161_L8_2 q0 q1 p5)))] t) => k2493 t (st2494.trans kk)
    have k2496 := fun t (kk : SF p e below T2494 m 263 o3 [(.int (lcmpW (v21_5_at (0 : Int32) (v0_161_L8_2 q0 q1 p5)) q0))] t) => k2495 t (by
     refine XS.lloadN X2494.here hx rfl (hb hby at_261) rfl ?_
     refine XS.lcmp X2494.here hx rfl (hb hby at_262) rfl ?_
     exact kk)
    have hc263_2497 : (v21_5_at (0 : Int32) (v0_161_L8_2 q0 q1 p5)) = q0 := own_Q1 q0 q1 p5
    have k2498 := fun t (kk : SF p e below T2494 m 270 o3 [(.int (v0_196_s0 p3))] t) => k2496 t (by
     refine XS.ifYes X2494.here hx rfl (pc0 := 263) (pc' := 268) rfl (hb hby at_263) rfl ((if0 _ _).trans (teq ((lw_eq _ _).mpr hc263_2497)).1) (by decide) (by decide) ?_
     refine XS.iload X2494.here hx rfl (hb hby at_268) rfl ?_
     exact kk)
    have hc270_2499 : (v0_196_s0 p3) = (0 : Int32) := own_same0 p3 hs161_2425
    have k2500 := fun t (kk : SF p e below T2494 m 276 o3 [(.int 1), (.ref b2096)] t) => k2498 t (by
     refine XS.ifNo X2494.here hx rfl (hb hby at_270) rfl ((if0 _ _).trans (teq hc270_2499).2) ?_
     refine XS.aload X2494.here hx rfl (hb hby at_273) rfl rfl ?_
     refine XS.iconst X2494.here hx rfl (hb hby at_275) ?_
     exact kk)
    have Zz2501 : n0 ≤ T2470.heap.size := (Nat.le_trans Z0 K2470.1)
    obtain ⟨cq2501, kq2501, q2501a, q2501b, q2501c⟩ := isOf hZ e2494 Eq2470_2
    obtain ⟨_, _, ⟨T2501, L2501, k2501, n2501⟩, -, X2501, ⟨Lc2501, hQ2501, l2501, y2501, z2501⟩, st2501⟩ := X2494.virtualBack hx (y := M36_) (z := M36_) hown (mvT hZ (w168 hw)) (mvT hZ (w169 hw)) (notFace_of_selects (args := #[]) (mvT hZ (w171 hw))) (mvT hZ (w171 hw)) (mvT hZ (w170 hw)) (by decide) (backOf (W := 0) (rm21 l Z a0 hw [] b2096 (1 : Int32) xq_2100 k_xq_2100 (cp p5) (v0_161_L8_2 q0 q1 p5) T2470.heap n0 Zz2501 (own_clt p5 (by decide)) Fq2470_26 V2470n8 VL2470n8) hZ (w172 hw) (w12 hw) (by decide) (by decide)) q2501a q2501c (g := (mkF m 276 o3 [(.int 1), (.ref b2096)])) rfl (by rw [hml]; rfl) (Steps.refl _) (argsL := [(.int 1)]) (rest := []) (lenOf pd_10 rfl) rfl (Nat.le_of_eq rfl) (hb hby at_276) (fun _ _ => ⟨rfl, e2494, (by decide : 15 + 0 ≤ _), (by decide : 6163 + 0 ≤ _)⟩)
    dsimp only [Pt.U, Pt.locs, Pt.cells, Pt.slots] at X2501 l2501 y2501 z2501 st2501 hQ2501
    subst l2501 y2501 z2501
    obtain ⟨rfl, N2501q, e2501⟩ := hQ2501
    have N2501 := Fr.app N2494 N2501q
    have k2502 := fun t (kk : SF p e below T2501 m 279 o3 [(.long (v21_5_at (1 : Int32) (v0_161_L8_2 q0 q1 p5)))] t) => k2500 t (st2501.trans kk)
    have k2503 := fun t (kk : SF p e below T2501 m 281 o3 [(.int (lcmpW (v21_5_at (1 : Int32) (v0_161_L8_2 q0 q1 p5)) q1))] t) => k2502 t (by
     refine XS.lloadN X2501.here hx rfl (hb hby at_279) rfl ?_
     show SF p e below T2501 m 280 o3 [(.long q1), (.long (v21_5_at (1 : Int32) (v0_161_L8_2 q0 q1 p5)))] _
     refine XS.lcmp X2501.here hx rfl (hb hby at_280) rfl ?_
     exact kk)
    have hc281_2504 : (v21_5_at (1 : Int32) (v0_161_L8_2 q0 q1 p5)) = q1 := own_Q2 q0 q1 p5
    have k2505 := fun t (kk : SF p e below T2501 m 287 o3 [(.int 1)] t) => k2503 t (by
     refine XS.ifYes X2501.here hx rfl (pc0 := 281) (pc' := 286) rfl (hb hby at_281) rfl ((if0 _ _).trans (teq ((lw_eq _ _).mpr hc281_2504)).1) (by decide) (by decide) ?_
     refine XS.iconst X2501.here hx rfl (hb hby at_286) ?_
     exact kk)
    obtain ⟨fs, hr, hrun, hended, hW, hsame⟩ := X2501.leave (v := some (.int 1)) (fun h => by rw [Bd.returns] at h; cases h) hlk
    have hv : (1 : Int32) = (1 : Int32) := rfl
    have hone : (1 : Int32) = 1 := hv.symm.trans (own_law q0 q1 q2 p3 p4 p5)
    refine ⟨_, _, k2505 _ ?_, hrun, hended, _, _, rfl, ?_, ⟨_, rfl⟩, hW, hsame.mono (by decide) (by decide)⟩
    ·show SF p e below T2501 m 287 o3 [(.int 1)] _
     exact retN X2501 hx (t := .boolean) Bd.returns (by simp) (hb hby at_287) hr
    ·show Q0 Z q0 q1 q2 p3 p4 p5 zcl zau zca o_BUY o_SELL zan zci zfj zfk h0 n0 _ T2501.heap _
     rw [e2501]
     exact ⟨congrArg (fun z => some (Value.int z)) hone, N2501⟩
set_option maxRecDepth 65536 in
set_option maxHeartbeats 40000000 in
theorem comes_1 {Post : Tables → Env → Array Value → State → Outcome → State → Prop} (hpost : ∀ tb e args s v u, (limb_1_1.after args s (.returned v) u = true ∧ limb_1_2.after args s (.returned v) u = true ∧ True) → FrameEnd s (.returned v) u (Jvm.fieldLocs frame_1_writes args s ++ Jvm.arrayLocs frame_1_arrays args s ++ Jvm.staticLocs frame_1_statics s) 40 11392 → Post tb e args s (.returned v) u) :
    ArmFor flags0 classFile x code maxLocals ret World_1 tables_1 room_1 Calls_1 rest_1 Pre_1 Post := by
  intro l hfl _ _ p e ha hc hk s m args below hf hA hF happ hP
  obtain ⟨hcalls, hrest, hpre⟩ := hP
  obtain ⟨-, -, -, hnamed, -, -, -, hat⟩ := (Spec.applies_iff hf).mp happ
  obtain ⟨hg, hn⟩ := and_e (Cond.before_iff.mp (show (Jvm.Cond.and given_1 narrow_1).before args s = true from hpre))
  obtain ⟨hcnt, hg0⟩ := and_e hg
  obtain ⟨ha0, hg1⟩ := and_e hg0
  obtain ⟨ha1, hg2⟩ := and_e hg1
  obtain ⟨ha2, hg3⟩ := and_e hg2
  obtain ⟨ha3, hg4⟩ := and_e hg3
  obtain ⟨ha4, hg5⟩ := and_e hg4
  have ha5 := hg5
  obtain ⟨w0, w1, w2, w3, w4, w5, rfl⟩ : ∃ w0 w1 w2 w3 w4 w5 : Value, args = #[w0, w1, w2, w3, w4, w5] := by
    have hs : args.size = 6 := by simpa [Cond.value, given_1] using hcnt
    obtain ⟨L⟩ := args
    match L, hs with
    | [w0, w1, w2, w3, w4, w5], _ => exact ⟨w0, w1, w2, w3, w4, w5, rfl⟩
  have hw := fun d (hd : d ∈ tables_1) => atoms_spec (ws := Jvm.Cond.code x code maxLocals ret :: tables_1) hat d (List.mem_cons_of_mem _ hd)
  have hfit : Fit s := fun {y c} hc i hi => by
    obtain ⟨ha, rfl⟩ := Array.getElem?_eq_some_iff.mp hc
    have q := List.all_eq_true.mp ((Array.all_eq_true_iff_forall_mem.mp hF) _ (Array.getElem_mem ha)) i (List.mem_range.mpr hi)
    simpa [Array.getElem?_eq_getElem hi] using q
  obtain ⟨q0, ea0⟩ := isL_v ha0
  obtain rfl : w0 = (.long q0) := Option.some.inj ea0
  obtain ⟨q1, ea1⟩ := isL_v ha1
  obtain rfl : w1 = (.long q1) := Option.some.inj ea1
  obtain ⟨q2, ea2⟩ := isL_v ha2
  obtain rfl : w2 = (.long q2) := Option.some.inj ea2
  obtain ⟨p3, ea3⟩ := is_v ha3
  obtain rfl : w3 = (.int p3) := Option.some.inj ea3
  obtain ⟨p4, ea4⟩ := is_v ha4
  obtain rfl : w4 = (.int p4) := Option.some.inj ea4
  obtain ⟨p5, ea5⟩ := is_v ha5
  obtain rfl : w5 = (.int p5) := Option.some.inj ea5
  obtain ⟨na1, nb1⟩ := and_e hn
  obtain ⟨na2, nb2⟩ := and_e nb1
  obtain ⟨na3, nb3⟩ := and_e nb2
  obtain ⟨na4, nb4⟩ := and_e nb3
  obtain ⟨na5, nb5⟩ := and_e nb4
  obtain ⟨na6, nb6⟩ := and_e nb5
  obtain ⟨na7, nb7⟩ := and_e nb6
  obtain ⟨na8, nb8⟩ := and_e nb7
  obtain ⟨na9, nb9⟩ := and_e nb8
  obtain ⟨na10, nb10⟩ := and_e nb9
  obtain ⟨na11, nb11⟩ := and_e nb10
  obtain ⟨o_BUY, ev_BUY⟩ := exa_v na1
  have S_BUY := Sta.start ev_BUY (Or.inr ⟨(w6 hw), (w7 hw)⟩)
  have ziv := Exa.start ev_BUY na1
  obtain ⟨zcl, ev_LIMIT⟩ := exa_v na2
  have zjz := Sta.start ev_LIMIT (Or.inr ⟨(w6 hw), (w9 hw)⟩)
  have zht := Exa.start ev_LIMIT na2
  obtain ⟨zci, ev_KINDS⟩ := arr_v na3
  have zkj := Sta.start ev_KINDS (Or.inr ⟨(w12 hw), (w46 hw)⟩)
  obtain ⟨zau, ev_NON_COMPETITIVE⟩ := exa_v na7
  have zgp := Sta.start ev_NON_COMPETITIVE (Or.inr ⟨(w6 hw), (w174 hw)⟩)
  have zdz := Exa.start ev_NON_COMPETITIVE na7
  obtain ⟨zca, ev_MARKET⟩ := exa_v na9
  have zjx := Sta.start ev_MARKET (Or.inr ⟨(w6 hw), (w176 hw)⟩)
  have zhf := Exa.start ev_MARKET na9
  obtain ⟨o_SELL, ev_SELL⟩ := exa_v na11
  have S_SELL := Sta.start ev_SELL (Or.inr ⟨(w6 hw), (w178 hw)⟩)
  have zif := Exa.start ev_SELL na11
  have zgt := Fld.start ((fld_at ev_BUY).symm.trans (own_eq_int na5))
  have zfx := Fld.start ((fld_at ev_LIMIT).symm.trans (own_eq_int na6))
  have zdt := Fld.start ((fld_at ev_NON_COMPETITIVE).symm.trans (own_eq_int na8))
  have zfi := Fld.start ((fld_at ev_MARKET).symm.trans (own_eq_int na10))
  have zge := Fld.start ((fld_at ev_SELL).symm.trans (own_eq_int nb11))
  obtain ⟨cl_KINDS, A_KINDS⟩ := Arr.start ev_KINDS na3
  have hl_KINDS := own_len ev_KINDS (own_eq_int na4) (A_KINDS.fin (Vm.Alike.refl _))
  obtain ⟨zfj, zfk, zfy⟩ : ∃ k L, Arv s s.heap zci k (.object cKi) (5 : Int32) L .null := ⟨_, _, own_refArr hfit A_KINDS hl_KINDS.1 hl_KINDS.2 (by decide)⟩
  have hr0 := Cond.before_iff.mp (show rest_1_c.before _ s = true from hrest)
  obtain ⟨ra1, rb1⟩ := and_e hr0
  obtain ⟨ra2, rb2⟩ := and_e rb1
  obtain ⟨ra3, rb3⟩ := and_e rb2
  obtain ⟨ra4, rb4⟩ := and_e rb3
  obtain ⟨ra5, rb5⟩ := and_e rb4
  obtain ⟨ra6, rb6⟩ := and_e rb5
  obtain ⟨ra7, rb7⟩ := and_e rb6
  obtain ⟨ra8, rb8⟩ := and_e rb7
  obtain ⟨ra9, rb9⟩ := and_e rb8
  obtain ⟨zan, ev_DEFAULTCAPACITY_EMPTY_ELEMENTDATA⟩ := arr_v ra7
  have zcw := Sta.start ev_DEFAULTCAPACITY_EMPTY_ELEMENTDATA (Or.inr ⟨(w21 hw), Cond.before_iff.mpr ra3⟩)
  have O0 := Old.start s
  obtain ⟨n, o, h1, h2, h3, _, L, rfl, ⟨rfl, N⟩, hq⟩ := rm0 l s _ hw tables_1 q0 q1 q2 p3 p4 p5 zcl zau zca o_BUY o_SELL zan zci zfj zfk s.heap s.heap.size (Nat.le_refl _) zjz zgp zjx S_BUY S_SELL O0 zht zfx zdz zdt zhf zfi ziv zgt zif zge zcw zkj zfy p e ha hc hk s m _ below hf ((Spec.applies_iff_loose hf).mp happ).1 ⟨rfl, State.Warmed39.refl s, rfl⟩ trivial
  refine ⟨n, _, h1, h2, h3, hpost _ _ _ _ _ _ ⟨Cond.after_iff.mpr rfl, Cond.after_iff.mpr (eq_i res_at (Term.int_eval (1)) rfl), trivial⟩ ⟨hq.1, hq.2.1, (hq.2.2.sift fun y hy => Or.inr (N y hy)).mono (by decide) (by decide)⟩⟩
theorem main_1_1 : Claimed_1_1 := comes_1 fun _ _ _ _ _ _ h hF => ⟨h.1, hF⟩
theorem main_1_2 : Claimed_1_2 := comes_1 fun _ _ _ _ _ _ h hF => ⟨h.2.1, hF⟩
end Jvm.Pilot.@@N@@
namespace Jvm.Pilot.@@N@@
open Jvm Jvm.ClassFile Sem Op Lib Jvm.Free Jvm.Stand Jvm.Pilot.@@N@@.Jvm.D
/-! MADE BY PROGRAM (witnessworld.py) out of the Statement's table words and the real class files: 31 classes; the members and pool entries that the words name. The judged class is class 1, her method 2. -/
namespace start1
open Jvm.ClassFile
def u (s : String) : CpInfo := .utf8 (stringToUtf16 s)
/-- a pool by its gaps: so many unusable entries, then the entry; so many at the end -/
def gap : Nat → List CpInfo → List CpInfo
  | 0, r => r
  | n + 1, r => .unusable :: gap n r
def poolList (es : List (Nat × CpInfo)) (last : Nat) : List CpInfo := es.foldr (fun e r => gap e.1 (e.2 :: r)) (gap last [])
def pool (es : List (Nat × CpInfo)) (last : Nat) : Array CpInfo := ⟨poolList es last⟩
def fileOf (pool : Array CpInfo) (this : Nat) (attrs : Array Attribute := #[]) (ms : Array MethodInfo := #[]) (fl : Nat := 33) (sup : Nat := 0) (ifs : Array Nat := #[]) (fds : Array FieldInfo := #[]) : ClassFile where
  minorVersion := 0
  majorVersion := 65
  constantPool := pool
  accessFlags := fl
  thisClass := this
  superClass := sup
  interfaces := ifs
  fields := fds
  methods := ms
  attributes := attrs
def plain (name : String) (sup : Option ClassId) : Class where
  name := name
  kind := .ordinary
  loader := none
  accessFlags := 33
  super := sup
  interfaces := #[]
  cf := none
  fields := #[]
  methods := #[]
  instanceTypes := #[]
  staticTypes := #[]
  resolved := #[]
  callSites := []
  init := .initialized
  statics := none
  mirror := none

def pool0 : Array CpInfo := pool [(5, u "<init>"), (0, u "()V"), (1, .class_ 10), (1, u "java/lang/Object")] 113

def k0c0 : Code := { maxStack := 0, maxLocals := 1, code := object_method_1_code, exceptionTable := #[], attributes := #[] }
def k0m0 : Method := { name := "<init>", desc := "()V", sig := { parameters := [], returnType := none }, accessFlags := 1, code := some k0c0 }
/-- java/lang/Object -/
def k0 : Class := { plain "java/lang/Object" none with
  accessFlags := 33
  interfaces := #[]
  cf := some (fileOf pool0 8 #[] #[{ accessFlags := 1, nameIndex := 5, descriptorIndex := 6, attributes := #[] }] 33 0 #[] #[])
  fields := #[]
  methods := #[k0m0]
  instanceTypes := #[]
  staticTypes := #[]
  resolved := Array.replicate 124 none
  statics := none }

def pool1 : Array CpInfo := pool [(2, .class_ 4), (1, u "java/lang/Object"), (0, u "<init>"), (0, u "()V"), (0, .fieldref 8 9), (0, .class_ 10), (0, .nameAndType 11 12), (0, u "com/example/gavelbook/gavelbook/Orders$Kind"), (0, u "LIMIT"), (0, u "Lcom/example/gavelbook/gavelbook/Orders$Kind;"), (0, .fieldref 8 14), (0, .nameAndType 15 12), (0, u "NON_COMPETITIVE"), (0, .fieldref 8 17), (0, .nameAndType 18 12), (0, u "MARKET"), (0, .fieldref 8 20), (0, .nameAndType 21 12), (0, u "BUY"), (0, .fieldref 8 23), (0, .nameAndType 24 12), (0, u "SELL"), (0, .methodref 26 27), (0, .class_ 28), (0, .nameAndType 29 30), (0, u "com/example/gavelbook/gavelbook/OrdersQuantityPinLaw"), (0, u "kindOf"), (0, u "(I)Lcom/example/gavelbook/gavelbook/Orders$Kind;"), (0, .class_ 32), (0, u "com/example/gavelbook/gavelbook/Orders"), (0, .methodref 31 34), (0, .nameAndType 5 35), (0, u "(I)V"), (0, .long 18446744073709551615), (1, .methodref 31 39), (0, .nameAndType 40 41), (0, u "add"), (0, u "([BIIIIJLcom/example/gavelbook/gavelbook/Orders$Kind;JJJ)I"), (0, .long 2), (1, .long 3), (1, .methodref 31 47), (0, .nameAndType 48 49), (0, u "size"), (0, u "()I"), (0, .methodref 31 51), (0, .nameAndType 52 53), (0, u "quantity"), (0, u "(I)J"), (3, u "law"), (0, u "(JJJIII)Z")] 6

def k1m0 : Method := { name := "<init>", desc := "()V", sig := { parameters := [], returnType := none }, accessFlags := 1, code := none }
def k1c1 : Code := { maxStack := 2, maxLocals := 2, code := method_2_code, exceptionTable := #[], attributes := #[] }
def k1m1 : Method := { name := "kindOf", desc := "(I)Lcom/example/gavelbook/gavelbook/Orders$Kind;", sig := { parameters := [.int], returnType := some (.object "com/example/gavelbook/gavelbook/Orders$Kind") }, accessFlags := 10, code := some k1c1 }
def k1c2 : Code := { maxStack := 15, maxLocals := 21, code := code, exceptionTable := #[], attributes := #[] }
def k1m2 : Method := { name := "law", desc := "(JJJIII)Z", sig := { parameters := [.long, .long, .long, .int, .int, .int], returnType := some .boolean }, accessFlags := 9, code := some k1c2 }
/-- com/example/gavelbook/gavelbook/OrdersQuantityPinLaw -/
def k1 : Class := { plain "com/example/gavelbook/gavelbook/OrdersQuantityPinLaw" (some 0) with
  accessFlags := 49
  interfaces := #[]
  cf := some (fileOf pool1 26 #[] #[{ accessFlags := 1, nameIndex := 5, descriptorIndex := 6, attributes := #[] }, { accessFlags := 10, nameIndex := 29, descriptorIndex := 30, attributes := #[] }, { accessFlags := 9, nameIndex := 57, descriptorIndex := 58, attributes := #[] }] 49 2 #[] #[])
  fields := #[]
  methods := #[k1m0, k1m1, k1m2]
  instanceTypes := #[]
  staticTypes := #[]
  resolved := Array.replicate 65 none
  statics := none }

def pool2 : Array CpInfo := pool [(1, .class_ 2), (0, u "java/lang/constant/Constable"), (0, .class_ 4), (0, u "java/lang/Object")] 6

/-- java/lang/constant/Constable -/
def k2 : Class := { plain "java/lang/constant/Constable" (some 0) with
  accessFlags := 1537
  interfaces := #[]
  cf := some (fileOf pool2 1 #[] #[] 1537 3 #[] #[])
  fields := #[]
  methods := #[]
  instanceTypes := #[]
  staticTypes := #[]
  resolved := Array.replicate 11 none
  statics := none }

def pool3 : Array CpInfo := pool [(1, .class_ 2), (0, u "java/lang/Comparable"), (0, .class_ 4), (0, u "java/lang/Object")] 7

/-- java/lang/Comparable -/
def k3 : Class := { plain "java/lang/Comparable" (some 0) with
  accessFlags := 1537
  interfaces := #[]
  cf := some (fileOf pool3 1 #[] #[] 1537 3 #[] #[])
  fields := #[]
  methods := #[]
  instanceTypes := #[]
  staticTypes := #[]
  resolved := Array.replicate 12 none
  statics := none }

def pool4 : Array CpInfo := pool [(1, .class_ 2), (0, u "java/io/Serializable"), (0, .class_ 4), (0, u "java/lang/Object")] 2

/-- java/io/Serializable -/
def k4 : Class := { plain "java/io/Serializable" (some 0) with
  accessFlags := 1537
  interfaces := #[]
  cf := some (fileOf pool4 1 #[] #[] 1537 3 #[] #[])
  fields := #[]
  methods := #[]
  instanceTypes := #[]
  staticTypes := #[]
  resolved := Array.replicate 7 none
  statics := none }

def pool5 : Array CpInfo := pool [(2, .class_ 4), (1, u "java/lang/Enum"), (0, u "name"), (0, u "Ljava/lang/String;"), (0, .fieldref 2 8), (0, .nameAndType 9 10), (0, u "ordinal"), (0, u "I"), (1, .class_ 14), (1, u "java/lang/Object"), (4, u "hash"), (86, .class_ 108), (1, u "java/lang/Enum$EnumDesc"), (2, .class_ 112), (0, u "java/lang/constant/Constable"), (0, .class_ 114), (0, u "java/lang/Comparable"), (0, .class_ 116), (0, u "java/io/Serializable"), (9, u "()I")] 77

def k5c0 : Code := { maxStack := 1, maxLocals := 1, code := jdk_37_method_2_code, exceptionTable := #[], attributes := #[] }
def k5m0 : Method := { name := "ordinal", desc := "()I", sig := { parameters := [], returnType := some .int }, accessFlags := 17, code := some k5c0 }
/-- java/lang/Enum -/
def k5 : Class := { plain "java/lang/Enum" (some 0) with
  accessFlags := 1057
  interfaces := #[2, 3, 4]
  cf := some (fileOf pool5 2 #[.nestMembers #[106]] #[{ accessFlags := 17, nameIndex := 9, descriptorIndex := 126, attributes := #[] }] 1057 12 #[111, 113, 115] #[{ accessFlags := 18, nameIndex := 5, descriptorIndex := 6, attributes := #[] }, { accessFlags := 18, nameIndex := 9, descriptorIndex := 10, attributes := #[] }, { accessFlags := 2, nameIndex := 19, descriptorIndex := 10, attributes := #[] }])
  fields := #[{ name := "name", type := (.object "java/lang/String"), accessFlags := 18, slot := 0, constantValue := 0 }, { name := "ordinal", type := .int, accessFlags := 18, slot := 1, constantValue := 0 }, { name := "hash", type := .int, accessFlags := 2, slot := 2, constantValue := 0 }]
  methods := #[k5m0]
  instanceTypes := #[(.object "java/lang/String"), .int, .int]
  staticTypes := #[]
  resolved := Array.replicate 204 none
  statics := none }

def pool6 : Array CpInfo := pool [(1, .class_ 2), (0, u "com/example/gavelbook/gavelbook/Orders$Kind"), (2, u "LIMIT"), (0, u "Lcom/example/gavelbook/gavelbook/Orders$Kind;"), (2, u "NON_COMPETITIVE"), (2, u "MARKET"), (2, u "BUY"), (2, u "SELL"), (2, u "$VALUES"), (0, u "[Lcom/example/gavelbook/gavelbook/Orders$Kind;"), (6, .class_ 31), (1, u "java/lang/Enum"), (8, u "takesQuantity"), (0, u "Z"), (2, u "takesPrice"), (2, u "takesAmount"), (26, .class_ 75), (0, u "com/example/gavelbook/gavelbook/Orders")] 2

/-- com/example/gavelbook/gavelbook/Orders$Kind -/
def k6 : Class := { plain "com/example/gavelbook/gavelbook/Orders$Kind" (some 5) with
  accessFlags := 16432
  interfaces := #[]
  cf := some (fileOf pool6 1 #[.nestHost 74] #[] 16432 29 #[] #[{ accessFlags := 16409, nameIndex := 5, descriptorIndex := 6, attributes := #[] }, { accessFlags := 16409, nameIndex := 9, descriptorIndex := 6, attributes := #[] }, { accessFlags := 16409, nameIndex := 12, descriptorIndex := 6, attributes := #[] }, { accessFlags := 16409, nameIndex := 15, descriptorIndex := 6, attributes := #[] }, { accessFlags := 16409, nameIndex := 18, descriptorIndex := 6, attributes := #[] }, { accessFlags := 18, nameIndex := 40, descriptorIndex := 41, attributes := #[] }, { accessFlags := 18, nameIndex := 44, descriptorIndex := 41, attributes := #[] }, { accessFlags := 18, nameIndex := 47, descriptorIndex := 41, attributes := #[] }, { accessFlags := 4122, nameIndex := 21, descriptorIndex := 22, attributes := #[] }])
  fields := #[{ name := "LIMIT", type := (.object "com/example/gavelbook/gavelbook/Orders$Kind"), accessFlags := 16409, slot := 0, constantValue := 0 }, { name := "NON_COMPETITIVE", type := (.object "com/example/gavelbook/gavelbook/Orders$Kind"), accessFlags := 16409, slot := 1, constantValue := 0 }, { name := "MARKET", type := (.object "com/example/gavelbook/gavelbook/Orders$Kind"), accessFlags := 16409, slot := 2, constantValue := 0 }, { name := "BUY", type := (.object "com/example/gavelbook/gavelbook/Orders$Kind"), accessFlags := 16409, slot := 3, constantValue := 0 }, { name := "SELL", type := (.object "com/example/gavelbook/gavelbook/Orders$Kind"), accessFlags := 16409, slot := 4, constantValue := 0 }, { name := "takesQuantity", type := .boolean, accessFlags := 18, slot := 3, constantValue := 0 }, { name := "takesPrice", type := .boolean, accessFlags := 18, slot := 4, constantValue := 0 }, { name := "takesAmount", type := .boolean, accessFlags := 18, slot := 5, constantValue := 0 }, { name := "$VALUES", type := (.array (.object "com/example/gavelbook/gavelbook/Orders$Kind")), accessFlags := 4122, slot := 5, constantValue := 0 }]
  methods := #[]
  instanceTypes := #[(.object "java/lang/String"), .int, .int, .boolean, .boolean, .boolean]
  staticTypes := #[(.object "com/example/gavelbook/gavelbook/Orders$Kind"), (.object "com/example/gavelbook/gavelbook/Orders$Kind"), (.object "com/example/gavelbook/gavelbook/Orders$Kind"), (.object "com/example/gavelbook/gavelbook/Orders$Kind"), (.object "com/example/gavelbook/gavelbook/Orders$Kind"), (.array (.object "com/example/gavelbook/gavelbook/Orders$Kind"))]
  resolved := Array.replicate 78 none
  statics := some 0 }

def pool7 : Array CpInfo := pool [(1, .methodref 2 3), (0, .class_ 4), (0, .nameAndType 5 6), (0, u "java/lang/Object"), (0, u "<init>"), (0, u "()V"), (0, .class_ 8), (0, u "java/util/ArrayList"), (0, .methodref 7 3), (0, .fieldref 11 12), (0, .class_ 13), (0, .nameAndType 14 15), (0, u "com/example/gavelbook/gavelbook/Orders"), (0, u "unpacked"), (0, u "Ljava/util/List;"), (0, .fieldref 11 17), (0, .nameAndType 18 19), (0, u "KINDS"), (0, u "[Lcom/example/gavelbook/gavelbook/Orders$Kind;"), (0, .fieldref 11 21), (0, .nameAndType 22 23), (0, u "kindCounts"), (0, u "[I"), (2, .long 9223372036854775807), (1, .fieldref 11 29), (0, .nameAndType 30 31), (0, u "leastPrice"), (0, u "J"), (0, .long 9223372036854775808), (1, .fieldref 11 35), (0, .nameAndType 36 31), (0, u "mostPrice"), (0, .methodref 38 39), (0, .class_ 40), (0, .nameAndType 41 42), (0, u "java/lang/Math"), (0, u "max"), (0, u "(II)I"), (0, .class_ 44), (0, u "com/example/gavelbook/gavelbook/ByteStrings"), (0, .methodref 43 46), (0, .nameAndType 5 47), (0, u "(IIZ)V"), (0, .fieldref 11 49), (0, .nameAndType 50 51), (0, u "ids"), (0, u "Lcom/example/gavelbook/gavelbook/ByteStrings;"), (0, .fieldref 11 53), (0, .nameAndType 54 51), (0, u "memberNames"), (0, .fieldref 11 56), (0, .nameAndType 57 58), (0, u "lines"), (0, u "[J"), (0, .fieldref 11 60), (0, .nameAndType 61 62), (0, u "kinds"), (0, u "[B"), (0, .fieldref 11 64), (0, .nameAndType 65 58), (0, u "quantities"), (0, .fieldref 11 67), (0, .nameAndType 68 58), (0, u "prices"), (0, .methodref 43 70), (0, .nameAndType 71 72), (0, u "add"), (0, u "([BII)I"), (0, .fieldref 11 74), (0, .nameAndType 75 76), (0, u "size"), (0, u "I"), (9, .fieldref 11 87), (0, .nameAndType 88 58), (0, u "amounts"), (0, .long 18446744073709551615), (5, .methodref 96 97), (0, .class_ 98), (0, .nameAndType 99 100), (0, u "com/example/gavelbook/gavelbook/Orders$Kind"), (0, u "ordinal"), (0, u "()I"), (0, .fieldref 11 102), (0, .nameAndType 103 104), (0, u "byKind"), (0, u "[[I"), (3, u "(I)J"), (0, .fieldref 11 110), (0, .nameAndType 111 112), (0, u "uncounted"), (0, u "Z"), (50, u "NONE"), (1, u "ID_BYTES"), (1, u "MEMBER_BYTES"), (3, u "(I)V"), (2, u "([BIIIIJLcom/example/gavelbook/gavelbook/Orders$Kind;JJJ)I"), (9, u "quantity")] 16

def k7c0 : Code := { maxStack := 6, maxLocals := 3, code := prog_25_method_1_code, exceptionTable := #[], attributes := #[] }
def k7m0 : Method := { name := "<init>", desc := "(I)V", sig := { parameters := [.int], returnType := none }, accessFlags := 0, code := some k7c0 }
def k7c1 : Code := { maxStack := 6, maxLocals := 18, code := prog_25_method_2_code, exceptionTable := #[], attributes := #[] }
def k7m1 : Method := { name := "add", desc := "([BIIIIJLcom/example/gavelbook/gavelbook/Orders$Kind;JJJ)I", sig := { parameters := [(.array .byte), .int, .int, .int, .int, .long, (.object "com/example/gavelbook/gavelbook/Orders$Kind"), .long, .long, .long], returnType := some .int }, accessFlags := 0, code := some k7c1 }
def k7c2 : Code := { maxStack := 1, maxLocals := 1, code := prog_25_method_3_code, exceptionTable := #[], attributes := #[] }
def k7m2 : Method := { name := "size", desc := "()I", sig := { parameters := [], returnType := some .int }, accessFlags := 0, code := some k7c2 }
def k7c3 : Code := { maxStack := 2, maxLocals := 2, code := prog_25_method_10_code, exceptionTable := #[], attributes := #[] }
def k7m3 : Method := { name := "quantity", desc := "(I)J", sig := { parameters := [.int], returnType := some .long }, accessFlags := 0, code := some k7c3 }
/-- com/example/gavelbook/gavelbook/Orders -/
def k7 : Class := { plain "com/example/gavelbook/gavelbook/Orders" (some 0) with
  accessFlags := 48
  interfaces := #[]
  cf := some (fileOf pool7 11 #[.nestMembers #[96]] #[{ accessFlags := 0, nameIndex := 5, descriptorIndex := 171, attributes := #[] }, { accessFlags := 0, nameIndex := 71, descriptorIndex := 174, attributes := #[] }, { accessFlags := 0, nameIndex := 75, descriptorIndex := 100, attributes := #[] }, { accessFlags := 0, nameIndex := 184, descriptorIndex := 108, attributes := #[] }] 48 2 #[] #[{ accessFlags := 24, nameIndex := 163, descriptorIndex := 31, attributes := #[] }, { accessFlags := 26, nameIndex := 18, descriptorIndex := 19, attributes := #[] }, { accessFlags := 26, nameIndex := 165, descriptorIndex := 76, attributes := #[] }, { accessFlags := 26, nameIndex := 167, descriptorIndex := 76, attributes := #[] }, { accessFlags := 18, nameIndex := 50, descriptorIndex := 51, attributes := #[] }, { accessFlags := 18, nameIndex := 54, descriptorIndex := 51, attributes := #[] }, { accessFlags := 18, nameIndex := 14, descriptorIndex := 15, attributes := #[] }, { accessFlags := 2, nameIndex := 75, descriptorIndex := 76, attributes := #[] }, { accessFlags := 2, nameIndex := 57, descriptorIndex := 58, attributes := #[] }, { accessFlags := 2, nameIndex := 61, descriptorIndex := 62, attributes := #[] }, { accessFlags := 2, nameIndex := 65, descriptorIndex := 58, attributes := #[] }, { accessFlags := 2, nameIndex := 68, descriptorIndex := 58, attributes := #[] }, { accessFlags := 2, nameIndex := 88, descriptorIndex := 58, attributes := #[] }, { accessFlags := 18, nameIndex := 22, descriptorIndex := 23, attributes := #[] }, { accessFlags := 2, nameIndex := 103, descriptorIndex := 104, attributes := #[] }, { accessFlags := 2, nameIndex := 30, descriptorIndex := 31, attributes := #[] }, { accessFlags := 2, nameIndex := 36, descriptorIndex := 31, attributes := #[] }, { accessFlags := 2, nameIndex := 111, descriptorIndex := 112, attributes := #[] }])
  fields := #[{ name := "NONE", type := .long, accessFlags := 24, slot := 0, constantValue := 0 }, { name := "KINDS", type := (.array (.object "com/example/gavelbook/gavelbook/Orders$Kind")), accessFlags := 26, slot := 1, constantValue := 0 }, { name := "ID_BYTES", type := .int, accessFlags := 26, slot := 2, constantValue := 0 }, { name := "MEMBER_BYTES", type := .int, accessFlags := 26, slot := 3, constantValue := 0 }, { name := "ids", type := (.object "com/example/gavelbook/gavelbook/ByteStrings"), accessFlags := 18, slot := 0, constantValue := 0 }, { name := "memberNames", type := (.object "com/example/gavelbook/gavelbook/ByteStrings"), accessFlags := 18, slot := 1, constantValue := 0 }, { name := "unpacked", type := (.object "java/util/List"), accessFlags := 18, slot := 2, constantValue := 0 }, { name := "size", type := .int, accessFlags := 2, slot := 3, constantValue := 0 }, { name := "lines", type := (.array .long), accessFlags := 2, slot := 4, constantValue := 0 }, { name := "kinds", type := (.array .byte), accessFlags := 2, slot := 5, constantValue := 0 }, { name := "quantities", type := (.array .long), accessFlags := 2, slot := 6, constantValue := 0 }, { name := "prices", type := (.array .long), accessFlags := 2, slot := 7, constantValue := 0 }, { name := "amounts", type := (.array .long), accessFlags := 2, slot := 8, constantValue := 0 }, { name := "kindCounts", type := (.array .int), accessFlags := 18, slot := 9, constantValue := 0 }, { name := "byKind", type := (.array (.array .int)), accessFlags := 2, slot := 10, constantValue := 0 }, { name := "leastPrice", type := .long, accessFlags := 2, slot := 11, constantValue := 0 }, { name := "mostPrice", type := .long, accessFlags := 2, slot := 12, constantValue := 0 }, { name := "uncounted", type := .boolean, accessFlags := 2, slot := 13, constantValue := 0 }]
  methods := #[k7m0, k7m1, k7m2, k7m3]
  instanceTypes := #[(.object "com/example/gavelbook/gavelbook/ByteStrings"), (.object "com/example/gavelbook/gavelbook/ByteStrings"), (.object "java/util/List"), .int, (.array .long), (.array .byte), (.array .long), (.array .long), (.array .long), (.array .int), (.array (.array .int)), .long, .long, .boolean]
  staticTypes := #[.long, (.array (.object "com/example/gavelbook/gavelbook/Orders$Kind")), .int, .int]
  resolved := Array.replicate 201 none
  statics := some 1 }

def pool8 : Array CpInfo := pool [(8, .class_ 10), (1, u "java/lang/Iterable"), (24, .class_ 36), (0, u "java/lang/Object")] 25

/-- java/lang/Iterable -/
def k8 : Class := { plain "java/lang/Iterable" (some 0) with
  accessFlags := 1537
  interfaces := #[]
  cf := some (fileOf pool8 8 #[] #[] 1537 35 #[] #[])
  fields := #[]
  methods := #[]
  instanceTypes := #[]
  staticTypes := #[]
  resolved := Array.replicate 62 none
  statics := none }

def pool9 : Array CpInfo := pool [(10, .class_ 12), (1, u "java/util/Collection"), (47, .class_ 61), (0, u "java/lang/Object"), (0, .class_ 63), (0, u "java/lang/Iterable")] 51

/-- java/util/Collection -/
def k9 : Class := { plain "java/util/Collection" (some 0) with
  accessFlags := 1537
  interfaces := #[8]
  cf := some (fileOf pool9 10 #[] #[] 1537 60 #[62] #[])
  fields := #[]
  methods := #[]
  instanceTypes := #[]
  staticTypes := #[]
  resolved := Array.replicate 115 none
  statics := none }

def pool10 : Array CpInfo := pool [(1, .methodref 2 3), (0, .class_ 4), (0, .nameAndType 5 6), (0, u "java/lang/Object"), (0, u "<init>"), (0, u "()V"), (1, .class_ 10), (1, u "java/util/AbstractCollection"), (66, .class_ 78), (0, u "java/util/Collection")] 81

def k10c0 : Code := { maxStack := 1, maxLocals := 1, code := jdk_22_method_1_code, exceptionTable := #[], attributes := #[] }
def k10m0 : Method := { name := "<init>", desc := "()V", sig := { parameters := [], returnType := none }, accessFlags := 4, code := some k10c0 }
/-- java/util/AbstractCollection -/
def k10 : Class := { plain "java/util/AbstractCollection" (some 0) with
  accessFlags := 1057
  interfaces := #[9]
  cf := some (fileOf pool10 8 #[] #[{ accessFlags := 4, nameIndex := 5, descriptorIndex := 6, attributes := #[] }] 1057 2 #[77] #[])
  fields := #[]
  methods := #[k10m0]
  instanceTypes := #[]
  staticTypes := #[]
  resolved := Array.replicate 160 none
  statics := none }

def pool11 : Array CpInfo := pool [(8, .class_ 10), (1, u "java/util/SequencedCollection"), (15, .class_ 27), (0, u "java/lang/Object"), (0, .class_ 29), (0, u "java/util/Collection")] 27

/-- java/util/SequencedCollection -/
def k11 : Class := { plain "java/util/SequencedCollection" (some 0) with
  accessFlags := 1537
  interfaces := #[9]
  cf := some (fileOf pool11 8 #[] #[] 1537 26 #[28] #[])
  fields := #[]
  methods := #[]
  instanceTypes := #[]
  staticTypes := #[]
  resolved := Array.replicate 57 none
  statics := none }

def pool12 : Array CpInfo := pool [(8, .class_ 10), (1, u "java/util/List"), (92, .class_ 104), (0, u "java/lang/Object"), (15, .class_ 121), (0, u "java/util/SequencedCollection")] 129

/-- java/util/List -/
def k12 : Class := { plain "java/util/List" (some 0) with
  accessFlags := 1537
  interfaces := #[11]
  cf := some (fileOf pool12 8 #[] #[] 1537 103 #[120] #[])
  fields := #[]
  methods := #[]
  instanceTypes := #[]
  staticTypes := #[]
  resolved := Array.replicate 251 none
  statics := none }

def pool13 : Array CpInfo := pool [(1, .methodref 2 3), (0, .class_ 4), (0, .nameAndType 5 6), (0, u "java/util/AbstractCollection"), (0, u "<init>"), (0, u "()V"), (0, .fieldref 8 9), (0, .class_ 10), (0, .nameAndType 11 12), (0, u "java/util/AbstractList"), (0, u "modCount"), (0, u "I"), (64, .class_ 78), (0, u "java/util/AbstractList$Itr"), (3, .class_ 83), (0, u "java/util/AbstractList$ListItr"), (9, .class_ 94), (0, u "java/util/AbstractList$RandomAccessSubList"), (3, .class_ 99), (0, u "java/util/AbstractList$SubList"), (33, .class_ 134), (0, u "java/util/List"), (73, .class_ 209), (0, u "java/util/AbstractList$SubList$1"), (0, .class_ 211), (0, u "java/util/AbstractList$RandomAccessSpliterator")] 6

def k13c0 : Code := { maxStack := 2, maxLocals := 1, code := jdk_39_method_1_code, exceptionTable := #[], attributes := #[] }
def k13m0 : Method := { name := "<init>", desc := "()V", sig := { parameters := [], returnType := none }, accessFlags := 4, code := some k13c0 }
/-- java/util/AbstractList -/
def k13 : Class := { plain "java/util/AbstractList" (some 10) with
  accessFlags := 1057
  interfaces := #[12]
  cf := some (fileOf pool13 8 #[.nestMembers #[93, 98, 208, 210, 82, 77]] #[{ accessFlags := 4, nameIndex := 5, descriptorIndex := 6, attributes := #[] }] 1057 2 #[133] #[{ accessFlags := 132, nameIndex := 11, descriptorIndex := 12, attributes := #[] }])
  fields := #[{ name := "modCount", type := .int, accessFlags := 132, slot := 0, constantValue := 0 }]
  methods := #[k13m0]
  instanceTypes := #[.int]
  staticTypes := #[]
  resolved := Array.replicate 218 none
  statics := none }

def pool14 : Array CpInfo := pool [(1, .class_ 2), (0, u "java/util/RandomAccess"), (0, .class_ 4), (0, u "java/lang/Object")] 2

/-- java/util/RandomAccess -/
def k14 : Class := { plain "java/util/RandomAccess" (some 0) with
  accessFlags := 1537
  interfaces := #[]
  cf := some (fileOf pool14 1 #[] #[] 1537 3 #[] #[])
  fields := #[]
  methods := #[]
  instanceTypes := #[]
  staticTypes := #[]
  resolved := Array.replicate 7 none
  statics := none }

def pool15 : Array CpInfo := pool [(1, .class_ 2), (0, u "java/lang/Cloneable"), (0, .class_ 4), (0, u "java/lang/Object")] 2

/-- java/lang/Cloneable -/
def k15 : Class := { plain "java/lang/Cloneable" (some 0) with
  accessFlags := 1537
  interfaces := #[]
  cf := some (fileOf pool15 1 #[] #[] 1537 3 #[] #[])
  fields := #[]
  methods := #[]
  instanceTypes := #[]
  staticTypes := #[]
  resolved := Array.replicate 7 none
  statics := none }

def pool16 : Array CpInfo := pool [(1, .methodref 2 3), (0, .class_ 4), (0, .nameAndType 5 6), (0, u "java/util/AbstractList"), (0, u "<init>"), (0, u "()V"), (2, .fieldref 10 11), (0, .class_ 12), (0, .nameAndType 13 14), (0, u "java/util/ArrayList"), (0, u "elementData"), (0, u "[Ljava/lang/Object;"), (2, u "EMPTY_ELEMENTDATA"), (21, .fieldref 10 40), (0, .nameAndType 41 14), (0, u "DEFAULTCAPACITY_EMPTY_ELEMENTDATA"), (8, u "size"), (0, u "I"), (96, .class_ 149), (0, u "java/util/List"), (112, .class_ 263), (0, u "java/util/ArrayList$ListItr"), (3, .class_ 268), (0, u "java/util/ArrayList$Itr"), (7, .class_ 277), (0, u "java/util/ArrayList$SubList"), (12, .class_ 291), (0, u "java/util/ArrayList$ArrayListSpliterator"), (37, .class_ 330), (0, u "java/util/RandomAccess"), (0, .class_ 332), (0, u "java/lang/Cloneable"), (0, .class_ 334), (0, u "java/io/Serializable"), (0, u "serialVersionUID"), (0, u "J"), (3, u "DEFAULT_CAPACITY"), (159, .class_ 501), (0, u "java/util/ArrayList$SubList$2"), (0, .class_ 503), (0, u "java/util/ArrayList$SubList$1")] 5

def k16c0 : Code := { maxStack := 2, maxLocals := 1, code := jdk_38_method_2_code, exceptionTable := #[], attributes := #[] }
def k16m0 : Method := { name := "<init>", desc := "()V", sig := { parameters := [], returnType := none }, accessFlags := 1, code := some k16c0 }
/-- java/util/ArrayList -/
def k16 : Class := { plain "java/util/ArrayList" (some 13) with
  accessFlags := 33
  interfaces := #[12, 14, 15, 4]
  cf := some (fileOf pool16 10 #[.nestMembers #[290, 276, 500, 502, 262, 267]] #[{ accessFlags := 1, nameIndex := 5, descriptorIndex := 6, attributes := #[] }] 33 2 #[148, 329, 331, 333] #[{ accessFlags := 26, nameIndex := 335, descriptorIndex := 336, attributes := #[] }, { accessFlags := 26, nameIndex := 340, descriptorIndex := 51, attributes := #[] }, { accessFlags := 26, nameIndex := 17, descriptorIndex := 14, attributes := #[] }, { accessFlags := 26, nameIndex := 41, descriptorIndex := 14, attributes := #[] }, { accessFlags := 128, nameIndex := 13, descriptorIndex := 14, attributes := #[] }, { accessFlags := 2, nameIndex := 50, descriptorIndex := 51, attributes := #[] }])
  fields := #[{ name := "serialVersionUID", type := .long, accessFlags := 26, slot := 0, constantValue := 0 }, { name := "DEFAULT_CAPACITY", type := .int, accessFlags := 26, slot := 1, constantValue := 0 }, { name := "EMPTY_ELEMENTDATA", type := (.array (.object "java/lang/Object")), accessFlags := 26, slot := 2, constantValue := 0 }, { name := "DEFAULTCAPACITY_EMPTY_ELEMENTDATA", type := (.array (.object "java/lang/Object")), accessFlags := 26, slot := 3, constantValue := 0 }, { name := "elementData", type := (.array (.object "java/lang/Object")), accessFlags := 128, slot := 1, constantValue := 0 }, { name := "size", type := .int, accessFlags := 2, slot := 2, constantValue := 0 }]
  methods := #[k16m0]
  instanceTypes := #[.int, (.array (.object "java/lang/Object")), .int]
  staticTypes := #[.long, .int, (.array (.object "java/lang/Object")), (.array (.object "java/lang/Object"))]
  resolved := Array.replicate 509 none
  statics := some 2 }

def pool17 : Array CpInfo := pool [(1, .class_ 2), (0, u "java/lang/Math"), (1, .class_ 6), (1, u "java/lang/Object"), (0, u "<init>"), (0, u "()V"), (89, .class_ 100), (1, u "java/lang/Math$RandomNumberGeneratorHolder"), (71, u "negativeZeroFloatBits"), (0, u "J"), (2, u "negativeZeroDoubleBits"), (21, u "max"), (46, u "$assertionsDisabled"), (0, u "Z"), (88, u "(II)I"), (2, u "twoToTheDoubleScaleDown"), (0, u "D"), (4, u "twoToTheDoubleScaleUp"), (9, u "E"), (3, u "PI"), (2, u "TAU"), (2, u "DEGREES_TO_RADIANS"), (0, u "RADIANS_TO_DEGREES")] 94

def k17m0 : Method := { name := "<init>", desc := "()V", sig := { parameters := [], returnType := none }, accessFlags := 2, code := none }
def k17c1 : Code := { maxStack := 2, maxLocals := 2, code := jdk_29_method_65_code, exceptionTable := #[], attributes := #[] }
def k17m1 : Method := { name := "max", desc := "(II)I", sig := { parameters := [.int, .int], returnType := some .int }, accessFlags := 9, code := some k17c1 }
/-- java/lang/Math -/
def k17 : Class := { plain "java/lang/Math" (some 0) with
  accessFlags := 49
  interfaces := #[]
  cf := some (fileOf pool17 1 #[.nestMembers #[98]] #[{ accessFlags := 2, nameIndex := 7, descriptorIndex := 8, attributes := #[] }, { accessFlags := 9, nameIndex := 198, descriptorIndex := 335, attributes := #[] }] 49 4 #[] #[{ accessFlags := 25, nameIndex := 354, descriptorIndex := 339, attributes := #[] }, { accessFlags := 25, nameIndex := 358, descriptorIndex := 339, attributes := #[] }, { accessFlags := 25, nameIndex := 361, descriptorIndex := 339, attributes := #[] }, { accessFlags := 26, nameIndex := 364, descriptorIndex := 339, attributes := #[] }, { accessFlags := 26, nameIndex := 365, descriptorIndex := 339, attributes := #[] }, { accessFlags := 26, nameIndex := 172, descriptorIndex := 173, attributes := #[] }, { accessFlags := 26, nameIndex := 176, descriptorIndex := 173, attributes := #[] }, { accessFlags := 8, nameIndex := 344, descriptorIndex := 339, attributes := #[] }, { accessFlags := 8, nameIndex := 338, descriptorIndex := 339, attributes := #[] }, { accessFlags := 4120, nameIndex := 245, descriptorIndex := 246, attributes := #[] }])
  fields := #[{ name := "E", type := .double, accessFlags := 25, slot := 0, constantValue := 0 }, { name := "PI", type := .double, accessFlags := 25, slot := 1, constantValue := 0 }, { name := "TAU", type := .double, accessFlags := 25, slot := 2, constantValue := 0 }, { name := "DEGREES_TO_RADIANS", type := .double, accessFlags := 26, slot := 3, constantValue := 0 }, { name := "RADIANS_TO_DEGREES", type := .double, accessFlags := 26, slot := 4, constantValue := 0 }, { name := "negativeZeroFloatBits", type := .long, accessFlags := 26, slot := 5, constantValue := 0 }, { name := "negativeZeroDoubleBits", type := .long, accessFlags := 26, slot := 6, constantValue := 0 }, { name := "twoToTheDoubleScaleUp", type := .double, accessFlags := 8, slot := 7, constantValue := 0 }, { name := "twoToTheDoubleScaleDown", type := .double, accessFlags := 8, slot := 8, constantValue := 0 }, { name := "$assertionsDisabled", type := .boolean, accessFlags := 4120, slot := 9, constantValue := 0 }]
  methods := #[k17m0, k17m1]
  instanceTypes := #[]
  staticTypes := #[.double, .double, .double, .double, .double, .long, .long, .double, .double, .boolean]
  resolved := Array.replicate 460 none
  statics := none }

def pool18 : Array CpInfo := pool [(1, .class_ 2), (0, u "java/lang/Integer"), (0, .methodref 4 5), (0, .class_ 6), (0, .nameAndType 7 8), (0, u "java/lang/Object"), (0, u "<init>"), (0, u "()V"), (0, .methodref 10 11), (0, .class_ 12), (0, .nameAndType 13 14), (0, u "java/lang/Math"), (0, u "max"), (0, u "(II)I"), (0, .fieldref 16 17), (0, .class_ 18), (0, .nameAndType 19 20), (0, u "com/example/gavelbook/gavelbook/ByteStrings"), (0, u "bytes"), (0, u "[B"), (0, .fieldref 16 22), (0, .nameAndType 23 24), (0, u "ends"), (0, u "[I"), (0, .fieldref 16 26), (0, .nameAndType 27 24), (0, u "byValue"), (0, .methodref 1 29), (0, .nameAndType 30 31), (0, u "highestOneBit"), (0, u "(I)I"), (0, .fieldref 16 33), (0, .nameAndType 34 35), (0, u "expectedSlots"), (0, u "I"), (0, .methodref 16 37), (0, .nameAndType 38 39), (0, u "append"), (0, u "([BII)I"), (0, .methodref 16 41), (0, .nameAndType 42 39), (0, u "value"), (0, .fieldref 16 44), (0, .nameAndType 45 46), (0, u "crowded"), (0, u "Ljava/util/Map;"), (11, .fieldref 16 59), (0, .nameAndType 60 35), (0, u "size"), (13, u "()I"), (0, .fieldref 16 76), (0, .nameAndType 77 78), (0, u "slots"), (0, u "[J"), (0, .methodref 16 80), (0, .nameAndType 81 31), (0, u "spread"), (0, .methodref 16 83), (0, .nameAndType 84 85), (0, u "equal"), (0, u "(I[BII)Z"), (0, .fieldref 16 87), (0, .nameAndType 88 89), (0, u "probes"), (0, u "J"), (0, .long 16), (1, .fieldref 16 93), (0, .nameAndType 94 35), (0, u "hashed"), (0, .long 1048576), (4, .methodref 16 101), (0, .nameAndType 102 39), (0, u "add"), (3, .integer 2147483631), (0, .methodref 16 108), (0, .nameAndType 109 74), (0, u "end"), (7, .long 2147483631), (1, .long 2), (14, .methodref 135 136), (0, .class_ 137), (0, .nameAndType 138 139), (0, u "java/lang/System"), (0, u "arraycopy"), (0, u "(Ljava/lang/Object;ILjava/lang/Object;II)V"), (0, .methodref 16 141), (0, .nameAndType 142 31), (0, u "start"), (14, u "MOST_BYTES"), (1, u "PROBES_A_STRING"), (0, u "FREE_PROBES"), (0, u "VALUES_A_STRING"), (3, u "(IIZ)V")] 10

def k18c0 : Code := { maxStack := 3, maxLocals := 5, code := prog_10_method_1_code, exceptionTable := #[], attributes := #[] }
def k18m0 : Method := { name := "<init>", desc := "(IIZ)V", sig := { parameters := [.int, .int, .boolean], returnType := none }, accessFlags := 0, code := some k18c0 }
def k18c1 : Code := { maxStack := 7, maxLocals := 11, code := prog_10_method_2_code, exceptionTable := #[], attributes := #[] }
def k18m1 : Method := { name := "add", desc := "([BII)I", sig := { parameters := [(.array .byte), .int, .int], returnType := some .int }, accessFlags := 0, code := some k18c1 }
def k18c2 : Code := { maxStack := 2, maxLocals := 7, code := prog_10_method_3_code, exceptionTable := #[], attributes := #[] }
def k18m2 : Method := { name := "value", desc := "([BII)I", sig := { parameters := [(.array .byte), .int, .int], returnType := some .int }, accessFlags := 2, code := some k18c2 }
def k18c3 : Code := { maxStack := 8, maxLocals := 4, code := prog_10_method_4_code, exceptionTable := #[], attributes := #[] }
def k18m3 : Method := { name := "append", desc := "([BII)I", sig := { parameters := [(.array .byte), .int, .int], returnType := some .int }, accessFlags := 2, code := some k18c3 }
def k18c4 : Code := { maxStack := 3, maxLocals := 2, code := prog_10_method_7_code, exceptionTable := #[], attributes := #[] }
def k18m4 : Method := { name := "start", desc := "(I)I", sig := { parameters := [.int], returnType := some .int }, accessFlags := 2, code := some k18c4 }
def k18c5 : Code := { maxStack := 3, maxLocals := 1, code := prog_10_method_8_code, exceptionTable := #[], attributes := #[] }
def k18m5 : Method := { name := "end", desc := "()I", sig := { parameters := [], returnType := some .int }, accessFlags := 2, code := some k18c5 }
def k18c6 : Code := { maxStack := 4, maxLocals := 7, code := prog_10_method_9_code, exceptionTable := #[], attributes := #[] }
def k18m6 : Method := { name := "equal", desc := "(I[BII)Z", sig := { parameters := [.int, (.array .byte), .int, .int], returnType := some .boolean }, accessFlags := 2, code := some k18c6 }
def k18c7 : Code := { maxStack := 3, maxLocals := 1, code := prog_10_method_12_code, exceptionTable := #[], attributes := #[] }
def k18m7 : Method := { name := "spread", desc := "(I)I", sig := { parameters := [.int], returnType := some .int }, accessFlags := 10, code := some k18c7 }
/-- com/example/gavelbook/gavelbook/ByteStrings -/
def k18 : Class := { plain "com/example/gavelbook/gavelbook/ByteStrings" (some 0) with
  accessFlags := 48
  interfaces := #[]
  cf := some (fileOf pool18 16 #[] #[{ accessFlags := 0, nameIndex := 7, descriptorIndex := 165, attributes := #[] }, { accessFlags := 0, nameIndex := 102, descriptorIndex := 39, attributes := #[] }, { accessFlags := 2, nameIndex := 42, descriptorIndex := 39, attributes := #[] }, { accessFlags := 2, nameIndex := 38, descriptorIndex := 39, attributes := #[] }, { accessFlags := 2, nameIndex := 142, descriptorIndex := 31, attributes := #[] }, { accessFlags := 2, nameIndex := 109, descriptorIndex := 74, attributes := #[] }, { accessFlags := 2, nameIndex := 84, descriptorIndex := 85, attributes := #[] }, { accessFlags := 10, nameIndex := 81, descriptorIndex := 31, attributes := #[] }] 48 4 #[] #[{ accessFlags := 26, nameIndex := 157, descriptorIndex := 35, attributes := #[] }, { accessFlags := 26, nameIndex := 159, descriptorIndex := 89, attributes := #[] }, { accessFlags := 26, nameIndex := 160, descriptorIndex := 89, attributes := #[] }, { accessFlags := 26, nameIndex := 161, descriptorIndex := 35, attributes := #[] }, { accessFlags := 2, nameIndex := 19, descriptorIndex := 20, attributes := #[] }, { accessFlags := 2, nameIndex := 23, descriptorIndex := 24, attributes := #[] }, { accessFlags := 2, nameIndex := 60, descriptorIndex := 35, attributes := #[] }, { accessFlags := 18, nameIndex := 27, descriptorIndex := 24, attributes := #[] }, { accessFlags := 18, nameIndex := 34, descriptorIndex := 35, attributes := #[] }, { accessFlags := 2, nameIndex := 77, descriptorIndex := 78, attributes := #[] }, { accessFlags := 2, nameIndex := 45, descriptorIndex := 46, attributes := #[] }, { accessFlags := 2, nameIndex := 94, descriptorIndex := 35, attributes := #[] }, { accessFlags := 2, nameIndex := 88, descriptorIndex := 89, attributes := #[] }])
  fields := #[{ name := "MOST_BYTES", type := .int, accessFlags := 26, slot := 0, constantValue := 0 }, { name := "PROBES_A_STRING", type := .long, accessFlags := 26, slot := 1, constantValue := 0 }, { name := "FREE_PROBES", type := .long, accessFlags := 26, slot := 2, constantValue := 0 }, { name := "VALUES_A_STRING", type := .int, accessFlags := 26, slot := 3, constantValue := 0 }, { name := "bytes", type := (.array .byte), accessFlags := 2, slot := 0, constantValue := 0 }, { name := "ends", type := (.array .int), accessFlags := 2, slot := 1, constantValue := 0 }, { name := "size", type := .int, accessFlags := 2, slot := 2, constantValue := 0 }, { name := "byValue", type := (.array .int), accessFlags := 18, slot := 3, constantValue := 0 }, { name := "expectedSlots", type := .int, accessFlags := 18, slot := 4, constantValue := 0 }, { name := "slots", type := (.array .long), accessFlags := 2, slot := 5, constantValue := 0 }, { name := "crowded", type := (.object "java/util/Map"), accessFlags := 2, slot := 6, constantValue := 0 }, { name := "hashed", type := .int, accessFlags := 2, slot := 7, constantValue := 0 }, { name := "probes", type := .long, accessFlags := 2, slot := 8, constantValue := 0 }]
  methods := #[k18m0, k18m1, k18m2, k18m3, k18m4, k18m5, k18m6, k18m7]
  instanceTypes := #[(.array .byte), (.array .int), .int, (.array .int), .int, (.array .long), (.object "java/util/Map"), .int, .long]
  staticTypes := #[.int, .long, .long, .int]
  resolved := Array.replicate 176 none
  statics := none }

def pool19 : Array CpInfo := pool [(2, .class_ 4), (1, u "java/lang/Object"), (0, u "<init>"), (0, u "()V"), (1, .class_ 10), (1, u "java/lang/Number"), (2, .class_ 14), (0, u "java/io/Serializable"), (0, u "serialVersionUID"), (0, u "J")] 20

def k19m0 : Method := { name := "<init>", desc := "()V", sig := { parameters := [], returnType := none }, accessFlags := 1, code := none }
/-- java/lang/Number -/
def k19 : Class := { plain "java/lang/Number" (some 0) with
  accessFlags := 1057
  interfaces := #[4]
  cf := some (fileOf pool19 8 #[] #[{ accessFlags := 1, nameIndex := 5, descriptorIndex := 6, attributes := #[] }] 1057 2 #[13] #[{ accessFlags := 26, nameIndex := 15, descriptorIndex := 16, attributes := #[] }])
  fields := #[{ name := "serialVersionUID", type := .long, accessFlags := 26, slot := 0, constantValue := 0 }]
  methods := #[k19m0]
  instanceTypes := #[]
  staticTypes := #[.long]
  resolved := Array.replicate 37 none
  statics := none }

def pool20 : Array CpInfo := pool [(1, .class_ 2), (0, u "java/lang/constant/ConstantDesc"), (0, .class_ 4), (0, u "java/lang/Object")] 32

/-- java/lang/constant/ConstantDesc -/
def k20 : Class := { plain "java/lang/constant/ConstantDesc" (some 0) with
  accessFlags := 1537
  interfaces := #[]
  cf := some (fileOf pool20 1 #[] #[] 1537 3 #[] #[])
  fields := #[]
  methods := #[]
  instanceTypes := #[]
  staticTypes := #[]
  resolved := Array.replicate 37 none
  statics := none }

def pool21 : Array CpInfo := pool [(1, .class_ 2), (0, u "java/lang/Integer"), (16, u "digits"), (0, u "[C"), (30, .methodref 1 52), (0, .nameAndType 53 54), (0, u "numberOfLeadingZeros"), (0, u "(I)I"), (30, u "DigitOnes"), (0, u "[B"), (2, u "DigitTens"), (37, .integer 2147483648), (61, .class_ 190), (0, u "java/lang/Integer$IntegerCache"), (3, u "I"), (8, .class_ 204), (0, u "java/lang/Number"), (2, u "value"), (56, .integer 65536), (37, u "TYPE"), (0, u "Ljava/lang/Class;"), (0, .class_ 305), (0, u "java/lang/Comparable"), (0, .class_ 307), (0, u "java/lang/constant/Constable"), (0, .class_ 309), (0, u "java/lang/constant/ConstantDesc"), (0, u "MIN_VALUE"), (1, u "MAX_VALUE"), (3, u "SIZE"), (1, u "BYTES"), (1, u "serialVersionUID"), (0, u "J"), (81, u "highestOneBit")] 49

def k21c0 : Code := { maxStack := 3, maxLocals := 1, code := jdk_33_method_45_code, exceptionTable := #[], attributes := #[] }
def k21m0 : Method := { name := "highestOneBit", desc := "(I)I", sig := { parameters := [.int], returnType := some .int }, accessFlags := 9, code := some k21c0 }
def k21c1 : Code := { maxStack := 3, maxLocals := 2, code := jdk_33_method_47_code, exceptionTable := #[], attributes := #[] }
def k21m1 : Method := { name := "numberOfLeadingZeros", desc := "(I)I", sig := { parameters := [.int], returnType := some .int }, accessFlags := 9, code := some k21c1 }
/-- java/lang/Integer -/
def k21 : Class := { plain "java/lang/Integer" (some 19) with
  accessFlags := 49
  interfaces := #[3, 2, 20]
  cf := some (fileOf pool21 1 #[.nestMembers #[189]] #[{ accessFlags := 9, nameIndex := 403, descriptorIndex := 54, attributes := #[] }, { accessFlags := 9, nameIndex := 53, descriptorIndex := 54, attributes := #[] }] 49 203 #[304, 306, 308] #[{ accessFlags := 25, nameIndex := 310, descriptorIndex := 194, attributes := #[] }, { accessFlags := 25, nameIndex := 312, descriptorIndex := 194, attributes := #[] }, { accessFlags := 25, nameIndex := 302, descriptorIndex := 303, attributes := #[] }, { accessFlags := 24, nameIndex := 19, descriptorIndex := 20, attributes := #[] }, { accessFlags := 24, nameIndex := 89, descriptorIndex := 86, attributes := #[] }, { accessFlags := 24, nameIndex := 85, descriptorIndex := 86, attributes := #[] }, { accessFlags := 18, nameIndex := 207, descriptorIndex := 194, attributes := #[] }, { accessFlags := 25, nameIndex := 316, descriptorIndex := 194, attributes := #[] }, { accessFlags := 25, nameIndex := 318, descriptorIndex := 194, attributes := #[] }, { accessFlags := 26, nameIndex := 320, descriptorIndex := 321, attributes := #[] }])
  fields := #[{ name := "MIN_VALUE", type := .int, accessFlags := 25, slot := 0, constantValue := 0 }, { name := "MAX_VALUE", type := .int, accessFlags := 25, slot := 1, constantValue := 0 }, { name := "TYPE", type := (.object "java/lang/Class"), accessFlags := 25, slot := 2, constantValue := 0 }, { name := "digits", type := (.array .char), accessFlags := 24, slot := 3, constantValue := 0 }, { name := "DigitTens", type := (.array .byte), accessFlags := 24, slot := 4, constantValue := 0 }, { name := "DigitOnes", type := (.array .byte), accessFlags := 24, slot := 5, constantValue := 0 }, { name := "value", type := .int, accessFlags := 18, slot := 0, constantValue := 0 }, { name := "SIZE", type := .int, accessFlags := 25, slot := 6, constantValue := 0 }, { name := "BYTES", type := .int, accessFlags := 25, slot := 7, constantValue := 0 }, { name := "serialVersionUID", type := .long, accessFlags := 26, slot := 8, constantValue := 0 }]
  methods := #[k21m0, k21m1]
  instanceTypes := #[.int]
  staticTypes := #[.int, .int, (.object "java/lang/Class"), (.array .char), (.array .byte), (.array .byte), .int, .int, .long]
  resolved := Array.replicate 453 none
  statics := none }

def pool22 : Array CpInfo := pool [(2, .class_ 4), (1, u "java/lang/Object"), (0, u "<init>"), (0, u "()V"), (1, .class_ 10), (1, u "java/lang/System"), (0, u "allowSecurityManager"), (0, u "I"), (16, u "cons"), (0, u "Ljava/io/Console;"), (77, .class_ 110), (1, u "java/lang/System$CallersHolder"), (43, u "initialErrStream"), (0, u "Ljava/io/PrintStream;"), (19, u "security"), (0, u "Ljava/lang/SecurityManager;"), (31, .class_ 209), (0, u "java/lang/System$1"), (7, u "props"), (0, u "Ljava/util/Properties;"), (2, u "lineSeparator"), (0, u "Ljava/lang/String;"), (96, .class_ 321), (1, u "java/lang/System$LoggerFinder"), (5, .class_ 328), (0, u "java/lang/System$Logger"), (67, u "err"), (2, u "out"), (91, u "notSupportedJnuEncoding"), (15, u "in"), (17, u "initialIn"), (0, u "Ljava/io/InputStream;"), (35, u "bootLayer"), (0, u "Ljava/lang/ModuleLayer;"), (99, .class_ 664), (0, u "java/lang/System$2"), (9, u "NEVER"), (2, u "MAYBE"), (49, u "arraycopy"), (0, u "(Ljava/lang/Object;ILjava/lang/Object;II)V"), (72, .class_ 802), (0, u "java/lang/System$Logger$Level")] 31

def k22m0 : Method := { name := "<init>", desc := "()V", sig := { parameters := [], returnType := none }, accessFlags := 2, code := none }
def k22m1 : Method := { name := "arraycopy", desc := "(Ljava/lang/Object;ILjava/lang/Object;II)V", sig := { parameters := [(.object "java/lang/Object"), .int, (.object "java/lang/Object"), .int, .int], returnType := none }, accessFlags := 265, code := none }
/-- java/lang/System -/
def k22 : Class := { plain "java/lang/System" (some 0) with
  accessFlags := 49
  interfaces := #[]
  cf := some (fileOf pool22 8 #[.nestMembers #[319, 327, 801, 108, 663, 208]] #[{ accessFlags := 2, nameIndex := 5, descriptorIndex := 6, attributes := #[] }, { accessFlags := 265, nameIndex := 727, descriptorIndex := 728, attributes := #[] }] 49 2 #[] #[{ accessFlags := 25, nameIndex := 507, descriptorIndex := 526, attributes := #[] }, { accessFlags := 25, nameIndex := 399, descriptorIndex := 155, attributes := #[] }, { accessFlags := 25, nameIndex := 396, descriptorIndex := 155, attributes := #[] }, { accessFlags := 10, nameIndex := 525, descriptorIndex := 526, attributes := #[] }, { accessFlags := 26, nameIndex := 674, descriptorIndex := 12, attributes := #[] }, { accessFlags := 26, nameIndex := 677, descriptorIndex := 12, attributes := #[] }, { accessFlags := 10, nameIndex := 11, descriptorIndex := 12, attributes := #[] }, { accessFlags := 74, nameIndex := 175, descriptorIndex := 176, attributes := #[] }, { accessFlags := 10, nameIndex := 491, descriptorIndex := 222, attributes := #[] }, { accessFlags := 74, nameIndex := 29, descriptorIndex := 30, attributes := #[] }, { accessFlags := 74, nameIndex := 154, descriptorIndex := 155, attributes := #[] }, { accessFlags := 10, nameIndex := 217, descriptorIndex := 218, attributes := #[] }, { accessFlags := 10, nameIndex := 221, descriptorIndex := 222, attributes := #[] }, { accessFlags := 8, nameIndex := 562, descriptorIndex := 563, attributes := #[] }])
  fields := #[{ name := "in", type := (.object "java/io/InputStream"), accessFlags := 25, slot := 0, constantValue := 0 }, { name := "out", type := (.object "java/io/PrintStream"), accessFlags := 25, slot := 1, constantValue := 0 }, { name := "err", type := (.object "java/io/PrintStream"), accessFlags := 25, slot := 2, constantValue := 0 }, { name := "initialIn", type := (.object "java/io/InputStream"), accessFlags := 10, slot := 3, constantValue := 0 }, { name := "NEVER", type := .int, accessFlags := 26, slot := 4, constantValue := 0 }, { name := "MAYBE", type := .int, accessFlags := 26, slot := 5, constantValue := 0 }, { name := "allowSecurityManager", type := .int, accessFlags := 10, slot := 6, constantValue := 0 }, { name := "security", type := (.object "java/lang/SecurityManager"), accessFlags := 74, slot := 7, constantValue := 0 }, { name := "notSupportedJnuEncoding", type := (.object "java/lang/String"), accessFlags := 10, slot := 8, constantValue := 0 }, { name := "cons", type := (.object "java/io/Console"), accessFlags := 74, slot := 9, constantValue := 0 }, { name := "initialErrStream", type := (.object "java/io/PrintStream"), accessFlags := 74, slot := 10, constantValue := 0 }, { name := "props", type := (.object "java/util/Properties"), accessFlags := 10, slot := 11, constantValue := 0 }, { name := "lineSeparator", type := (.object "java/lang/String"), accessFlags := 10, slot := 12, constantValue := 0 }, { name := "bootLayer", type := (.object "java/lang/ModuleLayer"), accessFlags := 8, slot := 13, constantValue := 0 }]
  methods := #[k22m0, k22m1]
  instanceTypes := #[]
  staticTypes := #[(.object "java/io/InputStream"), (.object "java/io/PrintStream"), (.object "java/io/PrintStream"), (.object "java/io/InputStream"), .int, .int, .int, (.object "java/lang/SecurityManager"), (.object "java/lang/String"), (.object "java/io/Console"), (.object "java/io/PrintStream"), (.object "java/util/Properties"), (.object "java/lang/String"), (.object "java/lang/ModuleLayer")]
  resolved := Array.replicate 834 none
  statics := none }

/-- the primitive byte -/
def k23 : Class := { plain "byte" none with kind := .primitive 'B', accessFlags := 0x411 }
/-- [B -/
def k24 : Class := { plain "[B" (some 0) with kind := .array 23 .byte, interfaces := #[15, 4], accessFlags := 1041 }

/-- the primitive int -/
def k25 : Class := { plain "int" none with kind := .primitive 'I', accessFlags := 0x411 }
/-- [I -/
def k26 : Class := { plain "[I" (some 0) with kind := .array 25 .int, interfaces := #[15, 4], accessFlags := 1041 }

/-- the primitive long -/
def k27 : Class := { plain "long" none with kind := .primitive 'J', accessFlags := 0x411 }
/-- [J -/
def k28 : Class := { plain "[J" (some 0) with kind := .array 27 .long, interfaces := #[15, 4], accessFlags := 1041 }

/-- [Lcom/example/gavelbook/gavelbook/Orders$Kind; -/
def k29 : Class := { plain "[Lcom/example/gavelbook/gavelbook/Orders$Kind;" (some 0) with kind := .array 6 (.object "com/example/gavelbook/gavelbook/Orders$Kind"), interfaces := #[15, 4], accessFlags := 1041 }

/-- [Ljava/lang/Object; -/
def k30 : Class := { plain "[Ljava/lang/Object;" (some 0) with kind := .array 0 (.object "java/lang/Object"), interfaces := #[15, 4], accessFlags := 1041 }

def heap : Heap := #[{ cls := 6, slots := #[.ref 4, .ref 5, .ref 6, .ref 7, .ref 8, .null], vm := .statics 6 },
  { cls := 7, slots := #[.long 0, .ref 3, .int 0, .int 0], vm := .statics 7 },
  { cls := 16, slots := #[.long 0, .int 0, .ref 9, .ref 10], vm := .statics 16 },
  { cls := 29, slots := #[.ref 4, .ref 5, .ref 6, .ref 7, .ref 8], vm := .none },
  { cls := 6, slots := #[.null, .int 0, .int 0, .int 0, .int 0, .int 0], vm := .none },
  { cls := 6, slots := #[.null, .int 1, .int 0, .int 0, .int 0, .int 0], vm := .none },
  { cls := 6, slots := #[.null, .int 2, .int 0, .int 0, .int 0, .int 0], vm := .none },
  { cls := 6, slots := #[.null, .int 3, .int 0, .int 0, .int 0, .int 0], vm := .none },
  { cls := 6, slots := #[.null, .int 4, .int 0, .int 0, .int 0, .int 0], vm := .none },
  { cls := 30, slots := #[], vm := .none },
  { cls := 30, slots := #[], vm := .none }]
def classes : Array Class := #[k0, k1, k2, k3, k4, k5, k6, k7, k8, k9, k10, k11, k12, k13, k14, k15, k16, k17, k18, k19, k20, k21, k22, k23, k24, k25, k26, k27, k28, k29, k30]
def interned : List (Array UInt16 × Addr) := []
def slotsUsed : Nat := 49
def theMethod : MethodId := ⟨1, 2⟩
def args0 : Array Value := #[.long 1, .long 2, .long 3, .int 7, .int 0, .int 5]
def aboutOver (below : List Frame) : State where
  vm := { classes := classes, interned := interned.toArray }
  heap := heap
  slotsUsed := slotsUsed
  threads := #[{ frames := .invoking theMethod args0 :: below }]
def below0 : List Frame := [.native { method := ⟨0, 0⟩, args := #[] }]
def about1 : State := aboutOver below0
def p0 : Program := .bare "" "" ""
def e0 : Env := launch0.env 0 0 0
theorem w_frames : about1.frames = Frame.invoking theMethod args0 :: below0 := rfl
set_option maxRecDepth 65536 in
theorem w_args : argsFit about1.vm theMethod args0 = true := by decide +kernel
set_option maxRecDepth 65536 in
theorem w_heap : heapFits about1 = true := by decide +kernel
set_option maxRecDepth 65536 in
theorem w_runnable : about1.curStatus? = some .runnable := by decide +kernel
set_option maxRecDepth 65536 in
theorem w_alone : about1.alone = true := by decide +kernel
set_option maxRecDepth 65536 in
theorem w_named : about1.methodNamed? x = some theMethod := by decide +kernel
set_option maxRecDepth 65536 in
theorem w_hears : about1.hears theMethod below0 = true := by decide +kernel
set_option maxRecDepth 65536 in
theorem w_ripe : about1.ripe theMethod args0 below0 = true := by decide +kernel
theorem w_running : about1.status = .running := rfl
set_option maxRecDepth 65536 in
theorem w_room : about1.hasRoom e0.platform room_1 = true :=
  launch0.hasRoom_least _ room_1 (by decide +kernel) (by decide +kernel) (by decide +kernel) (by decide +kernel) (by decide +kernel) (by decide +kernel)
theorem allAtoms_all (ts : List Jvm.Cond) (a : Array Jvm.Value) (st : Jvm.State) : (allAtoms ts).before a st = ts.all (fun c => c.before a st) := by
  induction ts with
  | nil => rfl
  | cons c t ih =>
    show (Jvm.Cond.and c (allAtoms t)).before a st = _
    rw [Jvm.Cond.before_and, ih, List.all_cons]
def words1 : List Jvm.Cond := Jvm.Cond.code x code maxLocals ret :: tables_1
/-- a 'code' word, met by the world's own term for the bytes: nothing is compared byte by byte -/
theorem code_word {y : MethodName} {bytes : ByteArray} {mx : Nat} {rt : Option FieldType} {a : Array Value} {s : State} {m : MethodId} {meth : Method} {c : Code} (h1 : s.methodNamed? y = some m) (h2 : s.vm.method? m = some meth) (h3 : meth.code = some c) (h4 : c.code = bytes)
    (h5 : (c.maxLocals == mx && c.exceptionTable.isEmpty && decide (c.maxStack ≤ mostOperands) && decide (meth.sig.returnType = rt) && !meth.locks && decide (parseMethodDescriptor y.desc = some meth.sig)) = true) : (Jvm.Cond.code y bytes mx rt).before a s = true := by
  simp only [Bool.and_eq_true, beq_iff_eq, Bool.not_eq_true', decide_eq_true_eq] at h5
  obtain ⟨⟨⟨⟨⟨g1, g2⟩, g3⟩, g4⟩, g5⟩, g6⟩ := h5
  simp [Cond.before, Cond.holds, Cond.value, h1, h2, h3, h4, g1, g2, g3, g4, g5, g6]
def isCode : Jvm.Cond → Bool
  | .code _ _ _ _ => true
  | _ => false
theorem all_split {L : List Jvm.Cond} {P : Jvm.Cond → Bool} (h1 : L.all (fun c => isCode c || P c) = true) (h2 : ∀ c ∈ L.filter isCode, P c = true) : L.all P = true := by
  refine List.all_eq_true.mpr fun c hc => ?_
  have h := List.all_eq_true.mp h1 c hc
  rcases Bool.eq_false_or_eq_true (isCode c) with hi | hi
  · exact h2 c (List.mem_filter.mpr ⟨hc, hi⟩)
  · simpa [hi] using h
set_option maxRecDepth 65536 in
theorem w_c0 : (Jvm.Cond.code x code maxLocals ret).before args0 about1 = true := code_word (m := ⟨1, 2⟩) (meth := k1m2) (c := k1c2) (by decide +kernel) rfl rfl rfl (by decide +kernel)
set_option maxRecDepth 65536 in
theorem w_c1 : (Jvm.Cond.code ({ cls := "com/example/gavelbook/gavelbook/OrdersQuantityPinLaw", name := "kindOf", desc := "(I)Lcom/example/gavelbook/gavelbook/Orders$Kind;" } : Jvm.MethodName) method_2_code (2 : Nat) (Option.some (Jvm.ClassFile.FieldType.object "com/example/gavelbook/gavelbook/Orders$Kind"))).before args0 about1 = true := code_word (m := ⟨1, 1⟩) (meth := k1m1) (c := k1c1) (by decide +kernel) rfl rfl rfl (by decide +kernel)
set_option maxRecDepth 65536 in
theorem w_c2 : (Jvm.Cond.code ({ cls := "com/example/gavelbook/gavelbook/Orders", name := "<init>", desc := "(I)V" } : Jvm.MethodName) prog_25_method_1_code (3 : Nat) (Option.none : Option Jvm.ClassFile.FieldType)).before args0 about1 = true := code_word (m := ⟨7, 0⟩) (meth := k7m0) (c := k7c0) (by decide +kernel) rfl rfl rfl (by decide +kernel)
set_option maxRecDepth 65536 in
theorem w_c3 : (Jvm.Cond.code ({ cls := "java/lang/Object", name := "<init>", desc := "()V" } : Jvm.MethodName) object_method_1_code (1 : Nat) (Option.none : Option Jvm.ClassFile.FieldType)).before args0 about1 = true := code_word (m := ⟨0, 0⟩) (meth := k0m0) (c := k0c0) (by decide +kernel) rfl rfl rfl (by decide +kernel)
set_option maxRecDepth 65536 in
theorem w_c4 : (Jvm.Cond.code ({ cls := "java/util/ArrayList", name := "<init>", desc := "()V" } : Jvm.MethodName) jdk_38_method_2_code (1 : Nat) (Option.none : Option Jvm.ClassFile.FieldType)).before args0 about1 = true := code_word (m := ⟨16, 0⟩) (meth := k16m0) (c := k16c0) (by decide +kernel) rfl rfl rfl (by decide +kernel)
set_option maxRecDepth 65536 in
theorem w_c5 : (Jvm.Cond.code ({ cls := "java/util/AbstractList", name := "<init>", desc := "()V" } : Jvm.MethodName) jdk_39_method_1_code (1 : Nat) (Option.none : Option Jvm.ClassFile.FieldType)).before args0 about1 = true := code_word (m := ⟨13, 0⟩) (meth := k13m0) (c := k13c0) (by decide +kernel) rfl rfl rfl (by decide +kernel)
set_option maxRecDepth 65536 in
theorem w_c6 : (Jvm.Cond.code ({ cls := "java/util/AbstractCollection", name := "<init>", desc := "()V" } : Jvm.MethodName) jdk_22_method_1_code (1 : Nat) (Option.none : Option Jvm.ClassFile.FieldType)).before args0 about1 = true := code_word (m := ⟨10, 0⟩) (meth := k10m0) (c := k10c0) (by decide +kernel) rfl rfl rfl (by decide +kernel)
set_option maxRecDepth 65536 in
theorem w_c7 : (Jvm.Cond.code ({ cls := "java/lang/Math", name := "max", desc := "(II)I" } : Jvm.MethodName) jdk_29_method_65_code (2 : Nat) (Option.some Jvm.ClassFile.FieldType.int)).before args0 about1 = true := code_word (m := ⟨17, 1⟩) (meth := k17m1) (c := k17c1) (by decide +kernel) rfl rfl rfl (by decide +kernel)
set_option maxRecDepth 65536 in
theorem w_c8 : (Jvm.Cond.code ({ cls := "com/example/gavelbook/gavelbook/ByteStrings", name := "<init>", desc := "(IIZ)V" } : Jvm.MethodName) prog_10_method_1_code (5 : Nat) (Option.none : Option Jvm.ClassFile.FieldType)).before args0 about1 = true := code_word (m := ⟨18, 0⟩) (meth := k18m0) (c := k18c0) (by decide +kernel) rfl rfl rfl (by decide +kernel)
set_option maxRecDepth 65536 in
theorem w_c9 : (Jvm.Cond.code ({ cls := "java/lang/Integer", name := "highestOneBit", desc := "(I)I" } : Jvm.MethodName) jdk_33_method_45_code (1 : Nat) (Option.some Jvm.ClassFile.FieldType.int)).before args0 about1 = true := code_word (m := ⟨21, 0⟩) (meth := k21m0) (c := k21c0) (by decide +kernel) rfl rfl rfl (by decide +kernel)
set_option maxRecDepth 65536 in
theorem w_c10 : (Jvm.Cond.code ({ cls := "java/lang/Integer", name := "numberOfLeadingZeros", desc := "(I)I" } : Jvm.MethodName) jdk_33_method_47_code (2 : Nat) (Option.some Jvm.ClassFile.FieldType.int)).before args0 about1 = true := code_word (m := ⟨21, 1⟩) (meth := k21m1) (c := k21c1) (by decide +kernel) rfl rfl rfl (by decide +kernel)
set_option maxRecDepth 65536 in
theorem w_c11 : (Jvm.Cond.code ({ cls := "com/example/gavelbook/gavelbook/Orders", name := "add", desc := "([BIIIIJLcom/example/gavelbook/gavelbook/Orders$Kind;JJJ)I" } : Jvm.MethodName) prog_25_method_2_code (18 : Nat) (Option.some Jvm.ClassFile.FieldType.int)).before args0 about1 = true := code_word (m := ⟨7, 1⟩) (meth := k7m1) (c := k7c1) (by decide +kernel) rfl rfl rfl (by decide +kernel)
set_option maxRecDepth 65536 in
theorem w_c12 : (Jvm.Cond.code ({ cls := "com/example/gavelbook/gavelbook/ByteStrings", name := "add", desc := "([BII)I" } : Jvm.MethodName) prog_10_method_2_code (11 : Nat) (Option.some Jvm.ClassFile.FieldType.int)).before args0 about1 = true := code_word (m := ⟨18, 1⟩) (meth := k18m1) (c := k18c1) (by decide +kernel) rfl rfl rfl (by decide +kernel)
set_option maxRecDepth 65536 in
theorem w_c13 : (Jvm.Cond.code ({ cls := "com/example/gavelbook/gavelbook/ByteStrings", name := "value", desc := "([BII)I" } : Jvm.MethodName) prog_10_method_3_code (7 : Nat) (Option.some Jvm.ClassFile.FieldType.int)).before args0 about1 = true := code_word (m := ⟨18, 2⟩) (meth := k18m2) (c := k18c2) (by decide +kernel) rfl rfl rfl (by decide +kernel)
set_option maxRecDepth 65536 in
theorem w_c14 : (Jvm.Cond.code ({ cls := "com/example/gavelbook/gavelbook/ByteStrings", name := "spread", desc := "(I)I" } : Jvm.MethodName) prog_10_method_12_code (1 : Nat) (Option.some Jvm.ClassFile.FieldType.int)).before args0 about1 = true := code_word (m := ⟨18, 7⟩) (meth := k18m7) (c := k18c7) (by decide +kernel) rfl rfl rfl (by decide +kernel)
set_option maxRecDepth 65536 in
theorem w_c15 : (Jvm.Cond.code ({ cls := "com/example/gavelbook/gavelbook/ByteStrings", name := "append", desc := "([BII)I" } : Jvm.MethodName) prog_10_method_4_code (4 : Nat) (Option.some Jvm.ClassFile.FieldType.int)).before args0 about1 = true := code_word (m := ⟨18, 3⟩) (meth := k18m3) (c := k18c3) (by decide +kernel) rfl rfl rfl (by decide +kernel)
set_option maxRecDepth 65536 in
theorem w_c16 : (Jvm.Cond.code ({ cls := "com/example/gavelbook/gavelbook/ByteStrings", name := "end", desc := "()I" } : Jvm.MethodName) prog_10_method_8_code (1 : Nat) (Option.some Jvm.ClassFile.FieldType.int)).before args0 about1 = true := code_word (m := ⟨18, 5⟩) (meth := k18m5) (c := k18c5) (by decide +kernel) rfl rfl rfl (by decide +kernel)
set_option maxRecDepth 65536 in
theorem w_c17 : (Jvm.Cond.code ({ cls := "java/lang/Enum", name := "ordinal", desc := "()I" } : Jvm.MethodName) jdk_37_method_2_code (1 : Nat) (Option.some Jvm.ClassFile.FieldType.int)).before args0 about1 = true := code_word (m := ⟨5, 0⟩) (meth := k5m0) (c := k5c0) (by decide +kernel) rfl rfl rfl (by decide +kernel)
set_option maxRecDepth 65536 in
theorem w_c18 : (Jvm.Cond.code ({ cls := "com/example/gavelbook/gavelbook/ByteStrings", name := "equal", desc := "(I[BII)Z" } : Jvm.MethodName) prog_10_method_9_code (7 : Nat) (Option.some Jvm.ClassFile.FieldType.boolean)).before args0 about1 = true := code_word (m := ⟨18, 6⟩) (meth := k18m6) (c := k18c6) (by decide +kernel) rfl rfl rfl (by decide +kernel)
set_option maxRecDepth 65536 in
theorem w_c19 : (Jvm.Cond.code ({ cls := "com/example/gavelbook/gavelbook/ByteStrings", name := "start", desc := "(I)I" } : Jvm.MethodName) prog_10_method_7_code (2 : Nat) (Option.some Jvm.ClassFile.FieldType.int)).before args0 about1 = true := code_word (m := ⟨18, 4⟩) (meth := k18m4) (c := k18c4) (by decide +kernel) rfl rfl rfl (by decide +kernel)
set_option maxRecDepth 65536 in
theorem w_c20 : (Jvm.Cond.code ({ cls := "com/example/gavelbook/gavelbook/Orders", name := "size", desc := "()I" } : Jvm.MethodName) prog_25_method_3_code (1 : Nat) (Option.some Jvm.ClassFile.FieldType.int)).before args0 about1 = true := code_word (m := ⟨7, 2⟩) (meth := k7m2) (c := k7c2) (by decide +kernel) rfl rfl rfl (by decide +kernel)
set_option maxRecDepth 65536 in
theorem w_c21 : (Jvm.Cond.code ({ cls := "com/example/gavelbook/gavelbook/Orders", name := "quantity", desc := "(I)J" } : Jvm.MethodName) prog_25_method_10_code (2 : Nat) (Option.some Jvm.ClassFile.FieldType.long)).before args0 about1 = true := code_word (m := ⟨7, 3⟩) (meth := k7m3) (c := k7c3) (by decide +kernel) rfl rfl rfl (by decide +kernel)
def codes1 : List Jvm.Cond := [Jvm.Cond.code x code maxLocals ret, Jvm.Cond.code ({ cls := "com/example/gavelbook/gavelbook/OrdersQuantityPinLaw", name := "kindOf", desc := "(I)Lcom/example/gavelbook/gavelbook/Orders$Kind;" } : Jvm.MethodName) method_2_code (2 : Nat) (Option.some (Jvm.ClassFile.FieldType.object "com/example/gavelbook/gavelbook/Orders$Kind")), Jvm.Cond.code ({ cls := "com/example/gavelbook/gavelbook/Orders", name := "<init>", desc := "(I)V" } : Jvm.MethodName) prog_25_method_1_code (3 : Nat) (Option.none : Option Jvm.ClassFile.FieldType), Jvm.Cond.code ({ cls := "java/lang/Object", name := "<init>", desc := "()V" } : Jvm.MethodName) object_method_1_code (1 : Nat) (Option.none : Option Jvm.ClassFile.FieldType), Jvm.Cond.code ({ cls := "java/util/ArrayList", name := "<init>", desc := "()V" } : Jvm.MethodName) jdk_38_method_2_code (1 : Nat) (Option.none : Option Jvm.ClassFile.FieldType), Jvm.Cond.code ({ cls := "java/util/AbstractList", name := "<init>", desc := "()V" } : Jvm.MethodName) jdk_39_method_1_code (1 : Nat) (Option.none : Option Jvm.ClassFile.FieldType), Jvm.Cond.code ({ cls := "java/util/AbstractCollection", name := "<init>", desc := "()V" } : Jvm.MethodName) jdk_22_method_1_code (1 : Nat) (Option.none : Option Jvm.ClassFile.FieldType), Jvm.Cond.code ({ cls := "java/lang/Math", name := "max", desc := "(II)I" } : Jvm.MethodName) jdk_29_method_65_code (2 : Nat) (Option.some Jvm.ClassFile.FieldType.int), Jvm.Cond.code ({ cls := "com/example/gavelbook/gavelbook/ByteStrings", name := "<init>", desc := "(IIZ)V" } : Jvm.MethodName) prog_10_method_1_code (5 : Nat) (Option.none : Option Jvm.ClassFile.FieldType), Jvm.Cond.code ({ cls := "java/lang/Integer", name := "highestOneBit", desc := "(I)I" } : Jvm.MethodName) jdk_33_method_45_code (1 : Nat) (Option.some Jvm.ClassFile.FieldType.int), Jvm.Cond.code ({ cls := "java/lang/Integer", name := "numberOfLeadingZeros", desc := "(I)I" } : Jvm.MethodName) jdk_33_method_47_code (2 : Nat) (Option.some Jvm.ClassFile.FieldType.int), Jvm.Cond.code ({ cls := "com/example/gavelbook/gavelbook/Orders", name := "add", desc := "([BIIIIJLcom/example/gavelbook/gavelbook/Orders$Kind;JJJ)I" } : Jvm.MethodName) prog_25_method_2_code (18 : Nat) (Option.some Jvm.ClassFile.FieldType.int), Jvm.Cond.code ({ cls := "com/example/gavelbook/gavelbook/ByteStrings", name := "add", desc := "([BII)I" } : Jvm.MethodName) prog_10_method_2_code (11 : Nat) (Option.some Jvm.ClassFile.FieldType.int), Jvm.Cond.code ({ cls := "com/example/gavelbook/gavelbook/ByteStrings", name := "value", desc := "([BII)I" } : Jvm.MethodName) prog_10_method_3_code (7 : Nat) (Option.some Jvm.ClassFile.FieldType.int), Jvm.Cond.code ({ cls := "com/example/gavelbook/gavelbook/ByteStrings", name := "spread", desc := "(I)I" } : Jvm.MethodName) prog_10_method_12_code (1 : Nat) (Option.some Jvm.ClassFile.FieldType.int), Jvm.Cond.code ({ cls := "com/example/gavelbook/gavelbook/ByteStrings", name := "append", desc := "([BII)I" } : Jvm.MethodName) prog_10_method_4_code (4 : Nat) (Option.some Jvm.ClassFile.FieldType.int), Jvm.Cond.code ({ cls := "com/example/gavelbook/gavelbook/ByteStrings", name := "end", desc := "()I" } : Jvm.MethodName) prog_10_method_8_code (1 : Nat) (Option.some Jvm.ClassFile.FieldType.int), Jvm.Cond.code ({ cls := "java/lang/Enum", name := "ordinal", desc := "()I" } : Jvm.MethodName) jdk_37_method_2_code (1 : Nat) (Option.some Jvm.ClassFile.FieldType.int), Jvm.Cond.code ({ cls := "com/example/gavelbook/gavelbook/ByteStrings", name := "equal", desc := "(I[BII)Z" } : Jvm.MethodName) prog_10_method_9_code (7 : Nat) (Option.some Jvm.ClassFile.FieldType.boolean), Jvm.Cond.code ({ cls := "com/example/gavelbook/gavelbook/ByteStrings", name := "start", desc := "(I)I" } : Jvm.MethodName) prog_10_method_7_code (2 : Nat) (Option.some Jvm.ClassFile.FieldType.int), Jvm.Cond.code ({ cls := "com/example/gavelbook/gavelbook/Orders", name := "size", desc := "()I" } : Jvm.MethodName) prog_25_method_3_code (1 : Nat) (Option.some Jvm.ClassFile.FieldType.int), Jvm.Cond.code ({ cls := "com/example/gavelbook/gavelbook/Orders", name := "quantity", desc := "(I)J" } : Jvm.MethodName) prog_25_method_10_code (2 : Nat) (Option.some Jvm.ClassFile.FieldType.long)]
set_option maxRecDepth 65536 in
theorem codes_eq : words1.filter isCode = codes1 := rfl
theorem w_codes : ∀ c ∈ words1.filter isCode, c.before args0 about1 = true := by
  rw [codes_eq]
  intro c hc
  simp only [codes1, List.mem_cons, List.not_mem_nil, or_false] at hc
  rcases hc with rfl | rfl | rfl | rfl | rfl | rfl | rfl | rfl | rfl | rfl | rfl | rfl | rfl | rfl | rfl | rfl | rfl | rfl | rfl | rfl | rfl | rfl
  · exact w_c0
  · exact w_c1
  · exact w_c2
  · exact w_c3
  · exact w_c4
  · exact w_c5
  · exact w_c6
  · exact w_c7
  · exact w_c8
  · exact w_c9
  · exact w_c10
  · exact w_c11
  · exact w_c12
  · exact w_c13
  · exact w_c14
  · exact w_c15
  · exact w_c16
  · exact w_c17
  · exact w_c18
  · exact w_c19
  · exact w_c20
  · exact w_c21
set_option maxRecDepth 65536 in
theorem w_t1 : (words1.take 24).all (fun c => isCode c || c.before args0 about1) = true := by decide +kernel
set_option maxRecDepth 65536 in
theorem w_t2 : ((words1.drop 24).take 24).all (fun c => isCode c || c.before args0 about1) = true := by decide +kernel
set_option maxRecDepth 65536 in
theorem w_t3 : (((words1.drop 24).drop 24).take 24).all (fun c => isCode c || c.before args0 about1) = true := by decide +kernel
set_option maxRecDepth 65536 in
theorem w_t4 : ((((words1.drop 24).drop 24).drop 24).take 24).all (fun c => isCode c || c.before args0 about1) = true := by decide +kernel
set_option maxRecDepth 65536 in
theorem w_t5 : (((((words1.drop 24).drop 24).drop 24).drop 24).take 24).all (fun c => isCode c || c.before args0 about1) = true := by decide +kernel
set_option maxRecDepth 65536 in
theorem w_t6 : ((((((words1.drop 24).drop 24).drop 24).drop 24).drop 24).take 24).all (fun c => isCode c || c.before args0 about1) = true := by decide +kernel
set_option maxRecDepth 65536 in
theorem w_t7 : (((((((words1.drop 24).drop 24).drop 24).drop 24).drop 24).drop 24).take 24).all (fun c => isCode c || c.before args0 about1) = true := by decide +kernel
set_option maxRecDepth 65536 in
theorem w_t8 : (((((((words1.drop 24).drop 24).drop 24).drop 24).drop 24).drop 24).drop 24).all (fun c => isCode c || c.before args0 about1) = true := by decide +kernel
theorem w_tables : (allAtoms (Jvm.Cond.code x code maxLocals ret :: tables_1)).before args0 about1 = true := by
  rw [allAtoms_all]
  show words1.all (fun c => c.before args0 about1) = true
  refine all_split ?_ w_codes
  rw [← List.take_append_drop 24 words1, List.all_append, w_t1, ← List.take_append_drop 24 (words1.drop 24), List.all_append, w_t2, ← List.take_append_drop 24 ((words1.drop 24).drop 24), List.all_append, w_t3, ← List.take_append_drop 24 (((words1.drop 24).drop 24).drop 24), List.all_append, w_t4, ← List.take_append_drop 24 ((((words1.drop 24).drop 24).drop 24).drop 24), List.all_append, w_t5, ← List.take_append_drop 24 (((((words1.drop 24).drop 24).drop 24).drop 24).drop 24), List.all_append, w_t6, ← List.take_append_drop 24 ((((((words1.drop 24).drop 24).drop 24).drop 24).drop 24).drop 24), List.all_append, w_t7, w_t8]
  rfl
set_option maxRecDepth 65536 in
theorem w_rest : rest_1_c.before args0 about1 = true := by decide +kernel
set_option maxRecDepth 65536 in
theorem w_case : (Jvm.Cond.and given_1 narrow_1).before args0 about1 = true := by decide +kernel
theorem w_applies : (headSpec (Jvm.Cond.code x code maxLocals ret :: tables_1) room_1).applies x e0.platform about1 = true :=
  (Spec.applies_iff w_frames).mpr ⟨w_running, w_runnable, w_alone, w_named, w_hears, w_ripe, w_room, w_tables⟩
theorem atStart : AtStart classFile x code maxLocals ret World_1 tables_1 room_1 Calls_1 rest_1 Pre_1 launch0 p0 e0 about1 theMethod args0 below0 :=
  ⟨lists_1, trivial, launch0.admits_env _ _ _, launch0.least_env, fairChoices_fair.cas, fairChoices_fair.clock, w_frames, w_args, w_heap, w_applies, trivial, w_rest, w_case⟩
end start1
theorem witness_1 : WitnessClaimed_1 := ⟨start1.p0, start1.e0, start1.about1, start1.theMethod, start1.args0, start1.below0, start1.atStart⟩
end Jvm.Pilot.@@N@@
